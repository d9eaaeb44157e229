import PyProof.Rows.All
import Wide.All
import OpenK.AllK
import Wide.FinOn
import PySem.Challenge.RW_wv0014_01
set_option Elab.async false
set_option maxRecDepth 100000
set_option maxHeartbeats 0
set_option linter.all false
set_option compiler.extract_closed false
local macro_rules | `(tactic| omega) => `(tactic| lia)
section
open PySem PySem.W PyProof.Rows
namespace Mine
section
open PyData
def o : String -> Str := Str.ofString
noncomputable def nthS : List Stmt -> Nat -> Option Stmt
 | [], _ => none
 | s :: _, 0 => some s
 | _ :: r, n + 1 => nthS r n
abbrev hd.PP : Program := (OpenRow.toRowW (OpenLaw.row PySem.Challenge.rw_wv0014_01)).prog
noncomputable def st (i : Nat) : Stmt := (nthS hd.PP.main.body i).getD default
def fbOf : Stmt -> List Stmt
 | .FunctionDef _ _ b _ _ _ _ _ _ _ => b
 | .ClassDef _ _ _ b _ _ _ _ _ _ _ => b
 | _ => []
def faOf : Stmt -> Arguments
 | .FunctionDef _ a _ _ _ _ _ _ _ _ => a
 | _ => default
def fsOf : Stmt -> Scope
 | .FunctionDef _ _ _ _ _ _ s _ _ _ => s
 | _ => default
noncomputable def fb (i : Nat) : List Stmt := fbOf (st i)
noncomputable def fa (i : Nat) : Arguments := faOf (st i)
noncomputable def fs (i : Nat) : Scope := fsOf (st i)
noncomputable def cst (i j : Nat) : Stmt := (nthS (fb i) j).getD default
noncomputable def cb (i j : Nat) : List Stmt := fbOf (cst i j)
noncomputable def ca (i j : Nat) : Arguments := faOf (cst i j)
noncomputable def cs (i j : Nat) : Scope := fsOf (cst i j)
noncomputable def hd.life : Life := (Life.mk [] [] [] 0 [] [] Bool.false ⟨[]⟩ [] 0 Bool.false Bool.false Bool.false (0 : Int) [(2000 : Int), (10 : Int), (10 : Int)] Bool.false 0 Bool.true [] [] 0 Bool.false)
noncomputable def hd.view_39 : Program := (let x0 : Program := hd.PP; (Program.mk (let x1 : Module := (Program.main hd.PP); (Module.mk [Stmt.Import [Alias.mk (o "_sre") none (Pos.mk 1 7 1 11)] (Pos.mk 1 0 1 11), st 2, st 3, st 4, st 5, st 6, st 7, st 8, st 9, st 10, st 11, st 16, st 18, st 21, st 22, st 24, st 25, st 27, st 29, st 30, st 31, st 32, st 33, st 34, st 35, st 36, st 37, st 38, st 39, st 40] (Module.scope x1) (Module.futureAnnotations x1) (Module.file x1) (Module.more x1))) (Program.modules x0) (Program.parses x0) (Program.absent x0) (Program.harvested x0) (Program.given x0)))
noncomputable def hd.o_41 : Params -> Obj := fun x0 => Obj.mk (.type "dict") none (Data.dict ⟨[.mk (keyHash x0 (o "__name__")) (.str (o "__name__") 1) (.str (o "builtins") 160), .mk (keyHash x0 (o "__doc__")) (.str (o "__doc__") 2) (.builtin "builtins.__doc__:str#opaque"), .mk (keyHash x0 (o "__package__")) (.str (o "__package__") 3) (.builtin "builtins.__package__:str#opaque"), .mk (keyHash x0 (o "__loader__")) (.str (o "__loader__") 4) (.builtin "builtins.__loader__:shared#opaque"), .mk (keyHash x0 (o "__spec__")) (.str (o "__spec__") 5) (.builtin "builtins.__spec__#opaque"), .mk (keyHash x0 (o "__build_class__")) (.str (o "__build_class__") 6) (.builtin "__build_class__"), .mk (keyHash x0 (o "__import__")) (.str (o "__import__") 7) (.builtin "__import__"), .mk (keyHash x0 (o "abs")) (.str (o "abs") 8) (.builtin "abs"), .mk (keyHash x0 (o "all")) (.str (o "all") 9) (.builtin "all"), .mk (keyHash x0 (o "any")) (.str (o "any") 10) (.builtin "any"), .mk (keyHash x0 (o "ascii")) (.str (o "ascii") 11) (.builtin "ascii"), .mk (keyHash x0 (o "bin")) (.str (o "bin") 12) (.builtin "bin"), .mk (keyHash x0 (o "breakpoint")) (.str (o "breakpoint") 13) (.builtin "breakpoint"), .mk (keyHash x0 (o "callable")) (.str (o "callable") 14) (.builtin "callable"), .mk (keyHash x0 (o "chr")) (.str (o "chr") 15) (.builtin "chr"), .mk (keyHash x0 (o "compile")) (.str (o "compile") 16) (.builtin "compile"), .mk (keyHash x0 (o "delattr")) (.str (o "delattr") 17) (.builtin "delattr"), .mk (keyHash x0 (o "dir")) (.str (o "dir") 18) (.builtin "dir"), .mk (keyHash x0 (o "divmod")) (.str (o "divmod") 19) (.builtin "divmod"), .mk (keyHash x0 (o "eval")) (.str (o "eval") 20) (.builtin "eval"), .mk (keyHash x0 (o "exec")) (.str (o "exec") 21) (.builtin "exec"), .mk (keyHash x0 (o "format")) (.str (o "format") 22) (.builtin "format"), .mk (keyHash x0 (o "getattr")) (.str (o "getattr") 23) (.builtin "getattr"), .mk (keyHash x0 (o "globals")) (.str (o "globals") 24) (.builtin "globals"), .mk (keyHash x0 (o "hasattr")) (.str (o "hasattr") 25) (.builtin "hasattr"), .mk (keyHash x0 (o "hash")) (.str (o "hash") 26) (.builtin "hash"), .mk (keyHash x0 (o "hex")) (.str (o "hex") 27) (.builtin "hex"), .mk (keyHash x0 (o "id")) (.str (o "id") 28) (.builtin "id"), .mk (keyHash x0 (o "input")) (.str (o "input") 29) (.builtin "input"), .mk (keyHash x0 (o "isinstance")) (.str (o "isinstance") 30) (.builtin "isinstance"), .mk (keyHash x0 (o "issubclass")) (.str (o "issubclass") 31) (.builtin "issubclass"), .mk (keyHash x0 (o "iter")) (.str (o "iter") 32) (.builtin "iter"), .mk (keyHash x0 (o "aiter")) (.str (o "aiter") 33) (.builtin "aiter"), .mk (keyHash x0 (o "len")) (.str (o "len") 34) (.builtin "len"), .mk (keyHash x0 (o "locals")) (.str (o "locals") 35) (.builtin "locals"), .mk (keyHash x0 (o "max")) (.str (o "max") 36) (.builtin "max"), .mk (keyHash x0 (o "min")) (.str (o "min") 37) (.builtin "min"), .mk (keyHash x0 (o "next")) (.str (o "next") 38) (.builtin "next"), .mk (keyHash x0 (o "anext")) (.str (o "anext") 39) (.builtin "anext"), .mk (keyHash x0 (o "oct")) (.str (o "oct") 40) (.builtin "oct"), .mk (keyHash x0 (o "ord")) (.str (o "ord") 41) (.builtin "ord"), .mk (keyHash x0 (o "pow")) (.str (o "pow") 42) (.builtin "pow"), .mk (keyHash x0 (o "print")) (.str (o "print") 43) (.builtin "print"), .mk (keyHash x0 (o "repr")) (.str (o "repr") 44) (.builtin "repr"), .mk (keyHash x0 (o "round")) (.str (o "round") 45) (.builtin "round"), .mk (keyHash x0 (o "setattr")) (.str (o "setattr") 46) (.builtin "setattr"), .mk (keyHash x0 (o "sorted")) (.str (o "sorted") 47) (.builtin "sorted"), .mk (keyHash x0 (o "sum")) (.str (o "sum") 48) (.builtin "sum"), .mk (keyHash x0 (o "vars")) (.str (o "vars") 49) (.builtin "vars"), .mk (keyHash x0 (o "None")) (.str (o "None") 50) .none, .mk (keyHash x0 (o "Ellipsis")) (.str (o "Ellipsis") 51) Value.ellipsis, .mk (keyHash x0 (o "NotImplemented")) (.str (o "NotImplemented") 52) Value.notImplemented, .mk (keyHash x0 (o "False")) (.str (o "False") 53) (.bool Bool.false), .mk (keyHash x0 (o "True")) (.str (o "True") 54) (.bool Bool.true), .mk (keyHash x0 (o "bool")) (.str (o "bool") 55) (.type "bool"), .mk (keyHash x0 (o "memoryview")) (.str (o "memoryview") 56) (.type "memoryview"), .mk (keyHash x0 (o "bytearray")) (.str (o "bytearray") 57) (.type "bytearray"), .mk (keyHash x0 (o "bytes")) (.str (o "bytes") 58) (.type "bytes"), .mk (keyHash x0 (o "classmethod")) (.str (o "classmethod") 59) (.type "classmethod"), .mk (keyHash x0 (o "complex")) (.str (o "complex") 60) (.type "complex"), .mk (keyHash x0 (o "dict")) (.str (o "dict") 61) (.type "dict"), .mk (keyHash x0 (o "enumerate")) (.str (o "enumerate") 62) (.type "enumerate"), .mk (keyHash x0 (o "filter")) (.str (o "filter") 63) (.type "filter"), .mk (keyHash x0 (o "float")) (.str (o "float") 64) (.type "float"), .mk (keyHash x0 (o "frozenset")) (.str (o "frozenset") 65) (.type "frozenset"), .mk (keyHash x0 (o "property")) (.str (o "property") 66) (.type "property"), .mk (keyHash x0 (o "int")) (.str (o "int") 67) (.type "int"), .mk (keyHash x0 (o "list")) (.str (o "list") 68) (.type "list"), .mk (keyHash x0 (o "map")) (.str (o "map") 69) (.type "map"), .mk (keyHash x0 (o "object")) (.str (o "object") 70) (.type "object"), .mk (keyHash x0 (o "range")) (.str (o "range") 71) (.type "range"), .mk (keyHash x0 (o "reversed")) (.str (o "reversed") 72) (.type "reversed"), .mk (keyHash x0 (o "set")) (.str (o "set") 73) (.type "set"), .mk (keyHash x0 (o "slice")) (.str (o "slice") 74) (.type "slice"), .mk (keyHash x0 (o "staticmethod")) (.str (o "staticmethod") 75) (.type "staticmethod"), .mk (keyHash x0 (o "str")) (.str (o "str") 76) (.type "str"), .mk (keyHash x0 (o "super")) (.str (o "super") 77) (.type "super"), .mk (keyHash x0 (o "tuple")) (.str (o "tuple") 78) (.type "tuple"), .mk (keyHash x0 (o "type")) (.str (o "type") 79) (.type "type"), .mk (keyHash x0 (o "zip")) (.str (o "zip") 80) (.type "zip"), .mk (keyHash x0 (o "__debug__")) (.str (o "__debug__") 81) (.bool Bool.true), .mk (keyHash x0 (o "BaseException")) (.str (o "BaseException") 82) (.type "BaseException"), .mk (keyHash x0 (o "BaseExceptionGroup")) (.str (o "BaseExceptionGroup") 83) (.type "BaseExceptionGroup"), .mk (keyHash x0 (o "Exception")) (.str (o "Exception") 84) (.type "Exception"), .mk (keyHash x0 (o "GeneratorExit")) (.str (o "GeneratorExit") 85) (.type "GeneratorExit"), .mk (keyHash x0 (o "KeyboardInterrupt")) (.str (o "KeyboardInterrupt") 86) (.type "KeyboardInterrupt"), .mk (keyHash x0 (o "SystemExit")) (.str (o "SystemExit") 87) (.type "SystemExit"), .mk (keyHash x0 (o "ArithmeticError")) (.str (o "ArithmeticError") 88) (.type "ArithmeticError"), .mk (keyHash x0 (o "AssertionError")) (.str (o "AssertionError") 89) (.type "AssertionError"), .mk (keyHash x0 (o "AttributeError")) (.str (o "AttributeError") 90) (.type "AttributeError"), .mk (keyHash x0 (o "BufferError")) (.str (o "BufferError") 91) (.type "BufferError"), .mk (keyHash x0 (o "EOFError")) (.str (o "EOFError") 92) (.type "EOFError"), .mk (keyHash x0 (o "ImportError")) (.str (o "ImportError") 93) (.type "ImportError"), .mk (keyHash x0 (o "LookupError")) (.str (o "LookupError") 94) (.type "LookupError"), .mk (keyHash x0 (o "MemoryError")) (.str (o "MemoryError") 95) (.type "MemoryError"), .mk (keyHash x0 (o "NameError")) (.str (o "NameError") 96) (.type "NameError"), .mk (keyHash x0 (o "OSError")) (.str (o "OSError") 97) (.type "OSError"), .mk (keyHash x0 (o "ReferenceError")) (.str (o "ReferenceError") 98) (.type "ReferenceError"), .mk (keyHash x0 (o "RuntimeError")) (.str (o "RuntimeError") 99) (.type "RuntimeError"), .mk (keyHash x0 (o "StopAsyncIteration")) (.str (o "StopAsyncIteration") 100) (.type "StopAsyncIteration"), .mk (keyHash x0 (o "StopIteration")) (.str (o "StopIteration") 101) (.type "StopIteration"), .mk (keyHash x0 (o "SyntaxError")) (.str (o "SyntaxError") 102) (.type "SyntaxError"), .mk (keyHash x0 (o "SystemError")) (.str (o "SystemError") 103) (.type "SystemError"), .mk (keyHash x0 (o "TypeError")) (.str (o "TypeError") 104) (.type "TypeError"), .mk (keyHash x0 (o "ValueError")) (.str (o "ValueError") 105) (.type "ValueError"), .mk (keyHash x0 (o "Warning")) (.str (o "Warning") 106) (.type "Warning"), .mk (keyHash x0 (o "FloatingPointError")) (.str (o "FloatingPointError") 107) (.type "FloatingPointError"), .mk (keyHash x0 (o "OverflowError")) (.str (o "OverflowError") 108) (.type "OverflowError"), .mk (keyHash x0 (o "ZeroDivisionError")) (.str (o "ZeroDivisionError") 109) (.type "ZeroDivisionError"), .mk (keyHash x0 (o "BytesWarning")) (.str (o "BytesWarning") 110) (.type "BytesWarning"), .mk (keyHash x0 (o "DeprecationWarning")) (.str (o "DeprecationWarning") 111) (.type "DeprecationWarning"), .mk (keyHash x0 (o "EncodingWarning")) (.str (o "EncodingWarning") 112) (.type "EncodingWarning"), .mk (keyHash x0 (o "FutureWarning")) (.str (o "FutureWarning") 113) (.type "FutureWarning"), .mk (keyHash x0 (o "ImportWarning")) (.str (o "ImportWarning") 114) (.type "ImportWarning"), .mk (keyHash x0 (o "PendingDeprecationWarning")) (.str (o "PendingDeprecationWarning") 115) (.type "PendingDeprecationWarning"), .mk (keyHash x0 (o "ResourceWarning")) (.str (o "ResourceWarning") 116) (.type "ResourceWarning"), .mk (keyHash x0 (o "RuntimeWarning")) (.str (o "RuntimeWarning") 117) (.type "RuntimeWarning"), .mk (keyHash x0 (o "SyntaxWarning")) (.str (o "SyntaxWarning") 118) (.type "SyntaxWarning"), .mk (keyHash x0 (o "UnicodeWarning")) (.str (o "UnicodeWarning") 119) (.type "UnicodeWarning"), .mk (keyHash x0 (o "UserWarning")) (.str (o "UserWarning") 120) (.type "UserWarning"), .mk (keyHash x0 (o "BlockingIOError")) (.str (o "BlockingIOError") 121) (.type "BlockingIOError"), .mk (keyHash x0 (o "ChildProcessError")) (.str (o "ChildProcessError") 122) (.type "ChildProcessError"), .mk (keyHash x0 (o "ConnectionError")) (.str (o "ConnectionError") 123) (.type "ConnectionError"), .mk (keyHash x0 (o "FileExistsError")) (.str (o "FileExistsError") 124) (.type "FileExistsError"), .mk (keyHash x0 (o "FileNotFoundError")) (.str (o "FileNotFoundError") 125) (.type "FileNotFoundError"), .mk (keyHash x0 (o "InterruptedError")) (.str (o "InterruptedError") 126) (.type "InterruptedError"), .mk (keyHash x0 (o "IsADirectoryError")) (.str (o "IsADirectoryError") 127) (.type "IsADirectoryError"), .mk (keyHash x0 (o "NotADirectoryError")) (.str (o "NotADirectoryError") 128) (.type "NotADirectoryError"), .mk (keyHash x0 (o "PermissionError")) (.str (o "PermissionError") 129) (.type "PermissionError"), .mk (keyHash x0 (o "ProcessLookupError")) (.str (o "ProcessLookupError") 130) (.type "ProcessLookupError"), .mk (keyHash x0 (o "TimeoutError")) (.str (o "TimeoutError") 131) (.type "TimeoutError"), .mk (keyHash x0 (o "IndentationError")) (.str (o "IndentationError") 132) (.type "IndentationError"), .mk (keyHash x0 (o "_IncompleteInputError")) (.str (o "_IncompleteInputError") 133) (.type "_IncompleteInputError"), .mk (keyHash x0 (o "IndexError")) (.str (o "IndexError") 134) (.type "IndexError"), .mk (keyHash x0 (o "KeyError")) (.str (o "KeyError") 135) (.type "KeyError"), .mk (keyHash x0 (o "ModuleNotFoundError")) (.str (o "ModuleNotFoundError") 136) (.type "ModuleNotFoundError"), .mk (keyHash x0 (o "NotImplementedError")) (.str (o "NotImplementedError") 137) (.type "NotImplementedError"), .mk (keyHash x0 (o "PythonFinalizationError")) (.str (o "PythonFinalizationError") 138) (.type "PythonFinalizationError"), .mk (keyHash x0 (o "RecursionError")) (.str (o "RecursionError") 139) (.type "RecursionError"), .mk (keyHash x0 (o "UnboundLocalError")) (.str (o "UnboundLocalError") 140) (.type "UnboundLocalError"), .mk (keyHash x0 (o "UnicodeError")) (.str (o "UnicodeError") 141) (.type "UnicodeError"), .mk (keyHash x0 (o "BrokenPipeError")) (.str (o "BrokenPipeError") 142) (.type "BrokenPipeError"), .mk (keyHash x0 (o "ConnectionAbortedError")) (.str (o "ConnectionAbortedError") 143) (.type "ConnectionAbortedError"), .mk (keyHash x0 (o "ConnectionRefusedError")) (.str (o "ConnectionRefusedError") 144) (.type "ConnectionRefusedError"), .mk (keyHash x0 (o "ConnectionResetError")) (.str (o "ConnectionResetError") 145) (.type "ConnectionResetError"), .mk (keyHash x0 (o "TabError")) (.str (o "TabError") 146) (.type "TabError"), .mk (keyHash x0 (o "UnicodeDecodeError")) (.str (o "UnicodeDecodeError") 147) (.type "UnicodeDecodeError"), .mk (keyHash x0 (o "UnicodeEncodeError")) (.str (o "UnicodeEncodeError") 148) (.type "UnicodeEncodeError"), .mk (keyHash x0 (o "UnicodeTranslateError")) (.str (o "UnicodeTranslateError") 149) (.type "UnicodeTranslateError"), .mk (keyHash x0 (o "ExceptionGroup")) (.str (o "ExceptionGroup") 150) (.type "ExceptionGroup"), .mk (keyHash x0 (o "EnvironmentError")) (.str (o "EnvironmentError") 151) (.type "OSError"), .mk (keyHash x0 (o "IOError")) (.str (o "IOError") 152) (.type "OSError"), .mk (keyHash x0 (o "open")) (.str (o "open") 153) (.builtin "open"), .mk (keyHash x0 (o "quit")) (.str (o "quit") 154) (.builtin "builtins.quit#opaque"), .mk (keyHash x0 (o "exit")) (.str (o "exit") 155) (.builtin "builtins.exit#opaque"), .mk (keyHash x0 (o "copyright")) (.str (o "copyright") 156) (.builtin "builtins.copyright#opaque"), .mk (keyHash x0 (o "credits")) (.str (o "credits") 157) (.builtin "builtins.credits#opaque"), .mk (keyHash x0 (o "license")) (.str (o "license") 158) (.builtin "builtins.license#opaque"), .mk (keyHash x0 (o "help")) (.str (o "help") 159) (.builtin "builtins.help#opaque")]⟩ 159) ⟨[]⟩
noncomputable def hd.o_42 : Params -> Obj := fun x0 => Obj.mk (.type "dict") none (Data.dict ⟨[.mk (keyHash x0 (o "builtins")) (.str (o "builtins") 162) (.ref 4), .mk (keyHash x0 (o "__main__")) (.str (o "__main__") 163) (.ref 5), .mk (keyHash x0 (o "_sre")) (.str (o "_sre") 244) (.ref 12)]⟩ 3) ⟨[]⟩
noncomputable def hd.o_43 : Params -> Obj := fun x0 => Obj.mk .none none (Data.dict ⟨[.mk (keyHash x0 (o "i\x6dport.loaded._sre")) (.str (o "i\x6dport.loaded._sre") 183) (.bool Bool.true), .mk (keyHash x0 (o "class._frozen_importlib.BuiltinImporter")) (.str (o "class._frozen_importlib.BuiltinImporter") 185) (.ref 14), .mk (keyHash x0 (o "watched.i\x6dport")) (.str (o "watched.i\x6dport") 206) (.ref 18), .mk (keyHash x0 (o "class._frozen_importlib.ModuleSpec")) (.str (o "class._frozen_importlib.ModuleSpec") 216) (.ref 22), .mk (keyHash x0 (o "sys.modules.booked-epoch")) (.str (o "sys.modules.booked-epoch") 245) (.int (3 : Int) 0), .mk (keyHash x0 (o "i\x6dport.later-laid._sre")) (.str (o "i\x6dport.later-laid._sre") 270) (.bool Bool.true), .mk (keyHash x0 (o "watched.library")) (.str (o "watched.library") 272) (.ref 27), .mk (keyHash x0 (o "watched.library-objects")) (.str (o "watched.library-objects") 0) (.str (o "\x0c") 0), .mk (keyHash x0 (o "watched.library-deep._sre")) (.str (o "watched.library-deep._sre") 273) (.str (o "\x04\x00\x00\x0b\x04\x00\x00\x0b\x04\x00\x00\x03\x04\x00\x00\x0b\x08\x04dict\x02") 0)]⟩ 9) ⟨[]⟩
noncomputable def hd.o_44 : Params -> Obj := fun x0 => Obj.mk (.type "dict") none (Data.dict ⟨[.mk (keyHash x0 (o "__name__")) (.str (o "__name__") 165) (.str (o "__main__") 164), .mk (keyHash x0 (o "__doc__")) (.str (o "__doc__") 166) .none, .mk (keyHash x0 (o "__package__")) (.str (o "__package__") 167) .none, .mk (keyHash x0 (o "__loader__")) (.str (o "__loader__") 168) (.builtin "__main__.__loader__#opaque"), .mk (keyHash x0 (o "__spec__")) (.str (o "__spec__") 169) .none, .mk (keyHash x0 (o "__annotations__")) (.str (o "__annotations__") 170) (.ref 6), .mk (keyHash x0 (o "__builtins__")) (.str (o "__builtins__") 171) (.ref 4), .mk (keyHash x0 (o "__file__")) (.str (o "__file__") 173) (.str (o "/claim/cut.py") 172), .mk (keyHash x0 (o "__cached__")) (.str (o "__cached__") 174) .none, .mk (keyHash x0 (o "_sre")) (.str (o "_sre") 275) (.ref 12)]⟩ 10) ⟨[]⟩
noncomputable def hd.o_45 : Params -> Obj := fun x0 => Obj.mk (.type "module") (some 0) Data.plain ⟨[]⟩
noncomputable def hd.o_46 : Params -> Obj := fun x0 => Obj.mk (.type "module") (some 3) Data.plain ⟨[]⟩
noncomputable def hd.o_47 : Params -> Obj := fun x0 => Obj.mk (.type "dict") none (Data.dict ⟨[]⟩ 0) ⟨[]⟩
noncomputable def hd.o_48 : Params -> Obj := fun x0 => Obj.mk (.type "tuple") none (Data.seq ⟨[]⟩ 0) ⟨[]⟩
noncomputable def hd.o_49 : Params -> Obj := fun x0 => Obj.mk .none none (Data.fields ⟨[]⟩) ⟨[]⟩
noncomputable def hd.o_50 : Params -> Obj := fun x0 => Obj.mk (.type "code") none (Data.fields ⟨[.str (o "<module>") 176, .str (o "<module>") 177, .str (o "/claim/cut.py") 178, .int (1 : Int) 0, .int (0 : Int) 0, .int (0 : Int) 0, .int (0 : Int) 0, .int (0 : Int) 0, .ref 7, .bool Bool.false, .int (175 : Int) 0, .ref 8, .none, .none, .none, .none, .int (179 : Int) 0, .int (1 : Int) 0, .str (o "/claim/cut.py") 180]⟩) ⟨[]⟩
noncomputable def hd.o_51 : Params -> Obj := fun x0 => Obj.mk (.type "frame") none Data.plain ⟨[some (.ref 9), some (.ref 3), some (.ref 3), none, some (.str (o "__main__") 164), none, some (.ref 0)]⟩
noncomputable def hd.o_52 : Params -> Obj := fun x0 => Obj.mk (.type "dict") none (Data.dict ⟨[.mk (keyHash x0 (o "__name__")) (.str (o "__name__") 247) (.str (o "_sre") 246), .mk (keyHash x0 (o "__doc__")) (.str (o "__doc__") 248) .none, .mk (keyHash x0 (o "__package__")) (.str (o "__package__") 250) (.str (o "") 249), .mk (keyHash x0 (o "__loader__")) (.str (o "__loader__") 251) (.builtin "off-the-table:_sre.__loader__:shared#opaque"), .mk (keyHash x0 (o "__spec__")) (.str (o "__spec__") 252) (.builtin "off-the-table:_sre.__spec__:shared#opaque"), .mk (keyHash x0 (o "compile")) (.str (o "compile") 253) (.builtin "_sre.compile"), .mk (keyHash x0 (o "template")) (.str (o "template") 254) (.builtin "off-the-table:_sre.template:shared#opaque"), .mk (keyHash x0 (o "getcodesize")) (.str (o "getcodesize") 255) (.builtin "off-the-table:_sre.getcodesize:shared#opaque"), .mk (keyHash x0 (o "ascii_iscased")) (.str (o "ascii_iscased") 256) (.builtin "off-the-table:_sre.ascii_iscased:shared#opaque"), .mk (keyHash x0 (o "unicode_iscased")) (.str (o "unicode_iscased") 257) (.builtin "off-the-table:_sre.unicode_iscased:shared#opaque"), .mk (keyHash x0 (o "ascii_tolower")) (.str (o "ascii_tolower") 258) (.builtin "off-the-table:_sre.ascii_tolower:shared#opaque"), .mk (keyHash x0 (o "unicode_tolower")) (.str (o "unicode_tolower") 259) (.builtin "off-the-table:_sre.unicode_tolower:shared#opaque"), .mk (keyHash x0 (o "MAGIC")) (.str (o "MAGIC") 261) (.int (20230612 : Int) 260), .mk (keyHash x0 (o "CODESIZE")) (.str (o "CODESIZE") 263) (.int (4 : Int) 262), .mk (keyHash x0 (o "MAXREPEAT")) (.str (o "MAXREPEAT") 265) (.int (4294967295 : Int) 264), .mk (keyHash x0 (o "MAXGROUPS")) (.str (o "MAXGROUPS") 267) (.int (1073741823 : Int) 266), .mk (keyHash x0 (o "copyright")) (.str (o "copyright") 269) (.str (o " SRE 2.2.2 Copyright (c) 1997-2002 by Secret Labs AB ") 268)]⟩ 17) ⟨[]⟩
noncomputable def hd.o_53 : Params -> Obj := fun x0 => Obj.mk (.type "module") (some 11) Data.plain ⟨[]⟩
noncomputable def hd.o_54 : Params -> Obj := fun x0 => Obj.mk (.type "dict") none (Data.dict ⟨[.mk (keyHash x0 (o "__module__")) (.str (o "__module__") 189) (.str (o "_frozen_importlib") 186), .mk (keyHash x0 (o "__firstlineno__")) (.str (o "__firstlineno__") 190) (.int (971 : Int) 187), .mk (keyHash x0 (o "__doc__")) (.str (o "__doc__") 191) (.builtin "_frozen_importlib.BuiltinImporter.__doc__:str#opaque"), .mk (keyHash x0 (o "_ORIGIN")) (.str (o "_ORIGIN") 192) (.str (o "built-in") 188), .mk (keyHash x0 (o "find_spec")) (.str (o "find_spec") 193) (.builtin "_frozen_importlib.BuiltinImporter.find_spec#opaque"), .mk (keyHash x0 (o "create_module")) (.str (o "create_module") 194) (.builtin "_frozen_importlib.BuiltinImporter.create_module#opaque"), .mk (keyHash x0 (o "exec_module")) (.str (o "exec_module") 195) (.builtin "_frozen_importlib.BuiltinImporter.exec_module#opaque"), .mk (keyHash x0 (o "get_code")) (.str (o "get_code") 196) (.builtin "_frozen_importlib.BuiltinImporter.get_code#opaque"), .mk (keyHash x0 (o "get_source")) (.str (o "get_source") 197) (.builtin "_frozen_importlib.BuiltinImporter.get_source#opaque"), .mk (keyHash x0 (o "is_package")) (.str (o "is_package") 198) (.builtin "_frozen_importlib.BuiltinImporter.is_package#opaque"), .mk (keyHash x0 (o "load_module")) (.str (o "load_module") 199) (.builtin "_frozen_importlib.BuiltinImporter.load_module#opaque"), .mk (keyHash x0 (o "__static_attributes__")) (.str (o "__static_attributes__") 200) (.ref 15), .mk (keyHash x0 (o "__dict__")) (.str (o "__dict__") 202) (.ref 16), .mk (keyHash x0 (o "__weakref__")) (.str (o "__weakref__") 204) (.ref 17)]⟩ 14) ⟨[]⟩
noncomputable def hd.o_55 : Params -> Obj := fun x0 => Obj.mk (.type "type") none (Data.cls (ClassData.mk (o "BuiltinImporter") [.type "object"] [.ref 14, .type "object"] 13 (o "BuiltinImporter") Bool.true [] [] Bool.false none Bool.false)) ⟨[]⟩
noncomputable def hd.o_57 : Params -> Obj := fun x0 => Obj.mk (.type "getset_descriptor") none (Data.fields ⟨[.str (o "__dict__") 201, .ref 14, .builtin "function.__dict__", .builtin "function.__dict__#set"]⟩) ⟨[]⟩
noncomputable def hd.o_58 : Params -> Obj := fun x0 => Obj.mk (.type "getset_descriptor") none (Data.fields ⟨[.str (o "__weakref__") 203, .ref 14, .builtin "ExceptionGroup.__weakref__", .none]⟩) ⟨[]⟩
noncomputable def hd.o_59 : Params -> Obj := fun x0 => Obj.mk .none none (Data.seq ⟨[.int (13 : Int) 0, .str (o "\x06½\x0a__module__\x06º\x11_frozen_importlib\x06¾\x0f__firstlineno__\x04»\x00ϋ\x06¿\x07__doc__\x094_frozen_importlib.BuiltinImporter.__doc__:str#opaque\x06À\x07_ORIGIN\x06¼\x08built-in\x06Á\x09find_spec\x092_frozen_importlib.BuiltinImporter.find_spec#opaque\x06Â\x0dcreate_module\x096_frozen_importlib.BuiltinImporter.create_module#opaque\x06Ã\x0bexec_module\x094_frozen_importlib.BuiltinImporter.exec_module#opaque\x06Ä\x08get_code\x091_frozen_importlib.BuiltinImporter.get_code#opaque\x06Å\x0aget_source\x093_frozen_importlib.BuiltinImporter.get_source#opaque\x06Æ\x0ais_package\x093_frozen_importlib.BuiltinImporter.is_package#opaque\x06Ç\x0bload_module\x094_frozen_importlib.BuiltinImporter.load_module#opaque\x06È\x15__static_attributes__\x04\x00\x00\x0f\x06Ê\x08__dict__\x04\x00\x00\x10\x06Ì\x0b__weakref__\x04\x00\x00\x11") 0, .bool Bool.true, .bool Bool.true, .str (o "") 205, .int (21 : Int) 0, .str (o "\x06ã\x0a__module__\x06Ù\x11_frozen_importlib\x06ä\x0f__firstlineno__\x04Ú\x00Ȳ\x06å\x07__doc__\x09/_frozen_importlib.ModuleSpec.__doc__:str#opaque\x06æ\x08__init__\x09,_frozen_importlib.ModuleSpec.__init__#opaque\x06ç\x08__repr__\x09,_frozen_importlib.ModuleSpec.__repr__#opaque\x06è\x06__eq__\x09*_frozen_importlib.ModuleSpec.__eq__#opaque\x06é\x06cached\x09*_frozen_importlib.ModuleSpec.cached#opaque\x06ê\x06parent\x09*_frozen_importlib.ModuleSpec.parent#opaque\x06ë\x0chas_location\x090_frozen_importlib.ModuleSpec.has_location#opaque\x06ì\x15__static_attributes__\x04\x00\x00\x17\x06î\x08__dict__\x04\x00\x00\x18\x06ð\x0b__weakref__\x04\x00\x00\x19\x06ñ\x08__hash__\x00") 0, .bool Bool.true, .bool Bool.true, .str (o "") 242]⟩ 1) ⟨[]⟩
noncomputable def hd.o_60 : Params -> Obj := fun x0 => Obj.mk (.type "list") none (Data.seq ⟨[]⟩ 0) ⟨[]⟩
noncomputable def hd.o_61 : Params -> Obj := fun x0 => Obj.mk (.type "dict") none (Data.dict ⟨[.mk (keyHash x0 (o "name")) (.str (o "name") 208) (.str (o "_sre") 207), .mk (keyHash x0 (o "loader")) (.str (o "loader") 209) (.ref 14), .mk (keyHash x0 (o "origin")) (.str (o "origin") 210) (.str (o "built-in") 184), .mk (keyHash x0 (o "loader_state")) (.str (o "loader_state") 211) .none, .mk (keyHash x0 (o "submodule_search_locations")) (.str (o "submodule_search_locations") 212) .none, .mk (keyHash x0 (o "_uninitialized_submodules")) (.str (o "_uninitialized_submodules") 213) (.ref 19), .mk (keyHash x0 (o "_set_fileattr")) (.str (o "_set_fileattr") 214) (.bool Bool.false), .mk (keyHash x0 (o "_cached")) (.str (o "_cached") 215) .none, .mk (keyHash x0 (o "_initializing")) (.str (o "_initializing") 243) (.bool Bool.false)]⟩ 9) ⟨[]⟩
noncomputable def hd.o_62 : Params -> Obj := fun x0 => Obj.mk (.type "dict") none (Data.dict ⟨[.mk (keyHash x0 (o "__module__")) (.str (o "__module__") 227) (.str (o "_frozen_importlib") 217), .mk (keyHash x0 (o "__firstlineno__")) (.str (o "__firstlineno__") 228) (.int (562 : Int) 218), .mk (keyHash x0 (o "__doc__")) (.str (o "__doc__") 229) (.builtin "_frozen_importlib.ModuleSpec.__doc__:str#opaque"), .mk (keyHash x0 (o "__init__")) (.str (o "__init__") 230) (.builtin "_frozen_importlib.ModuleSpec.__init__#opaque"), .mk (keyHash x0 (o "__repr__")) (.str (o "__repr__") 231) (.builtin "_frozen_importlib.ModuleSpec.__repr__#opaque"), .mk (keyHash x0 (o "__eq__")) (.str (o "__eq__") 232) (.builtin "_frozen_importlib.ModuleSpec.__eq__#opaque"), .mk (keyHash x0 (o "cached")) (.str (o "cached") 233) (.builtin "_frozen_importlib.ModuleSpec.cached#opaque"), .mk (keyHash x0 (o "parent")) (.str (o "parent") 234) (.builtin "_frozen_importlib.ModuleSpec.parent#opaque"), .mk (keyHash x0 (o "has_location")) (.str (o "has_location") 235) (.builtin "_frozen_importlib.ModuleSpec.has_location#opaque"), .mk (keyHash x0 (o "__static_attributes__")) (.str (o "__static_attributes__") 236) (.ref 23), .mk (keyHash x0 (o "__dict__")) (.str (o "__dict__") 238) (.ref 24), .mk (keyHash x0 (o "__weakref__")) (.str (o "__weakref__") 240) (.ref 25), .mk (keyHash x0 (o "__hash__")) (.str (o "__hash__") 241) .none]⟩ 13) ⟨[]⟩
noncomputable def hd.o_63 : Params -> Obj := fun x0 => Obj.mk (.type "type") none (Data.cls (ClassData.mk (o "ModuleSpec") [.type "object"] [.ref 22, .type "object"] 21 (o "ModuleSpec") Bool.true [] [] Bool.false none Bool.false)) ⟨[]⟩
noncomputable def hd.o_64 : Params -> Obj := fun x0 => Obj.mk (.type "tuple") none (Data.seq ⟨[.str (o "_cached") 219, .str (o "_set_fileattr") 220, .str (o "_uninitialized_submodules") 221, .str (o "loader") 222, .str (o "loader_state") 223, .str (o "name") 224, .str (o "origin") 225, .str (o "submodule_search_locations") 226]⟩ 0) ⟨[]⟩
noncomputable def hd.o_65 : Params -> Obj := fun x0 => Obj.mk (.type "getset_descriptor") none (Data.fields ⟨[.str (o "__dict__") 237, .ref 22, .builtin "function.__dict__", .builtin "function.__dict__#set"]⟩) ⟨[]⟩
noncomputable def hd.o_66 : Params -> Obj := fun x0 => Obj.mk (.type "getset_descriptor") none (Data.fields ⟨[.str (o "__weakref__") 239, .ref 22, .builtin "ExceptionGroup.__weakref__", .none]⟩) ⟨[]⟩
noncomputable def hd.o_67 : Params -> Obj := fun x0 => Obj.mk (.ref 22) (some 20) Data.plain ⟨[]⟩
noncomputable def hd.o_68 : Params -> Obj := fun x0 => Obj.mk .none none (Data.seq ⟨[.int (11 : Int) 0, .str (Str.mk ⟨[6, 247, 8, 95, 95, 110, 97, 109, 101, 95, 95, 6, 246, 4, 95, 115, 114, 101, 6, 248, 7, 95, 95, 100, 111, 99, 95, 95, 0, 6, 250, 11, 95, 95, 112, 97, 99, 107, 97, 103, 101, 95, 95, 6, 249, 0, 6, 251, 10, 95, 95, 108, 111, 97, 100, 101, 114, 95, 95, 4, 0, 0, 14, 6, 252, 8, 95, 95, 115, 112, 101, 99, 95, 95, 4, 0, 0, 26, 6, 253, 7, 99, 111, 109, 112, 105, 108, 101, 9, 12, 95, 115, 114, 101, 46, 99, 111, 109, 112, 105, 108, 101, 6, 254, 8, 116, 101, 109, 112, 108, 97, 116, 101, 9, 13, 95, 115, 114, 101, 46, 116, 101, 109, 112, 108, 97, 116, 101, 6, 255, 11, 103, 101, 116, 99, 111, 100, 101, 115, 105, 122, 101, 9, 16, 95, 115, 114, 101, 46, 103, 101, 116, 99, 111, 100, 101, 115, 105, 122, 101, 6, 256, 13, 97, 115, 99, 105, 105, 95, 105, 115, 99, 97, 115, 101, 100, 9, 18, 95, 115, 114, 101, 46, 97, 115, 99, 105, 105, 95, 105, 115, 99, 97, 115, 101, 100, 6, 257, 15, 117, 110, 105, 99, 111, 100, 101, 95, 105, 115, 99, 97, 115, 101, 100, 9, 20, 95, 115, 114, 101, 46, 117, 110, 105, 99, 111, 100, 101, 95, 105, 115, 99, 97, 115, 101, 100, 6, 258, 13, 97, 115, 99, 105, 105, 95, 116, 111, 108, 111, 119, 101, 114, 9, 18, 95, 115, 114, 101, 46, 97, 115, 99, 105, 105, 95, 116, 111, 108, 111, 119, 101, 114, 6, 259, 15, 117, 110, 105, 99, 111, 100, 101, 95, 116, 111, 108, 111, 119, 101, 114, 9, 20, 95, 115, 114, 101, 46, 117, 110, 105, 99, 111, 100, 101, 95, 116, 111, 108, 111, 119, 101, 114, 6, 261, 5, 77, 65, 71, 73, 67, 4, 260, 0, 20230612, 6, 263, 8, 67, 79, 68, 69, 83, 73, 90, 69, 4, 262, 0, 4, 6, 265, 9, 77, 65, 88, 82, 69, 80, 69, 65, 84, 4, 264, 0, 4294967295, 6, 267, 9, 77, 65, 88, 71, 82, 79, 85, 80, 83, 4, 266, 0, 1073741823, 6, 269, 9, 99, 111, 112, 121, 114, 105, 103, 104, 116, 6, 268, 53, 32, 83, 82, 69, 32, 50, 46, 50, 46, 50, 32, 67, 111, 112, 121, 114, 105, 103, 104, 116, 32, 40, 99, 41, 32, 49, 57, 57, 55, 45, 50, 48, 48, 50, 32, 98, 121, 32, 83, 101, 99, 114, 101, 116, 32, 76, 97, 98, 115, 32, 65, 66, 32]⟩) 0, .bool Bool.true, .bool Bool.false, .str (o "_sre") 271]⟩ 0) ⟨[]⟩
noncomputable def hd.heap_68 : Params -> Heap := fun x0 => Heap.mk ⟨[hd.o_41 x0, hd.o_42 x0, hd.o_43 x0, hd.o_44 x0, hd.o_45 x0, hd.o_46 x0, hd.o_47 x0, hd.o_48 x0, hd.o_49 x0, hd.o_50 x0, hd.o_51 x0, hd.o_52 x0, hd.o_53 x0, hd.o_54 x0, hd.o_55 x0, hd.o_48 x0, hd.o_57 x0, hd.o_58 x0, hd.o_59 x0, hd.o_60 x0, hd.o_61 x0, hd.o_62 x0, hd.o_63 x0, hd.o_64 x0, hd.o_65 x0, hd.o_66 x0, hd.o_67 x0, hd.o_68 x0]⟩ hd.life
noncomputable def hd.o_133 : Params -> Obj := fun x0 => Obj.mk (.type "dict") none (Data.dict ⟨[.mk (keyHash x0 (o "__name__")) (.str (o "__name__") 165) (.str (o "law_wv0014_01") 1973), .mk (keyHash x0 (o "__doc__")) (.str (o "__doc__") 166) .none, .mk (keyHash x0 (o "__package__")) (.str (o "__package__") 167) .none, .mk (keyHash x0 (o "__loader__")) (.str (o "__loader__") 168) (.builtin "__main__.__loader__#opaque"), .mk (keyHash x0 (o "__spec__")) (.str (o "__spec__") 169) .none, .mk (keyHash x0 (o "__annotations__")) (.str (o "__annotations__") 170) (.ref 6), .mk (keyHash x0 (o "__builtins__")) (.str (o "__builtins__") 171) (.ref 4), .mk (keyHash x0 (o "__file__")) (.str (o "__file__") 173) (.str (o "/claim/cut.py") 172), .mk (keyHash x0 (o "__cached__")) (.str (o "__cached__") 174) .none, .mk (keyHash x0 (o "_sre")) (.str (o "_sre") 275) (.ref 12), .mk (keyHash x0 (o "_prepare_tag")) (.str (o "_prepare_tag") 298) (.ref 38), .mk (keyHash x0 (o "_SelectorContext")) (.str (o "_SelectorContext") 328) (.ref 55), .mk (keyHash x0 (o "_twin_re_1")) (.str (o "_twin_re_1") 363) (.ref 64), .mk (keyHash x0 (o "_QUOPRI_MAP")) (.str (o "_QUOPRI_MAP") 1391) (.ref 67), .mk (keyHash x0 (o "_QUOPRI_HEADER_MAP")) (.str (o "_QUOPRI_HEADER_MAP") 1392) (.ref 72), .mk (keyHash x0 (o "_QUOPRI_BODY_MAP")) (.str (o "_QUOPRI_BODY_MAP") 1393) (.ref 74), .mk (keyHash x0 (o "ascii_lowercase")) (.str (o "ascii_lowercase") 1395) (.str (o "abcdefghijklmnopqrstuvwxyz") 1394), .mk (keyHash x0 (o "ascii_uppercase")) (.str (o "ascii_uppercase") 1397) (.str (o "ABCDEFGHIJKLMNOPQRSTUVWXYZ") 1396), .mk (keyHash x0 (o "ascii_letters")) (.str (o "ascii_letters") 1399) (.str (o "abcdefghijklmnopqrstuvwxyzABCDEFGHIJKLMNOPQRSTUVWXYZ") 1398), .mk (keyHash x0 (o "digits")) (.str (o "digits") 1401) (.str (o "0123456789") 1400), .mk (keyHash x0 (o "unquote")) (.str (o "unquote") 1907) (.ref 87), .mk (keyHash x0 (o "header_encode")) (.str (o "header_encode") 1917) (.ref 95), .mk (keyHash x0 (o "_QUOPRI_BODY_ENCODE_MAP")) (.str (o "_QUOPRI_BODY_ENCODE_MAP") 1918) (.ref 97), .mk (keyHash x0 (o "_unquote_match")) (.str (o "_unquote_match") 1933) (.ref 107), .mk (keyHash x0 (o "header_decode")) (.str (o "header_decode") 1940) (.ref 114), .mk (keyHash x0 (o "parse_keqv_list")) (.str (o "parse_keqv_list") 1953) (.ref 121), .mk (keyHash x0 (o "parse_http_list")) (.str (o "parse_http_list") 1959) (.ref 126), .mk (keyHash x0 (o "_byteswap")) (.str (o "_byteswap") 1972) (.ref 133), .mk (keyHash x0 (o "_law_cells")) (.str (o "_law_cells") 1983) (.ref 140), .mk (keyHash x0 (o "_law_clause")) (.str (o "_law_clause") 1990) (.ref 147), .mk (keyHash x0 (o "_law_letter")) (.str (o "_law_letter") 2004) (.ref 154), .mk (keyHash x0 (o "_law_written")) (.str (o "_law_written") 2011) (.ref 161), .mk (keyHash x0 (o "_law_items")) (.str (o "_law_items") 2025) (.ref 168), .mk (keyHash x0 (o "_law_row")) (.str (o "_law_row") 2035) (.ref 175), .mk (keyHash x0 (o "_law_things")) (.str (o "_law_things") 2041) (.ref 180), .mk (keyHash x0 (o "_law_found")) (.str (o "_law_found") 2047) (.ref 185), .mk (keyHash x0 (o "_law_reach")) (.str (o "_law_reach") 2058) (.ref 192), .mk (keyHash x0 (o "_law_holds")) (.str (o "_law_holds") 2066) (.ref 199), .mk (keyHash x0 (o "_law_right")) (.str (o "_law_right") 2072) (.ref 204), .mk (keyHash x0 (o "law")) (.str (o "law") 2078) (.ref 209)]⟩ 42) ⟨[]⟩
noncomputable def hd.o_134 : Params -> Obj := fun x0 => Obj.mk .none none (Data.fields ⟨[.int (3 : Int) 0, .int (0 : Int) 0, .ref 37, .int (40 : Int) 0, .int (0 : Int) 0, .ref 44, .int (59 : Int) 0, .int (0 : Int) 0, .ref 86, .int (61 : Int) 0, .int (0 : Int) 0, .ref 94, .int (70 : Int) 0, .int (0 : Int) 0, .ref 106, .int (73 : Int) 0, .int (0 : Int) 0, .ref 113, .int (77 : Int) 0, .int (0 : Int) 0, .ref 120, .int (85 : Int) 0, .int (0 : Int) 0, .ref 125, .int (113 : Int) 0, .int (0 : Int) 0, .ref 132, .int (120 : Int) 0, .int (0 : Int) 0, .ref 139, .int (125 : Int) 0, .int (0 : Int) 0, .ref 146, .int (127 : Int) 0, .int (0 : Int) 0, .ref 153, .int (137 : Int) 0, .int (0 : Int) 0, .ref 160, .int (143 : Int) 0, .int (0 : Int) 0, .ref 167, .int (153 : Int) 0, .int (0 : Int) 0, .ref 174, .int (159 : Int) 0, .int (0 : Int) 0, .ref 179, .int (170 : Int) 0, .int (0 : Int) 0, .ref 184, .int (172 : Int) 0, .int (0 : Int) 0, .ref 191, .int (181 : Int) 0, .int (0 : Int) 0, .ref 198, .int (183 : Int) 0, .int (0 : Int) 0, .ref 203, .int (193 : Int) 0, .int (0 : Int) 0, .ref 208]⟩) ⟨[]⟩
noncomputable def hd.o_71 : Params -> Obj := fun x0 => Obj.mk (.type "code") none (Data.fields ⟨[.str (o "<module>") 277, .str (o "<module>") 278, .str (o "/claim/cut.py") 279, .int (1 : Int) 0, .int (0 : Int) 0, .int (0 : Int) 0, .int (0 : Int) 0, .int (0 : Int) 0, .ref 28, .bool Bool.false, .int (276 : Int) 0, .ref 29, .none, .none, .none, .none, .int (280 : Int) 0, .int (1 : Int) 0, .str (o "/claim/cut.py") 281]⟩) ⟨[]⟩
noncomputable def hd.o_72 : Params -> Obj := fun x0 => Obj.mk (.type "frame") none Data.plain ⟨[some (.ref 30), some (.ref 3), some (.ref 3), none, some (.str (o "__main__") 164), none, some (.ref 0)]⟩
noncomputable def hd.o_79 : Params -> Obj := fun x0 => Obj.mk (.type "tuple") none (Data.seq ⟨[.str (o "tag") 287, .str (o "select") 288]⟩ 0) ⟨[]⟩
noncomputable def hd.o_80 : Params -> Obj := fun x0 => Obj.mk (.type "tuple") none (Data.seq ⟨[.str (o "tag") 289, .str (o "_isinstance") 290, .str (o "_str") 291, .str (o "no_ns") 292, .str (o "ns") 293, .str (o "ns_only") 294, .str (o "suffix") 295]⟩ 0) ⟨[]⟩
noncomputable def hd.o_81 : Params -> Obj := fun x0 => Obj.mk .none none (Data.func (FuncData.mk (o "_prepare_tag") (o "_prepare_tag") (fa 2) (FuncBody.stmts (fb 2)) (fs 2) 0 [] .none .none .none .none none .none .none 0)) ⟨[]⟩
noncomputable def hd.o_82 : Params -> Obj := fun x0 => Obj.mk (.type "code") none (Data.fields ⟨[.str (o "_prepare_tag") 284, .str (o "_prepare_tag") 285, .str (o "/claim/cut.py") 286, .int (3 : Int) 0, .int (1 : Int) 0, .int (0 : Int) 0, .int (0 : Int) 0, .int (3 : Int) 0, .ref 32, .bool Bool.true, .int (276 : Int) 0, .ref 33, .none, .ref 34, .ref 35, .ref 36, .int (296 : Int) 0, .int (3 : Int) 0, .str (o "/claim/cut.py") 297]⟩) ⟨[]⟩
noncomputable def hd.o_83 : Params -> Obj := fun x0 => Obj.mk (.type "function") none (Data.func (FuncData.mk (o "_prepare_tag") (o "_prepare_tag") (fa 2) (FuncBody.stmts (fb 2)) (fs 2) 3 [] .none .none .none (.str (o "cpy313.xml.etree.ElementPath") 282) none (.ref 37) .none 0)) ⟨[]⟩
noncomputable def hd.o_85 : Params -> Obj := fun x0 => Obj.mk (.type "builtin_function_or_method") none (Data.fields ⟨[.builtin "type.__prepare__", .type "type"]⟩) ⟨[]⟩
noncomputable def hd.o_86 : Params -> Obj := fun x0 => Obj.mk (.type "dict") none (Data.dict ⟨[.mk (keyHash x0 (o "__module__")) (.str (o "__module__") 306) (.str (o "cpy313.xml.etree.ElementPath") 282), .mk (keyHash x0 (o "__qualname__")) (.str (o "__qualname__") 308) (.str (o "_SelectorContext") 307), .mk (keyHash x0 (o "__firstlineno__")) (.str (o "__firstlineno__") 310) (.int (40 : Int) 309), .mk (keyHash x0 (o "parent_map")) (.str (o "parent_map") 311) .none, .mk (keyHash x0 (o "__init__")) (.str (o "__init__") 319) (.ref 52), .mk (keyHash x0 (o "__static_attributes__")) (.str (o "__static_attributes__") 321) (.ref 53)]⟩ 6) ⟨[]⟩
noncomputable def hd.o_88 : Params -> Obj := fun x0 => Obj.mk .none none (Data.fields ⟨[.int (43 : Int) 0, .int (4 : Int) 0, .ref 51]⟩) ⟨[]⟩
noncomputable def hd.o_89 : Params -> Obj := fun x0 => Obj.mk (.type "code") none (Data.fields ⟨[.str (o "_SelectorContext") 301, .str (o "_SelectorContext") 302, .str (o "/claim/cut.py") 303, .int (40 : Int) 0, .int (0 : Int) 0, .int (0 : Int) 0, .int (0 : Int) 0, .int (0 : Int) 0, .ref 42, .bool Bool.false, .int (276 : Int) 0, .ref 43, .none, .none, .none, .none, .int (304 : Int) 0, .int (40 : Int) 0, .str (o "/claim/cut.py") 305]⟩) ⟨[]⟩
noncomputable def hd.o_90 : Params -> Obj := fun x0 => Obj.mk (.type "frame") none Data.plain ⟨[some (.ref 44), some (.ref 3), some (.ref 41), none, some (.str (o "cpy313.xml.etree.ElementPath") 282), none, some (.ref 0)]⟩
noncomputable def hd.o_93 : Params -> Obj := fun x0 => Obj.mk (.type "tuple") none (Data.seq ⟨[.str (o "self") 315, .str (o "root") 316]⟩ 0) ⟨[]⟩
noncomputable def hd.o_95 : Params -> Obj := fun x0 => Obj.mk .none none (Data.func (FuncData.mk (o "__init__") (o "_SelectorContext.__init__") (ca 3 1) (FuncBody.stmts (cb 3 1)) (cs 3 1) 0 [] .none .none .none .none none .none .none 0)) ⟨[]⟩
noncomputable def hd.o_96 : Params -> Obj := fun x0 => Obj.mk (.type "code") none (Data.fields ⟨[.str (o "__init__") 312, .str (o "_SelectorContext.__init__") 313, .str (o "/claim/cut.py") 314, .int (43 : Int) 0, .int (2 : Int) 0, .int (0 : Int) 0, .int (0 : Int) 0, .int (3 : Int) 0, .ref 46, .bool Bool.true, .int (276 : Int) 0, .ref 47, .none, .ref 48, .ref 49, .ref 50, .int (317 : Int) 0, .int (43 : Int) 0, .str (o "/claim/cut.py") 318]⟩) ⟨[]⟩
noncomputable def hd.o_97 : Params -> Obj := fun x0 => Obj.mk (.type "function") none (Data.func (FuncData.mk (o "__init__") (o "_SelectorContext.__init__") (ca 3 1) (FuncBody.stmts (cb 3 1)) (cs 3 1) 3 [] .none .none .none (.str (o "cpy313.xml.etree.ElementPath") 282) none (.ref 51) .none 0)) ⟨[]⟩
noncomputable def hd.o_98 : Params -> Obj := fun x0 => Obj.mk (.type "tuple") none (Data.seq ⟨[.str (o "root") 320]⟩ 0) ⟨[]⟩
noncomputable def hd.o_99 : Params -> Obj := fun x0 => Obj.mk (.type "dict") none (Data.dict ⟨[.mk (keyHash x0 (o "__module__")) (.str (o "__module__") 306) (.str (o "cpy313.xml.etree.ElementPath") 282), .mk (keyHash x0 (o "__firstlineno__")) (.str (o "__firstlineno__") 310) (.int (40 : Int) 309), .mk (keyHash x0 (o "parent_map")) (.str (o "parent_map") 311) .none, .mk (keyHash x0 (o "__init__")) (.str (o "__init__") 319) (.ref 52), .mk (keyHash x0 (o "__static_attributes__")) (.str (o "__static_attributes__") 321) (.ref 53), .mk (keyHash x0 (o "__dict__")) (.str (o "__dict__") 323) (.ref 56), .mk (keyHash x0 (o "__weakref__")) (.str (o "__weakref__") 325) (.ref 57), .mk (keyHash x0 (o "__doc__")) (.str (o "__doc__") 326) .none]⟩ 4) ⟨[]⟩
noncomputable def hd.o_100 : Params -> Obj := fun x0 => Obj.mk (.type "type") none (Data.cls (ClassData.mk (o "_SelectorContext") [.type "object"] [.ref 55, .type "object"] 54 (o "_SelectorContext") Bool.true [] [] Bool.false none Bool.false)) ⟨[none, none, some (.str (o "_SelectorContext") 299), some (.str (o "_SelectorContext") 307), some (.builtin "object.__new__"), some (.bool Bool.true)]⟩
noncomputable def hd.o_101 : Params -> Obj := fun x0 => Obj.mk (.type "getset_descriptor") none (Data.fields ⟨[.str (o "__dict__") 322, .ref 55, .builtin "function.__dict__", .builtin "function.__dict__#set"]⟩) ⟨[]⟩
noncomputable def hd.o_102 : Params -> Obj := fun x0 => Obj.mk (.type "getset_descriptor") none (Data.fields ⟨[.str (o "__weakref__") 324, .ref 55, .builtin "ExceptionGroup.__weakref__", .none]⟩) ⟨[]⟩
noncomputable def hd.o_103 : Params -> Obj := fun x0 => Obj.mk (.type "super") none (Data.fields ⟨[.ref 55, .ref 55, .ref 55]⟩) ⟨[]⟩
noncomputable def hd.o_104 : Params -> Obj := fun x0 => Obj.mk (.type "builtin_function_or_method") none (Data.fields ⟨[.builtin "object.__init_subclass__", .ref 55]⟩) ⟨[]⟩
noncomputable def hd.o_105 : Params -> Obj := fun x0 => Obj.mk (.type "list") none (Data.seq ⟨[.int (14 : Int) 332, .int (8 : Int) 333, .int (1 : Int) 334, .int (3 : Int) 335, .int (3 : Int) 336, .int (1 : Int) 337, .int (1 : Int) 338, .int (61 : Int) 339, .int (0 : Int) 340, .int (16 : Int) 341, .int (61 : Int) 342, .int (24 : Int) 343, .int (16 : Int) 344, .int (2 : Int) 345, .int (2 : Int) 346, .int (13 : Int) 347, .int (11 : Int) 348, .int (9 : Int) 349, .int (0 : Int) 350, .int (67043328 : Int) 351, .int (126 : Int) 352, .int (126 : Int) 353, .int (0 : Int) 354, .int (0 : Int) 355, .int (0 : Int) 356, .int (0 : Int) 357, .int (0 : Int) 358, .int (1 : Int) 359, .int (1 : Int) 360]⟩ 0) ⟨[]⟩
noncomputable def hd.o_107 : Params -> Obj := fun x0 => Obj.mk (.type "tuple") none (Data.seq ⟨[.none]⟩ 0) ⟨[]⟩
noncomputable def hd.o_108 : Params -> Obj := fun x0 => Obj.mk (.type "tuple") none (Data.seq ⟨[.int (14 : Int) 0, .int (8 : Int) 0, .int (1 : Int) 0, .int (3 : Int) 0, .int (3 : Int) 0, .int (1 : Int) 0, .int (1 : Int) 0, .int (61 : Int) 0, .int (0 : Int) 0, .int (16 : Int) 0, .int (61 : Int) 0, .int (24 : Int) 0, .int (16 : Int) 0, .int (2 : Int) 0, .int (2 : Int) 0, .int (13 : Int) 0, .int (11 : Int) 0, .int (9 : Int) 0, .int (0 : Int) 0, .int (67043328 : Int) 0, .int (126 : Int) 0, .int (126 : Int) 0, .int (0 : Int) 0, .int (0 : Int) 0, .int (0 : Int) 0, .int (0 : Int) 0, .int (0 : Int) 0, .int (1 : Int) 0, .int (1 : Int) 0]⟩ 0) ⟨[]⟩
noncomputable def hd.o_109 : Params -> Obj := fun x0 => Obj.mk (.type "re.Pattern") none (Data.fields ⟨[.str (o "=[a-fA-F0-9]{2}") 330, .int (256 : Int) 362, .int (0 : Int) 0, .none, .none, .ref 63, .int (0 : Int) 0]⟩) ⟨[]⟩
noncomputable def hd.o_111 : Params -> Obj := fun x0 => Obj.mk (.type "range") none (Data.fields ⟨[.int (0 : Int) 365, .int (256 : Int) 364, .int (1 : Int) 366]⟩) ⟨[]⟩
noncomputable def hd.o_112 : Params -> Obj := fun x0 => Obj.mk (.type "range_iterator") none (Data.fields ⟨[.int (256 : Int) 0, .int (0 : Int) 0, .int (1 : Int) 0]⟩) ⟨[]⟩
noncomputable def hd.v1 : List Value := [.str (o "=00") 370, .str (o "=01") 374, .str (o "=02") 378, .str (o "=03") 382, .str (o "=04") 386, .str (o "=05") 390, .str (o "=06") 394, .str (o "=07") 398, .str (o "=08") 402, .str (o "=09") 406, .str (o "=0A") 410, .str (o "=0B") 414, .str (o "=0C") 418, .str (o "=0D") 422, .str (o "=0E") 426, .str (o "=0F") 430, .str (o "=10") 434, .str (o "=11") 438, .str (o "=12") 442, .str (o "=13") 446, .str (o "=14") 450, .str (o "=15") 454, .str (o "=16") 458, .str (o "=17") 462, .str (o "=18") 466, .str (o "=19") 470, .str (o "=1A") 474, .str (o "=1B") 478, .str (o "=1C") 482, .str (o "=1D") 486, .str (o "=1E") 490, .str (o "=1F") 494, .str (o "=20") 498, .str (o "=21") 502, .str (o "=22") 506, .str (o "=23") 510, .str (o "=24") 514, .str (o "=25") 518, .str (o "=26") 522, .str (o "=27") 526, .str (o "=28") 530, .str (o "=29") 534, .str (o "=2A") 538, .str (o "=2B") 542, .str (o "=2C") 546, .str (o "=2D") 550, .str (o "=2E") 554, .str (o "=2F") 558, .str (o "=30") 562, .str (o "=31") 566, .str (o "=32") 570, .str (o "=33") 574, .str (o "=34") 578, .str (o "=35") 582, .str (o "=36") 586, .str (o "=37") 590, .str (o "=38") 594, .str (o "=39") 598, .str (o "=3A") 602, .str (o "=3B") 606, .str (o "=3C") 610, .str (o "=3D") 614, .str (o "=3E") 618, .str (o "=3F") 622, .str (o "=40") 626, .str (o "=41") 630, .str (o "=42") 634, .str (o "=43") 638, .str (o "=44") 642, .str (o "=45") 646, .str (o "=46") 650, .str (o "=47") 654, .str (o "=48") 658, .str (o "=49") 662, .str (o "=4A") 666, .str (o "=4B") 670, .str (o "=4C") 674, .str (o "=4D") 678, .str (o "=4E") 682, .str (o "=4F") 686, .str (o "=50") 690, .str (o "=51") 694, .str (o "=52") 698, .str (o "=53") 702, .str (o "=54") 706, .str (o "=55") 710, .str (o "=56") 714, .str (o "=57") 718, .str (o "=58") 722, .str (o "=59") 726, .str (o "=5A") 730, .str (o "=5B") 734, .str (o "=5C") 738, .str (o "=5D") 742, .str (o "=5E") 746, .str (o "=5F") 750, .str (o "=60") 754, .str (o "=61") 758, .str (o "=62") 762, .str (o "=63") 766, .str (o "=64") 770, .str (o "=65") 774, .str (o "=66") 778, .str (o "=67") 782, .str (o "=68") 786, .str (o "=69") 790, .str (o "=6A") 794, .str (o "=6B") 798, .str (o "=6C") 802, .str (o "=6D") 806, .str (o "=6E") 810, .str (o "=6F") 814, .str (o "=70") 818, .str (o "=71") 822, .str (o "=72") 826, .str (o "=73") 830, .str (o "=74") 834, .str (o "=75") 838, .str (o "=76") 842, .str (o "=77") 846, .str (o "=78") 850, .str (o "=79") 854, .str (o "=7A") 858, .str (o "=7B") 862, .str (o "=7C") 866, .str (o "=7D") 870, .str (o "=7E") 874, .str (o "=7F") 878, .str (o "=80") 882, .str (o "=81") 886, .str (o "=82") 890, .str (o "=83") 894, .str (o "=84") 898, .str (o "=85") 902, .str (o "=86") 906, .str (o "=87") 910, .str (o "=88") 914, .str (o "=89") 918, .str (o "=8A") 922, .str (o "=8B") 926, .str (o "=8C") 930, .str (o "=8D") 934, .str (o "=8E") 938, .str (o "=8F") 942, .str (o "=90") 946, .str (o "=91") 950, .str (o "=92") 954, .str (o "=93") 958, .str (o "=94") 962, .str (o "=95") 966, .str (o "=96") 970, .str (o "=97") 974, .str (o "=98") 978, .str (o "=99") 982, .str (o "=9A") 986, .str (o "=9B") 990, .str (o "=9C") 994, .str (o "=9D") 998, .str (o "=9E") 1002, .str (o "=9F") 1006, .str (o "=A0") 1010, .str (o "=A1") 1014, .str (o "=A2") 1018, .str (o "=A3") 1022, .str (o "=A4") 1026, .str (o "=A5") 1030, .str (o "=A6") 1034, .str (o "=A7") 1038, .str (o "=A8") 1042, .str (o "=A9") 1046, .str (o "=AA") 1050, .str (o "=AB") 1054, .str (o "=AC") 1058, .str (o "=AD") 1062, .str (o "=AE") 1066, .str (o "=AF") 1070, .str (o "=B0") 1074, .str (o "=B1") 1078, .str (o "=B2") 1082, .str (o "=B3") 1086, .str (o "=B4") 1090, .str (o "=B5") 1094, .str (o "=B6") 1098, .str (o "=B7") 1102, .str (o "=B8") 1106, .str (o "=B9") 1110, .str (o "=BA") 1114, .str (o "=BB") 1118, .str (o "=BC") 1122, .str (o "=BD") 1126, .str (o "=BE") 1130, .str (o "=BF") 1134, .str (o "=C0") 1138, .str (o "=C1") 1142, .str (o "=C2") 1146, .str (o "=C3") 1150, .str (o "=C4") 1154, .str (o "=C5") 1158, .str (o "=C6") 1162, .str (o "=C7") 1166, .str (o "=C8") 1170, .str (o "=C9") 1174, .str (o "=CA") 1178, .str (o "=CB") 1182, .str (o "=CC") 1186, .str (o "=CD") 1190, .str (o "=CE") 1194, .str (o "=CF") 1198, .str (o "=D0") 1202, .str (o "=D1") 1206, .str (o "=D2") 1210, .str (o "=D3") 1214, .str (o "=D4") 1218, .str (o "=D5") 1222, .str (o "=D6") 1226, .str (o "=D7") 1230, .str (o "=D8") 1234, .str (o "=D9") 1238, .str (o "=DA") 1242, .str (o "=DB") 1246, .str (o "=DC") 1250, .str (o "=DD") 1254, .str (o "=DE") 1258, .str (o "=DF") 1262, .str (o "=E0") 1266, .str (o "=E1") 1270, .str (o "=E2") 1274, .str (o "=E3") 1278, .str (o "=E4") 1282, .str (o "=E5") 1286, .str (o "=E6") 1290, .str (o "=E7") 1294, .str (o "=E8") 1298, .str (o "=E9") 1302, .str (o "=EA") 1306, .str (o "=EB") 1310, .str (o "=EC") 1314, .str (o "=ED") 1318, .str (o "=EE") 1322, .str (o "=EF") 1326, .str (o "=F0") 1330, .str (o "=F1") 1334, .str (o "=F2") 1338, .str (o "=F3") 1342, .str (o "=F4") 1346, .str (o "=F5") 1350, .str (o "=F6") 1354, .str (o "=F7") 1358, .str (o "=F8") 1362, .str (o "=F9") 1366, .str (o "=FA") 1370, .str (o "=FB") 1374, .str (o "=FC") 1378, .str (o "=FD") 1382, .str (o "=FE") 1386, .str (o "=FF") 1390]
noncomputable def hd.o_113 : Params -> Obj := fun x0 => Obj.mk (.type "list") none (Data.seq ⟨hd.v1⟩ 256) ⟨[]⟩
noncomputable def hd.o_114 : Params -> Obj := fun x0 => Obj.mk (.type "dict") none (Data.dict ⟨[]⟩ 2) ⟨[]⟩
noncomputable def hd.o_116 : Params -> Obj := fun x0 => Obj.mk (.type "StopIteration") none (Data.fields ⟨[.ref 69, .none, .none, .none, .bool Bool.false, .none]⟩) ⟨[]⟩
noncomputable def hd.o_124 : Params -> Obj := fun x0 => Obj.mk (.type "slice") none (Data.fields ⟨[.none, .none, .none]⟩) ⟨[]⟩
noncomputable def hd.o_125 : Params -> Obj := fun x0 => Obj.mk (.type "list") none (Data.seq ⟨[.str (o "=00") 370, .str (o "=01") 374, .str (o "=02") 378, .str (o "=03") 382, .str (o "=04") 386, .str (o "=05") 390, .str (o "=06") 394, .str (o "=07") 398, .str (o "=08") 402, .str (o "=09") 406, .str (o "=0A") 410, .str (o "=0B") 414, .str (o "=0C") 418, .str (o "=0D") 422, .str (o "=0E") 426, .str (o "=0F") 430, .str (o "=10") 434, .str (o "=11") 438, .str (o "=12") 442, .str (o "=13") 446, .str (o "=14") 450, .str (o "=15") 454, .str (o "=16") 458, .str (o "=17") 462, .str (o "=18") 466, .str (o "=19") 470, .str (o "=1A") 474, .str (o "=1B") 478, .str (o "=1C") 482, .str (o "=1D") 486, .str (o "=1E") 490, .str (o "=1F") 494, .str (o "_") 1612, .str (o "!") 1416, .str (o "=22") 506, .str (o "=23") 510, .str (o "=24") 514, .str (o "=25") 518, .str (o "=26") 522, .str (o "=27") 526, .str (o "=28") 530, .str (o "=29") 534, .str (o "*") 1419, .str (o "+") 1422, .str (o "=2C") 546, .str (o "-") 1413, .str (o "=2E") 554, .str (o "/") 1425, .str (o "0") 1584, .str (o "1") 1587, .str (o "2") 1590, .str (o "3") 1593, .str (o "4") 1596, .str (o "5") 1599, .str (o "6") 1602, .str (o "7") 1605, .str (o "8") 1608, .str (o "9") 1611, .str (o "=3A") 602, .str (o "=3B") 606, .str (o "=3C") 610, .str (o "=3D") 614, .str (o "=3E") 618, .str (o "=3F") 622, .str (o "=40") 626, .str (o "A") 1506, .str (o "B") 1509, .str (o "C") 1512, .str (o "D") 1515, .str (o "E") 1518, .str (o "F") 1521, .str (o "G") 1524, .str (o "H") 1527, .str (o "I") 1530, .str (o "J") 1533, .str (o "K") 1536, .str (o "L") 1539, .str (o "M") 1542, .str (o "N") 1545, .str (o "O") 1548, .str (o "P") 1551, .str (o "Q") 1554, .str (o "R") 1557, .str (o "S") 1560, .str (o "T") 1563, .str (o "U") 1566, .str (o "V") 1569, .str (o "W") 1572, .str (o "X") 1575, .str (o "Y") 1578, .str (o "Z") 1581, .str (o "=5B") 734, .str (o "=5C") 738, .str (o "=5D") 742, .str (o "=5E") 746, .str (o "=5F") 750, .str (o "=60") 754, .str (o "a") 1428, .str (o "b") 1431, .str (o "c") 1434, .str (o "d") 1437, .str (o "e") 1440, .str (o "f") 1443, .str (o "g") 1446, .str (o "h") 1449, .str (o "i") 1452, .str (o "j") 1455, .str (o "k") 1458, .str (o "l") 1461, .str (o "m") 1464, .str (o "n") 1467, .str (o "o") 1470, .str (o "p") 1473, .str (o "q") 1476, .str (o "r") 1479, .str (o "s") 1482, .str (o "t") 1485, .str (o "u") 1488, .str (o "v") 1491, .str (o "w") 1494, .str (o "x") 1497, .str (o "y") 1500, .str (o "z") 1503, .str (o "=7B") 862, .str (o "=7C") 866, .str (o "=7D") 870, .str (o "=7E") 874, .str (o "=7F") 878, .str (o "=80") 882, .str (o "=81") 886, .str (o "=82") 890, .str (o "=83") 894, .str (o "=84") 898, .str (o "=85") 902, .str (o "=86") 906, .str (o "=87") 910, .str (o "=88") 914, .str (o "=89") 918, .str (o "=8A") 922, .str (o "=8B") 926, .str (o "=8C") 930, .str (o "=8D") 934, .str (o "=8E") 938, .str (o "=8F") 942, .str (o "=90") 946, .str (o "=91") 950, .str (o "=92") 954, .str (o "=93") 958, .str (o "=94") 962, .str (o "=95") 966, .str (o "=96") 970, .str (o "=97") 974, .str (o "=98") 978, .str (o "=99") 982, .str (o "=9A") 986, .str (o "=9B") 990, .str (o "=9C") 994, .str (o "=9D") 998, .str (o "=9E") 1002, .str (o "=9F") 1006, .str (o "=A0") 1010, .str (o "=A1") 1014, .str (o "=A2") 1018, .str (o "=A3") 1022, .str (o "=A4") 1026, .str (o "=A5") 1030, .str (o "=A6") 1034, .str (o "=A7") 1038, .str (o "=A8") 1042, .str (o "=A9") 1046, .str (o "=AA") 1050, .str (o "=AB") 1054, .str (o "=AC") 1058, .str (o "=AD") 1062, .str (o "=AE") 1066, .str (o "=AF") 1070, .str (o "=B0") 1074, .str (o "=B1") 1078, .str (o "=B2") 1082, .str (o "=B3") 1086, .str (o "=B4") 1090, .str (o "=B5") 1094, .str (o "=B6") 1098, .str (o "=B7") 1102, .str (o "=B8") 1106, .str (o "=B9") 1110, .str (o "=BA") 1114, .str (o "=BB") 1118, .str (o "=BC") 1122, .str (o "=BD") 1126, .str (o "=BE") 1130, .str (o "=BF") 1134, .str (o "=C0") 1138, .str (o "=C1") 1142, .str (o "=C2") 1146, .str (o "=C3") 1150, .str (o "=C4") 1154, .str (o "=C5") 1158, .str (o "=C6") 1162, .str (o "=C7") 1166, .str (o "=C8") 1170, .str (o "=C9") 1174, .str (o "=CA") 1178, .str (o "=CB") 1182, .str (o "=CC") 1186, .str (o "=CD") 1190, .str (o "=CE") 1194, .str (o "=CF") 1198, .str (o "=D0") 1202, .str (o "=D1") 1206, .str (o "=D2") 1210, .str (o "=D3") 1214, .str (o "=D4") 1218, .str (o "=D5") 1222, .str (o "=D6") 1226, .str (o "=D7") 1230, .str (o "=D8") 1234, .str (o "=D9") 1238, .str (o "=DA") 1242, .str (o "=DB") 1246, .str (o "=DC") 1250, .str (o "=DD") 1254, .str (o "=DE") 1258, .str (o "=DF") 1262, .str (o "=E0") 1266, .str (o "=E1") 1270, .str (o "=E2") 1274, .str (o "=E3") 1278, .str (o "=E4") 1282, .str (o "=E5") 1286, .str (o "=E6") 1290, .str (o "=E7") 1294, .str (o "=E8") 1298, .str (o "=E9") 1302, .str (o "=EA") 1306, .str (o "=EB") 1310, .str (o "=EC") 1314, .str (o "=ED") 1318, .str (o "=EE") 1322, .str (o "=EF") 1326, .str (o "=F0") 1330, .str (o "=F1") 1334, .str (o "=F2") 1338, .str (o "=F3") 1342, .str (o "=F4") 1346, .str (o "=F5") 1350, .str (o "=F6") 1354, .str (o "=F7") 1358, .str (o "=F8") 1362, .str (o "=F9") 1366, .str (o "=FA") 1370, .str (o "=FB") 1374, .str (o "=FC") 1378, .str (o "=FD") 1382, .str (o "=FE") 1386, .str (o "=FF") 1390]⟩ 0) ⟨[]⟩
noncomputable def hd.v2 : List Value := [.str (o "=00") 370, .str (o "=01") 374, .str (o "=02") 378, .str (o "=03") 382, .str (o "=04") 386, .str (o "=05") 390, .str (o "=06") 394, .str (o "=07") 398, .str (o "=08") 402, .str (o "\x09") 1900]
noncomputable def hd.v3 : List Value := [.str (o "=0B") 414, .str (o "=0C") 418]
noncomputable def hd.v4 : List Value := [.str (o "=0E") 426, .str (o "=0F") 430, .str (o "=10") 434, .str (o "=11") 438, .str (o "=12") 442, .str (o "=13") 446, .str (o "=14") 450, .str (o "=15") 454, .str (o "=16") 458, .str (o "=17") 462, .str (o "=18") 466, .str (o "=19") 470, .str (o "=1A") 474, .str (o "=1B") 478, .str (o "=1C") 482, .str (o "=1D") 486, .str (o "=1E") 490, .str (o "=1F") 494, .str (o " ") 1618, .str (o "!") 1621, .str (o "\"") 1624, .str (o "#") 1627, .str (o "$") 1630, .str (o "%") 1633, .str (o "&") 1636, .str (o "'") 1639, .str (o "(") 1642, .str (o ")") 1645, .str (o "*") 1648, .str (o "+") 1651, .str (o ",") 1654, .str (o "-") 1657, .str (o ".") 1660, .str (o "/") 1663, .str (o "0") 1666, .str (o "1") 1669, .str (o "2") 1672, .str (o "3") 1675, .str (o "4") 1678, .str (o "5") 1681, .str (o "6") 1684, .str (o "7") 1687, .str (o "8") 1690, .str (o "9") 1693, .str (o ":") 1696, .str (o ";") 1699, .str (o "<") 1702, .str (o "=3D") 614, .str (o ">") 1705, .str (o "?") 1708, .str (o "@") 1711, .str (o "A") 1714, .str (o "B") 1717, .str (o "C") 1720, .str (o "D") 1723, .str (o "E") 1726, .str (o "F") 1729, .str (o "G") 1732, .str (o "H") 1735, .str (o "I") 1738, .str (o "J") 1741, .str (o "K") 1744, .str (o "L") 1747, .str (o "M") 1750, .str (o "N") 1753, .str (o "O") 1756, .str (o "P") 1759, .str (o "Q") 1762, .str (o "R") 1765, .str (o "S") 1768, .str (o "T") 1771, .str (o "U") 1774, .str (o "V") 1777, .str (o "W") 1780, .str (o "X") 1783, .str (o "Y") 1786, .str (o "Z") 1789, .str (o "[") 1792, .str (o "\\") 1795, .str (o "]") 1798, .str (o "^") 1801, .str (o "_") 1804, .str (o "`") 1807, .str (o "a") 1810, .str (o "b") 1813, .str (o "c") 1816, .str (o "d") 1819, .str (o "e") 1822, .str (o "f") 1825, .str (o "g") 1828, .str (o "h") 1831, .str (o "i") 1834, .str (o "j") 1837, .str (o "k") 1840, .str (o "l") 1843, .str (o "m") 1846, .str (o "n") 1849, .str (o "o") 1852, .str (o "p") 1855, .str (o "q") 1858, .str (o "r") 1861, .str (o "s") 1864, .str (o "t") 1867, .str (o "u") 1870, .str (o "v") 1873, .str (o "w") 1876, .str (o "x") 1879, .str (o "y") 1882, .str (o "z") 1885, .str (o "{") 1888, .str (o "|") 1891, .str (o "}") 1894, .str (o "~") 1897, .str (o "=7F") 878, .str (o "=80") 882, .str (o "=81") 886, .str (o "=82") 890, .str (o "=83") 894, .str (o "=84") 898, .str (o "=85") 902, .str (o "=86") 906, .str (o "=87") 910, .str (o "=88") 914, .str (o "=89") 918, .str (o "=8A") 922, .str (o "=8B") 926, .str (o "=8C") 930, .str (o "=8D") 934, .str (o "=8E") 938, .str (o "=8F") 942, .str (o "=90") 946, .str (o "=91") 950, .str (o "=92") 954, .str (o "=93") 958, .str (o "=94") 962, .str (o "=95") 966, .str (o "=96") 970, .str (o "=97") 974, .str (o "=98") 978, .str (o "=99") 982, .str (o "=9A") 986, .str (o "=9B") 990, .str (o "=9C") 994, .str (o "=9D") 998, .str (o "=9E") 1002, .str (o "=9F") 1006, .str (o "=A0") 1010, .str (o "=A1") 1014, .str (o "=A2") 1018, .str (o "=A3") 1022, .str (o "=A4") 1026, .str (o "=A5") 1030, .str (o "=A6") 1034, .str (o "=A7") 1038, .str (o "=A8") 1042, .str (o "=A9") 1046, .str (o "=AA") 1050, .str (o "=AB") 1054, .str (o "=AC") 1058, .str (o "=AD") 1062, .str (o "=AE") 1066, .str (o "=AF") 1070, .str (o "=B0") 1074, .str (o "=B1") 1078, .str (o "=B2") 1082, .str (o "=B3") 1086, .str (o "=B4") 1090, .str (o "=B5") 1094, .str (o "=B6") 1098, .str (o "=B7") 1102, .str (o "=B8") 1106, .str (o "=B9") 1110, .str (o "=BA") 1114, .str (o "=BB") 1118, .str (o "=BC") 1122, .str (o "=BD") 1126, .str (o "=BE") 1130, .str (o "=BF") 1134, .str (o "=C0") 1138, .str (o "=C1") 1142, .str (o "=C2") 1146, .str (o "=C3") 1150, .str (o "=C4") 1154, .str (o "=C5") 1158, .str (o "=C6") 1162, .str (o "=C7") 1166, .str (o "=C8") 1170, .str (o "=C9") 1174, .str (o "=CA") 1178, .str (o "=CB") 1182, .str (o "=CC") 1186, .str (o "=CD") 1190, .str (o "=CE") 1194, .str (o "=CF") 1198, .str (o "=D0") 1202, .str (o "=D1") 1206, .str (o "=D2") 1210, .str (o "=D3") 1214, .str (o "=D4") 1218, .str (o "=D5") 1222, .str (o "=D6") 1226, .str (o "=D7") 1230, .str (o "=D8") 1234, .str (o "=D9") 1238, .str (o "=DA") 1242, .str (o "=DB") 1246, .str (o "=DC") 1250, .str (o "=DD") 1254, .str (o "=DE") 1258, .str (o "=DF") 1262, .str (o "=E0") 1266, .str (o "=E1") 1270, .str (o "=E2") 1274, .str (o "=E3") 1278, .str (o "=E4") 1282, .str (o "=E5") 1286, .str (o "=E6") 1290, .str (o "=E7") 1294, .str (o "=E8") 1298, .str (o "=E9") 1302, .str (o "=EA") 1306, .str (o "=EB") 1310, .str (o "=EC") 1314, .str (o "=ED") 1318, .str (o "=EE") 1322, .str (o "=EF") 1326, .str (o "=F0") 1330, .str (o "=F1") 1334, .str (o "=F2") 1338, .str (o "=F3") 1342, .str (o "=F4") 1346, .str (o "=F5") 1350, .str (o "=F6") 1354, .str (o "=F7") 1358, .str (o "=F8") 1362, .str (o "=F9") 1366, .str (o "=FA") 1370, .str (o "=FB") 1374, .str (o "=FC") 1378, .str (o "=FD") 1382, .str (o "=FE") 1386, .str (o "=FF") 1390]
noncomputable def hd.o_135 : Params -> Obj := fun x0 => Obj.mk (.type "list") none (Data.seq ⟨hd.v2 ++ [.str (o "=0A") 410] ++ hd.v3 ++ [.str (o "=0D") 422] ++ hd.v4⟩ 0) ⟨[]⟩
noncomputable def hd.o_128 : Params -> Obj := fun x0 => Obj.mk (.type "bytes_iterator") none (Data.fields ⟨[.none, .int (67 : Int) 0]⟩) ⟨[]⟩
noncomputable def hd.o_130 : Params -> Obj := fun x0 => Obj.mk (.type "StopIteration") none (Data.fields ⟨[.ref 76, .none, .none, .none, .bool Bool.false, .none]⟩) ⟨[]⟩
noncomputable def hd.o_136 : Params -> Obj := fun x0 => Obj.mk (.type "bytes_iterator") none (Data.fields ⟨[.none, .int (95 : Int) 0]⟩) ⟨[]⟩
noncomputable def hd.o_138 : Params -> Obj := fun x0 => Obj.mk (.type "StopIteration") none (Data.fields ⟨[.ref 79, .none, .none, .none, .bool Bool.false, .none]⟩) ⟨[]⟩
noncomputable def hd.o_141 : Params -> Obj := fun x0 => Obj.mk (.type "tuple") none (Data.seq ⟨[.str (o "s") 1904]⟩ 0) ⟨[]⟩
noncomputable def hd.o_143 : Params -> Obj := fun x0 => Obj.mk .none none (Data.func (FuncData.mk (o "unquote") (o "unquote") (fa 16) (FuncBody.stmts (fb 16)) (fs 16) 0 [] .none .none .none .none none .none .none 0)) ⟨[]⟩
noncomputable def hd.o_144 : Params -> Obj := fun x0 => Obj.mk (.type "code") none (Data.fields ⟨[.str (o "unquote") 1901, .str (o "unquote") 1902, .str (o "/claim/cut.py") 1903, .int (59 : Int) 0, .int (1 : Int) 0, .int (0 : Int) 0, .int (0 : Int) 0, .int (3 : Int) 0, .ref 81, .bool Bool.true, .int (276 : Int) 0, .ref 82, .none, .ref 83, .ref 84, .ref 85, .int (1905 : Int) 0, .int (59 : Int) 0, .str (o "/claim/cut.py") 1906]⟩) ⟨[]⟩
noncomputable def hd.o_145 : Params -> Obj := fun x0 => Obj.mk (.type "function") none (Data.func (FuncData.mk (o "unquote") (o "unquote") (fa 16) (FuncBody.stmts (fb 16)) (fs 16) 3 [] .none .none .none (.str (o "cpy313.email.quoprimime") 1402) none (.ref 86) .none 0)) ⟨[]⟩
noncomputable def hd.o_146 : Params -> Obj := fun x0 => Obj.mk (.type "tuple") none (Data.seq ⟨[.str (o "iso-8859-1") 1908]⟩ 0) ⟨[]⟩
noncomputable def hd.o_149 : Params -> Obj := fun x0 => Obj.mk (.type "tuple") none (Data.seq ⟨[.str (o "header_bytes") 1912, .str (o "charset") 1913, .str (o "encoded") 1914]⟩ 0) ⟨[]⟩
noncomputable def hd.o_151 : Params -> Obj := fun x0 => Obj.mk .none none (Data.func (FuncData.mk (o "header_encode") (o "header_encode") (fa 17) (FuncBody.stmts (fb 17)) (fs 17) 0 [] .none .none .none .none none .none .none 0)) ⟨[]⟩
noncomputable def hd.o_152 : Params -> Obj := fun x0 => Obj.mk (.type "code") none (Data.fields ⟨[.str (o "header_encode") 1909, .str (o "header_encode") 1910, .str (o "/claim/cut.py") 1911, .int (61 : Int) 0, .int (2 : Int) 0, .int (0 : Int) 0, .int (0 : Int) 0, .int (3 : Int) 0, .ref 89, .bool Bool.true, .int (276 : Int) 0, .ref 90, .none, .ref 91, .ref 92, .ref 93, .int (1915 : Int) 0, .int (61 : Int) 0, .str (o "/claim/cut.py") 1916]⟩) ⟨[]⟩
noncomputable def hd.o_153 : Params -> Obj := fun x0 => Obj.mk (.type "function") none (Data.func (FuncData.mk (o "header_encode") (o "header_encode") (fa 17) (FuncBody.stmts (fb 17)) (fs 17) 3 [] (.ref 88) .none .none (.str (o "cpy313.email.quoprimime") 1402) none (.ref 94) .none 0)) ⟨[]⟩
noncomputable def hd.o_155 : Params -> Obj := fun x0 => Obj.mk (.type "list") none (Data.seq ⟨hd.v2 ++ [.str (o "\x0a") 1925] ++ hd.v3 ++ [.str (o "\x0d") 1922] ++ hd.v4⟩ 0) ⟨[]⟩
noncomputable def hd.o_156 : Params -> Obj := fun x0 => Obj.mk (.type "bytes_iterator") none (Data.fields ⟨[.none, .int (2 : Int) 0]⟩) ⟨[]⟩
noncomputable def hd.o_158 : Params -> Obj := fun x0 => Obj.mk (.type "StopIteration") none (Data.fields ⟨[.ref 99, .none, .none, .none, .bool Bool.false, .none]⟩) ⟨[]⟩
noncomputable def hd.o_161 : Params -> Obj := fun x0 => Obj.mk (.type "tuple") none (Data.seq ⟨[.str (o "match") 1929, .str (o "s") 1930]⟩ 0) ⟨[]⟩
noncomputable def hd.o_163 : Params -> Obj := fun x0 => Obj.mk .none none (Data.func (FuncData.mk (o "_unquote_match") (o "_unquote_match") (fa 21) (FuncBody.stmts (fb 21)) (fs 21) 0 [] .none .none .none .none none .none .none 0)) ⟨[]⟩
noncomputable def hd.o_164 : Params -> Obj := fun x0 => Obj.mk (.type "code") none (Data.fields ⟨[.str (o "_unquote_match") 1926, .str (o "_unquote_match") 1927, .str (o "/claim/cut.py") 1928, .int (70 : Int) 0, .int (1 : Int) 0, .int (0 : Int) 0, .int (0 : Int) 0, .int (3 : Int) 0, .ref 101, .bool Bool.true, .int (276 : Int) 0, .ref 102, .none, .ref 103, .ref 104, .ref 105, .int (1931 : Int) 0, .int (70 : Int) 0, .str (o "/claim/cut.py") 1932]⟩) ⟨[]⟩
noncomputable def hd.o_165 : Params -> Obj := fun x0 => Obj.mk (.type "function") none (Data.func (FuncData.mk (o "_unquote_match") (o "_unquote_match") (fa 21) (FuncBody.stmts (fb 21)) (fs 21) 3 [] .none .none .none (.str (o "cpy313.email.quoprimime") 1402) none (.ref 106) .none 0)) ⟨[]⟩
noncomputable def hd.o_168 : Params -> Obj := fun x0 => Obj.mk (.type "tuple") none (Data.seq ⟨[.str (o "s") 1937]⟩ 0) ⟨[]⟩
noncomputable def hd.o_170 : Params -> Obj := fun x0 => Obj.mk .none none (Data.func (FuncData.mk (o "header_decode") (o "header_decode") (fa 22) (FuncBody.stmts (fb 22)) (fs 22) 0 [] .none .none .none .none none .none .none 0)) ⟨[]⟩
noncomputable def hd.o_171 : Params -> Obj := fun x0 => Obj.mk (.type "code") none (Data.fields ⟨[.str (o "header_decode") 1934, .str (o "header_decode") 1935, .str (o "/claim/cut.py") 1936, .int (73 : Int) 0, .int (1 : Int) 0, .int (0 : Int) 0, .int (0 : Int) 0, .int (3 : Int) 0, .ref 108, .bool Bool.true, .int (276 : Int) 0, .ref 109, .none, .ref 110, .ref 111, .ref 112, .int (1938 : Int) 0, .int (73 : Int) 0, .str (o "/claim/cut.py") 1939]⟩) ⟨[]⟩
noncomputable def hd.o_172 : Params -> Obj := fun x0 => Obj.mk (.type "function") none (Data.func (FuncData.mk (o "header_decode") (o "header_decode") (fa 22) (FuncBody.stmts (fb 22)) (fs 22) 3 [] .none .none .none (.str (o "cpy313.email.quoprimime") 1402) none (.ref 113) .none 0)) ⟨[]⟩
noncomputable def hd.o_175 : Params -> Obj := fun x0 => Obj.mk (.type "tuple") none (Data.seq ⟨[.str (o "l") 1946, .str (o "parsed") 1947, .str (o "elt") 1948, .str (o "k") 1949, .str (o "v") 1950]⟩ 0) ⟨[]⟩
noncomputable def hd.o_177 : Params -> Obj := fun x0 => Obj.mk .none none (Data.func (FuncData.mk (o "parse_keqv_list") (o "parse_keqv_list") (fa 24) (FuncBody.stmts (fb 24)) (fs 24) 0 [] .none .none .none .none none .none .none 0)) ⟨[]⟩
noncomputable def hd.o_178 : Params -> Obj := fun x0 => Obj.mk (.type "code") none (Data.fields ⟨[.str (o "parse_keqv_list") 1943, .str (o "parse_keqv_list") 1944, .str (o "/claim/cut.py") 1945, .int (77 : Int) 0, .int (1 : Int) 0, .int (0 : Int) 0, .int (0 : Int) 0, .int (3 : Int) 0, .ref 115, .bool Bool.true, .int (276 : Int) 0, .ref 116, .none, .ref 117, .ref 118, .ref 119, .int (1951 : Int) 0, .int (77 : Int) 0, .str (o "/claim/cut.py") 1952]⟩) ⟨[]⟩
noncomputable def hd.o_179 : Params -> Obj := fun x0 => Obj.mk (.type "function") none (Data.func (FuncData.mk (o "parse_keqv_list") (o "parse_keqv_list") (fa 24) (FuncBody.stmts (fb 24)) (fs 24) 3 [] .none .none .none (.str (o "cpy313.urllib.request") 1941) none (.ref 120) .none 0)) ⟨[]⟩
noncomputable def hd.o_182 : Params -> Obj := fun x0 => Obj.mk .none none (Data.func (FuncData.mk (o "parse_http_list") (o "parse_http_list") (fa 25) (FuncBody.stmts (fb 25)) (fs 25) 0 [] .none .none .none .none none .none .none 0)) ⟨[]⟩
noncomputable def hd.o_183 : Params -> Obj := fun x0 => Obj.mk (.type "code") none (Data.fields ⟨[.str (o "parse_http_list") 1954, .str (o "parse_http_list") 1955, .str (o "/claim/cut.py") 1956, .int (85 : Int) 0, .int (1 : Int) 0, .int (0 : Int) 0, .int (0 : Int) 0, .int (3 : Int) 0, .ref 122, .bool Bool.true, .int (276 : Int) 0, .ref 123, .none, .none, .none, .ref 124, .int (1957 : Int) 0, .int (85 : Int) 0, .str (o "/claim/cut.py") 1958]⟩) ⟨[]⟩
noncomputable def hd.o_184 : Params -> Obj := fun x0 => Obj.mk (.type "function") none (Data.func (FuncData.mk (o "parse_http_list") (o "parse_http_list") (fa 25) (FuncBody.stmts (fb 25)) (fs 25) 3 [] .none .none .none (.str (o "cpy313.urllib.request") 1941) none (.ref 125) .none 0)) ⟨[]⟩
noncomputable def hd.o_187 : Params -> Obj := fun x0 => Obj.mk (.type "tuple") none (Data.seq ⟨[.str (o "data") 1965, .str (o "width") 1966, .str (o "swapped_data") 1967, .str (o "i") 1968, .str (o "j") 1969]⟩ 0) ⟨[]⟩
noncomputable def hd.o_189 : Params -> Obj := fun x0 => Obj.mk .none none (Data.func (FuncData.mk (o "_byteswap") (o "_byteswap") (fa 27) (FuncBody.stmts (fb 27)) (fs 27) 0 [] .none .none .none .none none .none .none 0)) ⟨[]⟩
noncomputable def hd.o_190 : Params -> Obj := fun x0 => Obj.mk (.type "code") none (Data.fields ⟨[.str (o "_byteswap") 1962, .str (o "_byteswap") 1963, .str (o "/claim/cut.py") 1964, .int (113 : Int) 0, .int (2 : Int) 0, .int (0 : Int) 0, .int (0 : Int) 0, .int (3 : Int) 0, .ref 127, .bool Bool.true, .int (276 : Int) 0, .ref 128, .none, .ref 129, .ref 130, .ref 131, .int (1970 : Int) 0, .int (113 : Int) 0, .str (o "/claim/cut.py") 1971]⟩) ⟨[]⟩
noncomputable def hd.o_191 : Params -> Obj := fun x0 => Obj.mk (.type "function") none (Data.func (FuncData.mk (o "_byteswap") (o "_byteswap") (fa 27) (FuncBody.stmts (fb 27)) (fs 27) 3 [] .none .none .none (.str (o "cpy313.wave") 1960) none (.ref 132) .none 0)) ⟨[]⟩
noncomputable def hd.o_194 : Params -> Obj := fun x0 => Obj.mk (.type "tuple") none (Data.seq ⟨[.str (o "script") 1978, .str (o "cells") 1979, .str (o "k") 1980]⟩ 0) ⟨[]⟩
noncomputable def hd.o_196 : Params -> Obj := fun x0 => Obj.mk .none none (Data.func (FuncData.mk (o "_law_cells") (o "_law_cells") (fa 29) (FuncBody.stmts (fb 29)) (fs 29) 0 [] .none .none .none .none none .none .none 0)) ⟨[]⟩
noncomputable def hd.o_197 : Params -> Obj := fun x0 => Obj.mk (.type "code") none (Data.fields ⟨[.str (o "_law_cells") 1975, .str (o "_law_cells") 1976, .str (o "/claim/cut.py") 1977, .int (120 : Int) 0, .int (1 : Int) 0, .int (0 : Int) 0, .int (0 : Int) 0, .int (3 : Int) 0, .ref 134, .bool Bool.true, .int (276 : Int) 0, .ref 135, .none, .ref 136, .ref 137, .ref 138, .int (1981 : Int) 0, .int (120 : Int) 0, .str (o "/claim/cut.py") 1982]⟩) ⟨[]⟩
noncomputable def hd.o_198 : Params -> Obj := fun x0 => Obj.mk (.type "function") none (Data.func (FuncData.mk (o "_law_cells") (o "_law_cells") (fa 29) (FuncBody.stmts (fb 29)) (fs 29) 3 [] .none .none .none (.str (o "law_wv0014_01") 1973) none (.ref 139) .none 0)) ⟨[]⟩
noncomputable def hd.o_201 : Params -> Obj := fun x0 => Obj.mk (.type "tuple") none (Data.seq ⟨[.str (o "cell") 1987]⟩ 0) ⟨[]⟩
noncomputable def hd.o_203 : Params -> Obj := fun x0 => Obj.mk .none none (Data.func (FuncData.mk (o "_law_clause") (o "_law_clause") (fa 30) (FuncBody.stmts (fb 30)) (fs 30) 0 [] .none .none .none .none none .none .none 0)) ⟨[]⟩
noncomputable def hd.o_204 : Params -> Obj := fun x0 => Obj.mk (.type "code") none (Data.fields ⟨[.str (o "_law_clause") 1984, .str (o "_law_clause") 1985, .str (o "/claim/cut.py") 1986, .int (125 : Int) 0, .int (1 : Int) 0, .int (0 : Int) 0, .int (0 : Int) 0, .int (3 : Int) 0, .ref 141, .bool Bool.true, .int (276 : Int) 0, .ref 142, .none, .ref 143, .ref 144, .ref 145, .int (1988 : Int) 0, .int (125 : Int) 0, .str (o "/claim/cut.py") 1989]⟩) ⟨[]⟩
noncomputable def hd.o_205 : Params -> Obj := fun x0 => Obj.mk (.type "function") none (Data.func (FuncData.mk (o "_law_clause") (o "_law_clause") (fa 30) (FuncBody.stmts (fb 30)) (fs 30) 3 [] .none .none .none (.str (o "law_wv0014_01") 1973) none (.ref 146) .none 0)) ⟨[]⟩
noncomputable def hd.o_208 : Params -> Obj := fun x0 => Obj.mk (.type "tuple") none (Data.seq ⟨[.str (o "cells") 1994, .str (o "octets") 1995, .str (o "items") 1996, .str (o "cell") 1997, .str (o "name") 1998, .str (o "first") 1999, .str (o "second") 2000, .str (o "pair") 2001]⟩ 0) ⟨[]⟩
noncomputable def hd.o_210 : Params -> Obj := fun x0 => Obj.mk .none none (Data.func (FuncData.mk (o "_law_letter") (o "_law_letter") (fa 31) (FuncBody.stmts (fb 31)) (fs 31) 0 [] .none .none .none .none none .none .none 0)) ⟨[]⟩
noncomputable def hd.o_211 : Params -> Obj := fun x0 => Obj.mk (.type "code") none (Data.fields ⟨[.str (o "_law_letter") 1991, .str (o "_law_letter") 1992, .str (o "/claim/cut.py") 1993, .int (127 : Int) 0, .int (2 : Int) 0, .int (0 : Int) 0, .int (0 : Int) 0, .int (3 : Int) 0, .ref 148, .bool Bool.true, .int (276 : Int) 0, .ref 149, .none, .ref 150, .ref 151, .ref 152, .int (2002 : Int) 0, .int (127 : Int) 0, .str (o "/claim/cut.py") 2003]⟩) ⟨[]⟩
noncomputable def hd.o_212 : Params -> Obj := fun x0 => Obj.mk (.type "function") none (Data.func (FuncData.mk (o "_law_letter") (o "_law_letter") (fa 31) (FuncBody.stmts (fb 31)) (fs 31) 3 [] .none .none .none (.str (o "law_wv0014_01") 1973) none (.ref 153) .none 0)) ⟨[]⟩
noncomputable def hd.o_215 : Params -> Obj := fun x0 => Obj.mk (.type "tuple") none (Data.seq ⟨[.str (o "octet") 2008]⟩ 0) ⟨[]⟩
noncomputable def hd.o_217 : Params -> Obj := fun x0 => Obj.mk .none none (Data.func (FuncData.mk (o "_law_written") (o "_law_written") (fa 32) (FuncBody.stmts (fb 32)) (fs 32) 0 [] .none .none .none .none none .none .none 0)) ⟨[]⟩
noncomputable def hd.o_218 : Params -> Obj := fun x0 => Obj.mk (.type "code") none (Data.fields ⟨[.str (o "_law_written") 2005, .str (o "_law_written") 2006, .str (o "/claim/cut.py") 2007, .int (137 : Int) 0, .int (1 : Int) 0, .int (0 : Int) 0, .int (0 : Int) 0, .int (3 : Int) 0, .ref 155, .bool Bool.true, .int (276 : Int) 0, .ref 156, .none, .ref 157, .ref 158, .ref 159, .int (2009 : Int) 0, .int (137 : Int) 0, .str (o "/claim/cut.py") 2010]⟩) ⟨[]⟩
noncomputable def hd.o_219 : Params -> Obj := fun x0 => Obj.mk (.type "function") none (Data.func (FuncData.mk (o "_law_written") (o "_law_written") (fa 32) (FuncBody.stmts (fb 32)) (fs 32) 3 [] .none .none .none (.str (o "law_wv0014_01") 1973) none (.ref 160) .none 0)) ⟨[]⟩
noncomputable def hd.o_222 : Params -> Obj := fun x0 => Obj.mk (.type "tuple") none (Data.seq ⟨[.str (o "cells") 2015, .str (o "octets") 2016, .str (o "items") 2017, .str (o "cell") 2018, .str (o "name") 2019, .str (o "first") 2020, .str (o "second") 2021, .str (o "told") 2022]⟩ 0) ⟨[]⟩
noncomputable def hd.o_224 : Params -> Obj := fun x0 => Obj.mk .none none (Data.func (FuncData.mk (o "_law_items") (o "_law_items") (fa 33) (FuncBody.stmts (fb 33)) (fs 33) 0 [] .none .none .none .none none .none .none 0)) ⟨[]⟩
noncomputable def hd.o_225 : Params -> Obj := fun x0 => Obj.mk (.type "code") none (Data.fields ⟨[.str (o "_law_items") 2012, .str (o "_law_items") 2013, .str (o "/claim/cut.py") 2014, .int (143 : Int) 0, .int (2 : Int) 0, .int (0 : Int) 0, .int (0 : Int) 0, .int (3 : Int) 0, .ref 162, .bool Bool.true, .int (276 : Int) 0, .ref 163, .none, .ref 164, .ref 165, .ref 166, .int (2023 : Int) 0, .int (143 : Int) 0, .str (o "/claim/cut.py") 2024]⟩) ⟨[]⟩
noncomputable def hd.o_226 : Params -> Obj := fun x0 => Obj.mk (.type "function") none (Data.func (FuncData.mk (o "_law_items") (o "_law_items") (fa 33) (FuncBody.stmts (fb 33)) (fs 33) 3 [] .none .none .none (.str (o "law_wv0014_01") 1973) none (.ref 167) .none 0)) ⟨[]⟩
noncomputable def hd.o_229 : Params -> Obj := fun x0 => Obj.mk (.type "tuple") none (Data.seq ⟨[.str (o "words") 2029, .str (o "row") 2030, .str (o "told") 2031, .str (o "pair") 2032]⟩ 0) ⟨[]⟩
noncomputable def hd.o_231 : Params -> Obj := fun x0 => Obj.mk .none none (Data.func (FuncData.mk (o "_law_row") (o "_law_row") (fa 34) (FuncBody.stmts (fb 34)) (fs 34) 0 [] .none .none .none .none none .none .none 0)) ⟨[]⟩
noncomputable def hd.o_232 : Params -> Obj := fun x0 => Obj.mk (.type "code") none (Data.fields ⟨[.str (o "_law_row") 2026, .str (o "_law_row") 2027, .str (o "/claim/cut.py") 2028, .int (153 : Int) 0, .int (1 : Int) 0, .int (0 : Int) 0, .int (0 : Int) 0, .int (3 : Int) 0, .ref 169, .bool Bool.true, .int (276 : Int) 0, .ref 170, .none, .ref 171, .ref 172, .ref 173, .int (2033 : Int) 0, .int (153 : Int) 0, .str (o "/claim/cut.py") 2034]⟩) ⟨[]⟩
noncomputable def hd.o_233 : Params -> Obj := fun x0 => Obj.mk (.type "function") none (Data.func (FuncData.mk (o "_law_row") (o "_law_row") (fa 34) (FuncBody.stmts (fb 34)) (fs 34) 3 [] .none .none .none (.str (o "law_wv0014_01") 1973) none (.ref 174) .none 0)) ⟨[]⟩
noncomputable def hd.o_236 : Params -> Obj := fun x0 => Obj.mk .none none (Data.func (FuncData.mk (o "_law_things") (o "_law_things") (fa 35) (FuncBody.stmts (fb 35)) (fs 35) 0 [] .none .none .none .none none .none .none 0)) ⟨[]⟩
noncomputable def hd.o_237 : Params -> Obj := fun x0 => Obj.mk (.type "code") none (Data.fields ⟨[.str (o "_law_things") 2036, .str (o "_law_things") 2037, .str (o "/claim/cut.py") 2038, .int (159 : Int) 0, .int (3 : Int) 0, .int (0 : Int) 0, .int (0 : Int) 0, .int (3 : Int) 0, .ref 176, .bool Bool.true, .int (276 : Int) 0, .ref 177, .none, .none, .none, .ref 178, .int (2039 : Int) 0, .int (159 : Int) 0, .str (o "/claim/cut.py") 2040]⟩) ⟨[]⟩
noncomputable def hd.o_238 : Params -> Obj := fun x0 => Obj.mk (.type "function") none (Data.func (FuncData.mk (o "_law_things") (o "_law_things") (fa 35) (FuncBody.stmts (fb 35)) (fs 35) 3 [] .none .none .none (.str (o "law_wv0014_01") 1973) none (.ref 179) .none 0)) ⟨[]⟩
noncomputable def hd.o_241 : Params -> Obj := fun x0 => Obj.mk .none none (Data.func (FuncData.mk (o "_law_found") (o "_law_found") (fa 36) (FuncBody.stmts (fb 36)) (fs 36) 0 [] .none .none .none .none none .none .none 0)) ⟨[]⟩
noncomputable def hd.o_242 : Params -> Obj := fun x0 => Obj.mk (.type "code") none (Data.fields ⟨[.str (o "_law_found") 2042, .str (o "_law_found") 2043, .str (o "/claim/cut.py") 2044, .int (170 : Int) 0, .int (2 : Int) 0, .int (0 : Int) 0, .int (0 : Int) 0, .int (3 : Int) 0, .ref 181, .bool Bool.true, .int (276 : Int) 0, .ref 182, .none, .none, .none, .ref 183, .int (2045 : Int) 0, .int (170 : Int) 0, .str (o "/claim/cut.py") 2046]⟩) ⟨[]⟩
noncomputable def hd.o_243 : Params -> Obj := fun x0 => Obj.mk (.type "function") none (Data.func (FuncData.mk (o "_law_found") (o "_law_found") (fa 36) (FuncBody.stmts (fb 36)) (fs 36) 3 [] .none .none .none (.str (o "law_wv0014_01") 1973) none (.ref 184) .none 0)) ⟨[]⟩
noncomputable def hd.o_246 : Params -> Obj := fun x0 => Obj.mk (.type "tuple") none (Data.seq ⟨[.str (o "start") 2051, .str (o "steps") 2052, .str (o "reached") 2053, .str (o "k") 2054, .str (o "further") 2055]⟩ 0) ⟨[]⟩
noncomputable def hd.o_248 : Params -> Obj := fun x0 => Obj.mk .none none (Data.func (FuncData.mk (o "_law_reach") (o "_law_reach") (fa 37) (FuncBody.stmts (fb 37)) (fs 37) 0 [] .none .none .none .none none .none .none 0)) ⟨[]⟩
noncomputable def hd.o_249 : Params -> Obj := fun x0 => Obj.mk (.type "code") none (Data.fields ⟨[.str (o "_law_reach") 2048, .str (o "_law_reach") 2049, .str (o "/claim/cut.py") 2050, .int (172 : Int) 0, .int (2 : Int) 0, .int (0 : Int) 0, .int (0 : Int) 0, .int (3 : Int) 0, .ref 186, .bool Bool.true, .int (276 : Int) 0, .ref 187, .none, .ref 188, .ref 189, .ref 190, .int (2056 : Int) 0, .int (172 : Int) 0, .str (o "/claim/cut.py") 2057]⟩) ⟨[]⟩
noncomputable def hd.o_250 : Params -> Obj := fun x0 => Obj.mk (.type "function") none (Data.func (FuncData.mk (o "_law_reach") (o "_law_reach") (fa 37) (FuncBody.stmts (fb 37)) (fs 37) 3 [] .none .none .none (.str (o "law_wv0014_01") 1973) none (.ref 191) .none 0)) ⟨[]⟩
noncomputable def hd.o_253 : Params -> Obj := fun x0 => Obj.mk (.type "tuple") none (Data.seq ⟨[.str (o "choice") 2062, .str (o "literal") 2063]⟩ 0) ⟨[]⟩
noncomputable def hd.o_255 : Params -> Obj := fun x0 => Obj.mk .none none (Data.func (FuncData.mk (o "_law_holds") (o "_law_holds") (fa 38) (FuncBody.stmts (fb 38)) (fs 38) 0 [] .none .none .none .none none .none .none 0)) ⟨[]⟩
noncomputable def hd.o_256 : Params -> Obj := fun x0 => Obj.mk (.type "code") none (Data.fields ⟨[.str (o "_law_holds") 2059, .str (o "_law_holds") 2060, .str (o "/claim/cut.py") 2061, .int (181 : Int) 0, .int (2 : Int) 0, .int (0 : Int) 0, .int (0 : Int) 0, .int (3 : Int) 0, .ref 193, .bool Bool.true, .int (276 : Int) 0, .ref 194, .none, .ref 195, .ref 196, .ref 197, .int (2064 : Int) 0, .int (181 : Int) 0, .str (o "/claim/cut.py") 2065]⟩) ⟨[]⟩
noncomputable def hd.o_257 : Params -> Obj := fun x0 => Obj.mk (.type "function") none (Data.func (FuncData.mk (o "_law_holds") (o "_law_holds") (fa 38) (FuncBody.stmts (fb 38)) (fs 38) 3 [] .none .none .none (.str (o "law_wv0014_01") 1973) none (.ref 198) .none 0)) ⟨[]⟩
noncomputable def hd.o_260 : Params -> Obj := fun x0 => Obj.mk .none none (Data.func (FuncData.mk (o "_law_right") (o "_law_right") (fa 39) (FuncBody.stmts (fb 39)) (fs 39) 0 [] .none .none .none .none none .none .none 0)) ⟨[]⟩
noncomputable def hd.o_261 : Params -> Obj := fun x0 => Obj.mk (.type "code") none (Data.fields ⟨[.str (o "_law_right") 2067, .str (o "_law_right") 2068, .str (o "/claim/cut.py") 2069, .int (183 : Int) 0, .int (1 : Int) 0, .int (0 : Int) 0, .int (0 : Int) 0, .int (3 : Int) 0, .ref 200, .bool Bool.true, .int (276 : Int) 0, .ref 201, .none, .none, .none, .ref 202, .int (2070 : Int) 0, .int (183 : Int) 0, .str (o "/claim/cut.py") 2071]⟩) ⟨[]⟩
noncomputable def hd.o_262 : Params -> Obj := fun x0 => Obj.mk (.type "function") none (Data.func (FuncData.mk (o "_law_right") (o "_law_right") (fa 39) (FuncBody.stmts (fb 39)) (fs 39) 3 [] .none .none .none (.str (o "law_wv0014_01") 1973) none (.ref 203) .none 0)) ⟨[]⟩
noncomputable def hd.o_265 : Params -> Obj := fun x0 => Obj.mk .none none (Data.func (FuncData.mk (o "law") (o "law") (fa 40) (FuncBody.stmts (fb 40)) (fs 40) 0 [] .none .none .none .none none .none .none 0)) ⟨[]⟩
noncomputable def hd.o_266 : Params -> Obj := fun x0 => Obj.mk (.type "code") none (Data.fields ⟨[.str (o "law") 2073, .str (o "law") 2074, .str (o "/claim/cut.py") 2075, .int (193 : Int) 0, .int (1 : Int) 0, .int (0 : Int) 0, .int (0 : Int) 0, .int (3 : Int) 0, .ref 205, .bool Bool.true, .int (276 : Int) 0, .ref 206, .none, .none, .none, .ref 207, .int (2076 : Int) 0, .int (193 : Int) 0, .str (o "/claim/cut.py") 2077]⟩) ⟨[]⟩
noncomputable def hd.o_267 : Params -> Obj := fun x0 => Obj.mk (.type "function") none (Data.func (FuncData.mk (o "law") (o "law") (fa 40) (FuncBody.stmts (fb 40)) (fs 40) 3 [] .none .none .none (.str (o "law_wv0014_01") 1973) none (.ref 208) .none 0)) ⟨[]⟩
noncomputable def hd.heap_270 : Params -> Heap := fun x0 => Heap.mk ⟨[hd.o_41 x0, hd.o_42 x0, hd.o_43 x0, hd.o_133 x0, hd.o_45 x0, hd.o_46 x0, hd.o_47 x0, hd.o_48 x0, hd.o_49 x0, hd.o_50 x0, hd.o_51 x0, hd.o_52 x0, hd.o_53 x0, hd.o_54 x0, hd.o_55 x0, hd.o_48 x0, hd.o_57 x0, hd.o_58 x0, hd.o_59 x0, hd.o_60 x0, hd.o_61 x0, hd.o_62 x0, hd.o_63 x0, hd.o_64 x0, hd.o_65 x0, hd.o_66 x0, hd.o_67 x0, hd.o_68 x0, hd.o_48 x0, hd.o_134 x0, hd.o_71 x0, hd.o_72 x0, hd.o_48 x0, hd.o_49 x0, hd.o_79 x0, hd.o_80 x0, hd.o_81 x0, hd.o_82 x0, hd.o_83 x0, hd.o_48 x0, hd.o_85 x0, hd.o_86 x0, hd.o_48 x0, hd.o_88 x0, hd.o_89 x0, hd.o_90 x0, hd.o_48 x0, hd.o_49 x0, hd.o_93 x0, hd.o_48 x0, hd.o_95 x0, hd.o_96 x0, hd.o_97 x0, hd.o_98 x0, hd.o_99 x0, hd.o_100 x0, hd.o_101 x0, hd.o_102 x0, hd.o_103 x0, hd.o_104 x0, hd.o_105 x0, hd.o_47 x0, hd.o_107 x0, hd.o_108 x0, hd.o_109 x0, hd.o_111 x0, hd.o_112 x0, hd.o_113 x0, hd.o_114 x0, hd.o_48 x0, hd.o_116 x0, hd.o_124 x0, hd.o_125 x0, hd.o_124 x0, hd.o_135 x0, hd.o_128 x0, hd.o_48 x0, hd.o_130 x0, hd.o_136 x0, hd.o_48 x0, hd.o_138 x0, hd.o_48 x0, hd.o_49 x0, hd.o_141 x0, hd.o_48 x0, hd.o_143 x0, hd.o_144 x0, hd.o_145 x0, hd.o_146 x0, hd.o_48 x0, hd.o_49 x0, hd.o_149 x0, hd.o_48 x0, hd.o_151 x0, hd.o_152 x0, hd.o_153 x0, hd.o_124 x0, hd.o_155 x0, hd.o_156 x0, hd.o_48 x0, hd.o_158 x0, hd.o_48 x0, hd.o_49 x0, hd.o_161 x0, hd.o_48 x0, hd.o_163 x0, hd.o_164 x0, hd.o_165 x0, hd.o_48 x0, hd.o_49 x0, hd.o_168 x0, hd.o_48 x0, hd.o_170 x0, hd.o_171 x0, hd.o_172 x0, hd.o_48 x0, hd.o_49 x0, hd.o_175 x0, hd.o_48 x0, hd.o_177 x0, hd.o_178 x0, hd.o_179 x0, hd.o_48 x0, hd.o_49 x0, hd.o_182 x0, hd.o_183 x0, hd.o_184 x0, hd.o_48 x0, hd.o_49 x0, hd.o_187 x0, hd.o_48 x0, hd.o_189 x0, hd.o_190 x0, hd.o_191 x0, hd.o_48 x0, hd.o_49 x0, hd.o_194 x0, hd.o_48 x0, hd.o_196 x0, hd.o_197 x0, hd.o_198 x0, hd.o_48 x0, hd.o_49 x0, hd.o_201 x0, hd.o_48 x0, hd.o_203 x0, hd.o_204 x0, hd.o_205 x0, hd.o_48 x0, hd.o_49 x0, hd.o_208 x0, hd.o_48 x0, hd.o_210 x0, hd.o_211 x0, hd.o_212 x0, hd.o_48 x0, hd.o_49 x0, hd.o_215 x0, hd.o_48 x0, hd.o_217 x0, hd.o_218 x0, hd.o_219 x0, hd.o_48 x0, hd.o_49 x0, hd.o_222 x0, hd.o_48 x0, hd.o_224 x0, hd.o_225 x0, hd.o_226 x0, hd.o_48 x0, hd.o_49 x0, hd.o_229 x0, hd.o_48 x0, hd.o_231 x0, hd.o_232 x0, hd.o_233 x0, hd.o_48 x0, hd.o_49 x0, hd.o_236 x0, hd.o_237 x0, hd.o_238 x0, hd.o_48 x0, hd.o_49 x0, hd.o_241 x0, hd.o_242 x0, hd.o_243 x0, hd.o_48 x0, hd.o_49 x0, hd.o_246 x0, hd.o_48 x0, hd.o_248 x0, hd.o_249 x0, hd.o_250 x0, hd.o_48 x0, hd.o_49 x0, hd.o_253 x0, hd.o_48 x0, hd.o_255 x0, hd.o_256 x0, hd.o_257 x0, hd.o_48 x0, hd.o_49 x0, hd.o_260 x0, hd.o_261 x0, hd.o_262 x0, hd.o_48 x0, hd.o_49 x0, hd.o_265 x0, hd.o_266 x0, hd.o_267 x0]⟩ hd.life
noncomputable def hd.o_284 : Params -> Obj := fun x0 => Obj.mk (.type "dict") none (Data.dict ⟨[.mk (keyHash x0 (o "__name__")) (.str (o "__name__") 247) (.str (o "_sre") 246), .mk (keyHash x0 (o "__doc__")) (.str (o "__doc__") 248) .none, .mk (keyHash x0 (o "__package__")) (.str (o "__package__") 250) (.str (o "") 249), .mk (keyHash x0 (o "__loader__")) (.str (o "__loader__") 251) (.ref 14), .mk (keyHash x0 (o "__spec__")) (.str (o "__spec__") 252) (.ref 26), .mk (keyHash x0 (o "compile")) (.str (o "compile") 253) (.builtin "_sre.compile"), .mk (keyHash x0 (o "template")) (.str (o "template") 254) (.builtin "_sre.template"), .mk (keyHash x0 (o "getcodesize")) (.str (o "getcodesize") 255) (.builtin "_sre.getcodesize"), .mk (keyHash x0 (o "ascii_iscased")) (.str (o "ascii_iscased") 256) (.builtin "_sre.ascii_iscased"), .mk (keyHash x0 (o "unicode_iscased")) (.str (o "unicode_iscased") 257) (.builtin "_sre.unicode_iscased"), .mk (keyHash x0 (o "ascii_tolower")) (.str (o "ascii_tolower") 258) (.builtin "_sre.ascii_tolower"), .mk (keyHash x0 (o "unicode_tolower")) (.str (o "unicode_tolower") 259) (.builtin "_sre.unicode_tolower"), .mk (keyHash x0 (o "MAGIC")) (.str (o "MAGIC") 261) (.int (20230612 : Int) 260), .mk (keyHash x0 (o "CODESIZE")) (.str (o "CODESIZE") 263) (.int (4 : Int) 262), .mk (keyHash x0 (o "MAXREPEAT")) (.str (o "MAXREPEAT") 265) (.int (4294967295 : Int) 264), .mk (keyHash x0 (o "MAXGROUPS")) (.str (o "MAXGROUPS") 267) (.int (1073741823 : Int) 266), .mk (keyHash x0 (o "copyright")) (.str (o "copyright") 269) (.str (o " SRE 2.2.2 Copyright (c) 1997-2002 by Secret Labs AB ") 268)]⟩ 17) ⟨[]⟩
noncomputable def hd.tree_300 : Params -> BT := fun x0 => .node (hd.o_41 x0) (.node (hd.o_42 x0) (.node (hd.o_44 x0) (.node (hd.o_48 x0) (.node (hd.o_48 x0) .nil .nil) (.node (hd.o_64 x0) .nil .nil)) (.node (hd.o_284 x0) (.node (hd.o_60 x0) .nil .nil) (.node (hd.o_68 x0) .nil .nil))) (.node (hd.o_46 x0) (.node (hd.o_50 x0) (.node (hd.o_58 x0) .nil .nil) (.node (hd.o_66 x0) .nil .nil)) (.node (hd.o_54 x0) (.node (hd.o_62 x0) .nil .nil) .nil))) (.node (hd.o_43 x0) (.node (hd.o_45 x0) (.node (hd.o_49 x0) (.node (hd.o_57 x0) .nil .nil) (.node (hd.o_65 x0) .nil .nil)) (.node (hd.o_53 x0) (.node (hd.o_61 x0) .nil .nil) .nil)) (.node (hd.o_47 x0) (.node (hd.o_51 x0) (.node (hd.o_59 x0) .nil .nil) (.node (hd.o_67 x0) .nil .nil)) (.node (hd.o_55 x0) (.node (hd.o_63 x0) .nil .nil) .nil)))
noncomputable def hd.tree_273 : (Params -> BT) := (fun x0 => .nil)
noncomputable def hd.heap_72 : Params -> Heap := fun x0 => Heap.mk ⟨[hd.o_41 x0, hd.o_42 x0, hd.o_43 x0, hd.o_44 x0, hd.o_45 x0, hd.o_46 x0, hd.o_47 x0, hd.o_48 x0, hd.o_49 x0, hd.o_50 x0, hd.o_51 x0, hd.o_52 x0, hd.o_53 x0, hd.o_54 x0, hd.o_55 x0, hd.o_48 x0, hd.o_57 x0, hd.o_58 x0, hd.o_59 x0, hd.o_60 x0, hd.o_61 x0, hd.o_62 x0, hd.o_63 x0, hd.o_64 x0, hd.o_65 x0, hd.o_66 x0, hd.o_67 x0, hd.o_68 x0, hd.o_48 x0, hd.o_49 x0, hd.o_71 x0, hd.o_72 x0]⟩ hd.life
noncomputable def hd.env_41 : Env := (Env.mk (Module.scope (Program.main hd.PP)) mainNs mainNs [] Str.empty none (.ref 30) (some (31 : Addr)) (0 : Addr))
noncomputable def hd.tree_73 : Params -> BT := fun x0 => .node (hd.o_41 x0) (.node (hd.o_42 x0) (.node (hd.o_44 x0) (.node (hd.o_48 x0) (.node (hd.o_48 x0) (.node (hd.o_72 x0) .nil .nil) .nil) (.node (hd.o_64 x0) .nil .nil)) (.node (hd.o_52 x0) (.node (hd.o_60 x0) .nil .nil) (.node (hd.o_68 x0) .nil .nil))) (.node (hd.o_46 x0) (.node (hd.o_50 x0) (.node (hd.o_58 x0) .nil .nil) (.node (hd.o_66 x0) .nil .nil)) (.node (hd.o_54 x0) (.node (hd.o_62 x0) .nil .nil) (.node (hd.o_49 x0) .nil .nil)))) (.node (hd.o_43 x0) (.node (hd.o_45 x0) (.node (hd.o_49 x0) (.node (hd.o_57 x0) .nil .nil) (.node (hd.o_65 x0) .nil .nil)) (.node (hd.o_53 x0) (.node (hd.o_61 x0) .nil .nil) (.node (hd.o_48 x0) .nil .nil))) (.node (hd.o_47 x0) (.node (hd.o_51 x0) (.node (hd.o_59 x0) .nil .nil) (.node (hd.o_67 x0) .nil .nil)) (.node (hd.o_55 x0) (.node (hd.o_63 x0) .nil .nil) (.node (hd.o_71 x0) .nil .nil))))
noncomputable def hd.o_75 : Params -> Obj := fun x0 => Obj.mk (.type "dict") none (Data.dict ⟨[.mk (keyHash x0 (o "__name__")) (.str (o "__name__") 165) (.str (o "cpy313.xml.etree.ElementPath") 282), .mk (keyHash x0 (o "__doc__")) (.str (o "__doc__") 166) .none, .mk (keyHash x0 (o "__package__")) (.str (o "__package__") 167) .none, .mk (keyHash x0 (o "__loader__")) (.str (o "__loader__") 168) (.builtin "__main__.__loader__#opaque"), .mk (keyHash x0 (o "__spec__")) (.str (o "__spec__") 169) .none, .mk (keyHash x0 (o "__annotations__")) (.str (o "__annotations__") 170) (.ref 6), .mk (keyHash x0 (o "__builtins__")) (.str (o "__builtins__") 171) (.ref 4), .mk (keyHash x0 (o "__file__")) (.str (o "__file__") 173) (.str (o "/claim/cut.py") 172), .mk (keyHash x0 (o "__cached__")) (.str (o "__cached__") 174) .none, .mk (keyHash x0 (o "_sre")) (.str (o "_sre") 275) (.ref 12), .mk (keyHash x0 (o "_prepare_tag")) (.str (o "_prepare_tag") 298) (.ref 38), .mk (keyHash x0 (o "_SelectorContext")) (.str (o "_SelectorContext") 328) (.ref 55), .mk (keyHash x0 (o "_twin_re_1")) (.str (o "_twin_re_1") 363) (.ref 64)]⟩ 13) ⟨[]⟩
noncomputable def hd.o_76 : Params -> Obj := fun x0 => Obj.mk .none none (Data.fields ⟨[.int (3 : Int) 0, .int (0 : Int) 0, .ref 37, .int (40 : Int) 0, .int (0 : Int) 0, .ref 44]⟩) ⟨[]⟩
noncomputable def hd.tree_109 : Params -> BT := fun x0 => .node (hd.o_41 x0) (.node (hd.o_42 x0) (.node (hd.o_75 x0) (.node (hd.o_48 x0) (.node (hd.o_48 x0) (.node (hd.o_72 x0) (.node (hd.o_108 x0) .nil .nil) .nil) (.node (hd.o_49 x0) .nil .nil)) (.node (hd.o_64 x0) (.node (hd.o_48 x0) .nil .nil) (.node (hd.o_100 x0) .nil .nil))) (.node (hd.o_52 x0) (.node (hd.o_60 x0) (.node (hd.o_80 x0) .nil .nil) (.node (hd.o_96 x0) .nil .nil)) (.node (hd.o_68 x0) (.node (hd.o_88 x0) .nil .nil) (.node (hd.o_104 x0) .nil .nil)))) (.node (hd.o_46 x0) (.node (hd.o_50 x0) (.node (hd.o_58 x0) (.node (hd.o_49 x0) .nil .nil) (.node (hd.o_48 x0) .nil .nil)) (.node (hd.o_66 x0) (.node (hd.o_86 x0) .nil .nil) (.node (hd.o_102 x0) .nil .nil))) (.node (hd.o_54 x0) (.node (hd.o_62 x0) (.node (hd.o_82 x0) .nil .nil) (.node (hd.o_98 x0) .nil .nil)) (.node (hd.o_76 x0) (.node (hd.o_90 x0) .nil .nil) (.node (hd.o_47 x0) .nil .nil))))) (.node (hd.o_43 x0) (.node (hd.o_45 x0) (.node (hd.o_49 x0) (.node (hd.o_57 x0) (.node (hd.o_48 x0) (.node (hd.o_109 x0) .nil .nil) .nil) (.node (hd.o_93 x0) .nil .nil)) (.node (hd.o_65 x0) (.node (hd.o_85 x0) .nil .nil) (.node (hd.o_101 x0) .nil .nil))) (.node (hd.o_53 x0) (.node (hd.o_61 x0) (.node (hd.o_81 x0) .nil .nil) (.node (hd.o_97 x0) .nil .nil)) (.node (hd.o_48 x0) (.node (hd.o_89 x0) .nil .nil) (.node (hd.o_105 x0) .nil .nil)))) (.node (hd.o_47 x0) (.node (hd.o_51 x0) (.node (hd.o_59 x0) (.node (hd.o_79 x0) .nil .nil) (.node (hd.o_95 x0) .nil .nil)) (.node (hd.o_67 x0) (.node (hd.o_48 x0) .nil .nil) (.node (hd.o_103 x0) .nil .nil))) (.node (hd.o_55 x0) (.node (hd.o_63 x0) (.node (hd.o_83 x0) .nil .nil) (.node (hd.o_99 x0) .nil .nil)) (.node (hd.o_71 x0) (.node (hd.o_48 x0) .nil .nil) (.node (hd.o_107 x0) .nil .nil)))))
noncomputable def hd.sts_75 : (List Stmt) := [st 1, st 2, st 3, st 4]
noncomputable def hd.sts_110 : (List Stmt) := [st 5]
noncomputable def hd.sts_123 : (List Stmt) := [st 6, st 7, st 8, st 9, st 10, st 11, st 12, st 13, st 14]
noncomputable def hd.sts_133 : (List Stmt) := [st 15, st 16, st 17, st 18, st 19, st 20, st 21, st 22, st 23, st 24, st 25, st 26, st 27, st 28, st 29, st 30, st 31, st 32, st 33, st 34, st 35, st 36, st 37, st 38, st 39, st 40]
noncomputable def hd.o_110 : Params -> Obj := fun x0 => Obj.mk (.type "dict") none (Data.dict ⟨[.mk (keyHash x0 (o "__name__")) (.str (o "__name__") 165) (.str (o "cpy313.xml.etree.ElementPath") 282), .mk (keyHash x0 (o "__doc__")) (.str (o "__doc__") 166) .none, .mk (keyHash x0 (o "__package__")) (.str (o "__package__") 167) .none, .mk (keyHash x0 (o "__loader__")) (.str (o "__loader__") 168) (.builtin "__main__.__loader__#opaque"), .mk (keyHash x0 (o "__spec__")) (.str (o "__spec__") 169) .none, .mk (keyHash x0 (o "__annotations__")) (.str (o "__annotations__") 170) (.ref 6), .mk (keyHash x0 (o "__builtins__")) (.str (o "__builtins__") 171) (.ref 4), .mk (keyHash x0 (o "__file__")) (.str (o "__file__") 173) (.str (o "/claim/cut.py") 172), .mk (keyHash x0 (o "__cached__")) (.str (o "__cached__") 174) .none, .mk (keyHash x0 (o "_sre")) (.str (o "_sre") 275) (.ref 12), .mk (keyHash x0 (o "_prepare_tag")) (.str (o "_prepare_tag") 298) (.ref 38), .mk (keyHash x0 (o "_SelectorContext")) (.str (o "_SelectorContext") 328) (.ref 55), .mk (keyHash x0 (o "_twin_re_1")) (.str (o "_twin_re_1") 363) (.ref 64), .mk (keyHash x0 (o "_QUOPRI_MAP")) (.str (o "_QUOPRI_MAP") 1391) (.ref 67)]⟩ 14) ⟨[]⟩
noncomputable def hd.tree_116 : Params -> BT := fun x0 => .node (hd.o_41 x0) (.node (hd.o_42 x0) (.node (hd.o_110 x0) (.node (hd.o_48 x0) (.node (hd.o_48 x0) (.node (hd.o_72 x0) (.node (hd.o_108 x0) .nil .nil) .nil) (.node (hd.o_49 x0) .nil .nil)) (.node (hd.o_64 x0) (.node (hd.o_48 x0) .nil .nil) (.node (hd.o_100 x0) .nil .nil))) (.node (hd.o_52 x0) (.node (hd.o_60 x0) (.node (hd.o_80 x0) (.node (hd.o_113 x0) .nil .nil) .nil) (.node (hd.o_96 x0) .nil .nil)) (.node (hd.o_68 x0) (.node (hd.o_88 x0) .nil .nil) (.node (hd.o_104 x0) .nil .nil)))) (.node (hd.o_46 x0) (.node (hd.o_50 x0) (.node (hd.o_58 x0) (.node (hd.o_49 x0) (.node (hd.o_111 x0) .nil .nil) .nil) (.node (hd.o_48 x0) .nil .nil)) (.node (hd.o_66 x0) (.node (hd.o_86 x0) .nil .nil) (.node (hd.o_102 x0) .nil .nil))) (.node (hd.o_54 x0) (.node (hd.o_62 x0) (.node (hd.o_82 x0) (.node (hd.o_48 x0) .nil .nil) .nil) (.node (hd.o_98 x0) .nil .nil)) (.node (hd.o_76 x0) (.node (hd.o_90 x0) .nil .nil) (.node (hd.o_47 x0) .nil .nil))))) (.node (hd.o_43 x0) (.node (hd.o_45 x0) (.node (hd.o_49 x0) (.node (hd.o_57 x0) (.node (hd.o_48 x0) (.node (hd.o_109 x0) .nil .nil) .nil) (.node (hd.o_93 x0) .nil .nil)) (.node (hd.o_65 x0) (.node (hd.o_85 x0) .nil .nil) (.node (hd.o_101 x0) .nil .nil))) (.node (hd.o_53 x0) (.node (hd.o_61 x0) (.node (hd.o_81 x0) (.node (hd.o_114 x0) .nil .nil) .nil) (.node (hd.o_97 x0) .nil .nil)) (.node (hd.o_48 x0) (.node (hd.o_89 x0) .nil .nil) (.node (hd.o_105 x0) .nil .nil)))) (.node (hd.o_47 x0) (.node (hd.o_51 x0) (.node (hd.o_59 x0) (.node (hd.o_79 x0) (.node (hd.o_112 x0) .nil .nil) .nil) (.node (hd.o_95 x0) .nil .nil)) (.node (hd.o_67 x0) (.node (hd.o_48 x0) .nil .nil) (.node (hd.o_103 x0) .nil .nil))) (.node (hd.o_55 x0) (.node (hd.o_63 x0) (.node (hd.o_83 x0) (.node (hd.o_116 x0) .nil .nil) .nil) (.node (hd.o_99 x0) .nil .nil)) (.node (hd.o_71 x0) (.node (hd.o_48 x0) .nil .nil) (.node (hd.o_107 x0) .nil .nil)))))
noncomputable def hd.o_123 : Params -> Obj := fun x0 => Obj.mk (.type "dict") none (Data.dict ⟨[.mk (keyHash x0 (o "__name__")) (.str (o "__name__") 165) (.str (o "cpy313.email.quoprimime") 1402), .mk (keyHash x0 (o "__doc__")) (.str (o "__doc__") 166) .none, .mk (keyHash x0 (o "__package__")) (.str (o "__package__") 167) .none, .mk (keyHash x0 (o "__loader__")) (.str (o "__loader__") 168) (.builtin "__main__.__loader__#opaque"), .mk (keyHash x0 (o "__spec__")) (.str (o "__spec__") 169) .none, .mk (keyHash x0 (o "__annotations__")) (.str (o "__annotations__") 170) (.ref 6), .mk (keyHash x0 (o "__builtins__")) (.str (o "__builtins__") 171) (.ref 4), .mk (keyHash x0 (o "__file__")) (.str (o "__file__") 173) (.str (o "/claim/cut.py") 172), .mk (keyHash x0 (o "__cached__")) (.str (o "__cached__") 174) .none, .mk (keyHash x0 (o "_sre")) (.str (o "_sre") 275) (.ref 12), .mk (keyHash x0 (o "_prepare_tag")) (.str (o "_prepare_tag") 298) (.ref 38), .mk (keyHash x0 (o "_SelectorContext")) (.str (o "_SelectorContext") 328) (.ref 55), .mk (keyHash x0 (o "_twin_re_1")) (.str (o "_twin_re_1") 363) (.ref 64), .mk (keyHash x0 (o "_QUOPRI_MAP")) (.str (o "_QUOPRI_MAP") 1391) (.ref 67), .mk (keyHash x0 (o "_QUOPRI_HEADER_MAP")) (.str (o "_QUOPRI_HEADER_MAP") 1392) (.ref 72), .mk (keyHash x0 (o "_QUOPRI_BODY_MAP")) (.str (o "_QUOPRI_BODY_MAP") 1393) (.ref 74), .mk (keyHash x0 (o "ascii_lowercase")) (.str (o "ascii_lowercase") 1395) (.str (o "abcdefghijklmnopqrstuvwxyz") 1394), .mk (keyHash x0 (o "ascii_uppercase")) (.str (o "ascii_uppercase") 1397) (.str (o "ABCDEFGHIJKLMNOPQRSTUVWXYZ") 1396), .mk (keyHash x0 (o "ascii_letters")) (.str (o "ascii_letters") 1399) (.str (o "abcdefghijklmnopqrstuvwxyzABCDEFGHIJKLMNOPQRSTUVWXYZ") 1398), .mk (keyHash x0 (o "digits")) (.str (o "digits") 1401) (.str (o "0123456789") 1400), .mk (keyHash x0 (o "c")) (.str (o "c") 1412) (.int (57 : Int) 1609)]⟩ 21) ⟨[]⟩
noncomputable def hd.o_127 : Params -> Obj := fun x0 => Obj.mk (.type "list") none (Data.seq ⟨hd.v1⟩ 0) ⟨[]⟩
noncomputable def hd.tree_130 : Params -> BT := fun x0 => .node (hd.o_41 x0) (.node (hd.o_42 x0) (.node (hd.o_123 x0) (.node (hd.o_48 x0) (.node (hd.o_48 x0) (.node (hd.o_72 x0) (.node (hd.o_108 x0) .nil .nil) .nil) (.node (hd.o_49 x0) .nil .nil)) (.node (hd.o_64 x0) (.node (hd.o_48 x0) (.node (hd.o_124 x0) .nil .nil) .nil) (.node (hd.o_100 x0) .nil .nil))) (.node (hd.o_52 x0) (.node (hd.o_60 x0) (.node (hd.o_80 x0) (.node (hd.o_113 x0) .nil .nil) .nil) (.node (hd.o_96 x0) .nil .nil)) (.node (hd.o_68 x0) (.node (hd.o_88 x0) (.node (hd.o_128 x0) .nil .nil) .nil) (.node (hd.o_104 x0) .nil .nil)))) (.node (hd.o_46 x0) (.node (hd.o_50 x0) (.node (hd.o_58 x0) (.node (hd.o_49 x0) (.node (hd.o_111 x0) .nil .nil) .nil) (.node (hd.o_48 x0) .nil .nil)) (.node (hd.o_66 x0) (.node (hd.o_86 x0) (.node (hd.o_124 x0) .nil .nil) .nil) (.node (hd.o_102 x0) .nil .nil))) (.node (hd.o_54 x0) (.node (hd.o_62 x0) (.node (hd.o_82 x0) (.node (hd.o_48 x0) .nil .nil) .nil) (.node (hd.o_98 x0) .nil .nil)) (.node (hd.o_76 x0) (.node (hd.o_90 x0) (.node (hd.o_130 x0) .nil .nil) .nil) (.node (hd.o_47 x0) .nil .nil))))) (.node (hd.o_43 x0) (.node (hd.o_45 x0) (.node (hd.o_49 x0) (.node (hd.o_57 x0) (.node (hd.o_48 x0) (.node (hd.o_109 x0) .nil .nil) .nil) (.node (hd.o_93 x0) .nil .nil)) (.node (hd.o_65 x0) (.node (hd.o_85 x0) (.node (hd.o_125 x0) .nil .nil) .nil) (.node (hd.o_101 x0) .nil .nil))) (.node (hd.o_53 x0) (.node (hd.o_61 x0) (.node (hd.o_81 x0) (.node (hd.o_114 x0) .nil .nil) .nil) (.node (hd.o_97 x0) .nil .nil)) (.node (hd.o_48 x0) (.node (hd.o_89 x0) (.node (hd.o_48 x0) .nil .nil) .nil) (.node (hd.o_105 x0) .nil .nil)))) (.node (hd.o_47 x0) (.node (hd.o_51 x0) (.node (hd.o_59 x0) (.node (hd.o_79 x0) (.node (hd.o_112 x0) .nil .nil) .nil) (.node (hd.o_95 x0) .nil .nil)) (.node (hd.o_67 x0) (.node (hd.o_48 x0) (.node (hd.o_127 x0) .nil .nil) .nil) (.node (hd.o_103 x0) .nil .nil))) (.node (hd.o_55 x0) (.node (hd.o_63 x0) (.node (hd.o_83 x0) (.node (hd.o_116 x0) .nil .nil) .nil) (.node (hd.o_99 x0) .nil .nil)) (.node (hd.o_71 x0) (.node (hd.o_48 x0) .nil .nil) (.node (hd.o_107 x0) .nil .nil)))))
noncomputable def hd.tree_267 : Params -> BT := fun x0 => .node (hd.o_41 x0) (.node (hd.o_42 x0) (.node (hd.o_133 x0) (.node (hd.o_48 x0) (.node (hd.o_48 x0) (.node (hd.o_72 x0) (.node (hd.o_108 x0) (.node (hd.o_48 x0) .nil .nil) (.node (hd.o_249 x0) .nil .nil)) (.node (hd.o_153 x0) (.node (hd.o_217 x0) .nil .nil) .nil)) (.node (hd.o_49 x0) (.node (hd.o_48 x0) (.node (hd.o_201 x0) .nil .nil) (.node (hd.o_265 x0) .nil .nil)) (.node (hd.o_48 x0) (.node (hd.o_233 x0) .nil .nil) .nil))) (.node (hd.o_64 x0) (.node (hd.o_48 x0) (.node (hd.o_124 x0) (.node (hd.o_49 x0) .nil .nil) (.node (hd.o_257 x0) .nil .nil)) (.node (hd.o_161 x0) (.node (hd.o_225 x0) .nil .nil) .nil)) (.node (hd.o_100 x0) (.node (hd.o_145 x0) (.node (hd.o_48 x0) .nil .nil) .nil) (.node (hd.o_177 x0) (.node (hd.o_241 x0) .nil .nil) .nil)))) (.node (hd.o_52 x0) (.node (hd.o_60 x0) (.node (hd.o_80 x0) (.node (hd.o_113 x0) (.node (hd.o_189 x0) .nil .nil) (.node (hd.o_253 x0) .nil .nil)) (.node (hd.o_48 x0) (.node (hd.o_49 x0) .nil .nil) .nil)) (.node (hd.o_96 x0) (.node (hd.o_141 x0) (.node (hd.o_205 x0) .nil .nil) .nil) (.node (hd.o_48 x0) (.node (hd.o_237 x0) .nil .nil) .nil))) (.node (hd.o_68 x0) (.node (hd.o_88 x0) (.node (hd.o_128 x0) (.node (hd.o_197 x0) .nil .nil) (.node (hd.o_261 x0) .nil .nil)) (.node (hd.o_165 x0) (.node (hd.o_229 x0) .nil .nil) .nil)) (.node (hd.o_104 x0) (.node (hd.o_149 x0) (.node (hd.o_48 x0) .nil .nil) .nil) (.node (hd.o_49 x0) (.node (hd.o_49 x0) .nil .nil) .nil))))) (.node (hd.o_46 x0) (.node (hd.o_50 x0) (.node (hd.o_58 x0) (.node (hd.o_49 x0) (.node (hd.o_111 x0) (.node (hd.o_187 x0) .nil .nil) (.node (hd.o_48 x0) .nil .nil)) (.node (hd.o_155 x0) (.node (hd.o_219 x0) .nil .nil) .nil)) (.node (hd.o_48 x0) (.node (hd.o_48 x0) (.node (hd.o_203 x0) .nil .nil) (.node (hd.o_267 x0) .nil .nil)) (.node (hd.o_171 x0) (.node (hd.o_49 x0) .nil .nil) .nil))) (.node (hd.o_66 x0) (.node (hd.o_86 x0) (.node (hd.o_124 x0) (.node (hd.o_48 x0) .nil .nil) (.node (hd.o_49 x0) .nil .nil)) (.node (hd.o_163 x0) (.node (hd.o_48 x0) .nil .nil) .nil)) (.node (hd.o_102 x0) (.node (hd.o_48 x0) (.node (hd.o_211 x0) .nil .nil) .nil) (.node (hd.o_179 x0) (.node (hd.o_243 x0) .nil .nil) .nil)))) (.node (hd.o_54 x0) (.node (hd.o_62 x0) (.node (hd.o_82 x0) (.node (hd.o_48 x0) (.node (hd.o_191 x0) .nil .nil) (.node (hd.o_255 x0) .nil .nil)) (.node (hd.o_48 x0) (.node (hd.o_48 x0) .nil .nil) .nil)) (.node (hd.o_98 x0) (.node (hd.o_143 x0) (.node (hd.o_49 x0) .nil .nil) .nil) (.node (hd.o_175 x0) (.node (hd.o_48 x0) .nil .nil) .nil))) (.node (hd.o_134 x0) (.node (hd.o_90 x0) (.node (hd.o_130 x0) (.node (hd.o_48 x0) .nil .nil) (.node (hd.o_48 x0) .nil .nil)) (.node (hd.o_49 x0) (.node (hd.o_231 x0) .nil .nil) .nil)) (.node (hd.o_47 x0) (.node (hd.o_151 x0) (.node (hd.o_215 x0) .nil .nil) .nil) (.node (hd.o_183 x0) (.node (hd.o_48 x0) .nil .nil) .nil)))))) (.node (hd.o_43 x0) (.node (hd.o_45 x0) (.node (hd.o_49 x0) (.node (hd.o_57 x0) (.node (hd.o_48 x0) (.node (hd.o_109 x0) (.node (hd.o_49 x0) .nil .nil) (.node (hd.o_250 x0) .nil .nil)) (.node (hd.o_124 x0) (.node (hd.o_218 x0) .nil .nil) .nil)) (.node (hd.o_93 x0) (.node (hd.o_138 x0) (.node (hd.o_48 x0) .nil .nil) (.node (hd.o_266 x0) .nil .nil)) (.node (hd.o_170 x0) (.node (hd.o_48 x0) .nil .nil) .nil))) (.node (hd.o_65 x0) (.node (hd.o_85 x0) (.node (hd.o_125 x0) (.node (hd.o_194 x0) .nil .nil) (.node (hd.o_48 x0) .nil .nil)) (.node (hd.o_48 x0) (.node (hd.o_226 x0) .nil .nil) .nil)) (.node (hd.o_101 x0) (.node (hd.o_146 x0) (.node (hd.o_210 x0) .nil .nil) .nil) (.node (hd.o_178 x0) (.node (hd.o_242 x0) .nil .nil) .nil)))) (.node (hd.o_53 x0) (.node (hd.o_61 x0) (.node (hd.o_81 x0) (.node (hd.o_114 x0) (.node (hd.o_190 x0) .nil .nil) (.node (hd.o_48 x0) .nil .nil)) (.node (hd.o_158 x0) (.node (hd.o_222 x0) .nil .nil) .nil)) (.node (hd.o_97 x0) (.node (hd.o_48 x0) (.node (hd.o_48 x0) .nil .nil) .nil) (.node (hd.o_49 x0) (.node (hd.o_238 x0) .nil .nil) .nil))) (.node (hd.o_48 x0) (.node (hd.o_89 x0) (.node (hd.o_48 x0) (.node (hd.o_198 x0) .nil .nil) (.node (hd.o_262 x0) .nil .nil)) (.node (hd.o_48 x0) (.node (hd.o_48 x0) .nil .nil) .nil)) (.node (hd.o_105 x0) (.node (hd.o_48 x0) (.node (hd.o_49 x0) .nil .nil) .nil) (.node (hd.o_182 x0) (.node (hd.o_246 x0) .nil .nil) .nil))))) (.node (hd.o_47 x0) (.node (hd.o_51 x0) (.node (hd.o_59 x0) (.node (hd.o_79 x0) (.node (hd.o_112 x0) (.node (hd.o_48 x0) .nil .nil) (.node (hd.o_49 x0) .nil .nil)) (.node (hd.o_156 x0) (.node (hd.o_48 x0) .nil .nil) .nil)) (.node (hd.o_95 x0) (.node (hd.o_49 x0) (.node (hd.o_204 x0) .nil .nil) .nil) (.node (hd.o_172 x0) (.node (hd.o_236 x0) .nil .nil) .nil))) (.node (hd.o_67 x0) (.node (hd.o_48 x0) (.node (hd.o_135 x0) (.node (hd.o_196 x0) .nil .nil) (.node (hd.o_260 x0) .nil .nil)) (.node (hd.o_164 x0) (.node (hd.o_49 x0) .nil .nil) .nil)) (.node (hd.o_103 x0) (.node (hd.o_49 x0) (.node (hd.o_212 x0) .nil .nil) .nil) (.node (hd.o_48 x0) (.node (hd.o_48 x0) .nil .nil) .nil)))) (.node (hd.o_55 x0) (.node (hd.o_63 x0) (.node (hd.o_83 x0) (.node (hd.o_116 x0) (.node (hd.o_48 x0) .nil .nil) (.node (hd.o_256 x0) .nil .nil)) (.node (hd.o_49 x0) (.node (hd.o_224 x0) .nil .nil) .nil)) (.node (hd.o_99 x0) (.node (hd.o_144 x0) (.node (hd.o_208 x0) .nil .nil) .nil) (.node (hd.o_48 x0) (.node (hd.o_49 x0) .nil .nil) .nil))) (.node (hd.o_71 x0) (.node (hd.o_48 x0) (.node (hd.o_136 x0) (.node (hd.o_49 x0) .nil .nil) (.node (hd.o_49 x0) .nil .nil)) (.node (hd.o_168 x0) (.node (hd.o_232 x0) .nil .nil) .nil)) (.node (hd.o_107 x0) (.node (hd.o_152 x0) (.node (hd.o_48 x0) .nil .nil) .nil) (.node (hd.o_184 x0) (.node (hd.o_248 x0) .nil .nil) .nil))))))
noncomputable def Kq : Params -> Frag := fun x0 => List.cons (Prod.mk (nat_lit 2) (hd.o_43 x0)) (List.cons (Prod.mk (nat_lit 3) (hd.o_133 x0)) (List.cons (Prod.mk (nat_lit 32) (hd.o_48 x0)) (List.cons (Prod.mk (nat_lit 34) (hd.o_79 x0)) (List.cons (Prod.mk (nat_lit 35) (hd.o_80 x0)) (List.cons (Prod.mk (nat_lit 37) (hd.o_82 x0)) (List.cons (Prod.mk (nat_lit 38) (hd.o_83 x0)) (List.cons (Prod.mk (nat_lit 46) (hd.o_48 x0)) (List.cons (Prod.mk (nat_lit 48) (hd.o_93 x0)) (List.cons (Prod.mk (nat_lit 49) (hd.o_48 x0)) (List.cons (Prod.mk (nat_lit 51) (hd.o_96 x0)) (List.cons (Prod.mk (nat_lit 52) (hd.o_97 x0)) (List.cons (Prod.mk (nat_lit 53) (hd.o_98 x0)) (List.cons (Prod.mk (nat_lit 54) (hd.o_99 x0)) (List.cons (Prod.mk (nat_lit 55) (hd.o_100 x0)) (List.cons (Prod.mk (nat_lit 56) (hd.o_101 x0)) (List.cons (Prod.mk (nat_lit 57) (hd.o_102 x0)) (List.cons (Prod.mk (nat_lit 63) (hd.o_108 x0)) (List.cons (Prod.mk (nat_lit 64) (hd.o_109 x0)) (List.cons (Prod.mk (nat_lit 72) (hd.o_125 x0)) (List.cons (Prod.mk (nat_lit 81) (hd.o_48 x0)) (List.cons (Prod.mk (nat_lit 83) (hd.o_141 x0)) (List.cons (Prod.mk (nat_lit 84) (hd.o_48 x0)) (List.cons (Prod.mk (nat_lit 86) (hd.o_144 x0)) (List.cons (Prod.mk (nat_lit 87) (hd.o_145 x0)) (List.cons (Prod.mk (nat_lit 88) (hd.o_146 x0)) (List.cons (Prod.mk (nat_lit 89) (hd.o_48 x0)) (List.cons (Prod.mk (nat_lit 91) (hd.o_149 x0)) (List.cons (Prod.mk (nat_lit 92) (hd.o_48 x0)) (List.cons (Prod.mk (nat_lit 94) (hd.o_152 x0)) (List.cons (Prod.mk (nat_lit 95) (hd.o_153 x0)) (List.cons (Prod.mk (nat_lit 101) (hd.o_48 x0)) (List.cons (Prod.mk (nat_lit 103) (hd.o_161 x0)) (List.cons (Prod.mk (nat_lit 104) (hd.o_48 x0)) (List.cons (Prod.mk (nat_lit 106) (hd.o_164 x0)) (List.cons (Prod.mk (nat_lit 107) (hd.o_165 x0)) (List.cons (Prod.mk (nat_lit 108) (hd.o_48 x0)) (List.cons (Prod.mk (nat_lit 110) (hd.o_168 x0)) (List.cons (Prod.mk (nat_lit 111) (hd.o_48 x0)) (List.cons (Prod.mk (nat_lit 113) (hd.o_171 x0)) (List.cons (Prod.mk (nat_lit 114) (hd.o_172 x0)) (List.cons (Prod.mk (nat_lit 115) (hd.o_48 x0)) (List.cons (Prod.mk (nat_lit 117) (hd.o_175 x0)) (List.cons (Prod.mk (nat_lit 118) (hd.o_48 x0)) (List.cons (Prod.mk (nat_lit 120) (hd.o_178 x0)) (List.cons (Prod.mk (nat_lit 121) (hd.o_179 x0)) (List.cons (Prod.mk (nat_lit 122) (hd.o_48 x0)) (List.cons (Prod.mk (nat_lit 125) (hd.o_183 x0)) (List.cons (Prod.mk (nat_lit 126) (hd.o_184 x0)) (List.cons (Prod.mk (nat_lit 127) (hd.o_48 x0)) (List.cons (Prod.mk (nat_lit 129) (hd.o_187 x0)) (List.cons (Prod.mk (nat_lit 130) (hd.o_48 x0)) (List.cons (Prod.mk (nat_lit 132) (hd.o_190 x0)) (List.cons (Prod.mk (nat_lit 133) (hd.o_191 x0)) (List.cons (Prod.mk (nat_lit 134) (hd.o_48 x0)) (List.cons (Prod.mk (nat_lit 136) (hd.o_194 x0)) (List.cons (Prod.mk (nat_lit 137) (hd.o_48 x0)) (List.cons (Prod.mk (nat_lit 139) (hd.o_197 x0)) (List.cons (Prod.mk (nat_lit 140) (hd.o_198 x0)) (List.cons (Prod.mk (nat_lit 141) (hd.o_48 x0)) (List.cons (Prod.mk (nat_lit 143) (hd.o_201 x0)) (List.cons (Prod.mk (nat_lit 144) (hd.o_48 x0)) (List.cons (Prod.mk (nat_lit 146) (hd.o_204 x0)) (List.cons (Prod.mk (nat_lit 147) (hd.o_205 x0)) (List.cons (Prod.mk (nat_lit 148) (hd.o_48 x0)) (List.cons (Prod.mk (nat_lit 150) (hd.o_208 x0)) (List.cons (Prod.mk (nat_lit 151) (hd.o_48 x0)) (List.cons (Prod.mk (nat_lit 153) (hd.o_211 x0)) (List.cons (Prod.mk (nat_lit 154) (hd.o_212 x0)) (List.cons (Prod.mk (nat_lit 155) (hd.o_48 x0)) (List.cons (Prod.mk (nat_lit 157) (hd.o_215 x0)) (List.cons (Prod.mk (nat_lit 158) (hd.o_48 x0)) (List.cons (Prod.mk (nat_lit 160) (hd.o_218 x0)) (List.cons (Prod.mk (nat_lit 161) (hd.o_219 x0)) (List.cons (Prod.mk (nat_lit 162) (hd.o_48 x0)) (List.cons (Prod.mk (nat_lit 164) (hd.o_222 x0)) (List.cons (Prod.mk (nat_lit 165) (hd.o_48 x0)) (List.cons (Prod.mk (nat_lit 167) (hd.o_225 x0)) (List.cons (Prod.mk (nat_lit 168) (hd.o_226 x0)) (List.cons (Prod.mk (nat_lit 169) (hd.o_48 x0)) (List.cons (Prod.mk (nat_lit 171) (hd.o_229 x0)) (List.cons (Prod.mk (nat_lit 172) (hd.o_48 x0)) (List.cons (Prod.mk (nat_lit 174) (hd.o_232 x0)) (List.cons (Prod.mk (nat_lit 175) (hd.o_233 x0)) (List.cons (Prod.mk (nat_lit 176) (hd.o_48 x0)) (List.cons (Prod.mk (nat_lit 179) (hd.o_237 x0)) (List.cons (Prod.mk (nat_lit 180) (hd.o_238 x0)) (List.cons (Prod.mk (nat_lit 181) (hd.o_48 x0)) (List.cons (Prod.mk (nat_lit 184) (hd.o_242 x0)) (List.cons (Prod.mk (nat_lit 185) (hd.o_243 x0)) (List.cons (Prod.mk (nat_lit 186) (hd.o_48 x0)) (List.cons (Prod.mk (nat_lit 188) (hd.o_246 x0)) (List.cons (Prod.mk (nat_lit 189) (hd.o_48 x0)) (List.cons (Prod.mk (nat_lit 191) (hd.o_249 x0)) (List.cons (Prod.mk (nat_lit 192) (hd.o_250 x0)) (List.cons (Prod.mk (nat_lit 193) (hd.o_48 x0)) (List.cons (Prod.mk (nat_lit 195) (hd.o_253 x0)) (List.cons (Prod.mk (nat_lit 196) (hd.o_48 x0)) (List.cons (Prod.mk (nat_lit 198) (hd.o_256 x0)) (List.cons (Prod.mk (nat_lit 199) (hd.o_257 x0)) (List.cons (Prod.mk (nat_lit 200) (hd.o_48 x0)) (List.cons (Prod.mk (nat_lit 203) (hd.o_261 x0)) (List.cons (Prod.mk (nat_lit 204) (hd.o_262 x0)) (List.cons (Prod.mk (nat_lit 205) (hd.o_48 x0)) (List.cons (Prod.mk (nat_lit 208) (hd.o_266 x0)) (List.cons (Prod.mk (nat_lit 209) (hd.o_267 x0)) (List.nil))))))))))))))))))))))))))))))))))))))))))))))))))))))))))))))))))))))))))))))))))))))))))))))))))))))))))
end
end Mine
end
section
open PySem
namespace Mine
theorem qL {α : Type _} {a : α} {as : List α} (bs : List α) (h : a ∈ as) : a ∈ as ++ bs := List.mem_append_left bs h
theorem qR {α : Type _} {b : α} {bs : List α} (as : List α) (h : b ∈ bs) : b ∈ as ++ bs := List.mem_append_right as h
theorem qC {α : Type _} {a b : α} {l : List α} (h : a ∈ b :: l) : a = b \/ a ∈ l := List.mem_cons.mp h
theorem qA {α : Type _} {a : α} {s t : List α} (h : a ∈ s ++ t) : a ∈ s \/ a ∈ t := List.mem_append.mp h
theorem qS {α : Type _} {a b : α} (h : a ∈ [b]) : a = b := List.mem_singleton.mp h
theorem qB {n m : Nat} (h : Nat.ble n m = true) : n <= m := Nat.le_of_ble_eq_true h
theorem qG {α : Type _} {l : List α} {i : Nat} {a : α} (e : l[i]? = some a) : a ∈ l := List.mem_of_getElem? e
theorem qM {α β : Type _} {f : α -> β} {a : α} {l : List α} (h : a ∈ l) : f a ∈ l.map f := List.mem_map_of_mem h
theorem qP {h : Heap} {a : Addr} {o : Obj} (y : Obj) (e : h.get? a = some o) : (h.push y).get? a = some o := Heap.get?_push_of_some y e
end Mine
end
section
open PySem PySem.W PyProof.Rows PySem.Calls
namespace Mine
theorem byc {P : Prop} (h : ¬P -> False) : P := Classical.byContradiction h
theorem unc2 {α β : Type _} {P : α × β -> Prop} (h : ∀ a b, P (a, b)) : ∀ x, P x := fun x => h x.1 x.2
theorem unc3 {α β γ : Type _} {P : α × β × γ -> Prop} (h : ∀ a b c, P (a, b, c)) : ∀ x, P x := fun x => h x.1 x.2.1 x.2.2
theorem unc5 {α β γ δ ε : Type _} {P : α × β × γ × δ × ε -> Prop} (h : ∀ a b c d e, P (a, b, c, d, e)) : ∀ x, P x := fun x => h x.1 x.2.1 x.2.2.1 x.2.2.2.1 x.2.2.2.2
theorem unc7 {α β γ δ ε ζ η : Type _} {P : α × β × γ × δ × ε × ζ × η -> Prop} (h : ∀ a b c d e f g, P (a, b, c, d, e, f, g)) : ∀ x, P x := fun x => h x.1 x.2.1 x.2.2.1 x.2.2.2.1 x.2.2.2.2.1 x.2.2.2.2.2.1 x.2.2.2.2.2.2
theorem uncS {P : Shared -> Prop} (h : ∀ a b c d e, P ⟨a, b, c, d, e⟩) : ∀ x, P x := fun x => h x.heap x.gens x.drawn x.toks x.os
section
variable {α : Type} {M : Model} {A : Around} {E : Value -> Shared -> Prop} {s : Shared} {Q : α -> Shared -> Prop} {a b : Sem α}
theorem cvM (h : a = b) (k : wpAny M A b Q E s) : wpAny M A a Q E s := h ▸ k
theorem iteT {c : Prop} [Decidable c] (hc : c) (h : wpAny M A a Q E s) : wpAny M A (if c then a else b) Q E s := cvM (if_pos hc) h
theorem iteF {c : Prop} [Decidable c] (hc : ¬c) (h : wpAny M A b Q E s) : wpAny M A (if c then a else b) Q E s := cvM (if_neg hc) h
end
theorem decr {i n : Nat} (h : i < n) : n + 1 - (i + 1) < n + 1 - i := Nat.sub_lt_sub_left (Nat.lt_succ_of_lt h) (Nat.lt_succ_self i)
theorem sub1 {a j m : Nat} (h : a - j = m + 1) : a - (j + 1) = m := congrArg Nat.pred h
theorem subLt {a j m : Nat} (h : a - j = m + 1) : j < a := Nat.lt_of_not_le fun q => by rw [Nat.sub_eq_zero_of_le q] at h; cases h
theorem subEq {a i : Nat} (h : a - i = 0) (h2 : i <= a) : i = a := Nat.le_antisymm h2 (Nat.le_of_sub_eq_zero h)
theorem subIdx {a j m : Nat} (h : a - j = m + 1) : a - 1 - (m + 1 - 1) = j := by
 have e : a = j + (m + 1) := by rw [<- h]; exact (Nat.add_sub_of_le (Nat.le_of_lt (subLt h))).symm
 rw [e];exact Nat.add_sub_cancel j m
theorem subEx {a j : Nat} (h : j < a) : a - j = a - j - 1 + 1 := (Nat.sub_add_cancel (Nat.sub_pos_of_lt h)).symm
theorem eqN {i n : Nat} (h : i <= n) (h2 : ¬i < n) : i = n := Nat.le_antisymm h (Nat.le_of_not_lt h2)
theorem mmNeg (n L : Nat) : max (0 : Int) (min (-(n : Int) + (L : Int)) (L : Int)) = ((L - n : Nat) : Int) := by
 rcases Nat.le_total n L with h | h
 ·obtain ⟨k, rfl⟩ := Nat.exists_eq_add_of_le h;rw [Nat.add_sub_cancel_left, Int.natCast_add, Int.neg_add_cancel_left, Int.min_eq_left (Int.le_add_of_nonneg_left (Int.natCast_nonneg n)), Int.max_eq_right (Int.natCast_nonneg k)]
 ·rw [Nat.sub_eq_zero_of_le h];exact Int.max_eq_left (Int.le_trans (Int.min_le_left _ _) (by lia))
theorem mmPos (n L : Nat) : max (0 : Int) (min (n : Int) (L : Int)) = ((min n L : Nat) : Int) := by
 rcases Nat.le_total n L with h | h
 ·rw [Nat.min_eq_left h, Int.min_eq_left (Int.ofNat_le.mpr h), Int.max_eq_right (Int.natCast_nonneg n)]
 ·rw [Nat.min_eq_right h, Int.min_eq_right (Int.ofNat_le.mpr h), Int.max_eq_right (Int.natCast_nonneg L)]
theorem cvS {M : Model} {A : Around} {env : Env} {E : Value -> Shared -> Prop} {s : Shared} {Q : Flow -> Shared -> Prop} {a b : Stmt} (h : a = b) (k : wpAny M A (exec b env) Q E s) : wpAny M A (exec a env) Q E s := h ▸ k
theorem nC {h! h : Heap} {L : Addr} {x : Addr × Obj} {l : List (Addr × Obj)} (hx : h.get? x.1 = some x.2 /\ x.1 ≠ L /\ h!.get? x.1 = none) (hl : News h! L h l) : News h! L h (x :: l) := fun q hq => (qC hq).elim (fun e => e ▸ hx) (hl q)
noncomputable abbrev PR : Program := PySem.Challenge.rw_wv0014_01.row.toRowW.prog
noncomputable abbrev AL (n : Nat) : Around := { handled := none, depth := 310 + 20 * n, frames := none, guards := none, units := 100 + 200 * n }
def Halt (P : Prop) : Prop := P
theorem halt {P : Prop} (h : Halt P) : P := h
def hz (s : Lean.TSyntax `str) (l : List String) : Lean.MacroM (Lean.TSyntax `tactic) := if l.contains s.getString then `(tactic| refine halt ?_) else Lean.Macro.throwUnsupported
theorem weak {α : Type} {M : Model} {A A' : Around} {t : Sem α} {Q : α -> Shared -> Prop} {E : Value -> Shared -> Prop} {s : Shared}
  (hh : A.handled = A'.handled) (hd : A.depth <= A'.depth) (hu : A.units <= A'.units) (hf : A'.frames = none) (hg : A'.guards = none) (h : wpAny M A' t Q E s) : wpAny M A t Q E s :=
 fun Γ p hΓ => h Γ p ⟨hΓ.1.trans hh, Nat.le_trans hΓ.2.1 hd, (fun l e => by rw [hf] at e; cases e), (fun g e => by rw [hg] at e; cases e), Nat.le_trans hΓ.2.2.2.2 hu⟩
def Out (g : Heap) (news : List (Addr × Obj)) (s₀ : Shared) (R : Value -> Shared -> Prop) (v : Value) (s' : Shared) : Prop :=
 ∃ L' m' news', Fr g L' s'.heap m' /\ News g L' s'.heap news' /\ (∀ p ∈ news, p ∈ news') /\
  ((∀ b o, s₀.heap.get? b = some o -> s'.heap.get? b = some o) -> (∀ p ∈ news', p ∉ news -> s₀.heap.get? p.1 = none) -> R v s')
theorem Out.intro {g : Heap} {news : List (Addr × Obj)} {s₀ : Shared} {R : Value -> Shared -> Prop} {v : Value} {s' : Shared} {L' : Addr} {m' : Str -> Option Value} {news' : List (Addr × Obj)}
  (F : Fr g L' s'.heap m') (N : News g L' s'.heap news') (hn : ∀ p ∈ news, p ∈ news')
  (k : (∀ b o, s₀.heap.get? b = some o -> s'.heap.get? b = some o) -> (∀ p ∈ news', p ∉ news -> s₀.heap.get? p.1 = none) -> R v s') : Out g news s₀ R v s' := ⟨L', m', news', F, N, hn, k⟩
def RetK (R : Value -> Shared -> Prop) (v : Value) (s' : Shared) : Prop := R v s'
noncomputable abbrev exitQ (R : Value -> Shared -> Prop) : Flow -> Shared -> Prop := fun fl s' => RetK R (match fl with | .ret v => v | _ => .none) s'
def OutR (g : Heap) (news : List (Addr × Obj)) (s : Shared) (Q R : Value -> Shared -> Prop) (gs : Array GenState) (dr : Drawn) (os : OsState) : Prop := ∀ v h₂ tk₂, Out g news s Q v { s with heap := h₂, toks := tk₂ } -> R v ⟨h₂, gs, dr, tk₂, os⟩
theorem OutR.out {g : Heap} {news : List (Addr × Obj)} {s : Shared} {Q R : Value -> Shared -> Prop} {gs : Array GenState} {dr : Drawn} {os : OsState} (hR : OutR g news s Q R gs dr os) {v : Value} {h₂ : Heap} {tk₂ : Tok} {L' : Addr} {m' : Str -> Option Value} {news' : List (Addr × Obj)}
  (F : Fr g L' h₂ m') (N : News g L' h₂ news') (hn : ∀ p ∈ news, p ∈ news')
  (k : (∀ b o, s.heap.get? b = some o -> h₂.get? b = some o) -> (∀ p ∈ news', p ∉ news -> s.heap.get? p.1 = none) -> Q v { s with heap := h₂, toks := tk₂ }) : RetK R v ⟨h₂, gs, dr, tk₂, os⟩ := hR _ _ _ (Out.intro F N hn k)
structure stQ (R : Flow -> Shared -> Prop) (f : Flow) (s : Shared) : Prop where
 h : R f s
def NextK (M : Model) (A : Around) (env : Env) (rest : List Stmt) (Q : Flow -> Shared -> Prop) (E : Value -> Shared -> Prop) (R : Flow -> Shared -> Prop) : Prop :=
 ∀ f s, (match f with | .next => wpAny M A (execs rest env) Q E s | f => Q f s) -> R f s
section
variable {M : Model} {A : Around} {env : Env} {st : Stmt} {rest : List Stmt} {Q R : Flow -> Shared -> Prop} {E : Value -> Shared -> Prop} {s : Shared} {v : Value}
theorem execs_K (h : ∀ R, NextK M A env rest Q E R -> wpAny M A (exec st env) (stQ R) E s) : wpAny M A (execs (st :: rest) env) Q E s := wpAny_execs_cons (wpAny_mono (h _ fun _ _ x => x) (fun _ _ q => q.h) fun _ _ e => e)
theorem execs_last (h : wpAny M A (exec st env) Q E s) : wpAny M A (execs [st] env) Q E s :=
 wpAny_execs_cons (wpAny_mono h (fun f _ q => match f with | .next => wpAny_execs_nil q | .ret _ => q | .brk => q | .cont => q) fun _ _ e => e)
theorem execs_lastK (h : wpAny M A (exec st env) (stQ R) E s) : wpAny M A (execs [st] env) (stQ R) E s := execs_last h
theorem execs_lastX {R : Value -> Shared -> Prop} (h : wpAny M A (exec st env) (exitQ R) E s) : wpAny M A (execs [st] env) (exitQ R) E s := execs_last h
theorem NextK.nx (k : NextK M A env rest Q E R) (h : wpAny M A (execs rest env) Q E s) : stQ R .next s := ⟨k .next s h⟩
theorem NextK.out (k : NextK M A env rest Q E R) (h : Q (.ret v) s) : stQ R (.ret v) s := ⟨k (.ret v) s h⟩
theorem NextK.brk (k : NextK M A env rest Q E R) (h : Q .brk s) : stQ R .brk s := ⟨k .brk s h⟩
theorem NextK.cont (k : NextK M A env rest Q E R) (h : Q .cont s) : stQ R .cont s := ⟨k .cont s h⟩
end
section
variable {prog : Program} {w : World} {A : Around} {s : Shared} {h! : Heap} {news : List (Addr × Obj)} {K : Frag} {p : Program} {loose : List Str} {mean : ExcName -> Option Value} {mg mb : Str -> Option Value} {Q E : Value -> Shared -> Prop}
 {name qual : Str} {params : Arguments} {body : List Stmt} {scope : Scope} {dV kV doc pm cdv ct oc : Value} {an od : Option Addr} {osl : Array (Option Value)} {f : Addr} {pos : List Value}
theorem hide_stays (keep : h!.StaysIn s.heap) (hN : ∀ p ∈ news, s.heap.get? p.1 = some p.2 /\ h!.get? p.1 = none) : h!.StaysIn (hideAll s.heap (news.map (·.1))) := fun b o e =>
 hideAll_get _ (keep b o e) fun q => by
  obtain ⟨p, hp, rfl⟩ := List.mem_map.mp q;rw [(hN p hp).2] at e; cases e
theorem out_use {v : Value} {s' : Shared} {R : Value -> Shared -> Prop} (hN : ∀ p ∈ news, s.heap.get? p.1 = some p.2) (ho : Out (hideAll s.heap (news.map (·.1))) news s R v s') : R v s' := by
 obtain ⟨L', m', news', F', N', hn, k⟩ := ho;refine k (fun b o e => ?_) fun p hp hnp => ?_
 ·by_cases hb : b ∈ news.map (·.1)
  ·obtain ⟨p, hp, rfl⟩ := List.mem_map.mp hb;have e2 := hN p hp;rw [e] at e2;cases e2;exact (N' p (hn p hp)).1
  ·exact F'.keep b o (hideAll_get _ e hb)
 ·cases q : s.heap.get? p.1 with
  | none => rfl
  | some o =>
   exfalso;by_cases hb : p.1 ∈ news.map (·.1)
   ·obtain ⟨r, hr, er⟩ := List.mem_map.mp hb;have e1 := (N' r (hn r hr)).1;have e2 := (N' p hp).1;rw [<- er, e1] at e2;have : r = p := Prod.ext er (Option.some.inj e2);exact hnp (this ▸ hr)
   ·have e1 := hideAll_get _ q hb;rw [(N' p hp).2.2] at e1;cases e1
theorem enter (keep : h!.StaysIn s.heap) (hN : ∀ p ∈ news, s.heap.get? p.1 = some p.2 /\ h!.get? p.1 = none) (X₀ : K.In h!) (T : Top p loose mean mg mb h!) {binds : List (Str × Value)}
  (ho : K.lookup f = some ⟨oc, od, .func (fnOf name qual params body scope dV kV doc pm an cdv ct), osl⟩) (hcd : codeIn K cdv qual = true) (hroom : A.depth < recursionLimit)
  (hbind : BindsTo s (fnOf name qual params body scope dV kV doc pm an cdv ct) ⟨pos, []⟩ binds) (hloc : ∀ y ∈ binds, scope.names.lookup y.1 = some .local)
  (h : ∀ g L' h? gs dr tk os Rz, OutR g news s Q Rz gs dr os -> binds.length <= tk -> K.In g -> Top p loose mean mg mb g -> Fr g L' h? (fun y => binds.reverse.lookup y) -> News g L' h? news -> (∀ p ∈ news, p.1 < L') ->
   wpAny (model prog w) (A.deeper (envOf qual scope L' f cdv)) (execs body (envOf qual scope L' f cdv))
    (exitQ Rz) (fun _ _ => False) ⟨h?, gs, dr, tk, os⟩)
  (hco : scope.isCoroutine = false) (hgen : scope.isGenerator = false) (hk : scope.kind = .function)
  (hcell : ∀ x ∈ scope.names, x.2 ≠ .cell) : wpAny (model prog w) A (call (.ref f) pos) Q E s := by
 have st := hide_stays keep hN;refine wpAny_call (codeAny_call_def (fd := fnOf name qual params body scope dV kV doc pm an cdv ct) (body := body) (binds := binds) hroom ((X₀.keeps keep) _ _ ho) rfl (T.nolimit.keeps keep) (codeRec_of (X₀.keeps keep) hcd) rfl hbind hcell hloc (fun h? hns hk₁ => ?_) hco hgen hk);refine wpAny_mono (h (hideAll s.heap (news.map (·.1))) s.heap.objs.size h? s.gens s.drawn _ s.os (fun v s' => Out (hideAll s.heap (news.map fun q : Addr × Obj => q.1)) news s Q v s') (fun _ _ _ o => o) (Nat.le_add_left _ _) (X₀.keeps fun b o e => st b o e) (T.keeps fun b o e => st b o e) ⟨hns, fun b o e => hk₁ b o (of_hideAll _ e), Nat.le_of_eq (hideAll_size _ _)⟩
  (fun p hp => ⟨hk₁ _ _ (hN p hp).1, Nat.ne_of_lt (Heap.lt_size (hN p hp).1), hideAll_none _ (qM hp)⟩) (fun p hp => Heap.lt_size (hN p hp).1)) (fun fl s' hl => ?_) fun _ _ y => y.elim
 exact out_use (fun p hp => (hN p hp).1) hl
theorem enterB (keep : h!.StaysIn s.heap) (hN : ∀ p ∈ news, s.heap.get? p.1 = some p.2 /\ h!.get? p.1 = none) (X₀ : K.In h!) (T : Top p loose mean mg mb h!) {binds : List (Str × Value)}
  (ho : K.lookup f = some ⟨oc, od, .func (fnOf name qual params body scope dV kV doc pm an cdv ct), osl⟩) (hcd : codeIn K cdv qual = true) (hroom : A.depth < recursionLimit)
  (hbind : BindsTo s (fnOf name qual params body scope dV kV doc pm an cdv ct) ⟨pos, []⟩ binds) (hloc : ∀ y ∈ binds, scope.names.lookup y.1 = some .local)
  (h : ∀ g L' h? gs dr tk os Rz, OutR g news s Q Rz gs dr os -> h!.StaysIn g -> K.In g -> Top p loose mean mg mb g -> Fr g L' h? (fun y => binds.reverse.lookup y) -> News g L' h? news -> (∀ p ∈ news, p.1 < L') ->
   wpAny (model prog w) (A.deeper (envOf qual scope L' f cdv)) (execs body (envOf qual scope L' f cdv))
    (exitQ Rz) (fun _ _ => False) ⟨h?, gs, dr, tk, os⟩)
  (hco : scope.isCoroutine = false) (hgen : scope.isGenerator = false) (hk : scope.kind = .function)
  (hcell : ∀ x ∈ scope.names, x.2 ≠ .cell) : wpAny (model prog w) A (call (.ref f) pos) Q E s := by
 have st := hide_stays keep hN;refine wpAny_call (codeAny_call_def (fd := fnOf name qual params body scope dV kV doc pm an cdv ct) (body := body) (binds := binds) hroom ((X₀.keeps keep) _ _ ho) rfl (T.nolimit.keeps keep) (codeRec_of (X₀.keeps keep) hcd) rfl hbind hcell hloc (fun h? hns hk₁ => ?_) hco hgen hk);refine wpAny_mono (h (hideAll s.heap (news.map (·.1))) s.heap.objs.size h? s.gens s.drawn _ s.os (fun v s' => Out (hideAll s.heap (news.map fun q : Addr × Obj => q.1)) news s Q v s') (fun _ _ _ o => o) (fun b o e => st b o e) (X₀.keeps fun b o e => st b o e) (T.keeps fun b o e => st b o e) ⟨hns, fun b o e => hk₁ b o (of_hideAll _ e), Nat.le_of_eq (hideAll_size _ _)⟩
  (fun p hp => ⟨hk₁ _ _ (hN p hp).1, Nat.ne_of_lt (Heap.lt_size (hN p hp).1), hideAll_none _ (qM hp)⟩) (fun p hp => Heap.lt_size (hN p hp).1)) (fun fl s' hl => ?_) fun _ _ y => y.elim
 exact out_use (fun p hp => (hN p hp).1) hl
theorem enterC (keep : h!.StaysIn s.heap) (hN : ∀ p ∈ news, s.heap.get? p.1 = some p.2 /\ h!.get? p.1 = none) (X₀ : K.In h!) (T : Top p loose mean mg mb h!) {binds : List (Str × Value)}
  (ho : K.lookup f = some ⟨oc, od, .func (fnOf name qual params body scope dV kV doc pm an cdv ct), osl⟩) (hcd : codeIn K cdv qual = true) (hroom : A.depth < recursionLimit)
  (hbind : BindsTo s (fnOf name qual params body scope dV kV doc pm an cdv ct) ⟨pos, []⟩ binds)
  (hkind : (binds.all fun y => scope.names.lookup y.1 == some .local || scope.names.lookup y.1 == some .cell) = true)
  (hnd : ((cellsFrom 0 scope.names []).map (·.1)).Nodup)
  (h : ∀ g L' h? gs dr tk os Rz, OutR g news s Q Rz gs dr os -> ∀ cells, K.In g -> Top p loose mean mg mb g -> Fr g L' h? (bindL (envOfC qual scope L' f cdv).kindOf binds fun _ => none) -> News g L' h? (cells ++ news) ->
   CellsAre (bindC (envOfC qual scope L' f cdv).kindOf binds fun _ => none) (cellsFrom (L' + 1) scope.names []) cells -> (∀ p ∈ news, p.1 < L') ->
   wpAny (model prog w) (A.deeper (envOfC qual scope L' f cdv)) (execs body (envOfC qual scope L' f cdv))
    (exitQ Rz) (fun _ _ => False) ⟨h?, gs, dr, tk, os⟩)
  (hco : scope.isCoroutine = false) (hgen : scope.isGenerator = false) (hk : scope.kind = .function) : wpAny (model prog w) A (call (.ref f) pos) Q E s := by
 have st := hide_stays keep hN;refine wpAny_call (codeAny_call_function (o := _) (fd := fnX name qual params body scope [] dV kV doc pm an cdv ct) hroom ((X₀.keeps keep) _ _ ho) rfl hco hgen rfl (codeRec_of (X₀.keeps keep) hcd) (hbind _ _ _ _ ?_));refine wpAny_newFunctionEnv_cells hk (kindsX hkind _) fun env' he s' x => ?_;subst he;refine ⟨(T.nolimit.keeps keep).keeps x.toInCall.keep, codeAny_func ?_⟩;obtain ⟨h?, tk, rfl, _⟩ := x.done;have hk₁ := x.toInCall.keep;obtain ⟨cells, NC, Y⟩ := Cl.news (h₀ := s.heap) (Nat.le_refl _) fun n c hm => ⟨x.cell n c (lookup_of_mem_nodup (cellsFrom_names scope.names 0 (s.heap.objs.size + 1) [] [] rfl ▸ hnd) hm), x.above n c hm⟩;refine wpAny_mono (h (hideAll s.heap (news.map (·.1))) s.heap.objs.size h? s.gens s.drawn tk s.os (fun v s' => Out (hideAll s.heap (news.map fun q : Addr × Obj => q.1)) news s Q v s') (fun _ _ _ o => o) cells (X₀.keeps fun b o e => st b o e) (T.keeps fun b o e => st b o e) ⟨x.toInCall.ns, fun b o e => hk₁ b o (of_hideAll _ e), Nat.le_of_eq (hideAll_size _ _)⟩ (fun p hp => ?_) Y (fun p hp => Heap.lt_size (hN p hp).1)) (fun fl s' hl => out_use (fun p hp => (hN p hp).1) hl) fun _ _ y => y.elim;rcases qA hp with hp | hp
 ·refine ⟨(NC p hp).1, (NC p hp).2.1, ?_⟩;cases q : (hideAll s.heap (news.map (·.1))).get? p.1 with
  | none => rfl
  | some o => have := of_hideAll _ q; rw [(NC p hp).2.2] at this; cases this
 ·exact ⟨hk₁ _ _ (hN p hp).1, Nat.ne_of_lt (Heap.lt_size (hN p hp).1), hideAll_none _ (qM hp)⟩
theorem back {h h' : Heap} {L r : Addr} {m : Str -> Option Value} {o : Obj} (F : Fr h! L h m) (N : News h! L h news) (ext : ∀ b o, h.get? b = some o -> h'.get? b = some o) (hr : h'.get? r = some o) (hf : h.get? r = none) :
  Fr h! L h' m /\ News h! L h' ((r, o) :: news) /\ ∀ p ∈ news, p.1 ≠ r := by
 refine ⟨F.keeps ext, fun p hp => ?_, fun p hp e => ?_⟩
 ·rcases qC hp with rfl | hp
  ·refine ⟨hr, fun e => ?_, ?_⟩
   ·obtain ⟨oL, _, _, hL, _⟩ := F.ns;rw [<- e, hf] at hL; cases hL
   ·cases q : h!.get? r with
    | none => rfl
    | some o' => rw [F.keep _ _ q] at hf; cases hf
  ·exact ⟨ext _ _ (N p hp).1, (N p hp).2⟩
 ·rw [<- e, (N p hp).1] at hf; cases hf
theorem back0 {h h' : Heap} {L : Addr} {m : Str -> Option Value} (F : Fr h! L h m) (N : News h! L h news) (ext : ∀ b o, h.get? b = some o -> h'.get? b = some o) :
  Fr h! L h' m /\ News h! L h' news := ⟨F.keeps ext, fun p hp => ⟨ext _ _ (N p hp).1, (N p hp).2⟩⟩
end
end Mine
end
section
namespace Mine
noncomputable def co (i : Nat) : Nat := (i + 3) % 6
theorem co_lt (i : Nat) : co i < 6 := Nat.mod_lt _ (by decide)
theorem co_co {i : Nat} (h : i < 6) : co (co i) = i := by unfold co; omega
theorem co_ne {i : Nat} (h : i < 6) : co i ≠ i := by unfold co; omega
inductive Rc (e : Nat -> Nat -> Prop) : Nat -> Nat -> Prop
 | refl (a : Nat) : Rc e a a
 | step {a b c : Nat} : Rc e a b -> e b c -> Rc e a c
namespace Rc
variable {e : Nat -> Nat -> Prop}
theorem trans {a b c : Nat} (h : Rc e a b) (h2 : Rc e b c) : Rc e a c := by
 induction h2 with
 | refl => exact h
 | step _ s ih => exact .step ih s
theorem head {a b c : Nat} (s : e a b) (h : Rc e b c) : Rc e a c := trans (.step (.refl _) s) h
theorem lt (he : ∀ a b, e a b -> a < 6 /\ b < 6) {a b : Nat} (h : Rc e a b) (ha : a < 6) : b < 6 := by
 cases h with
 | refl => exact ha
 | step _ s => exact (he _ _ s).2
theorem co (he : ∀ a b, e a b -> a < 6 /\ b < 6) (hc : ∀ a b, e a b -> e (co b) (co a)) {a b : Nat} (h : Rc e a b) : Rc e (Mine.co b) (Mine.co a) := by
 induction h with
 | refl => exact .refl _
 | step _ s ih => exact .head (hc _ _ s) ih
theorem closed {S : Nat -> Prop} (hS : ∀ a b, e a b -> S a -> S b) {a b : Nat} (h : Rc e a b) (ha : S a) : S b := by
 induction h with
 | refl => exact ha
 | step _ s ih => exact hS _ _ s ih
end Rc
structure Fits (e : Nat -> Nat -> Prop) (S : Nat -> Prop) : Prop where
 closed : ∀ a b, e a b -> S a -> S b
 sane : ∀ a, a < 6 -> S a -> ¬ S (co a)
theorem fits_more {e : Nat -> Nat -> Prop} (he : ∀ a b, e a b -> a < 6 /\ b < 6) (hc : ∀ a b, e a b -> e (co b) (co a)) {S : Nat -> Prop} (h : Fits e S) {l : Nat} (hl : l < 6) (h1 : ¬ S (co l)) (h2 : ¬ Rc e l (co l)) :
  Fits e (fun x => S x \/ Rc e l x) where
 closed := fun a b s h' => by
  rcases h' with h' | h'
  ·exact .inl (h.closed _ _ s h')
  ·exact .inr (.step h' s)
 sane := fun a ha h' h'' => by
  rcases h' with h' | h' <;> rcases h'' with h'' | h''
  ·exact h.sane a ha h' h''
  ·have := Rc.co he hc h'';rw [co_co ha] at this;exact h1 (Rc.closed h.closed this h')
  ·exact h1 (Rc.closed h.closed (Rc.co he hc h') h'')
  ·have := Rc.co he hc h'';rw [co_co ha] at this;exact h2 (h'.trans this)
theorem fits_full {e : Nat -> Nat -> Prop} (he : ∀ a b, e a b -> a < 6 /\ b < 6) (hc : ∀ a b, e a b -> e (co b) (co a)) (hb : ∀ k, k < 6 -> ¬ (Rc e k (co k) /\ Rc e (co k) k)) :
  ∀ (n : Nat), n <= 3 -> ∀ {S : Nat -> Prop}, Fits e S -> ∃ S' : Nat -> Prop, Fits e S' /\ (∀ x, S x -> S' x) /\ ∀ v, v < n -> S' v \/ S' (co v)
 | 0, _, S, h => ⟨S, h, fun _ h => h, fun v hv => absurd hv (Nat.not_lt_zero v)⟩
 | n + 1, hn, S, h => by
  obtain ⟨S1, f1, s1, c1⟩ := fits_full he hc hb n (by omega) h;have hn6 : n < 6 := by omega
  by_cases hv : S1 n \/ S1 (co n)
  ·refine ⟨S1, f1, s1, fun v hv' => ?_⟩;rcases Nat.lt_or_ge v n with h1 | h1
   ·exact c1 v h1
   ·have : v = n := by omega
    exact this ▸ hv
  ·have h3 : ¬ S1 n := fun h => hv (.inl h);have h4 : ¬ S1 (co n) := fun h => hv (.inr h);have more : ∀ l, l < 6 -> (l = n \/ l = co n) -> ¬ S1 (co l) -> ¬ Rc e l (co l) -> ∃ S' : Nat -> Prop, Fits e S' /\ (∀ x, S x -> S' x) /\ ∀ v, v < n + 1 -> S' v \/ S' (co v) := fun l hl hln h5 h6 => by
    refine ⟨_, fits_more he hc f1 hl h5 h6, fun x hx => .inl (s1 x hx), fun v hv' => ?_⟩;rcases Nat.lt_or_ge v n with h1 | h1
    ·rcases c1 v h1 with h | h
     ·exact .inl (.inl h)
     ·exact .inr (.inl h)
    ·have : v = n := by omega
     subst this;rcases hln with rfl | rfl
     ·exact .inl (.inr (.refl _))
     ·exact .inr (.inr (.refl _))
   by_cases h5 : Rc e n (co n)
   ·have h6 : ¬ Rc e (co n) n := fun h => hb n hn6 ⟨h5, h⟩;exact more (co n) (co_lt n) (.inr rfl) (by rw [co_co hn6]; exact h3) (by rw [co_co hn6]; exact h6)
   ·exact more n hn6 (.inl rfl) h4 h5
noncomputable def litC (c l : Nat) : Bool := c.testBit (l % 3) == decide (l < 3)
theorem litC_co : ∀ c : Nat, c < 8 -> ∀ l : Nat, l < 6 -> litC c (co l) = !litC c l := by decide +kernel
theorem litC_bits : ∀ b0 b1 b2 : Bool, ∃ c : Nat, c < 8 /\ c.testBit 0 = b0 /\ c.testBit 1 = b1 /\ c.testBit 2 = b2 := by
 intro b0 b1 b2;cases b0 <;> cases b1 <;> cases b2
 ·exact ⟨0, by decide, by decide, by decide, by decide⟩
 ·exact ⟨4, by decide, by decide, by decide, by decide⟩
 ·exact ⟨2, by decide, by decide, by decide, by decide⟩
 ·exact ⟨6, by decide, by decide, by decide, by decide⟩
 ·exact ⟨1, by decide, by decide, by decide, by decide⟩
 ·exact ⟨5, by decide, by decide, by decide, by decide⟩
 ·exact ⟨3, by decide, by decide, by decide, by decide⟩
 ·exact ⟨7, by decide, by decide, by decide, by decide⟩
def ed (cl : List (Nat × Nat)) (a b : Nat) : Prop := ∃ q ∈ cl, (a = co q.1 /\ b = q.2) \/ (a = co q.2 /\ b = q.1)
def rightC (cl : List (Nat × Nat)) (c : Nat) : Prop := ∀ q ∈ cl, litC c q.1 = true \/ litC c q.2 = true
section
variable {cl : List (Nat × Nat)} (hcl : ∀ q ∈ cl, q.1 < 6 /\ q.2 < 6)
include hcl
theorem ed_lt (a b : Nat) (h : ed cl a b) : a < 6 /\ b < 6 := by
 obtain ⟨q, hq, h | h⟩ := h
 ·rw [h.1, h.2]; exact ⟨co_lt _, (hcl q hq).2⟩
 ·rw [h.1, h.2]; exact ⟨co_lt _, (hcl q hq).1⟩
theorem ed_co (a b : Nat) (h : ed cl a b) : ed cl (co b) (co a) := by
 obtain ⟨q, hq, h | h⟩ := h
 ·refine ⟨q, hq, .inr ?_⟩;rw [h.1, h.2]; exact ⟨rfl, co_co (hcl q hq).1⟩
 ·refine ⟨q, hq, .inl ?_⟩;rw [h.1, h.2]; exact ⟨rfl, co_co (hcl q hq).2⟩
theorem right_ed {c : Nat} (hc : c < 8) (hr : rightC cl c) (a b : Nat) (h : ed cl a b) (ha : litC c a = true) : litC c b = true := by
 obtain ⟨q, hq, h | h⟩ := h
 ·obtain ⟨rfl, rfl⟩ := h;rw [litC_co c hc _ (hcl q hq).1] at ha;rcases hr q hq with h | h
  ·rw [h] at ha; cases ha
  ·exact h
 ·obtain ⟨rfl, rfl⟩ := h;rw [litC_co c hc _ (hcl q hq).2] at ha;rcases hr q hq with h | h
  ·exact h
  ·rw [h] at ha; cases ha
theorem krom {k j : Nat} (hk : k < 6) (hj : j < 6) :
  ((∃ i, i < 6 /\ Rc (ed cl) i (co i) /\ Rc (ed cl) (co i) i) \/ Rc (ed cl) k j \/ Rc (ed cl) k (co k) \/ Rc (ed cl) (co j) j) ↔ ∀ c, c < 8 -> rightC cl c -> litC c k = true -> litC c j = true := by
 have he := ed_lt hcl;have hc := ed_co hcl;constructor
 ·intro h c hc8 hr hkc;have cl' := right_ed hcl hc8 hr;rcases h with ⟨i, hi, h1, h2⟩ | h | h | h
  ·cases q : litC c i with
   | true =>
    have := Rc.closed (S := fun x => litC c x = true) cl' h1 q;rw [litC_co c hc8 i hi, q] at this; cases this
   | false =>
    have q2 : litC c (co i) = true := by rw [litC_co c hc8 i hi, q]; rfl
    have := Rc.closed (S := fun x => litC c x = true) cl' h2 q2;rw [q] at this; cases this
  ·exact Rc.closed (S := fun x => litC c x = true) cl' h hkc
  ·have := Rc.closed (S := fun x => litC c x = true) cl' h hkc;rw [litC_co c hc8 k hk, hkc] at this; cases this
  ·cases q : litC c j with
   | true => rfl
   | false =>
    have q2 : litC c (co j) = true := by rw [litC_co c hc8 j hj, q]; rfl
    have := Rc.closed (S := fun x => litC c x = true) cl' h q2;rw [q] at this; cases this
 ·intro h;apply Classical.byContradiction;intro hn;have n1 : ∀ i, i < 6 -> ¬ (Rc (ed cl) i (co i) /\ Rc (ed cl) (co i) i) := fun i hi h' => hn (.inl ⟨i, hi, h'⟩);have n2 : ¬ Rc (ed cl) k j := fun h' => hn (.inr (.inl h'));have n3 : ¬ Rc (ed cl) k (co k) := fun h' => hn (.inr (.inr (.inl h')));have n4 : ¬ Rc (ed cl) (co j) j := fun h' => hn (.inr (.inr (.inr h')));have f0 : Fits (ed cl) (fun _ => False) := ⟨fun _ _ _ h => h, fun _ _ h => h.elim⟩;have f1 := fits_more he hc f0 hk (fun h => h) n3;have f2 := fits_more he hc f1 (co_lt j) (by
   rw [co_co hj];intro h;rcases h with h | h
   ·exact h
   ·exact n2 h) (by rw [co_co hj]; exact n4)
  obtain ⟨S, f3, s3, c3⟩ := fits_full he hc n1 3 (Nat.le_refl _) f2;have hkS : S k := s3 k (.inl (.inr (.refl _)));have hjS : S (co j) := s3 (co j) (.inr (.refl _));have dec : ∀ x, x < 6 -> (S x \/ S (co x)) := fun x hx => by
   rcases Nat.lt_or_ge x 3 with h1 | h1
   ·exact c3 x h1
   ·have := c3 (co x) (by unfold co; omega);rw [co_co hx] at this;exact this.symm
  haveI : ∀ x, Decidable (S x) := fun x => Classical.propDecidable _
  obtain ⟨c, hc8, b0, b1, b2⟩ := litC_bits (decide (S 0)) (decide (S 1)) (decide (S 2));have low : ∀ v, v < 3 -> litC c v = decide (S v) := fun v hv => by
   have : v = 0 \/ v = 1 \/ v = 2 := by omega
   rcases this with rfl | rfl | rfl
   ·unfold litC; rw [show (0 : Nat) % 3 = 0 from rfl, b0]; simp
   ·unfold litC; rw [show (1 : Nat) % 3 = 1 from rfl, b1]; simp
   ·unfold litC; rw [show (2 : Nat) % 3 = 2 from rfl, b2]; simp
  have all : ∀ x, x < 6 -> (litC c x = true ↔ S x) := fun x hx => by
   rcases Nat.lt_or_ge x 3 with h1 | h1
   ·rw [low x h1]; exact decide_eq_true_iff
   ·have hcx : co x < 3 := by unfold co; omega
    have e1 := litC_co c hc8 (co x) (co_lt x);rw [co_co hx, low (co x) hcx] at e1;rw [e1];constructor
    ·intro h;have h' : ¬ S (co x) := by simpa using h
     exact (dec x hx).resolve_right h'
    ·intro h;have := f3.sane x hx h
     simpa using this
  have hr : rightC cl c := fun q hq => by
   obtain ⟨q1, q2⟩ := hcl q hq;rcases dec q.1 q1 with h1 | h1
   ·exact .inl ((all _ q1).mpr h1)
   ·exact .inr ((all _ q2).mpr (f3.closed _ _ ⟨q, hq, .inl ⟨rfl, rfl⟩⟩ h1))
  have := (all j hj).mp (h c hc8 hr ((all k hk).mpr hkS));exact f3.sane j hj this hjS
end
end Mine
end
section
open PySem PySem.W PyProof.Rows PySem.Calls PyProof.V PySem.Spec
namespace Mine
section
variable {prog : Program} {w : World} {A : Around} {E : Value -> Shared -> Prop} {s : Shared} {a b : Addr} {xs ys : List Value} {ns ms : List Str} {Q : Value -> Shared -> Prop} {h! : Heap} {L : Addr} {news : List (Addr × Obj)} {n k : Nat}
theorem isL (N : News h! L s.heap news) (h : (a, listOf xs.toArray n) ∈ news) : s.heap.IsList a xs.toArray := ⟨_, (N _ h).1, rfl, n, rfl⟩
theorem strs_get {vs : List Value} {ss : List Str} (h : StrsAre vs ss) : ∀ j (h1 : j < vs.length), ∃ t, vs[j] = .str (ss.getD j Str.empty) t := by
 induction h with
 | nil => intro j h1; exact absurd h1 (Nat.not_lt_zero j)
 | cons x t _ ih =>
  intro j h1;cases j with
  | zero => exact ⟨t, rfl⟩
  | succ j => simpa using ih j (by simpa using h1)
theorem all_eq : ∀ (ns ms : List Str), ns.length = ms.length -> ((List.range ns.length).all fun j => ns.getD j Str.empty == ms.getD j Str.empty) = decide (ns = ms) := by
 intro ns ms h;by_cases e : ns = ms
 ·subst e; simp
 ·rw [decide_eq_false e];rw [List.all_eq_false];apply Classical.byContradiction;intro hn;apply e;refine List.ext_getElem h fun j h1 h2 => ?_;have := Classical.byContradiction fun h3 => hn ⟨j, List.mem_range.mpr h1, h3⟩;have h4 : ns.getD j Str.empty = ms.getD j Str.empty := by simpa using this
  rw [List.getD_eq_getElem?_getD, List.getD_eq_getElem?_getD, List.getElem?_eq_getElem h1, List.getElem?_eq_getElem h2] at h4;exact h4
theorem eq_strs (ha : s.heap.IsList a xs.toArray) (hb : s.heap.IsList b ys.toArray) (hi : StrsAre xs ns) (hj : StrsAre ys ms) (hu : A.units < cLine) (h : Q (.bool (decide (ns = ms))) s) :
  wpAny (model prog w) A (compareOp .Eq (.ref a) (.ref b)) Q E s := by
 have l1 := StrsAre.length hi;have l2 := StrsAre.length hj;by_cases e : ns.length = ms.length
 ·refine SeqAt.eq_listAt (e := fun j => ns.getD j Str.empty == ms.getD j Str.empty) ha hb (by simp; omega) hu (fun j h1 h2 => ?_) ?_
  ·obtain ⟨t1, e1⟩ := strs_get hi j (by simpa using h1);obtain ⟨t2, e2⟩ := strs_get hj j (by simpa using h2);have e1' : xs.toArray[j] = .str (ns.getD j Str.empty) t1 := by simpa using e1
   have e2' : ys.toArray[j] = .str (ms.getD j Str.empty) t2 := by simpa using e2
   rw [e1', e2'];exact SeqAt.EqAt.str_str _ _ _ _
  ·rw [List.size_toArray, l1, all_eq ns ms e];exact h
 ·have hne : ns ≠ ms := fun q => e (by rw [q]);rw [decide_eq_false hne] at h;exact SeqAt.eq_list_lengthsAt ha hb (by simp; omega) hu h
theorem ne_strs (ha : s.heap.IsList a xs.toArray) (hb : s.heap.IsList b ys.toArray) (hi : StrsAre xs ns) (hj : StrsAre ys ms) (hu : A.units < cLine) (h : Q (.bool (!decide (ns = ms))) s) :
  wpAny (model prog w) A (compareOp .NotEq (.ref a) (.ref b)) Q E s := by
 have l1 := StrsAre.length hi;have l2 := StrsAre.length hj;by_cases e : ns.length = ms.length
 ·refine SeqAt.RcNeAt.lists (e := fun j => ns.getD j Str.empty == ms.getD j Str.empty) ha hb (by simp; omega) hu (fun j h1 h2 => ?_) prog w E Q ?_
  ·obtain ⟨t1, e1⟩ := strs_get hi j (by simpa using h1);obtain ⟨t2, e2⟩ := strs_get hj j (by simpa using h2);have e1' : xs.toArray[j] = .str (ns.getD j Str.empty) t1 := by simpa using e1
   have e2' : ys.toArray[j] = .str (ms.getD j Str.empty) t2 := by simpa using e2
   rw [e1', e2'];exact SeqAt.EqAt.str_str _ _ _ _
  ·rw [List.size_toArray, l1, all_eq ns ms e];exact h
 ·have hne : ns ≠ ms := fun q => e (by rw [q]);rw [decide_eq_false hne] at h;exact SeqAt.RcNeAt.lists_lengths ha hb (by simp; omega) hu prog w E Q h
theorem eq_nilL (ha : s.heap.IsList a xs.toArray) (hb : s.heap.IsList b #[]) (hu : A.units < cLine) (h : Q (.bool (decide (xs.length = 0))) s) :
  wpAny (model prog w) A (compareOp .Eq (.ref a) (.ref b)) Q E s := by
 by_cases e : xs.length = 0
 ·rw [decide_eq_true e] at h;refine SeqAt.eq_listAt (e := fun _ => true) ha hb (by simpa using e) hu (fun j _ h2 => absurd h2 (Nat.not_lt_zero j)) ?_;have : xs.toArray.size = 0 := by simpa using e
  rw [this];exact h
 ·rw [decide_eq_false e] at h;exact SeqAt.eq_list_lengthsAt ha hb (by simpa using e) hu h
theorem ne_nilL (ha : s.heap.IsList a xs.toArray) (hb : s.heap.IsList b #[]) (hu : A.units < cLine) (h : Q (.bool (!decide (xs.length = 0))) s) :
  wpAny (model prog w) A (compareOp .NotEq (.ref a) (.ref b)) Q E s := by
 by_cases e : xs.length = 0
 ·rw [decide_eq_true e] at h;have hz : xs.toArray.size = 0 := by simpa using e
  refine SeqAt.RcNeAt.lists (e := fun _ => true) ha hb hz hu (fun j _ h2 => absurd h2 (Nat.not_lt_zero j)) prog w E Q ?_;rw [hz];exact h
 ·rw [decide_eq_false e] at h;exact SeqAt.RcNeAt.lists_lengths ha hb (by simpa using e) hu prog w E Q h
end
end Mine
end
section
open PySem PySem.W PyProof.Rows PySem.Calls
namespace Mine
section
variable {prog : Program} {w : World} {A : Around} {E : Value -> Shared -> Prop} {s : Shared} {env : Env} {h! : Heap} {x : Str} {body : List Stmt} {Q : Flow -> Shared -> Prop}
theorem loop_src {I : Addr} {fp : List Addr} {n : Nat} {P : Nat -> Value -> Prop} {St : Nat -> Heap -> Prop} {m₀ : Str -> Option Value} {news : List (Addr × Obj)} (src : List (Addr × Obj)) (J : Nat -> (Str -> Option Value) -> List (Addr × Obj) -> Prop)
  (W : Walks prog w A I fp [I] n P St) (hsrc : ∀ q ∈ src, q ∈ news) (hfp : ∀ b ∈ fp, b = I \/ ∃ o, (b, o) ∈ src) (hLI : env.locals ≠ I) (hI0 : h!.get? I = none) (hnI : ∀ q ∈ news, q.1 ≠ I)
  (hst : St 0 s.heap) (F : Fr h! env.locals s.heap m₀) (N : News h! env.locals s.heap news) (hj : J 0 m₀ news)
  (turn : ∀ i v m₁ news₁ h tk own, i < n -> P i v -> news₁.map (·.1) = news.map (·.1) -> OwnOff own (news.map (·.1)) -> (∀ q ∈ src, q ∈ news₁) -> J i m₁ news₁ -> Fr h! env.locals h (fun y => if y = x then some v else m₁ y) -> News h! env.locals h (news₁ ++ own) ->
   wpAny (model prog w) A (execs body env) (InvPostN h! env.locals (fun m' nx => (∀ q ∈ src, q ∈ nx) /\ J (i + 1) m' nx) own (news.map (·.1)) { s with heap := h, toks := tk } Q) E { s with heap := h, toks := tk })
  (done : ∀ m₁ news₁ h tk, (∀ q ∈ src, q ∈ news₁) -> J n m₁ news₁ -> Fr h! env.locals h m₁ -> News h! env.locals h news₁ -> Q .next { s with heap := h, toks := tk }) :
  LoopAtV prog w A h! env x body Q E (.ref I) s := by
 refine ⟨I, fp, [I], n, P, St, m₀, news, (fun i m nx => nx.map (·.1) = news.map (·.1) /\ (∀ q ∈ src, q ∈ nx) /\ J i m nx), rfl, W, ?_, ?_, ?_, hst, F, N, ⟨rfl, hsrc, hj⟩, ?_, ?_⟩
 ·intro hm;rcases hfp _ hm with e | ⟨o, ho⟩
  ·exact hLI e
  ·exact (N _ (hsrc _ ho)).2.1 rfl
 ·intro b hb;rw [qS hb]; exact hI0
 ·intro p hp hI;exact hnI p hp (qS hI)
 ·rintro i v m₁ news₁ s₁ own ⟨hh', tk', rfl⟩ hin hP ⟨hadr, hl₁, hJ⟩ hoff hown hget _ _ F₁ N₁;have hsep : OwnOff (own.filter fun p => decide (p.1 = I)) (news.map (·.1)) := by
   intro p hp b hb e;apply byc; intro O;obtain ⟨q, hq, rfl⟩ := List.mem_map.mp hb;apply O; clear O;have h1 : p.1 = I := by simpa using (List.mem_filter.mp hp).2
   exact hnI q hq (by rw [<- e, h1])
  have N₂ : News h! env.locals hh' (news₁ ++ own.filter fun p => decide (p.1 = I)) := fun p hp => N₁ p ((qA hp).elim (fun h => List.mem_append.mpr (.inr h)) fun h => List.mem_append.mpr (.inl ((List.mem_filter.mp h).1)));refine wpAny_mono (turn i v m₁ news₁ hh' tk' _ hin hP hadr hsep hl₁ hJ F₁ N₂) (fun f s₂ p => ?_) fun _ _ e => e;have fin : InvEndN h! env.locals (fun m' nx => (∀ q ∈ src, q ∈ nx) /\ J (i + 1) m' nx) (own.filter fun p => decide (p.1 = I)) (news.map (·.1)) { s with heap := hh', toks := tk' } s₂ ->
    LoopStepU h! env.locals [I] own (fun m nx => nx.map (·.1) = news.map (·.1) /\ (∀ q ∈ src, q ∈ nx) /\ J (i + 1) m nx) { s with heap := hh', toks := tk' } .next s₂ := by
   rintro ⟨h', tk, m', news', nx, e, F', N', hn, ho, ha, hm⟩;refine ⟨rfl, h', tk, m', nx, e, F', fun p hp => ?_, fun p hp => ?_, ha, hm⟩
   ·rcases qA hp with h | h
    ·by_cases hI : p.1 = I
     ·exact N' p (ho p (List.mem_filter.mpr ⟨h, by simpa using hI⟩))
     ·rcases hfp _ (hown p h) with e1 | ⟨o, hos⟩
      ·exact absurd e1 hI
      ·have h2 : hh'.get? p.1 = some p.2 := hget p h;have h3 : hh'.get? p.1 = some o := (N₁ _ (List.mem_append.mpr (.inr (hl₁ _ hos)))).1;rw [h2] at h3;have h4 : p = (p.1, o) := Prod.ext rfl (Option.some.inj h3);rw [h4];exact N' _ (hn _ (hm.1 _ hos))
    ·exact N' p (hn p h)
   ·have h1 : p.1 ∈ nx.map (·.1) := List.mem_map.mpr ⟨p, hp, rfl⟩;rw [ha] at h1;apply byc; intro O;obtain ⟨q, hq, e⟩ := List.mem_map.mp h1;apply O; clear O;intro hI;exact hnI q hq (by rw [e, qS hI])
  cases f with
  | ret v => exact .ret p
  | brk => exact .brk p
  | next => exact .next (fin p)
  | cont => exact .cont (fin p)
 ·rintro h' tk m' news' F' N' _ ⟨_, hl', hJ⟩;exact done m' news' h' tk hl' hJ F' N'
def StS {σ : Type} (Led : σ -> List (Addr × Obj)) (ps : σ -> List (Str × Value)) (Facts : σ -> Prop) (x : Str) (stored : List Str) (m₀ : Str -> Option Value) (P : Nat -> σ -> Prop) (i : Nat) (m : Str -> Option Value) (nx : List (Addr × Obj)) : Prop :=
 ∃ c : σ, nx = Led c /\ Facts c /\ (∀ p ∈ ps c, m p.1 = some p.2) /\ (∀ z, z ≠ x -> (∀ p ∈ ps c, z ≠ p.1) -> stored.contains z = false -> m z = m₀ z) /\ P i c
theorem st_src {σ : Type} {I : Addr} {fp : List Addr} {n : Nat} {PV : Nat -> Value -> Prop} {St : Nat -> Heap -> Prop} {m₀ : Str -> Option Value} (src : List (Addr × Obj)) (Led : σ -> List (Addr × Obj)) (ps : σ -> List (Str × Value)) (Facts : σ -> Prop) (stored : List Str) (P : Nat -> σ -> Prop) (c₀ : σ)
  (W : Walks prog w A I fp [I] n PV St) (hsrc : ∀ c, ∀ q ∈ src, q ∈ Led c) (hfp : ∀ b ∈ fp, b = I \/ ∃ o, (b, o) ∈ src) (hLI : env.locals ≠ I) (hI0 : h!.get? I = none) (hnI : ∀ q ∈ Led c₀, q.1 ≠ I)
  (hst : St 0 s.heap) (F : Fr h! env.locals s.heap m₀) (N : News h! env.locals s.heap (Led c₀)) (hf : Facts c₀) (hk : ∀ p ∈ ps c₀, m₀ p.1 = some p.2) (hp : P 0 c₀)
  (turn : ∀ (c : σ) (i : Nat) (v : Value) (u : Str -> Option Value) h tk own, i < n -> PV i v -> OwnOff own ((Led c₀).map (·.1)) -> Facts c -> P i c ->
   Fr h! env.locals h (fun y => if y = x then some v else kstB (fun z => if stored.contains z then u z else m₀ z) (ps c) y) -> News h! env.locals h (Led c ++ own) ->
   wpAny (model prog w) A (execs body env) (InvPostN h! env.locals (StS Led ps Facts x stored m₀ P (i + 1)) own ((Led c₀).map (·.1)) { s with heap := h, toks := tk } Q) E { s with heap := h, toks := tk })
  (done : ∀ (c : σ) (u : Str -> Option Value) h tk, Facts c -> P n c -> Fr h! env.locals h (fun y => if y = x then u y else kstB (fun z => if stored.contains z then u z else m₀ z) (ps c) y) -> News h! env.locals h (Led c) -> Q .next { s with heap := h, toks := tk }) :
  LoopAtV prog w A h! env x body Q E (.ref I) s := by
 refine loop_src src (fun i m nx => StS Led ps Facts x stored m₀ P i m nx) W (hsrc c₀) hfp hLI hI0 hnI hst F N ⟨c₀, rfl, hf, hk, fun _ _ _ _ => rfl, hp⟩ ?_ ?_
 ·rintro i v m₁ news₁ h tk own hi hv _ hoff _ ⟨c, rfl, hf', h1, h2, hp'⟩ F₁ N₁;refine wpAny_mono (turn c i v m₁ h tk own hi hv hoff hf' hp' (kst_fr h1 h2 F₁) N₁) (fun f s₂ p => ?_) fun _ _ x => x;have up : InvEndN h! env.locals (StS Led ps Facts x stored m₀ P (i + 1)) own ((Led c₀).map (·.1)) { s with heap := h, toks := tk } s₂ ->
    InvEndN h! env.locals (fun m' nx => (∀ q ∈ src, q ∈ nx) /\ StS Led ps Facts x stored m₀ P (i + 1) m' nx) own ((Led c₀).map (·.1)) { s with heap := h, toks := tk } s₂ := by
   rintro ⟨h', tk', m', news', nx', e', F', N', hn', ho', ha, hS⟩;refine ⟨h', tk', m', news', nx', e', F', N', hn', ho', ha, ?_, hS⟩;apply byc; intro O;obtain ⟨c', rfl, _⟩ := hS;apply O; clear O;exact hsrc c'
  cases f with
  | ret v => exact p
  | brk => exact p
  | next => exact up p
  | cont => exact up p
 ·rintro m₁ nx h tk _ ⟨c, rfl, hf', h1, h2, hp'⟩ F₁ N₁;exact done c m₁ h tk hf' hp' (kst_frOut h1 h2 F₁) N₁
theorem st_end {σ : Type} {Led : σ -> List (Addr × Obj)} {ps : σ -> List (Str × Value)} {Facts : σ -> Prop} {stored : List Str} {m₀ : Str -> Option Value} {P : Nat -> σ -> Prop} {i : Nat} (c : σ) {L : Addr} {m' : Str -> Option Value} {own news' : List (Addr × Obj)} {adr : List Addr} {s₁ : Shared} {h' : Heap} {tk : Nat}
  (F : Fr h! L h' m') (N : News h! L h' news') (hn : ∀ p ∈ Led c, p ∈ news') (ho : ∀ p ∈ own, p ∈ news') (ha : (Led c).map (·.1) = adr) (hf : Facts c) (hk : ∀ p ∈ ps c, m' p.1 = some p.2) (hr : ∀ z, z ≠ x -> (∀ p ∈ ps c, z ≠ p.1) -> stored.contains z = false -> m' z = m₀ z) (hp : P i c) :
  InvEndN h! L (StS Led ps Facts x stored m₀ P i) own adr s₁ { s₁ with heap := h', toks := tk } :=
 InvEndN.intro F N ⟨c, rfl, hf, hk, hr, hp⟩ ha hn ho
theorem st_list {σ : Type} {l : Addr} {vs : List Value} {nn : Nat} {m₀ : Str -> Option Value} (Led : σ -> List (Addr × Obj)) (ps : σ -> List (Str × Value)) (Facts : σ -> Prop) (stored : List Str) (P : Nat -> σ -> Prop) (c₀ : σ)
  (hh : A.handled = none) (hl : ∀ c, (l, listOf vs.toArray nn) ∈ Led c) (F : Fr h! env.locals s.heap m₀) (N : News h! env.locals s.heap (Led c₀)) (hf : Facts c₀) (hk : ∀ p ∈ ps c₀, m₀ p.1 = some p.2) (hp : P 0 c₀)
  (turn : ∀ (c : σ) (i : Nat) (v : Value) (u : Str -> Option Value) h tk own, i < vs.length -> vs[i]? = some v -> OwnOff own ((Led c₀).map (·.1)) -> Facts c -> P i c ->
   Fr h! env.locals h (fun y => if y = x then some v else kstB (fun z => if stored.contains z then u z else m₀ z) (ps c) y) -> News h! env.locals h (Led c ++ own) ->
   wpAny (model prog w) A (execs body env) (InvPostN h! env.locals (StS Led ps Facts x stored m₀ P (i + 1)) own ((Led c₀).map (·.1)) { s with heap := h, toks := tk } Q) E { s with heap := h, toks := tk })
  (done : ∀ (c : σ) (u : Str -> Option Value) h tk, Facts c -> P vs.length c -> Fr h! env.locals h (fun y => if y = x then u y else kstB (fun z => if stored.contains z then u z else m₀ z) (ps c) y) -> News h! env.locals h (Led c) -> Q .next { s with heap := h, toks := tk }) :
  wpAny (model prog w) A (pyIter (.ref l)) (fun it s₂ => LoopAtV prog w A h! env x body Q E it s₂) E s := by
 have hol : s.heap.get? l = some (listOf vs.toArray nn) := (N _ (hl c₀)).1;have hls : s.heap.IsList l vs.toArray := ⟨_, hol, rfl, nn, rfl⟩;have hne : l ≠ s.heap.objs.size := Nat.ne_of_lt (Heap.lt_size hol);refine wpAny_pyIter_list hls ?_;have W := Walks.list (prog := prog) (w := w) hh s.heap.objs.size l hne vs.toArray;have hlen : vs.toArray.size = vs.length := by simp
 rw [hlen] at W;refine st_src [(l, listOf vs.toArray nn)] Led ps Facts stored P c₀ W (fun c q hq => by rw [qS hq]; exact hl c) (fun b hb => ?_) ?_ (next_is_new F) (fun q hq => Nat.ne_of_lt (Heap.lt_size (N q hq).1)) ⟨⟨_, Heap.get?_push_size _ rfl, rfl, rfl⟩, hls.at fun o e => qP _ e⟩ (F.push _) (fun p hp => ⟨qP _ (N p hp).1, (N p hp).2⟩) hf hk hp (fun c i v u h tk own hi hv => turn c i v u h tk own hi (by simpa using hv)) done
 ·rcases qC hb with e | hb
  ·exact .inl e
  ·exact .inr ⟨_, by rw [qS hb]; exact .head _⟩
 ·exact Nat.ne_of_lt F.ns.lt
theorem st_vals {σ : Type} {K : Type} [DecidableEq K] {knd : KeyKind prog w K} {r d : Addr} {ov od : Obj} {kvs : List (K × Value)} {m₀ : Str -> Option Value} (Led : σ -> List (Addr × Obj)) (ps : σ -> List (Str × Value)) (Facts : σ -> Prop) (stored : List Str) (P : Nat -> σ -> Prop) (c₀ : σ)
  (hh : A.handled = none) (hlv : ∀ c, (r, ov) ∈ Led c) (hld : ∀ c, (d, od) ∈ Led c) (hv : s.heap.IsValuesView r d) (hd : od.IsDictOf knd kvs) (F : Fr h! env.locals s.heap m₀) (N : News h! env.locals s.heap (Led c₀)) (hf : Facts c₀) (hk : ∀ p ∈ ps c₀, m₀ p.1 = some p.2) (hp : P 0 c₀)
  (turn : ∀ (c : σ) (i : Nat) (v : Value) (u : Str -> Option Value) h tk own, i < kvs.length -> (∃ k, kvs[i]? = some (k, v)) -> OwnOff own ((Led c₀).map (·.1)) -> Facts c -> P i c ->
   Fr h! env.locals h (fun y => if y = x then some v else kstB (fun z => if stored.contains z then u z else m₀ z) (ps c) y) -> News h! env.locals h (Led c ++ own) ->
   wpAny (model prog w) A (execs body env) (InvPostN h! env.locals (StS Led ps Facts x stored m₀ P (i + 1)) own ((Led c₀).map (·.1)) { s with heap := h, toks := tk } Q) E { s with heap := h, toks := tk })
  (done : ∀ (c : σ) (u : Str -> Option Value) h tk, Facts c -> P kvs.length c -> Fr h! env.locals h (fun y => if y = x then u y else kstB (fun z => if stored.contains z then u z else m₀ z) (ps c) y) -> News h! env.locals h (Led c) -> Q .next { s with heap := h, toks := tk }) :
  wpAny (model prog w) A (pyIter (.ref r)) (fun it s₂ => LoopAtV prog w A h! env x body Q E it s₂) E s := by
 have hD : s.heap.DictOf knd d kvs := Heap.dictOf_iff.mpr ⟨od, (N _ (hld c₀)).1, hd⟩;obtain ⟨ep, hD⟩ := hD.dictAt;have hne : d ≠ s.heap.objs.size := Nat.ne_of_lt (Heap.lt_size (N _ (hld c₀)).1);refine wpAny_pyIter_values hv hD ?_;have W := Walks.dictValues (prog := prog) (w := w) (knd := knd) hh s.heap.objs.size d hne kvs ep;refine st_src [(d, od)] Led ps Facts stored P c₀ W (fun c q hq => by rw [qS hq]; exact hld c) (fun b hb => ?_) ?_ (next_is_new F) (fun q hq => Nat.ne_of_lt (Heap.lt_size (N q hq).1)) ⟨⟨_, Heap.get?_push_size _ rfl, rfl, rfl⟩, hD.push _⟩ (F.push _) (fun p hp => ⟨qP _ (N p hp).1, (N p hp).2⟩) hf hk hp turn done
 ·rcases qC hb with e | hb
  ·exact .inl e
  ·exact .inr ⟨_, by rw [qS hb]; exact .head _⟩
 ·exact Nat.ne_of_lt F.ns.lt
theorem st_range {σ : Type} {r : Addr} {b₀ : Int} {t₀ u₀ v₀ : Tok} {n : Nat} {m₀ : Str -> Option Value} (Led : σ -> List (Addr × Obj)) (ps : σ -> List (Str × Value)) (Facts : σ -> Prop) (stored : List Str) (P : Nat -> σ -> Prop) (c₀ : σ)
  (hh : A.handled = none) (hr : IsRange s.heap r 0 b₀ 1 t₀ u₀ v₀) (hb : b₀ = (n : Int)) (hb2 : n < 2 ^ 20) (F : Fr h! env.locals s.heap m₀) (N : News h! env.locals s.heap (Led c₀)) (hf : Facts c₀) (hk : ∀ p ∈ ps c₀, m₀ p.1 = some p.2) (hp : P 0 c₀)
  (turn : ∀ (c : σ) (i : Nat) (t : Tok) (u : Str -> Option Value) h tk own, i < n -> OwnOff own ((Led c₀).map (·.1)) -> Facts c -> P i c ->
   Fr h! env.locals h (fun y => if y = x then some (.int (i : Int) t) else kstB (fun z => if stored.contains z then u z else m₀ z) (ps c) y) -> News h! env.locals h (Led c ++ own) ->
   wpAny (model prog w) A (execs body env) (InvPostN h! env.locals (StS Led ps Facts x stored m₀ P (i + 1)) own ((Led c₀).map (·.1)) { s with heap := h, toks := tk } Q) E { s with heap := h, toks := tk })
  (done : ∀ (c : σ) (u : Str -> Option Value) h tk, Facts c -> P n c -> Fr h! env.locals h (fun y => if y = x then u y else kstB (fun z => if stored.contains z then u z else m₀ z) (ps c) y) -> News h! env.locals h (Led c) -> Q .next { s with heap := h, toks := tk }) :
  wpAny (model prog w) A (pyIter (.ref r)) (fun it s₂ => LoopAtV prog w A h! env x body Q E it s₂) E s := by
 subst hb;have hn : Builtin.Range.rangeSize 0 (n : Int) 1 = (n : Int) := by
  show (if (0 : Int) < n then ((n : Int) - 0 - 1) / 1 + 1 else 0) = n;split <;> omega
 refine wpAny_pyIter_range hr (small_one (by omega) (by omega) (by omega) (by omega)) ?_;have W : Walks prog w A s.heap.objs.size [s.heap.objs.size] [s.heap.objs.size] n (fun i v => i < n /\ ∃ t, v = .int ((0 : Int) + i * 1) t)
   (fun i h => IsRangeIter h s.heap.objs.size ((0 : Int) + (i : Nat) * 1) ((n : Int) - (i : Nat)) 1) := (Walks.range hh _ 0 1 n).bound
 refine st_src [] Led ps Facts stored P c₀ W (fun c q hq => nomatch hq) (fun b hb => .inl (qS hb)) (Nat.ne_of_lt F.ns.lt) (next_is_new F) (fun q hq => Nat.ne_of_lt (Heap.lt_size (N q hq).1)) ?_ (F.push _) (fun p hp => ⟨qP _ (N p hp).1, (N p hp).2⟩) hf hk hp ?_ done
 ·show IsRangeIter _ _ _ _ _;rw [hn]; simpa using Heap.get?_push_size _ rfl
 ·rintro c i v u h tk own hi ⟨_, t, rfl⟩ hoff hfa hP F1 N1;have e1 : (0 : Int) + (i : Int) * 1 = (i : Int) := by omega
  rw [e1] at F1;exact turn c i t u h tk own hi hoff hfa hP F1 N1
theorem fit_long (i : Int) (h0 : 0 <= i) (h1 : i < 2 ^ 40) : Builtin.Range.rangeFitsLong i = true := by
 unfold Builtin.Range.rangeFitsLong;rw [decide_eq_true (show -(2 ^ 63) <= i by omega), decide_eq_true (show i < 2 ^ 63 by omega)]; rfl
theorem st_range2 {σ : Type} {r : Addr} {b₀ : Int} {t₀ u₀ v₀ : Tok} {n : Nat} {m₀ : Str -> Option Value} (Led : σ -> List (Addr × Obj)) (ps : σ -> List (Str × Value)) (Facts : σ -> Prop) (stored : List Str) (P : Nat -> σ -> Prop) (c₀ : σ)
  (hh : A.handled = none) (hr : IsRange s.heap r 0 b₀ 2 t₀ u₀ v₀) (hb : b₀ = 2 * (n : Int)) (hb2 : n < 2 ^ 20) (F : Fr h! env.locals s.heap m₀) (N : News h! env.locals s.heap (Led c₀)) (hf : Facts c₀) (hk : ∀ p ∈ ps c₀, m₀ p.1 = some p.2) (hp : P 0 c₀)
  (turn : ∀ (c : σ) (i : Nat) (t : Tok) (u : Str -> Option Value) h tk own, i < n -> OwnOff own ((Led c₀).map (·.1)) -> Facts c -> P i c ->
   Fr h! env.locals h (fun y => if y = x then some (.int ((2 * i : Nat) : Int) t) else kstB (fun z => if stored.contains z then u z else m₀ z) (ps c) y) -> News h! env.locals h (Led c ++ own) ->
   wpAny (model prog w) A (execs body env) (InvPostN h! env.locals (StS Led ps Facts x stored m₀ P (i + 1)) own ((Led c₀).map (·.1)) { s with heap := h, toks := tk } Q) E { s with heap := h, toks := tk })
  (done : ∀ (c : σ) (u : Str -> Option Value) h tk, Facts c -> P n c -> Fr h! env.locals h (fun y => if y = x then u y else kstB (fun z => if stored.contains z then u z else m₀ z) (ps c) y) -> News h! env.locals h (Led c) -> Q .next { s with heap := h, toks := tk }) :
  wpAny (model prog w) A (pyIter (.ref r)) (fun it s₂ => LoopAtV prog w A h! env x body Q E it s₂) E s := by
 subst hb;have hn : Builtin.Range.rangeSize 0 (2 * (n : Int)) 2 = (n : Int) := by
  show (if (0 : Int) < 2 * n then (2 * (n : Int) - 0 - 1) / 2 + 1 else 0) = n;split <;> omega
 have hsm : Builtin.Range.small 0 (2 * (n : Int)) 2 = true := by
  unfold Builtin.Range.small;rw [hn, fit_long 0 (by omega) (by omega), fit_long (2 * (n : Int)) (by omega) (by omega), fit_long 2 (by omega) (by omega), fit_long (n : Int) (by omega) (by omega)];show (true && true && true && true && ((n : Int) == 0 || (if (2 : Int) > 0 then Builtin.Range.rangeFitsLong (2 * (n : Int) + (2 - 1)) else _))) = true;rw [if_pos (by decide), fit_long (2 * (n : Int) + (2 - 1)) (by omega) (by omega), Bool.or_true]; rfl
 refine wpAny_pyIter_range hr hsm ?_;have W : Walks prog w A s.heap.objs.size [s.heap.objs.size] [s.heap.objs.size] n (fun i v => i < n /\ ∃ t, v = .int ((0 : Int) + i * 2) t)
   (fun i h => IsRangeIter h s.heap.objs.size ((0 : Int) + (i : Nat) * 2) ((n : Int) - (i : Nat)) 2) := (Walks.range hh _ 0 2 n).bound
 refine st_src [] Led ps Facts stored P c₀ W (fun c q hq => nomatch hq) (fun b hb => .inl (qS hb)) (Nat.ne_of_lt F.ns.lt) (next_is_new F) (fun q hq => Nat.ne_of_lt (Heap.lt_size (N q hq).1)) ?_ (F.push _) (fun p hp => ⟨qP _ (N p hp).1, (N p hp).2⟩) hf hk hp ?_ done
 ·show IsRangeIter _ _ _ _ _;rw [hn]; simpa using Heap.get?_push_size _ rfl
 ·rintro c i v u h tk own hi ⟨_, t, rfl⟩ hoff hfa hP F1 N1;have e1 : (0 : Int) + (i : Int) * 2 = ((2 * i : Nat) : Int) := by omega
  rw [e1] at F1;exact turn c i t u h tk own hi hoff hfa hP F1 N1
end
end Mine
end
section
open PySem PySem.W PyProof.Rows PySem.Calls
namespace Mine
inductive GrowEnd (h! : Heap) (L : Addr) (J : (Str -> Option Value) -> List (Addr × Obj) -> Prop) (own : List (Addr × Obj)) (adr : List Addr) (s₁ s₂ : Shared) : Prop
 | mk (h' : Heap) (tk : Nat) (m' : Str -> Option Value) (news' nx : List (Addr × Obj)) (h1 : s₂ = { s₁ with heap := h', toks := tk }) (h2 : Fr h! L h' m') (h3 : News h! L h' news') (h4 : ∀ p ∈ nx, p ∈ news') (h5 : ∀ p ∈ own, p ∈ news') (h6 : ∀ p ∈ nx, p.1 ∈ adr \/ s₁.heap.get? p.1 = none) (h7 : J m' nx)
def GrowPost (h! : Heap) (L : Addr) (J : (Str -> Option Value) -> List (Addr × Obj) -> Prop) (own : List (Addr × Obj)) (adr : List Addr) (s₁ : Shared) (Q : Flow -> Shared -> Prop) (f : Flow) (s₂ : Shared) : Prop :=
 match f with
 | .ret v => Q (.ret v) s₂
 | .brk => Q .next s₂
 | .next => GrowEnd h! L J own adr s₁ s₂
 | .cont => GrowEnd h! L J own adr s₁ s₂
theorem GrowEnd.intro {h! : Heap} {L : Addr} {J : (Str -> Option Value) -> List (Addr × Obj) -> Prop} {own : List (Addr × Obj)} {adr : List Addr} {s₁ : Shared} {h' : Heap} {tk : Nat} {m' : Str -> Option Value} {news' : List (Addr × Obj)} (nx : List (Addr × Obj))
  (F : Fr h! L h' m') (N : News h! L h' news') (h1 : ∀ p ∈ nx, p ∈ news') (h2 : ∀ p ∈ own, p ∈ news') (h3 : ∀ p ∈ nx, p.1 ∈ adr \/ s₁.heap.get? p.1 = none) (hJ : J m' nx) : GrowEnd h! L J own adr s₁ { s₁ with heap := h', toks := tk } :=
 ⟨h', tk, m', news', nx, rfl, F, N, h1, h2, h3, hJ⟩
section
variable {prog : Program} {w : World} {A : Around} {E : Value -> Shared -> Prop} {s : Shared} {env : Env} {h! : Heap} {x : Str} {body : List Stmt} {Q : Flow -> Shared -> Prop}
theorem loop_grow {I : Addr} {fp : List Addr} {n : Nat} {P : Nat -> Value -> Prop} {St : Nat -> Heap -> Prop} {m₀ : Str -> Option Value} {news : List (Addr × Obj)} (src : List (Addr × Obj)) (J : Nat -> (Str -> Option Value) -> List (Addr × Obj) -> Prop)
  (W : Walks prog w A I fp [I] n P St) (hlive : ∀ i h, St i h -> ∃ o, h.get? I = some o) (hsrc : ∀ q ∈ src, q ∈ news) (hfp : ∀ b ∈ fp, b = I \/ ∃ o, (b, o) ∈ src) (hLI : env.locals ≠ I) (hI0 : h!.get? I = none) (hnI : ∀ q ∈ news, q.1 ≠ I)
  (hst : St 0 s.heap) (F : Fr h! env.locals s.heap m₀) (N : News h! env.locals s.heap news) (hj : J 0 m₀ news)
  (turn : ∀ i v m₁ news₁ h tk own, i < n -> P i v -> OwnOff own (news₁.map (·.1)) -> (∀ q ∈ src, q ∈ news₁) -> J i m₁ news₁ -> Fr h! env.locals h (fun y => if y = x then some v else m₁ y) -> News h! env.locals h (news₁ ++ own) ->
   wpAny (model prog w) A (execs body env) (GrowPost h! env.locals (fun m' nx => (∀ q ∈ src, q ∈ nx) /\ J (i + 1) m' nx) own (news₁.map (·.1)) { s with heap := h, toks := tk } Q) E { s with heap := h, toks := tk })
  (done : ∀ m₁ news₁ h tk, (∀ q ∈ src, q ∈ news₁) -> J n m₁ news₁ -> Fr h! env.locals h m₁ -> News h! env.locals h news₁ -> Q .next { s with heap := h, toks := tk }) :
  LoopAtV prog w A h! env x body Q E (.ref I) s := by
 refine ⟨I, fp, [I], n, P, St, m₀, news, (fun i m nx => (∀ q ∈ src, q ∈ nx) /\ J i m nx), rfl, W, ?_, ?_, ?_, hst, F, N, ⟨hsrc, hj⟩, ?_, ?_⟩
 ·intro hm;rcases hfp _ hm with e | ⟨o, ho⟩
  ·exact hLI e
  ·exact (N _ (hsrc _ ho)).2.1 rfl
 ·intro b hb;rw [qS hb]; exact hI0
 ·intro p hp hI;exact hnI p hp (qS hI)
 ·rintro i v m₁ news₁ s₁ own ⟨hh', tk', rfl⟩ hin hP ⟨hl₁, hJ⟩ hoff hown hget hall hst₁ F₁ N₁;have hne : ∀ q ∈ news₁, q.1 ≠ I := fun q hq e => hoff q hq (List.mem_singleton.mpr e);have hsep : OwnOff (own.filter fun p => decide (p.1 = I)) (news₁.map (·.1)) := by
   intro p hp b hb e;apply byc; intro O;obtain ⟨q, hq, rfl⟩ := List.mem_map.mp hb;apply O; clear O;have h1 : p.1 = I := by simpa using (List.mem_filter.mp hp).2
   exact hne q hq (by rw [<- e, h1])
  have N₂ : News h! env.locals hh' (news₁ ++ own.filter fun p => decide (p.1 = I)) := fun p hp => N₁ p ((qA hp).elim (fun h => List.mem_append.mpr (.inr h)) fun h => List.mem_append.mpr (.inl ((List.mem_filter.mp h).1)));obtain ⟨oI, hoI⟩ := hlive _ _ hst₁;refine wpAny_mono (turn i v m₁ news₁ hh' tk' _ hin hP hsep hl₁ hJ F₁ N₂) (fun f s₂ p => ?_) fun _ _ e => e;have fin : GrowEnd h! env.locals (fun m' nx => (∀ q ∈ src, q ∈ nx) /\ J (i + 1) m' nx) (own.filter fun p => decide (p.1 = I)) (news₁.map (·.1)) { s with heap := hh', toks := tk' } s₂ ->
    LoopStepU h! env.locals [I] own (fun m nx => (∀ q ∈ src, q ∈ nx) /\ J (i + 1) m nx) { s with heap := hh', toks := tk' } .next s₂ := by
   rintro ⟨h', tk, m', news', nx, e, F', N', hn, ho, ha, hm⟩;refine ⟨rfl, h', tk, m', nx, e, F', fun p hp => ?_, fun p hp => ?_, hm⟩
   ·rcases qA hp with h | h
    ·by_cases hI : p.1 = I
     ·exact N' p (ho p (List.mem_filter.mpr ⟨h, by simpa using hI⟩))
     ·rcases hfp _ (hown p h) with e1 | ⟨o, hos⟩
      ·exact absurd e1 hI
      ·have h2 : hh'.get? p.1 = some p.2 := hget p h;have h3 : hh'.get? p.1 = some o := (N₁ _ (List.mem_append.mpr (.inr (hl₁ _ hos)))).1;rw [h2] at h3;have h4 : p = (p.1, o) := Prod.ext rfl (Option.some.inj h3);rw [h4];exact N' _ (hn _ (hm.1 _ hos))
    ·exact N' p (hn p h)
   ·intro hI;have hI := qS hI;rcases ha p hp with h1 | h1
    ·obtain ⟨q, hq, e⟩ := List.mem_map.mp h1;exact hne q hq (by rw [e, hI])
    ·change hh'.get? p.1 = none at h1;change hh'.get? I = some oI at hoI;rw [hI, hoI] at h1;cases h1
  cases f with
  | ret v => exact .ret p
  | brk => exact .brk p
  | next => exact .next (fin p)
  | cont => exact .cont (fin p)
 ·rintro h' tk m' news' F' N' _ ⟨hl', hJ⟩;exact done m' news' h' tk hl' hJ F' N'
theorem st_growList {σ : Type} {l : Addr} {vs : List Value} {nn : Nat} {m₀ : Str -> Option Value} (Led : σ -> List (Addr × Obj)) (ps : σ -> List (Str × Value)) (Facts : σ -> Prop) (stored : List Str) (P : Nat -> σ -> Prop) (c₀ : σ)
  (hh : A.handled = none) (hl : ∀ c, (l, listOf vs.toArray nn) ∈ Led c) (F : Fr h! env.locals s.heap m₀) (N : News h! env.locals s.heap (Led c₀)) (hf : Facts c₀) (hk : ∀ p ∈ ps c₀, m₀ p.1 = some p.2) (hp : P 0 c₀)
  (turn : ∀ (c : σ) (i : Nat) (v : Value) (u : Str -> Option Value) h tk own, i < vs.length -> vs[i]? = some v -> OwnOff own ((Led c).map (·.1)) -> Facts c -> P i c ->
   Fr h! env.locals h (fun y => if y = x then some v else kstB (fun z => if stored.contains z then u z else m₀ z) (ps c) y) -> News h! env.locals h (Led c ++ own) ->
   wpAny (model prog w) A (execs body env) (GrowPost h! env.locals (StS Led ps Facts x stored m₀ P (i + 1)) own ((Led c).map (·.1)) { s with heap := h, toks := tk } Q) E { s with heap := h, toks := tk })
  (done : ∀ (c : σ) (u : Str -> Option Value) h tk, Facts c -> P vs.length c -> Fr h! env.locals h (fun y => if y = x then u y else kstB (fun z => if stored.contains z then u z else m₀ z) (ps c) y) -> News h! env.locals h (Led c) -> Q .next { s with heap := h, toks := tk }) :
  wpAny (model prog w) A (pyIter (.ref l)) (fun it s₂ => LoopAtV prog w A h! env x body Q E it s₂) E s := by
 have hol : s.heap.get? l = some (listOf vs.toArray nn) := (N _ (hl c₀)).1;have hls : s.heap.IsList l vs.toArray := ⟨_, hol, rfl, nn, rfl⟩;have hne : l ≠ s.heap.objs.size := Nat.ne_of_lt (Heap.lt_size hol);refine wpAny_pyIter_list hls ?_;have W := Walks.list (prog := prog) (w := w) hh s.heap.objs.size l hne vs.toArray;have hlen : vs.toArray.size = vs.length := by simp
 rw [hlen] at W;refine loop_grow [(l, listOf vs.toArray nn)] (fun i m nx => StS Led ps Facts x stored m₀ P i m nx) W (fun i h st => ?_) (fun q hq => by rw [qS hq]; exact hl c₀) (fun b hb => ?_) ?_ (next_is_new F) (fun q hq => Nat.ne_of_lt (Heap.lt_size (N q hq).1)) ⟨⟨_, Heap.get?_push_size _ rfl, rfl, rfl⟩, hls.at fun o e => qP _ e⟩ (F.push _) (fun p hp => ⟨qP _ (N p hp).1, (N p hp).2⟩) ⟨c₀, rfl, hf, hk, fun _ _ _ _ => rfl, hp⟩ ?_ ?_
 ·obtain ⟨⟨o, ho, _⟩, _⟩ := st;exact ⟨o, ho⟩
 ·rcases qC hb with e | hb
  ·exact .inl e
  ·exact .inr ⟨_, by rw [qS hb]; exact .head _⟩
 ·exact Nat.ne_of_lt F.ns.lt
 ·rintro i v m₁ news₁ h tk own hi hv hoff _ ⟨c, rfl, hf', h1, h2, hp'⟩ F₁ N₁;have hv' : vs[i]? = some v := by simpa using hv
  refine wpAny_mono (turn c i v m₁ h tk own hi hv' hoff hf' hp' (kst_fr h1 h2 F₁) N₁) (fun f s₂ p => ?_) fun _ _ x => x;have up : GrowEnd h! env.locals (StS Led ps Facts x stored m₀ P (i + 1)) own ((Led c).map (·.1)) { s with heap := h, toks := tk } s₂ ->
    GrowEnd h! env.locals (fun m' nx => (∀ q ∈ [(l, listOf vs.toArray nn)], q ∈ nx) /\ StS Led ps Facts x stored m₀ P (i + 1) m' nx) own ((Led c).map (·.1)) { s with heap := h, toks := tk } s₂ := by
   rintro ⟨h', tk', m', news', nx', e', F', N', hn', ho', ha, hS⟩;refine ⟨h', tk', m', news', nx', e', F', N', hn', ho', ha, ?_, hS⟩;apply byc; intro O;obtain ⟨c', rfl, _⟩ := hS;apply O; clear O;intro q hq;rw [qS hq]; exact hl c'
  cases f with
  | ret v => exact p
  | brk => exact p
  | next => exact up p
  | cont => exact up p
 ·rintro m₁ nx h tk _ ⟨c, rfl, hf', h1, h2, hp'⟩ F₁ N₁;exact done c m₁ h tk hf' hp' (kst_frOut h1 h2 F₁) N₁
theorem gr_end {σ : Type} {Led : σ -> List (Addr × Obj)} {ps : σ -> List (Str × Value)} {Facts : σ -> Prop} {stored : List Str} {m₀ : Str -> Option Value} {P : Nat -> σ -> Prop} {i : Nat} (c : σ) {L : Addr} {m' : Str -> Option Value} {own news' : List (Addr × Obj)} {adr : List Addr} {s₁ : Shared} {h' : Heap} {tk : Nat}
  (F : Fr h! L h' m') (N : News h! L h' news') (hn : ∀ p ∈ Led c, p ∈ news') (ho : ∀ p ∈ own, p ∈ news') (ha : ∀ p ∈ Led c, p.1 ∈ adr \/ s₁.heap.get? p.1 = none) (hf : Facts c) (hk : ∀ p ∈ ps c, m' p.1 = some p.2) (hr : ∀ z, z ≠ x -> (∀ p ∈ ps c, z ≠ p.1) -> stored.contains z = false -> m' z = m₀ z) (hp : P i c) :
  GrowEnd h! L (StS Led ps Facts x stored m₀ P i) own adr s₁ { s₁ with heap := h', toks := tk } :=
 GrowEnd.intro _ F N hn ho ha ⟨c, rfl, hf, hk, hr, hp⟩
end
end Mine
end
section
open PySem PySem.W PyProof.Rows PySem.Calls
namespace Mine
def NextPost (R : Shared -> Prop) (f : Flow) (s : Shared) : Prop := match f with
 | .next => R s
 | _ => False
section
variable {prog : Program} {w : World} {A : Around} {E : Value -> Shared -> Prop} {s : Shared} {env : Env} {h! : Heap} {x : Str} {body : List Stmt} {Q : Flow -> Shared -> Prop}
theorem st_rangeT {σ : Type} {r : Addr} {b₀ : Int} {t₀ u₀ v₀ : Tok} {n : Nat} {m₀ : Str -> Option Value} {px : Pos} (Led : σ -> List (Addr × Obj)) (ps : σ -> List (Str × Value)) (Facts : σ -> Prop) (stored : List Str) (P : Nat -> σ -> Prop) (c₀ : σ)
  (hh : A.handled = none) (hr : IsRange s.heap r 0 b₀ 1 t₀ u₀ v₀) (hb : b₀ = (n : Int)) (hb2 : n < 2 ^ 20) (F : Fr h! env.locals s.heap m₀) (N : News h! env.locals s.heap (Led c₀)) (hf : Facts c₀) (hk : ∀ p ∈ ps c₀, m₀ p.1 = some p.2) (hp : P 0 c₀)
  (turn : ∀ (c : σ) (i : Nat) (t : Tok) (u : Str -> Option Value) (s₁ : Shared) own, i < n -> OwnOff own ((Led c₀).map (·.1)) -> Facts c -> P i c ->
   Fr h! env.locals s₁.heap (fun y => if y = x then u y else kstB (fun z => if stored.contains z then u z else m₀ z) (ps c) y) -> News h! env.locals s₁.heap (Led c ++ own) ->
   wpAny (model prog w) A (assign (.Name x px) env (.int (i : Int) t)) (fun _ s₃ => wpAny (model prog w) A (execs body env) (NextPost (InvEndN h! env.locals (StS Led ps Facts x stored m₀ P (i + 1)) own ((Led c₀).map (·.1)) s₁)) E s₃) E s₁)
  (done : ∀ (c : σ) (u : Str -> Option Value) h tk, Facts c -> P n c -> Fr h! env.locals h (fun y => if y = x then u y else kstB (fun z => if stored.contains z then u z else m₀ z) (ps c) y) -> News h! env.locals h (Led c) -> Q .next { s with heap := h, toks := tk }) :
  wpAny (model prog w) A (pyIter (.ref r)) (fun it s₂ => LoopAtT prog w A h! env (.Name x px) body Q E it s₂) E s := by
 subst hb;have hn : Builtin.Range.rangeSize 0 (n : Int) 1 = (n : Int) := by
  show (if (0 : Int) < n then ((n : Int) - 0 - 1) / 1 + 1 else 0) = n;split <;> omega
 refine wpAny_pyIter_range hr (small_one (by omega) (by omega) (by omega) (by omega)) ?_;have W : Walks prog w A s.heap.objs.size [s.heap.objs.size] [s.heap.objs.size] n (fun i v => i < n /\ ∃ t, v = .int ((0 : Int) + i * 1) t)
   (fun i h => IsRangeIter h s.heap.objs.size ((0 : Int) + (i : Nat) * 1) ((n : Int) - (i : Nat)) 1) := (Walks.range hh _ 0 1 n).bound
 have hnI : ∀ q ∈ Led c₀, q.1 ≠ s.heap.objs.size := fun q hq => Nat.ne_of_lt (Heap.lt_size (N q hq).1);refine ⟨s.heap.objs.size, [s.heap.objs.size], [s.heap.objs.size], n, _, _, m₀, Led c₀, (fun i m nx => nx.map (·.1) = (Led c₀).map (·.1) /\ StS Led ps Facts x stored m₀ P i m nx), rfl, W, ?_, ?_, ?_, ?_, F.push _, fun p hp => ⟨qP _ (N p hp).1, (N p hp).2⟩, fun i s' v Q' _ hQ => wpAny_pure hQ, ⟨rfl, c₀, rfl, hf, hk, fun _ _ _ _ => rfl, hp⟩, ?_, ?_⟩
 ·intro hm;exact Nat.ne_of_lt F.ns.lt (qS hm)
 ·intro b hb;rw [qS hb]; exact next_is_new F
 ·intro p hp hI;exact hnI p hp (qS hI)
 ·show IsRangeIter _ _ _ _ _;rw [hn]; simpa using Heap.get?_push_size _ rfl
 ·rintro i v m₁ news₁ s₁ own hin ⟨_, t, rfl⟩ ⟨hadr, c, rfl, hf', h1, h2, hp'⟩ hoff hown hget hall hst₁ F₁ N₁;have e1 : (0 : Int) + (i : Int) * 1 = (i : Int) := by omega
  rw [e1];have hsep : OwnOff own ((Led c₀).map (·.1)) := by
   intro p hp b hb e;apply byc; intro O;obtain ⟨q, hq, rfl⟩ := List.mem_map.mp hb;apply O; clear O;exact hnI q hq (by rw [<- e, qS (hown p hp)])
  have F₂ : Fr h! env.locals s₁.heap (fun y => if y = x then m₁ y else kstB (fun z => if stored.contains z then m₁ z else m₀ z) (ps c) y) := kst_frOut h1 h2 F₁;refine wpAny_mono (turn c i t m₁ s₁ own hin hsep hf' hp' F₂ fun p hp => N₁ p ((qA hp).elim (fun h => List.mem_append.mpr (.inr h)) fun h => List.mem_append.mpr (.inl h))) (fun _ s₃ h₃ => wpAny_mono h₃ (fun f s₄ h₄ => ?_) fun _ _ e => e) fun _ _ e => e;cases f with
  | next =>
   apply byc; intro O;obtain ⟨h', tk, m', news', nx, e, F', N', hn', ho, ha, hm⟩ := h₄;apply O; clear O;refine ⟨rfl, h', tk, m', nx, e, F', fun p hp => ?_, fun p hp => ?_, ha, hm⟩
   ·rcases qA hp with h | h
    ·exact N' p (ho p h)
    ·exact N' p (hn' p h)
   ·have h1 : p.1 ∈ nx.map (·.1) := List.mem_map.mpr ⟨p, hp, rfl⟩;rw [ha] at h1;apply byc; intro O;obtain ⟨q, hq, e⟩ := List.mem_map.mp h1;apply O; clear O;intro hI;exact hnI q hq (by rw [e, qS hI])
  | ret v => exact h₄.elim
  | brk => exact h₄.elim
  | cont => exact h₄.elim
 ·rintro h' tk m' news' F' N' _ ⟨_, c, rfl, hf', h1, h2, hp'⟩;exact done c m' h' tk hf' hp' (kst_frOut h1 h2 F') N'
end
end Mine
end
section
open PySem PySem.W PyProof.Rows PySem.Calls
namespace Mine
inductive LcEnd (g : Heap) (C : Addr) (J : Nat -> List Value -> List (Addr × Obj) -> Prop) (i : Nat) (ys : List Value) (own : List (Addr × Obj)) (s₁ : Shared) (y : Value) (s₂ : Shared) : Prop
 | mk (h' : Heap) (tk : Nat) (m' : Str -> Option Value) (news' nx : List (Addr × Obj)) (h1 : s₂ = { s₁ with heap := h', toks := tk }) (h2 : Fr g C h' m') (h3 : News g C h' news') (h4 : ∀ p ∈ nx, p ∈ news') (h5 : ∀ p ∈ own, p ∈ news') (h6 : OwnOff own (nx.map (·.1))) (h7 : J (i + 1) (ys ++ [y]) nx)
inductive LcSkip (g : Heap) (C : Addr) (J : Nat -> List Value -> List (Addr × Obj) -> Prop) (i : Nat) (ys : List Value) (own : List (Addr × Obj)) (s₁ : Shared) (s₂ : Shared) : Prop
 | mk (h' : Heap) (tk : Nat) (m' : Str -> Option Value) (news' nx : List (Addr × Obj)) (h1 : s₂ = { s₁ with heap := h', toks := tk }) (h2 : Fr g C h' m') (h3 : News g C h' news') (h4 : ∀ p ∈ nx, p ∈ news') (h5 : ∀ p ∈ own, p ∈ news') (h6 : OwnOff own (nx.map (·.1))) (h7 : J (i + 1) ys nx)
theorem LcEnd.intro {g : Heap} {C : Addr} {J : Nat -> List Value -> List (Addr × Obj) -> Prop} {i : Nat} {ys : List Value} {own : List (Addr × Obj)} {s₁ : Shared} {y : Value} {h' : Heap} {tk : Nat} {m' : Str -> Option Value} {news' : List (Addr × Obj)} (nx : List (Addr × Obj))
  (F : Fr g C h' m') (N : News g C h' news') (h1 : ∀ p ∈ nx, p ∈ news') (h2 : ∀ p ∈ own, p ∈ news') (h3 : OwnOff own (nx.map (·.1))) (hJ : J (i + 1) (ys ++ [y]) nx) : LcEnd g C J i ys own s₁ y { s₁ with heap := h', toks := tk } :=
 ⟨h', tk, m', news', nx, rfl, F, N, h1, h2, h3, hJ⟩
theorem LcSkip.intro {g : Heap} {C : Addr} {J : Nat -> List Value -> List (Addr × Obj) -> Prop} {i : Nat} {ys : List Value} {own : List (Addr × Obj)} {s₁ : Shared} {h' : Heap} {tk : Nat} {m' : Str -> Option Value} {news' : List (Addr × Obj)} (nx : List (Addr × Obj))
  (F : Fr g C h' m') (N : News g C h' news') (h1 : ∀ p ∈ nx, p ∈ news') (h2 : ∀ p ∈ own, p ∈ news') (h3 : OwnOff own (nx.map (·.1))) (hJ : J (i + 1) ys nx) : LcSkip g C J i ys own s₁ { s₁ with heap := h', toks := tk } :=
 ⟨h', tk, m', news', nx, rfl, F, N, h1, h2, h3, hJ⟩
inductive LcI (g : Heap) (L D I : Addr) (s : Shared) (n : Nat) (St : Nat -> Heap -> Prop) (J : Nat -> List Value -> List (Addr × Obj) -> Prop) (k : Nat) (s' : Shared) : Prop
 | mk (i : Nat) (H : Heap) (tk : Nat) (u : Str -> Option Value) (ys : List Value) (nx : List (Addr × Obj)) (oI : Obj) (kk : Nat) (h1 : k = n + 1 - i) (h2 : i <= n) (h3 : s' = { s with heap := H, toks := tk }) (h4 : St i H) (h5 : Fr g L H u) (h6 : News g L H ((D, listOf ys.toArray kk) :: (I, oI) :: nx)) (h7 : ∀ p ∈ nx, p.1 ≠ D /\ p.1 ≠ I) (h8 : J i ys nx)
noncomputable def lcTree (ifs : List Expr) (env : Env) : Sem Bool :=
 forIn ifs true fun c r => if r = true then do let ok <- isTrue c env (eval c env); pure (ForInStep.yield ok) else pure (ForInStep.yield r)
section
variable {prog : Program} {w : World} {A : Around} {E : Value -> Shared -> Prop} {R : Result -> Shared -> Prop}
theorem lc_loop {elt iter : Expr} {x : Str} {px : Pos} {ifs : List Expr} {scope : Scope} {pos : Pos} {I D : Addr} {fp : List Addr} {n : Nat} {P : Nat -> Value -> Prop} {St : Nat -> Heap -> Prop} {cenv : Env} {s : Shared} {m : Str -> Option Value} {g : Heap} {nx₀ : List (Addr × Obj)} {oI : Obj}
  (W : Walks prog w A I fp [I] n P St) (hlive : ∀ i h, St i h -> ∃ o, h.get? I = some o) (J : Nat -> List Value -> List (Addr × Obj) -> Prop)
  (hx : cenv.kindOf x = some .local) (hp : (cenv.scope.kind == .class || (cenv.scope.kind == .module && cenv.locals != cenv.globals)) = false)
  (hfp : ∀ b ∈ fp, b ≠ I -> (∃ o, g.get? b = some o) \/ ∃ o, ∀ i ys nx, J i ys nx -> (b, o) ∈ nx)
  (hDI : D ≠ I) (hst : St 0 s.heap) (F : Fr g cenv.locals s.heap m) (N : News g cenv.locals s.heap ((D, listOf #[] 0) :: (I, oI) :: nx₀)) (hoff : ∀ p ∈ nx₀, p.1 ≠ D /\ p.1 ≠ I) (hJ : J 0 [] nx₀)
  (turn : ∀ i v ys nx own H tk (u : Str -> Option Value), i < n -> P i v -> J i ys nx -> OwnOff own (nx.map (·.1)) -> Fr g cenv.locals H (fun y => if y = x then some v else u y) -> News g cenv.locals H (nx ++ own) ->
   wpAny (model prog w) A (lcTree ifs cenv) (fun ok s₃ => if ok = true then wpAny (model prog w) A (eval elt cenv) (LcEnd g cenv.locals J i ys own { s with heap := H, toks := tk }) (notedBy (model prog w) A cenv fun e s' => R (.error e) s') s₃
    else LcSkip g cenv.locals J i ys own { s with heap := H, toks := tk } s₃) (notedBy (model prog w) A cenv fun e s' => R (.error e) s') { s with heap := H, toks := tk })
  (done : ∀ ys nx H tk u k, J n ys nx -> (∀ p ∈ nx, p.1 ≠ D /\ p.1 ≠ I) -> Fr g cenv.locals H u -> News g cenv.locals H ((D, listOf ys.toArray k) :: nx) -> R (.ok .next) { s with heap := H, toks := tk })
  (hys : ∀ i ys nx, i <= n -> J i ys nx -> ys.length <= sizeLine) :
  codeAny (model prog w) A (.compLoop (.ListComp elt [⟨.Name x px, iter, ifs, 0⟩] scope pos) 0 (.ref I) (.ref D) cenv) R s := by
 refine codeAny_compLoop_tests
  (LcI g cenv.locals D I s n St J) ?_ (n + 1)
  ⟨0, s.heap, s.toks, m, [], nx₀, oI, 0, rfl, Nat.zero_le _, rfl, hst, F, N, hoff, hJ⟩
 rintro k s' ⟨i, H, tk, u, ys, nx, oI, kk, rfl, hi, rfl, hst', F', N', hoff', hJ'⟩;have hD := N' (D, listOf ys.toArray kk) (.head _);have hI := N' (I, oI) (.tail _ (.head _));by_cases hlt : i < n
 ·refine W.item i _ _ _ hlt hst' fun v h? tk₁ hPv hst₁ hk₁ => ?_;have ne : ∀ b, b ≠ I -> b ∉ [I] := fun b hb hm => hb (qS hm);have F₁ : Fr g cenv.locals h? u := ⟨F'.ns.at fun o e => hk₁ _ o (ne _ (Ne.symm hI.2.1)) e, fun b o e => hk₁ b o (ne _ fun q => by have := hI.2.2; rw [<- q, e] at this; cases this) (F'.keep b o e), F'.above⟩;refine wpAny_assign_Name (wpAny_storeName_local hx F₁.ns (fun h₂ hn₂ hs₂ => ?_) hp);have F₂ : Fr g cenv.locals h₂ (fun y => if y = x then some v else u y) := F₁.set hn₂ hs₂;have up : ∀ b o, b ≠ cenv.locals -> b ≠ I -> H.get? b = some o -> h₂.get? b = some o := fun b o h1 h2 e => (hs₂.2 b h1).trans (hk₁ b o (ne _ h2) e);obtain ⟨oI₂, hI₂⟩ := hlive _ _ hst₁;have hI₃ : h₂.get? I = some oI₂ := (hs₂.2 I hI.2.1).trans hI₂;have hD₂ : h₂.get? D = some (listOf ys.toArray kk) := up D _ hD.2.1 hDI hD.1;have N₂ : News g cenv.locals h₂ (nx ++ [(D, listOf ys.toArray kk), (I, oI₂)]) := fun p hp => by
   rcases qA hp with hp | hp
   ·have z := N' p (.tail _ (.tail _ hp));exact ⟨up p.1 _ z.2.1 (hoff' p hp).2 z.1, z.2⟩
   ·rcases qC hp with rfl | hp
    ·exact ⟨hD₂, hD.2⟩
    ·rw [qS hp];exact ⟨hI₃, hI.2⟩
  have hofo : OwnOff [(D, listOf ys.toArray kk), (I, oI₂)] (nx.map (·.1)) := fun p hp b hb => by
   apply byc; intro O;obtain ⟨q, hq, rfl⟩ := List.mem_map.mp hb;apply O; clear O;rcases qC hp with rfl | hp
   ·exact Ne.symm (hoff' q hq).1
   ·rw [qS hp];exact Ne.symm (hoff' q hq).2
  have carry : ∀ (H' : Heap) (m'' : Str -> Option Value) (news'' nx'' : List (Addr × Obj)) (ys'' : List Value), Fr g cenv.locals H' m'' -> News g cenv.locals H' news'' -> (∀ p ∈ nx'', p ∈ news'') -> (∀ p ∈ [(D, listOf ys.toArray kk), (I, oI₂)], p ∈ news'') -> J (i + 1) ys'' nx'' ->
    St (i + 1) H' := fun H' m'' news'' nx'' ys'' F'' N'' h1 h2 hJ'' => W.frame _ _ _ hst₁ fun b hb o e => by
   by_cases hbI : b = I
   ·rw [hbI] at e ⊢;rw [hI₂] at e;cases e;exact (N'' _ (h2 (I, oI₂) (.tail _ (.head _)))).1
   ·rcases hfp b hb hbI with ⟨o', e'⟩ | ⟨o', e'⟩
    ·have e2 := F''.keep b o' e';have e3 := F₁.keep b o' e';rw [e] at e3;cases e3;exact e2
    ·have e2 := (N'' _ (h1 _ (e' _ _ _ hJ''))).1;have e4 := N' _ (.tail _ (.tail _ (e' _ _ _ hJ')));have e3 : h?.get? b = some o' := hk₁ b o' (ne _ hbI) e4.1;rw [e] at e3;cases e3;exact e2
  have away : ∀ {nx'' : List (Addr × Obj)}, OwnOff [(D, listOf ys.toArray kk), (I, oI₂)] (nx''.map (·.1)) -> ∀ p ∈ nx'', p.1 ≠ D /\ p.1 ≠ I := fun ho p hp =>
   ⟨Ne.symm (ho _ (.head _) _ (qM hp)), Ne.symm (ho _ (.tail _ (.head _)) _ (qM hp))⟩
  refine wpAny_mono (turn i v ys nx _ h₂ _ u hlt hPv hJ' hofo F₂ N₂) (fun ok s₃ h₃ => ?_) fun _ _ e => e;cases ok with
  | false =>
   simp only [Bool.false_eq_true, if_false] at h₃ ⊢;apply byc; intro O;obtain ⟨H', tk', m'', news'', nx'', rfl, F'', N'', h1, h2, h3, hJ''⟩ := h₃;apply O; clear O;exact ⟨n + 1 - (i + 1), decr (by assumption), i + 1, H', tk', m'', ys, nx'', oI₂, kk, rfl, hlt, rfl, carry _ _ _ _ _ F'' N'' h1 h2 hJ'', F'', fun p hp => by
    rcases qC hp with rfl | hp
    ·exact N'' _ (h2 _ (.head _))
    ·rcases qC hp with rfl | hp
     ·exact N'' _ (h2 _ (.tail _ (.head _)))
     ·exact N'' _ (h1 _ hp), away h3, hJ''⟩
  | true =>
   simp only [if_true] at h₃ ⊢;refine wpAny_mono h₃ (fun y s₄ h₄ => ?_) fun _ _ e => e;apply byc; intro O;obtain ⟨H', tk', m'', news'', nx'', rfl, F'', N'', h1, h2, h3, hJ''⟩ := h₄;apply O; clear O;have hD' := N'' _ (h2 _ (.head _));refine wpAny_list_append_plain (items := ys.toArray) (hsz := by rw [List.size_toArray]; exact hys i ys nx hi hJ') ⟨kk, hD'.1⟩ fun h₅ hl₅ hs₅ => ?_;obtain ⟨k₅, hl₅⟩ := hl₅;have aw := away h3;have F₅ : Fr g cenv.locals h₅ m'' := ⟨F''.ns.at fun o e => (hs₅.2 _ (Ne.symm hD'.2.1)).trans e, fun b o e => (hs₅.2 b (fun q => by have := hD'.2.2; rw [<- q, e] at this; cases this)).trans (F''.keep b o e), F''.above⟩;refine ⟨n + 1 - (i + 1), decr (by assumption), i + 1, h₅, tk', m'', ys ++ [y], nx'', oI₂, k₅, rfl, hlt, rfl, ?_, F₅, fun p hp => ?_, aw, hJ''⟩
   ·have st4 := carry _ _ _ _ _ F'' N'' h1 h2 hJ'';refine W.frame _ _ _ st4 fun b hb o e => (hs₅.2 b fun q => ?_).trans e;by_cases hbI : b = I
    ·exact hDI (q.symm.trans hbI)
    ·rcases hfp b hb hbI with ⟨o', e'⟩ | ⟨o', e'⟩
     ·have := hD'.2.2;rw [<- q, e'] at this;cases this
     ·exact (aw _ (e' _ _ _ hJ'')).1 q
   ·rcases qC hp with rfl | hp
    ·refine ⟨?_, hD'.2⟩;show h₅.get? D = some (listOf (ys ++ [y]).toArray k₅);rw [hl₅];simp
    ·have z : p.1 ≠ D /\ H'.get? p.1 = some p.2 /\ p.1 ≠ cenv.locals /\ g.get? p.1 = none := by
      rcases qC hp with rfl | hp
      ·exact ⟨Ne.symm hDI, N'' _ (h2 _ (.tail _ (.head _)))⟩
      ·exact ⟨(aw p hp).1, N'' _ (h1 _ hp)⟩
     exact ⟨(hs₅.2 _ z.1).trans z.2.1, z.2.2⟩
 ·have hin : i = n := eqN (by assumption) (by assumption);subst hin;refine W.done _ _ _ hst' fun h? tk₁ hk₁ => ?_;have ne : ∀ b, b ≠ I -> b ∉ [I] := fun b hb hm => hb (qS hm);have F₁ : Fr g cenv.locals h? u := ⟨F'.ns.at fun o e => hk₁ _ o (ne _ (Ne.symm hI.2.1)) e, fun b o e => hk₁ b o (ne _ fun q => by have := hI.2.2; rw [<- q, e] at this; cases this) (F'.keep b o e), F'.above⟩;refine done ys nx h? tk₁ u kk hJ' hoff' F₁ fun p hp => ?_;rcases qC hp with rfl | hp
  ·exact ⟨hk₁ _ _ (ne _ hDI) hD.1, hD.2⟩
  ·have z := N' p (.tail _ (.tail _ hp));exact ⟨hk₁ _ _ (ne _ (hoff' p hp).2) z.1, z.2⟩
theorem lc_block {elt iter : Expr} {x : Str} {px : Pos} {ifs : List Expr} {scope : Scope} {cl : List (Str × Addr)} {pos : Pos} {I : Addr} {fp : List Addr} {n : Nat} {P : Nat -> Value -> Prop} {St : Nat -> Heap -> Prop} {env : Env} {s : Shared} {h! : Heap} {L : Addr} {m : Str -> Option Value}
  {news : List (Addr × Obj)} {K : Frag} {p : Program} {loose : List Str} {mean : ExcName -> Option Value} {mg mb : Str -> Option Value} {oI : Obj} {R : Value -> Addr -> Result -> Shared -> Prop}
  (W : Walks prog w A I fp [I] n P St) (hlive : ∀ i h, St i h -> ∃ o, h.get? I = some o) (J : Nat -> List Value -> List (Addr × Obj) -> Prop)
  (hcell : ∀ y ∈ scope.names, y.2 ≠ .cell) (hkind : scope.kind = .function) (hx : scope.names.lookup x = some .local)
  (F : Fr h! L s.heap m) (X : K.In h!) (T : Top p loose mean mg mb h!) (N : News h! L s.heap news) (hst : St 0 s.heap) (hI : s.heap.get? I = some oI) (hI0 : h!.get? I = none) (hIL : I ≠ L) (hIn : ∀ p ∈ news, p.1 ≠ I)
  (hfp : ∀ b ∈ fp, b ≠ I -> (∃ o, h!.get? b = some o) \/ ∃ o, ∀ i ys nx, J i ys nx -> (b, o) ∈ nx) (hJ : J 0 [] news)
  (turn : ∀ g C E' i v ys nx own H tk (u : Str -> Option Value), K.In g -> Top p loose mean mg mb g -> (∀ p ∈ news, p.1 < C) -> i < n -> P i v -> J i ys nx -> OwnOff own (nx.map (·.1)) -> Fr g C H (fun y => if y = x then some v else u y) -> News g C H (nx ++ own) ->
   wpAny (model prog w) A (lcTree ifs (compEnvC scope cl C env)) (fun ok s₃ => if ok = true then wpAny (model prog w) A (eval elt (compEnvC scope cl C env)) (LcEnd g C J i ys own { s with heap := H, toks := tk }) E' s₃
    else LcSkip g C J i ys own { s with heap := H, toks := tk } s₃) E' { s with heap := H, toks := tk })
  (done : ∀ D C ys nx H tk k u, J n ys nx -> (∀ p ∈ nx, p.1 ≠ D) -> (∀ p ∈ news, p.1 < D) -> D < C -> H.Ns C u -> L < D -> h!.get? C = none -> (∀ p ∈ nx, p.1 ≠ C) -> Fr h! L H m -> News h! L H ((D, listOf ys.toArray k) :: nx) -> R (.ref D) C (.ok .next) { s with heap := H, toks := tk })
  (hys : ∀ i ys nx, i <= n -> J i ys nx -> ys.length <= sizeLine) :
  wpAny (model prog w) A (newList []) (fun acc s₃ => wpAny (model prog w) A (newFunctionEnv scope env.globals cl [] env.qual none .none (some env)) (fun cenv s₄ =>
   codeAny (model prog w) A (.compStart (.ListComp elt [⟨.Name x px, iter, ifs, 0⟩] scope pos) 0 (.ref I) acc { cenv with scope := relabel scope env }) (R acc cenv.locals) s₄) E s₃) E s := by
 refine wpAny_newObj_type (wpAny_newFunctionEnv hcell (by intro y hy; simp at hy) (fun h? hns₁ hsb₁ => ?_) hkind);dsimp only at hns₁ hsb₁ ⊢;generalize hH2 : s.heap.push { cls := .type "list", dict := none, data := .seq ([] : List Value).toArray } = H2 at hns₁ hsb₁ ⊢;have hC : H2.objs.size = s.heap.objs.size + 1 := by rw [<- hH2, Heap.size_push]
 generalize hDe : s.heap.objs.size = D at hC ⊢;generalize hCe : H2.objs.size = C at hC hns₁ hsb₁ ⊢;have hDC : D < C := by rw [hC]; exact Nat.lt_succ_self _
 have lowD : ∀ {b o}, s.heap.get? b = some o -> b < D := fun e => hDe ▸ Heap.lt_size e;have old : ∀ b o, s.heap.get? b = some o -> h?.get? b = some o := fun b o e => hsb₁.extBut b o (Nat.ne_of_lt (Nat.lt_trans (lowD e) hDC)) (qP _ (hH2 ▸ qP _ e));have hD₁ : h?.get? D = some (listOf #[] 0) := hsb₁.extBut _ _ (Nat.ne_of_lt hDC) (qP _ (hH2 ▸ hDe ▸ Heap.get?_push_size _ rfl));have hst₁ : St 0 h? := W.frame _ _ _ hst fun b _ o e => old b o e;have nI : I ∉ news.map (·.1) := fun q => by
  apply byc; intro O;obtain ⟨q, hq, e⟩ := List.mem_map.mp q;apply O; clear O;exact hIn q hq e
 let hid : List Addr := I :: news.map (·.1)
 have nh : ∀ b o, h!.get? b = some o -> b ∉ hid := fun b o e q => by
  rcases qC q with q | q
  ·rw [q, hI0] at e; cases e
  ·obtain ⟨r, hr, rfl⟩ := List.mem_map.mp q;rw [(N r hr).2.2] at e; cases e
 have nL : L ∉ hid := fun q => by
  rcases qC q with q | q
  ·exact hIL q.symm
  ·obtain ⟨r, hr, e⟩ := List.mem_map.mp q;exact (N r hr).2.1 e
 let g := hideAll s.heap hid
 have st : ∀ b o, h!.get? b = some o -> g.get? b = some o := fun b o e => hideAll_get _ (F.keep b o e) (nh b o e);have gs : ∀ b o, g.get? b = some o -> s.heap.get? b = some o := fun b o e => of_hideAll _ e;have gsz : g.objs.size = D := (hideAll_size _ _).trans hDe;have fresh : ∀ b, D <= b -> g.get? b = none := fun b hb => Heap.get?_none_of_le (gsz.symm ▸ hb);have LD : L < D := by obtain ⟨oL, _, _, hL, _⟩ := F.ns; exact lowD hL
 apply byc; intro O;obtain ⟨oL, esL, epL, hL, hLd, hLk, hLf⟩ := F.ns;apply O; clear O;have hLg : g.get? L = some oL := hideAll_get _ hL nL;have Fg : Fr g C h? (fun x => ([] : List (Str × Value)).reverse.lookup x) := ⟨hns₁, fun b o e => old b o (gs b o e), by rw [gsz]; exact Nat.le_of_lt hDC⟩;have Ng : News g C h? ((D, listOf #[] 0) :: (I, oI) :: news) := fun q hq => by
  rcases qC hq with rfl | hq
  ·exact ⟨hD₁, Nat.ne_of_lt hDC, fresh _ (Nat.le_refl _)⟩
  ·rcases qC hq with rfl | hq
   ·exact ⟨old _ _ hI, Nat.ne_of_lt (Nat.lt_trans (lowD hI) hDC), hideAll_none _ (.head _)⟩
   ·exact ⟨old _ _ (N q hq).1, Nat.ne_of_lt (Nat.lt_trans (lowD (N q hq).1) hDC), hideAll_none _ (.tail _ (qM hq))⟩
 have loop : ∀ s₃ : Shared, s₃ = { s with heap := h?, toks := s.toks + ([] : List (Str × Value)).length } ->
   codeAny (model prog w) A (.compLoop (.ListComp elt [⟨.Name x px, iter, ifs, 0⟩] scope pos) 0 (.ref I) (.ref D) (compEnvC scope cl C env)) (R (.ref D) C) s₃ := by
  rintro s₃ rfl;refine lc_loop (cenv := compEnvC scope cl C env) (g := g) (nx₀ := news) W hlive J (lookup_relabel_local hx) (by simp [compEnvC, relabel, hkind]) ?_ (Ne.symm (Nat.ne_of_lt (lowD hI))) hst₁ Fg Ng (fun q hq => ⟨Nat.ne_of_lt (lowD (N q hq).1), hIn q hq⟩) hJ ?_ ?_ hys
  ·intro b hb hbI;rcases hfp b hb hbI with ⟨o, e⟩ | h
   ·exact .inl ⟨o, st b o e⟩
   ·exact .inr h
  ·intro i v ys nx own H tk u hi hPv hJ' hoff F' N';exact turn g C _ i v ys nx own H tk u (X.keeps st) (T.keeps st) (fun q hq => Nat.lt_trans (lowD (N q hq).1) hDC) hi hPv hJ' hoff F' N'
  ·intro ys nx H tk u k hJ' hoff F' N';refine done D C ys nx H tk k u hJ' (fun q hq => (hoff q hq).1) (fun q hq => lowD (N q hq).1) hDC F'.ns LD ?_ (fun q hq => (N' q (.tail _ hq)).2.1) ⟨⟨oL, esL, epL, F'.keep L oL hLg, hLd, hLk, hLf⟩, fun b o e => F'.keep b o (st b o e), F.above⟩ fun q hq => ⟨(N' q hq).1, fun e => ?_, ?_⟩
   ·cases e : h!.get? C with
    | none => rfl
    | some o => have := st _ _ e; rw [fresh C (Nat.le_of_lt hDC)] at this; cases this
   ·have := (N' q hq).2.2;rw [e, hLg] at this; cases this
   ·cases e : h!.get? q.1 with
    | none => rfl
    | some o => have := (N' q hq).2.2; rw [st _ _ e] at this; cases this
 exact codeAny_compStart_list (loop _ rfl) (W.self 0 _ _ _ hst₁ (loop _ rfl))
def LcAt (prog : Program) (w : World) (A : Around) (E : Value -> Shared -> Prop) (env : Env) (elt : Expr) (x : Str) (px : Pos) (iter : Expr) (ifs : List Expr) (scope : Scope) (pos : Pos) (cl : List (Str × Addr)) (R : Value -> Addr -> Result -> Shared -> Prop) (it : Value) (s : Shared) : Prop :=
 wpAny (model prog w) A (newList []) (fun acc s₃ => wpAny (model prog w) A (newFunctionEnv scope env.globals cl [] env.qual none .none (some env)) (fun cenv s₄ =>
   codeAny (model prog w) A (.compStart (.ListComp elt [⟨.Name x px, iter, ifs, 0⟩] scope pos) 0 it acc { cenv with scope := relabel scope env }) (R acc cenv.locals) s₄) E s₃) E s
section
variable {elt iter : Expr} {x : Str} {px : Pos} {ifs : List Expr} {scope : Scope} {cl : List (Str × Addr)} {pos : Pos} {fp : List Addr} {n : Nat} {P : Nat -> Value -> Prop} {St : Nat -> Heap -> Prop} {env : Env} {s : Shared} {h! : Heap} {L : Addr} {m : Str -> Option Value}
  {news : List (Addr × Obj)} {K : Frag} {p : Program} {loose : List Str} {mean : ExcName -> Option Value} {mg mb : Str -> Option Value} {oI : Obj} {R : Value -> Addr -> Result -> Shared -> Prop} {Q : Value -> Shared -> Prop}
theorem lc_eval (hclos : closureFor scope env = pure cl) (hkind : scope.kind = .function) (hnames : ∀ y ∈ scope.names, y.2 = .local -> scope.names.lookup y.1 = some .local)
  (h : wpAny (model prog w) A (eval iter env) (fun xv s₁ => wpAny (model prog w) A (pyIter xv) (fun it s₂ => LcAt prog w A E env elt x px iter ifs scope pos cl (compPost (model prog w) A E none Q) it s₂) E s₁) E s)
  (hs : ∀ x, foldedSetIterable iter env x = pure x := by intro _; rfl) :
  wpAny (model prog w) A (eval (.ListComp elt [⟨.Name x px, iter, ifs, 0⟩] scope pos) env) Q E s := by
 rw [eval_ListComp];exact wpAny_comprehension_free (use := none) rfl hs hclos hkind hnames h
theorem lc_assign {y : Str} {py spos : Pos} {Q : Flow -> Shared -> Prop} (hsw : swapsWith (.ListComp elt [⟨.Name x px, iter, ifs, 0⟩] scope pos) (some (.Name y py)) spos.line env = pure true)
  (hclos : closureFor scope env = pure cl) (hkind : scope.kind = .function) (hnames : ∀ y ∈ scope.names, y.2 = .local -> scope.names.lookup y.1 = some .local)
  (h : wpAny (model prog w) A (eval iter env) (fun xv s₁ => wpAny (model prog w) A (pyIter xv) (fun it s₂ => LcAt prog w A E env elt x px iter ifs scope pos cl (compPost (model prog w) A E (some (assign (.Name y py) env)) (fun _ s' => Q .next s')) it s₂) E s₁) E s)
  (hs : ∀ x, foldedSetIterable iter env x = pure x := by intro _; rfl) :
  wpAny (model prog w) A (exec (.Assign [.Name y py] (.ListComp elt [⟨.Name x px, iter, ifs, 0⟩] scope pos) spos) env) Q E s := by
 rw [exec_Assign_Name_used _ _ _ _ hsw];refine wpAny_bind (wpAny_standAt (wpAny_bind ?_));show wpAny _ A (do let _ <- comprehension (.ListComp elt [⟨.Name x px, iter, ifs, 0⟩] scope pos) scope env _ (newList []) false (eval iter env) (some (assign (.Name y py) env))) _ _ s;exact wpAny_bind (wpAny_mono (wpAny_comprehension_free (use := some (assign (.Name y py) env)) (Q := fun _ s' => Q .next s') rfl hs hclos hkind hnames h) (fun _ s' hq => wpAny_pure (wpAny_pure hq)) fun _ _ e => e)
theorem lc_go (W : Walks prog w A s.heap.objs.size fp [s.heap.objs.size] n P St) (hlive : ∀ i h, St i h -> ∃ o, h.get? s.heap.objs.size = some o) (J : Nat -> List Value -> List (Addr × Obj) -> Prop)
  (hcell : ∀ y ∈ scope.names, y.2 ≠ .cell) (hkind : scope.kind = .function) (hx : scope.names.lookup x = some .local)
  (F : Fr h! L s.heap m) (X : K.In h!) (T : Top p loose mean mg mb h!) (N : News h! L s.heap news) (hf : oI.isFreed = false) (hst : St 0 (s.heap.push oI))
  (hfp : ∀ b ∈ fp, b ≠ s.heap.objs.size -> (∃ o, h!.get? b = some o) \/ ∃ o, ∀ i ys nx, J i ys nx -> (b, o) ∈ nx) (hJ : J 0 [] news)
  (turn : ∀ g C E' i v ys nx own H tk (u : Str -> Option Value), K.In g -> Top p loose mean mg mb g -> (∀ p ∈ news, p.1 < C) -> i < n -> P i v -> J i ys nx -> OwnOff own (nx.map (·.1)) -> Fr g C H (fun y => if y = x then some v else u y) -> News g C H (nx ++ own) ->
   wpAny (model prog w) A (lcTree ifs (compEnvC scope cl C env)) (fun ok s₃ => if ok = true then wpAny (model prog w) A (eval elt (compEnvC scope cl C env)) (LcEnd g C J i ys own { s with heap := H, toks := tk }) E' s₃
    else LcSkip g C J i ys own { s with heap := H, toks := tk } s₃) E' { s with heap := H, toks := tk })
  (done : ∀ D C ys nx H tk k u, J n ys nx -> (∀ p ∈ nx, p.1 ≠ D) -> (∀ p ∈ news, p.1 < D) -> D < C -> H.Ns C u -> L < D -> h!.get? C = none -> (∀ p ∈ nx, p.1 ≠ C) -> Fr h! L H m -> News h! L H ((D, listOf ys.toArray k) :: nx) -> R (.ref D) C (.ok .next) { s with heap := H, toks := tk })
  (hys : ∀ i ys nx, i <= n -> J i ys nx -> ys.length <= sizeLine) :
  LcAt prog w A E env elt x px iter ifs scope pos cl R (.ref s.heap.objs.size) { s with heap := s.heap.push oI } :=
 lc_block (s := { s with heap := s.heap.push oI }) W hlive J hcell hkind hx (F.push _) X T (fun q hq => ⟨qP _ (N q hq).1, (N q hq).2⟩) hst (Heap.get?_push_size _ hf)
  (by
   have := F.above;exact Heap.get?_none_of_le (Nat.le_trans this (Nat.le_of_lt F.ns.lt)))
  (Ne.symm (Nat.ne_of_lt F.ns.lt)) (fun q hq => Nat.ne_of_lt (Heap.lt_size (N q hq).1)) hfp hJ turn done hys
theorem lc_list {ax : Addr} {items : List Value} {kk : Nat} (hh : A.handled = none) (J : Nat -> List Value -> List (Addr × Obj) -> Prop) (hm : ∀ i ys nx, J i ys nx -> (ax, listOf items.toArray kk) ∈ nx)
  (hcell : ∀ y ∈ scope.names, y.2 ≠ .cell) (hkind : scope.kind = .function) (hx : scope.names.lookup x = some .local)
  (F : Fr h! L s.heap m) (X : K.In h!) (T : Top p loose mean mg mb h!) (N : News h! L s.heap news) (hJ : J 0 [] news)
  (turn : ∀ g C E' i v ys nx own H tk (u : Str -> Option Value), K.In g -> Top p loose mean mg mb g -> (∀ p ∈ news, p.1 < C) -> i < items.length -> items[i]? = some v -> J i ys nx -> OwnOff own (nx.map (·.1)) -> Fr g C H (fun y => if y = x then some v else u y) -> News g C H (nx ++ own) ->
   wpAny (model prog w) A (lcTree ifs (compEnvC scope cl C env)) (fun ok s₃ => if ok = true then wpAny (model prog w) A (eval elt (compEnvC scope cl C env)) (LcEnd g C J i ys own { s with heap := H, toks := tk }) E' s₃
    else LcSkip g C J i ys own { s with heap := H, toks := tk } s₃) E' { s with heap := H, toks := tk })
  (done : ∀ D C ys nx H tk k u, J items.length ys nx -> (∀ p ∈ nx, p.1 ≠ D) -> (∀ p ∈ news, p.1 < D) -> D < C -> H.Ns C u -> L < D -> h!.get? C = none -> (∀ p ∈ nx, p.1 ≠ C) -> Fr h! L H m -> News h! L H ((D, listOf ys.toArray k) :: nx) -> R (.ref D) C (.ok .next) { s with heap := H, toks := tk })
  (hys : ∀ i ys nx, i <= items.length -> J i ys nx -> ys.length <= sizeLine) :
  wpAny (model prog w) A (pyIter (.ref ax)) (fun it s₂ => LcAt prog w A E env elt x px iter ifs scope pos cl R it s₂) E s := by
 have hax := N _ (hm _ _ _ hJ);have hls : s.heap.IsList ax items.toArray := ⟨_, hax.1, rfl, kk, rfl⟩;have hne : ax ≠ s.heap.objs.size := Nat.ne_of_lt (Heap.lt_size hax.1);have hsz : items.toArray.size = items.length := List.size_toArray;have W := Walks.list (prog := prog) (w := w) hh s.heap.objs.size ax hne items.toArray;rw [hsz] at W;refine wpAny_pyIter_list hls (lc_go W (fun i h st => ?_) J hcell hkind hx F X T N rfl ⟨⟨_, Heap.get?_push_size _ rfl, rfl, rfl⟩, hls.at fun o e => qP _ e⟩ ?_ hJ ?_ done hys)
 ·obtain ⟨⟨o, ho, _⟩, _⟩ := st;exact ⟨o, ho⟩
 ·intro b hb hne';rcases qC hb with q | q
  ·exact absurd q hne'
  ·rw [qS q];exact .inr ⟨_, hm⟩
 ·intro g C E' i v ys nx own H tk u Xg Tg lC hi hP hJ' ho F' N';exact turn g C E' i v ys nx own H tk u Xg Tg lC hi (by simpa using hP) hJ' ho F' N'
theorem lc_listB {ax : Addr} {items : List Value} (hh : A.handled = none) (J : Nat -> List Value -> List (Addr × Obj) -> Prop) (hax : h!.IsList ax items.toArray)
  (hcell : ∀ y ∈ scope.names, y.2 ≠ .cell) (hkind : scope.kind = .function) (hx : scope.names.lookup x = some .local)
  (F : Fr h! L s.heap m) (X : K.In h!) (T : Top p loose mean mg mb h!) (N : News h! L s.heap news) (hJ : J 0 [] news)
  (turn : ∀ g C E' i v ys nx own H tk (u : Str -> Option Value), K.In g -> Top p loose mean mg mb g -> (∀ p ∈ news, p.1 < C) -> i < items.length -> items[i]? = some v -> J i ys nx -> OwnOff own (nx.map (·.1)) -> Fr g C H (fun y => if y = x then some v else u y) -> News g C H (nx ++ own) ->
   wpAny (model prog w) A (lcTree ifs (compEnvC scope cl C env)) (fun ok s₃ => if ok = true then wpAny (model prog w) A (eval elt (compEnvC scope cl C env)) (LcEnd g C J i ys own { s with heap := H, toks := tk }) E' s₃
    else LcSkip g C J i ys own { s with heap := H, toks := tk } s₃) E' { s with heap := H, toks := tk })
  (done : ∀ D C ys nx H tk k u, J items.length ys nx -> (∀ p ∈ nx, p.1 ≠ D) -> (∀ p ∈ news, p.1 < D) -> D < C -> H.Ns C u -> L < D -> h!.get? C = none -> (∀ p ∈ nx, p.1 ≠ C) -> Fr h! L H m -> News h! L H ((D, listOf ys.toArray k) :: nx) -> R (.ref D) C (.ok .next) { s with heap := H, toks := tk })
  (hys : ∀ i ys nx, i <= items.length -> J i ys nx -> ys.length <= sizeLine) :
  wpAny (model prog w) A (pyIter (.ref ax)) (fun it s₂ => LcAt prog w A E env elt x px iter ifs scope pos cl R it s₂) E s := by
 have hls : s.heap.IsList ax items.toArray := hax.at fun o e => F.keep ax o e;apply byc; intro O;obtain ⟨ol, hol, _⟩ := id hax;apply O; clear O;have hne : ax ≠ s.heap.objs.size := Nat.ne_of_lt (Heap.lt_size (F.keep _ _ hol));have hsz : items.toArray.size = items.length := List.size_toArray;have W := Walks.list (prog := prog) (w := w) hh s.heap.objs.size ax hne items.toArray;rw [hsz] at W;refine wpAny_pyIter_list hls (lc_go W (fun i h st => ?_) J hcell hkind hx F X T N rfl ⟨⟨_, Heap.get?_push_size _ rfl, rfl, rfl⟩, hls.at fun o e => qP _ e⟩ ?_ hJ ?_ done hys)
 ·obtain ⟨⟨o, ho, _⟩, _⟩ := st;exact ⟨o, ho⟩
 ·intro b hb hne';rcases qC hb with q | q
  ·exact absurd q hne'
  ·rw [qS q];exact .inl ⟨_, hol⟩
 ·intro g C E' i v ys nx own H tk u Xg Tg lC hi hP hJ' ho F' N';exact turn g C E' i v ys nx own H tk u Xg Tg lC hi (by simpa using hP) hJ' ho F' N'
theorem lc_range {r : Addr} {a : Int} {b : Int} {t₀ u₀ v₀ : Tok} {n : Nat} (hh : A.handled = none) (J : Nat -> List Value -> List (Addr × Obj) -> Prop)
  (hr : IsRange s.heap r a b 1 t₀ u₀ v₀) (hsmall : Builtin.Range.small a b 1 = true) (hn : Builtin.Range.rangeSize a b 1 = (n : Int))
  (hcell : ∀ y ∈ scope.names, y.2 ≠ .cell) (hkind : scope.kind = .function) (hx : scope.names.lookup x = some .local)
  (F : Fr h! L s.heap m) (X : K.In h!) (T : Top p loose mean mg mb h!) (N : News h! L s.heap news) (hJ : J 0 [] news)
  (turn : ∀ g C E' (i : Nat) t ys nx own H tk (u : Str -> Option Value), K.In g -> Top p loose mean mg mb g -> (∀ p ∈ news, p.1 < C) -> i < n -> J i ys nx -> OwnOff own (nx.map (·.1)) -> Fr g C H (fun y => if y = x then some (.int (a + (i : Int)) t) else u y) -> News g C H (nx ++ own) ->
   wpAny (model prog w) A (lcTree ifs (compEnvC scope cl C env)) (fun ok s₃ => if ok = true then wpAny (model prog w) A (eval elt (compEnvC scope cl C env)) (LcEnd g C J i ys own { s with heap := H, toks := tk }) E' s₃
    else LcSkip g C J i ys own { s with heap := H, toks := tk } s₃) E' { s with heap := H, toks := tk })
  (done : ∀ D C ys nx H tk k u, J n ys nx -> (∀ p ∈ nx, p.1 ≠ D) -> (∀ p ∈ news, p.1 < D) -> D < C -> H.Ns C u -> L < D -> h!.get? C = none -> (∀ p ∈ nx, p.1 ≠ C) -> Fr h! L H m -> News h! L H ((D, listOf ys.toArray k) :: nx) -> R (.ref D) C (.ok .next) { s with heap := H, toks := tk })
  (hys : ∀ i ys nx, i <= n -> J i ys nx -> ys.length <= sizeLine) :
  wpAny (model prog w) A (pyIter (.ref r)) (fun it s₂ => LcAt prog w A E env elt x px iter ifs scope pos cl R it s₂) E s := by
 have W := Walks.range (prog := prog) (w := w) (A := A) hh s.heap.objs.size a 1 n;refine wpAny_pyIter_range hr hsmall (lc_go W (fun i h st => ⟨_, st⟩) J hcell hkind hx F X T N rfl (by show IsRangeIter _ _ _ _ _; rw [hn]; simpa using Heap.get?_push_size _ rfl) ?_ hJ ?_ done hys)
 ·intro b hb hne';exact absurd (qS hb) hne'
 ·intro g C E' i v ys nx own H tk u Xg Tg lC hi hP hJ' ho F' N';obtain ⟨t, rfl⟩ := hP;exact turn g C E' i t ys nx own H tk u Xg Tg lC hi hJ' ho (by simpa using F') N'
theorem lc_fin {D C : Addr} {nx : List (Addr × Obj)} {H : Heap} {tk : Tok} {u : Str -> Option Value} {o : Obj} (hDC : D < C) (hC : H.Ns C u) (hL : L < D) (hC0 : h!.get? C = none) (hCn : ∀ p ∈ nx, p.1 ≠ C) (F : Fr h! L H m) (N : News h! L H ((D, o) :: nx))
  (k : ∀ h' , Fr h! L h' m -> News h! L h' ((D, o) :: nx) -> Q (.ref D) { s with heap := h', toks := tk }) :
  compPost (model prog w) A E none Q (.ref D) C (.ok .next) { s with heap := H, toks := tk } := by
 refine ⟨u, hC, fun h' hs => k h' ⟨F.ns.at fun o e => (hs.2 L (Nat.ne_of_lt (Nat.lt_trans hL hDC))).trans e, fun b o e => (hs.2 b fun q => by rw [q, hC0] at e; cases e).trans (F.keep b o e), F.above⟩ fun q hq => ⟨(hs.2 _ ?_).trans (N q hq).1, (N q hq).2⟩⟩;rcases qC hq with rfl | hq
 ·exact Nat.ne_of_lt hDC
 ·exact hCn q hq
theorem lc_finA {D C : Addr} {nx : List (Addr × Obj)} {H : Heap} {tk : Tok} {u : Str -> Option Value} {o : Obj} {y : Str} {py : Pos} {Q : Value -> Shared -> Prop} (hDC : D < C) (hC : H.Ns C u) (hL : L < D) (hC0 : h!.get? C = none) (hCn : ∀ p ∈ nx, p.1 ≠ C) (hLe : env.locals = L) (F : Fr h! L H m) (N : News h! L H ((D, o) :: nx))
  (hy : env.kindOf y = some .local) (hp : (env.scope.kind == .class || (env.scope.kind == .module && env.locals != env.globals)) = false)
  (k : ∀ h' tk', Fr h! L h' (fun z => if z = y then some (.ref D) else m z) -> News h! L h' ((D, o) :: nx) -> Q .none { s with heap := h', toks := tk' }) :
  compPost (model prog w) A E (some (assign (.Name y py) env)) Q (.ref D) C (.ok .next) { s with heap := H, toks := tk } := by
 show wpAny _ A (assign (.Name y py) env (.ref D)) _ _ _;subst hLe;refine wpAny_assign_Name (wpAny_storeName_local hy F.ns (fun h₂ hn₂ hs₂ => ?_) hp);have F₂ := F.set hn₂ hs₂;have N₂ := N.set hs₂;refine ⟨u, hC.at fun o e => (hs₂.2 C (Ne.symm (Nat.ne_of_lt (Nat.lt_trans hL hDC)))).trans e, fun h' hs => k h' _ ⟨F₂.ns.at fun o e => (hs.2 _ (Nat.ne_of_lt (Nat.lt_trans hL hDC))).trans e, fun b o e => (hs.2 b fun q => by rw [q, hC0] at e; cases e).trans (F₂.keep b o e), F₂.above⟩ fun q hq => ⟨(hs.2 _ ?_).trans (N₂ q hq).1, (N₂ q hq).2⟩⟩;rcases qC hq with rfl | hq
 ·exact Nat.ne_of_lt hDC
 ·exact hCn q hq
end
theorem lc_nil {cenv : Env} {elt : Expr} {s : Shared} {Q : Value -> Shared -> Prop} {S : Shared -> Prop} (h : wpAny (model prog w) A (eval elt cenv) Q E s) :
  wpAny (model prog w) A (lcTree [] cenv) (fun ok s₃ => if ok = true then wpAny (model prog w) A (eval elt cenv) Q E s₃ else S s₃) E s := wpAny_tests_nil (by simpa using h)
theorem lc_one {cenv : Env} {c elt : Expr} {s : Shared} {Q : Value -> Shared -> Prop} {S : Shared -> Prop} (h : wpAny (model prog w) A (isTrue c cenv (eval c cenv)) (fun ok s₃ => if ok = true then wpAny (model prog w) A (eval elt cenv) Q E s₃ else S s₃) E s) :
  wpAny (model prog w) A (lcTree [c] cenv) (fun ok s₃ => if ok = true then wpAny (model prog w) A (eval elt cenv) Q E s₃ else S s₃) E s := wpAny_tests_one h
theorem strs_at {vs : List Value} {ss : List Str} (h : StrsAre vs ss) {i : Nat} {v : Value} (hv : vs[i]? = some v) : ∃ x t, v = .str x t /\ ss[i]? = some x := by
 induction h generalizing i with
 | nil => simp at hv
 | cons x t _ ih =>
  cases i with
  | zero => simp at hv; exact ⟨x, t, hv.symm, by simp⟩
  | succ i => simp at hv; simpa using ih hv
theorem take_snoc {α : Type} {l : List α} {i : Nat} {x : α} (h : l[i]? = some x) : l.take (i + 1) = l.take i ++ [x] := by simp [List.take_add_one, h]
theorem ldc {M : Model} {A : Around} {E : Value -> Shared -> Prop} {s : Shared} {g : Heap} {C : Addr} {u : Str -> Option Value} {scope : Scope} {cl : List (Str × Addr)} {env : Env} {x : Str} {pos : Pos} {v : Value} {Q : Value -> Shared -> Prop} (F : Fr g C s.heap u) (hv : u x = some v) (h : Q v s)
  (hk : scope.kind = .function) (hl : (compEnvC scope cl C env).kindOf x = some .local) (hd : (x == ("__debug__" : Str)) = false) :
  wpAny M A (eval (.Name x pos) (compEnvC scope cl C env)) Q E s := wpAny_Name (wpAny_loadName_local hk hl F.ns hv h) hd
end
end Mine
end
section
open PySem PySem.W PyProof.Rows PySem.Calls
namespace Mine
section
variable {prog : Program} {w : World} {A : Around} {E : Value -> Shared -> Prop}
variable {elt iter : Expr} {x : Str} {px : Pos} {ifs : List Expr} {scope : Scope} {cl : List (Str × Addr)} {pos : Pos} {env : Env} {s : Shared} {h! : Heap} {L : Addr} {m : Str -> Option Value}
  {news : List (Addr × Obj)} {K : Frag} {p : Program} {loose : List Str} {mean : ExcName -> Option Value} {mg mb : Str -> Option Value} {R : Value -> Addr -> Result -> Shared -> Prop}
theorem lc_keys {Kk : Type} [DecidableEq Kk] {knd : KeyKind prog w Kk} {d : Addr} {od : Obj} {kvs : List (Kk × Value)} (hh : A.handled = none) (J : Nat -> List Value -> List (Addr × Obj) -> Prop) (hm : ∀ i ys nx, J i ys nx -> (d, od) ∈ nx) (hd : od.IsDictOf knd kvs) (hlo : (d == sysModules) = false)
  (hcell : ∀ y ∈ scope.names, y.2 ≠ .cell) (hkind : scope.kind = .function) (hx : scope.names.lookup x = some .local)
  (F : Fr h! L s.heap m) (X : K.In h!) (T : Top p loose mean mg mb h!) (N : News h! L s.heap news) (hJ : J 0 [] news)
  (turn : ∀ g C E' i v ys nx own H tk (u : Str -> Option Value), K.In g -> Top p loose mean mg mb g -> (∀ p ∈ news, p.1 < C) -> i < kvs.length -> (∃ k x, kvs[i]? = some (k, x) /\ knd.is k v = true) -> J i ys nx -> OwnOff own (nx.map (·.1)) -> Fr g C H (fun y => if y = x then some v else u y) -> News g C H (nx ++ own) ->
   wpAny (model prog w) A (lcTree ifs (compEnvC scope cl C env)) (fun ok s₃ => if ok = true then wpAny (model prog w) A (eval elt (compEnvC scope cl C env)) (LcEnd g C J i ys own { s with heap := H, toks := tk }) E' s₃
    else LcSkip g C J i ys own { s with heap := H, toks := tk } s₃) E' { s with heap := H, toks := tk })
  (done : ∀ D C ys nx H tk k u, J kvs.length ys nx -> (∀ p ∈ nx, p.1 ≠ D) -> (∀ p ∈ news, p.1 < D) -> D < C -> H.Ns C u -> L < D -> h!.get? C = none -> (∀ p ∈ nx, p.1 ≠ C) -> Fr h! L H m -> News h! L H ((D, listOf ys.toArray k) :: nx) -> R (.ref D) C (.ok .next) { s with heap := H, toks := tk })
  (hys : ∀ i ys nx, i <= kvs.length -> J i ys nx -> ys.length <= sizeLine) :
  wpAny (model prog w) A (pyIter (.ref d)) (fun it s₂ => LcAt prog w A E env elt x px iter ifs scope pos cl R it s₂) E s := by
 have hax := N _ (hm _ _ _ hJ);have hD : s.heap.DictOf knd d kvs := Heap.dictOf_iff.mpr ⟨od, hax.1, hd⟩;obtain ⟨ep, hD⟩ := hD.dictAt;have hne : d ≠ s.heap.objs.size := Nat.ne_of_lt (Heap.lt_size hax.1);have W := Walks.dictKeys (prog := prog) (w := w) (knd := knd) hh s.heap.objs.size d hne kvs ep;refine wpAny_pyIter_dict hlo hD (lc_go W (fun i h st => ?_) J hcell hkind hx F X T N rfl ⟨⟨_, Heap.get?_push_size _ rfl, rfl, rfl⟩, hD.push _⟩ ?_ hJ ?_ done hys)
 ·obtain ⟨⟨o, ho, _⟩, _⟩ := st;exact ⟨o, ho⟩
 ·intro b hb hne';rcases qC hb with q | q
  ·exact absurd q hne'
  ·rw [qS q];exact .inr ⟨_, hm⟩
 ·intro g C E' i v ys nx own H tk u Xg Tg lC hi hP hJ' ho F' N';exact turn g C E' i v ys nx own H tk u Xg Tg lC hi hP hJ' ho F' N'
end
inductive DcEnd (g : Heap) (C : Addr) (J : Nat -> List (Int × Value) -> List (Addr × Obj) -> Array GenState -> Prop) (i : Nat) (kvs : List (Int × Value)) (own : List (Addr × Obj)) (k : Int) (s₁ : Shared) (y : Value) (s₂ : Shared) : Prop
 | mk (h' : Heap) (tk : Nat) (G : Array GenState) (m' : Str -> Option Value) (news' nx : List (Addr × Obj)) (h1 : s₂ = { s₁ with heap := h', toks := tk, gens := G }) (h2 : Fr g C h' m') (h3 : News g C h' news') (h4 : ∀ p ∈ nx, p ∈ news') (h5 : ∀ p ∈ own, p ∈ news') (h6 : OwnOff own (nx.map (·.1))) (h7 : J (i + 1) (stored kvs k y) nx G)
inductive DcK (prog : Program) (w : World) (g : Heap) (L D I : Addr) (s : Shared) (n : Nat) (St : Nat -> Heap -> Prop) (J : Nat -> List (Int × Value) -> List (Addr × Obj) -> Array GenState -> Prop) (k : Nat) (s' : Shared) : Prop
 | mk (i : Nat) (H : Heap) (tk : Nat) (G : Array GenState) (u : Str -> Option Value) (kvs : List (Int × Value)) (nx : List (Addr × Obj)) (oI oD : Obj) (h1 : k = n + 1 - i) (h2 : i <= n) (h3 : s' = { s with heap := H, toks := tk, gens := G }) (h4 : St i H) (h5 : Fr g L H u) (h6 : News g L H ((D, oD) :: (I, oI) :: nx)) (h0 : oD.IsDictOf (intKind prog w) kvs) (h7 : ∀ p ∈ nx, p.1 ≠ D /\ p.1 ≠ I) (h8 : J i kvs nx G)
theorem DcEnd.intro {g : Heap} {C : Addr} {J : Nat -> List (Int × Value) -> List (Addr × Obj) -> Array GenState -> Prop} {i : Nat} {kvs : List (Int × Value)} {own : List (Addr × Obj)} {k : Int} {s₁ : Shared} {y : Value} {h' : Heap} {tk : Nat} {G : Array GenState} {m' : Str -> Option Value} {news' : List (Addr × Obj)} (nx : List (Addr × Obj))
  (F : Fr g C h' m') (N : News g C h' news') (h1 : ∀ p ∈ nx, p ∈ news') (h2 : ∀ p ∈ own, p ∈ news') (h3 : OwnOff own (nx.map (·.1))) (hJ : J (i + 1) (stored kvs k y) nx G) : DcEnd g C J i kvs own k s₁ y { s₁ with heap := h', toks := tk, gens := G } :=
 ⟨h', tk, G, m', news', nx, rfl, F, N, h1, h2, h3, hJ⟩
section
variable {prog : Program} {w : World} {A : Around} {E : Value -> Shared -> Prop} {R : Result -> Shared -> Prop}
theorem dc_loop {kx vx iter : Expr} {x : Str} {px : Pos} {scope : Scope} {pos : Pos} {I D : Addr} {fp : List Addr} {n : Nat} {P : Nat -> Value -> Prop} {St : Nat -> Heap -> Prop} {cenv : Env} {s : Shared} {m : Str -> Option Value} {g : Heap} {nx₀ : List (Addr × Obj)} {oI oD : Obj}
  (W : Walks prog w A I fp [I] n P St) (hlive : ∀ i h, St i h -> ∃ o, h.get? I = some o) (J : Nat -> List (Int × Value) -> List (Addr × Obj) -> Array GenState -> Prop)
  (hx : cenv.kindOf x = some .local) (hp : (cenv.scope.kind == .class || (cenv.scope.kind == .module && cenv.locals != cenv.globals)) = false)
  (hfp : ∀ b ∈ fp, b ≠ I -> (∃ o, g.get? b = some o) \/ ∃ o, ∀ i ys nx G, J i ys nx G -> (b, o) ∈ nx)
  (hDI : D ≠ I) (hst : St 0 s.heap) (F : Fr g cenv.locals s.heap m) (N : News g cenv.locals s.heap ((D, oD) :: (I, oI) :: nx₀)) (hoD : oD.IsDictOf (intKind prog w) []) (hoff : ∀ p ∈ nx₀, p.1 ≠ D /\ p.1 ≠ I) (hJ : J 0 [] nx₀ s.gens)
  (turn : ∀ i v kvs nx own H tk G (u : Str -> Option Value), i < n -> P i v -> J i kvs nx G -> OwnOff own (nx.map (·.1)) -> Fr g cenv.locals H (fun y => if y = x then some v else u y) -> News g cenv.locals H (nx ++ own) ->
   wpAny (model prog w) A (eval kx cenv) (fun key s₃ => ∃ k, (intKind prog w).is k key = true /\ wpAny (model prog w) A (eval vx cenv) (DcEnd g cenv.locals J i kvs own k { s with heap := H, toks := tk, gens := G }) (notedBy (model prog w) A cenv fun e s' => R (.error e) s') s₃)
    (notedBy (model prog w) A cenv fun e s' => R (.error e) s') { s with heap := H, toks := tk, gens := G })
  (done : ∀ kvs oD nx H tk G u, J n kvs nx G -> oD.IsDictOf (intKind prog w) kvs -> (∀ p ∈ nx, p.1 ≠ D /\ p.1 ≠ I) -> Fr g cenv.locals H u -> News g cenv.locals H ((D, oD) :: nx) -> R (.ok .next) { s with heap := H, toks := tk, gens := G })
  (hys : ∀ i kvs nx G, i <= n -> J i kvs nx G -> kvs.length <= sizeLine) :
  codeAny (model prog w) A (.compLoop (.DictComp kx vx [⟨.Name x px, iter, [], 0⟩] scope pos) 0 (.ref I) (.ref D) cenv) R s := by
 refine codeAny_compLoop_testsD
  (DcK prog w g cenv.locals D I s n St J) ?_ (n + 1)
  ⟨0, s.heap, s.toks, s.gens, m, [], nx₀, oI, oD, rfl, Nat.zero_le _, rfl, hst, F, N, hoD, hoff, hJ⟩
 rintro k s' ⟨i, H, tk, G, u, kvs, nx, oI, oD, rfl, hi, rfl, hst', F', N', hoD', hoff', hJ'⟩;have hD := N' (D, oD) (.head _);have hI := N' (I, oI) (.tail _ (.head _));by_cases hlt : i < n
 ·refine W.item i _ _ _ hlt hst' fun v h? tk₁ hPv hst₁ hk₁ => ?_;have ne : ∀ b, b ≠ I -> b ∉ [I] := fun b hb hm => hb (qS hm);have F₁ : Fr g cenv.locals h? u := ⟨F'.ns.at fun o e => hk₁ _ o (ne _ (Ne.symm hI.2.1)) e, fun b o e => hk₁ b o (ne _ fun q => by have := hI.2.2; rw [<- q, e] at this; cases this) (F'.keep b o e), F'.above⟩;refine wpAny_assign_Name (wpAny_storeName_local hx F₁.ns (fun h₂ hn₂ hs₂ => ?_) hp);have F₂ : Fr g cenv.locals h₂ (fun y => if y = x then some v else u y) := F₁.set hn₂ hs₂;have up : ∀ b o, b ≠ cenv.locals -> b ≠ I -> H.get? b = some o -> h₂.get? b = some o := fun b o h1 h2 e => (hs₂.2 b h1).trans (hk₁ b o (ne _ h2) e);obtain ⟨oI₂, hI₂⟩ := hlive _ _ hst₁;have hI₃ : h₂.get? I = some oI₂ := (hs₂.2 I hI.2.1).trans hI₂;have hD₂ : h₂.get? D = some oD := up D _ hD.2.1 hDI hD.1;have N₂ : News g cenv.locals h₂ (nx ++ [(D, oD), (I, oI₂)]) := fun p hp => by
   rcases qA hp with hp | hp
   ·have z := N' p (.tail _ (.tail _ hp));exact ⟨up p.1 _ z.2.1 (hoff' p hp).2 z.1, z.2⟩
   ·rcases qC hp with rfl | hp
    ·exact ⟨hD₂, hD.2⟩
    ·rw [qS hp];exact ⟨hI₃, hI.2⟩
  have hofo : OwnOff [(D, oD), (I, oI₂)] (nx.map (·.1)) := fun p hp b hb => by
   apply byc; intro O;obtain ⟨q, hq, rfl⟩ := List.mem_map.mp hb;apply O; clear O;rcases qC hp with rfl | hp
   ·exact Ne.symm (hoff' q hq).1
   ·rw [qS hp];exact Ne.symm (hoff' q hq).2
  have away : ∀ {nx'' : List (Addr × Obj)}, OwnOff [(D, oD), (I, oI₂)] (nx''.map (·.1)) -> ∀ p ∈ nx'', p.1 ≠ D /\ p.1 ≠ I := fun ho p hp =>
   ⟨Ne.symm (ho _ (.head _) _ (qM hp)), Ne.symm (ho _ (.tail _ (.head _)) _ (qM hp))⟩
  refine wpAny_tests_nil ?_;rw [if_pos rfl];refine wpAny_mono (turn i v kvs nx _ h₂ _ G u hlt hPv hJ' hofo F₂ N₂) (fun key s₃ h₃ => ?_) fun _ _ e => e;apply byc; intro O;obtain ⟨kk, hkk, h₃⟩ := h₃;apply O; clear O;refine wpAny_mono h₃ (fun y s₄ h₄ => ?_) fun _ _ e => e;apply byc; intro O;obtain ⟨H', tk', G', m'', news'', nx'', rfl, F'', N'', h1, h2, h3, hJ''⟩ := h₄;apply O; clear O;have hD' := N'' _ (h2 _ (.head _));have st4 : St (i + 1) H' := W.frame _ _ _ hst₁ fun b hb o e => by
   by_cases hbI : b = I
   ·rw [hbI] at e ⊢;rw [hI₂] at e;cases e;exact (N'' _ (h2 (I, oI₂) (.tail _ (.head _)))).1
   ·rcases hfp b hb hbI with ⟨o', e'⟩ | ⟨o', e'⟩
    ·have e2 := F''.keep b o' e';have e3 := F₁.keep b o' e';rw [e] at e3;cases e3;exact e2
    ·have e2 := (N'' _ (h1 _ (e' _ _ _ _ hJ''))).1;have e4 := N' _ (.tail _ (.tail _ (e' _ _ _ _ hJ')));have e3 : h?.get? b = some o' := hk₁ b o' (ne _ hbI) e4.1;rw [e] at e3;cases e3;exact e2
  refine wpAny_dictSet_pairs (hsz := hys i kvs nx G hi hJ') hkk (Heap.dictOf_iff.mpr ⟨oD, hD'.1, hoD'⟩) fun h₅ hl₅ hs₅ => ?_;apply byc; intro O;obtain ⟨oD₅, hl₅, hoD₅⟩ := Heap.dictOf_iff.mp hl₅;apply O; clear O;have aw := away h3;have F₅ : Fr g cenv.locals h₅ m'' := ⟨F''.ns.at fun o e => (hs₅.2 _ (Ne.symm hD'.2.1)).trans e, fun b o e => (hs₅.2 b (fun q => by have := hD'.2.2; rw [<- q, e] at this; cases this)).trans (F''.keep b o e), F''.above⟩;refine ⟨n + 1 - (i + 1), decr (by assumption), i + 1, h₅, _, G', m'', stored kvs kk y, nx'', oI₂, oD₅, rfl, hlt, rfl, ?_, F₅, fun p hp => ?_, hoD₅, aw, hJ''⟩
  ·refine W.frame _ _ _ st4 fun b hb o e => (hs₅.2 b fun q => ?_).trans e;by_cases hbI : b = I
   ·exact hDI (q.symm.trans hbI)
   ·rcases hfp b hb hbI with ⟨o', e'⟩ | ⟨o', e'⟩
    ·have := hD'.2.2;rw [<- q, e'] at this;cases this
    ·exact (aw _ (e' _ _ _ _ hJ'')).1 q
  ·rcases qC hp with rfl | hp
   ·exact ⟨hl₅, hD'.2⟩
   ·have z : p.1 ≠ D /\ H'.get? p.1 = some p.2 /\ p.1 ≠ cenv.locals /\ g.get? p.1 = none := by
     rcases qC hp with rfl | hp
     ·exact ⟨Ne.symm hDI, N'' _ (h2 _ (.tail _ (.head _)))⟩
     ·exact ⟨(aw p hp).1, N'' _ (h1 _ hp)⟩
    exact ⟨(hs₅.2 _ z.1).trans z.2.1, z.2.2⟩
 ·have hin : i = n := eqN (by assumption) (by assumption);subst hin;refine W.done _ _ _ hst' fun h? tk₁ hk₁ => ?_;have ne : ∀ b, b ≠ I -> b ∉ [I] := fun b hb hm => hb (qS hm);have F₁ : Fr g cenv.locals h? u := ⟨F'.ns.at fun o e => hk₁ _ o (ne _ (Ne.symm hI.2.1)) e, fun b o e => hk₁ b o (ne _ fun q => by have := hI.2.2; rw [<- q, e] at this; cases this) (F'.keep b o e), F'.above⟩;refine done kvs oD nx h? tk₁ G u hJ' hoD' hoff' F₁ fun p hp => ?_;rcases qC hp with rfl | hp
  ·exact ⟨hk₁ _ _ (ne _ hDI) hD.1, hD.2⟩
  ·have z := N' p (.tail _ (.tail _ hp));exact ⟨hk₁ _ _ (ne _ (hoff' p hp).2) z.1, z.2⟩
end
def DcAt (prog : Program) (w : World) (A : Around) (E : Value -> Shared -> Prop) (env : Env) (kx vx : Expr) (x : Str) (px : Pos) (iter : Expr) (scope : Scope) (pos : Pos) (cl : List (Str × Addr)) (R : Value -> Addr -> Result -> Shared -> Prop) (it : Value) (s : Shared) : Prop :=
 wpAny (model prog w) A newDict (fun acc s₃ => wpAny (model prog w) A (newFunctionEnv scope env.globals cl [] env.qual none .none (some env)) (fun cenv s₄ =>
   codeAny (model prog w) A (.compStart (.DictComp kx vx [⟨.Name x px, iter, [], 0⟩] scope pos) 0 it acc { cenv with scope := relabel scope env }) (R acc cenv.locals) s₄) E s₃) E s
section
variable {prog : Program} {w : World} {A : Around} {E : Value -> Shared -> Prop}
variable {kx vx iter : Expr} {x : Str} {px : Pos} {scope : Scope} {cl : List (Str × Addr)} {pos : Pos} {env : Env} {s : Shared} {h! : Heap} {L : Addr} {m : Str -> Option Value}
  {news : List (Addr × Obj)} {K : Frag} {p : Program} {loose : List Str} {mean : ExcName -> Option Value} {mg mb : Str -> Option Value} {R : Value -> Addr -> Result -> Shared -> Prop} {Q : Value -> Shared -> Prop}
theorem dc_eval (hclos : closureFor scope env = pure cl) (hkind : scope.kind = .function) (hnames : ∀ y ∈ scope.names, y.2 = .local -> scope.names.lookup y.1 = some .local)
  (h : wpAny (model prog w) A (eval iter env) (fun xv s₁ => wpAny (model prog w) A (pyIter xv) (fun it s₂ => DcAt prog w A E env kx vx x px iter scope pos cl (compPost (model prog w) A E none Q) it s₂) E s₁) E s)
  (hs : ∀ x, foldedSetIterable iter env x = pure x := by intro _; rfl) :
  wpAny (model prog w) A (eval (.DictComp kx vx [⟨.Name x px, iter, [], 0⟩] scope pos) env) Q E s := by
 rw [arm_eval_DictComp];exact wpAny_comprehension_free (use := none) rfl hs hclos hkind hnames h
theorem dc_list {ax : Addr} {items : List Value} {kk : Nat} (hh : A.handled = none) (J : Nat -> List (Int × Value) -> List (Addr × Obj) -> Array GenState -> Prop) (hm : ∀ i ys nx G, J i ys nx G -> (ax, listOf items.toArray kk) ∈ nx)
  (hcell : ∀ y ∈ scope.names, y.2 ≠ .cell) (hkind : scope.kind = .function) (hx : scope.names.lookup x = some .local)
  (F : Fr h! L s.heap m) (X : K.In h!) (T : Top p loose mean mg mb h!) (N : News h! L s.heap news) (hJ : J 0 [] news s.gens)
  (turn : ∀ g C E' i v kvs nx own H tk G (u : Str -> Option Value), K.In g -> Top p loose mean mg mb g -> (∀ p ∈ news, p.1 < C) -> i < items.length -> items[i]? = some v -> J i kvs nx G -> OwnOff own (nx.map (·.1)) -> Fr g C H (fun y => if y = x then some v else u y) -> News g C H (nx ++ own) ->
   wpAny (model prog w) A (eval kx (compEnvC scope cl C env)) (fun key s₃ => ∃ k, (intKind prog w).is k key = true /\ wpAny (model prog w) A (eval vx (compEnvC scope cl C env)) (DcEnd g C J i kvs own k { s with heap := H, toks := tk, gens := G }) E' s₃) E' { s with heap := H, toks := tk, gens := G })
  (done : ∀ D C kvs oD nx H tk G u, J items.length kvs nx G -> oD.IsDictOf (intKind prog w) kvs -> (∀ p ∈ nx, p.1 ≠ D) -> (∀ p ∈ news, p.1 < D) -> D < C -> H.Ns C u -> L < D -> h!.get? C = none -> (∀ p ∈ nx, p.1 ≠ C) -> Fr h! L H m -> News h! L H ((D, oD) :: nx) -> R (.ref D) C (.ok .next) { s with heap := H, toks := tk, gens := G })
  (hys : ∀ i kvs nx G, i <= items.length -> J i kvs nx G -> kvs.length <= sizeLine) :
  wpAny (model prog w) A (pyIter (.ref ax)) (fun it s₂ => DcAt prog w A E env kx vx x px iter scope pos cl R it s₂) E s := by
 have hax := N _ (hm _ _ _ _ hJ);have hls : s.heap.IsList ax items.toArray := ⟨_, hax.1, rfl, kk, rfl⟩;have hne : ax ≠ s.heap.objs.size := Nat.ne_of_lt (Heap.lt_size hax.1);have hsz : items.toArray.size = items.length := List.size_toArray;have W := Walks.list (prog := prog) (w := w) hh s.heap.objs.size ax hne items.toArray;rw [hsz] at W;refine wpAny_pyIter_list hls ?_;have F1 := F.push { cls := .type "list_iterator", data := .fields #[.ref ax, .int 0 0] };have N1 : News h! L (s.heap.push { cls := .type "list_iterator", data := .fields #[.ref ax, .int 0 0] }) news := fun q hq => ⟨qP _ (N q hq).1, (N q hq).2⟩;have hI : (s.heap.push { cls := .type "list_iterator", data := .fields #[.ref ax, .int 0 0] }).get? s.heap.objs.size = some _ := Heap.get?_push_size _ rfl;have hI0 : h!.get? s.heap.objs.size = none := Heap.get?_none_of_le (Nat.le_trans F.above (Nat.le_of_lt F.ns.lt));have hIL : s.heap.objs.size ≠ L := Ne.symm (Nat.ne_of_lt F.ns.lt);have hIn : ∀ q ∈ news, q.1 ≠ s.heap.objs.size := fun q hq => Nat.ne_of_lt (Heap.lt_size (N q hq).1);have hst : s.heap.IsList ax items.toArray /\ True := ⟨hls, trivial⟩;have hst0 : (s.heap.push { cls := .type "list_iterator", data := .fields #[.ref ax, .int 0 0] }).IsListIter s.heap.objs.size ax 0 /\ (s.heap.push { cls := .type "list_iterator", data := .fields #[.ref ax, .int 0 0] }).IsList ax items.toArray := ⟨⟨_, hI, rfl, rfl⟩, hls.at fun o e => qP _ e⟩;generalize hI9 : s.heap.objs.size = I at *;generalize hH9 : s.heap.push { cls := .type "list_iterator", data := .fields #[.ref ax, .int 0 0] } = S1 at *;generalize hoI : ({ cls := .type "list_iterator", data := .fields #[.ref ax, .int 0 0] } : Obj) = oI at *;unfold DcAt;refine wpAny_newObj_type (wpAny_newFunctionEnv hcell (by intro y hy; simp at hy) (fun h? hns₁ hsb₁ => ?_) hkind);dsimp only at hns₁ hsb₁ ⊢;have hdn : (S1.push { cls := .type "dict", dict := none, data := .dict #[] }).DictOf (intKind prog w) S1.objs.size [] := Heap.DictOf.new S1;generalize hH2 : S1.push { cls := .type "dict", dict := none, data := .dict #[] } = H2 at hns₁ hsb₁ hdn ⊢;have hC : H2.objs.size = S1.objs.size + 1 := by rw [<- hH2, Heap.size_push]
 generalize hDe : S1.objs.size = D at hC hdn ⊢;generalize hCe : H2.objs.size = C at hC hns₁ hsb₁ ⊢;apply byc; intro O;obtain ⟨oD, hoD1, hoD⟩ := Heap.dictOf_iff.mp hdn;apply O; clear O;have hDC : D < C := by rw [hC]; exact Nat.lt_succ_self _
 have lowD : ∀ {b o}, S1.get? b = some o -> b < D := fun e => hDe ▸ Heap.lt_size e;have old : ∀ b o, S1.get? b = some o -> h?.get? b = some o := fun b o e => hsb₁.extBut b o (Nat.ne_of_lt (Nat.lt_trans (lowD e) hDC)) (qP _ (hH2 ▸ qP _ e));have hD₁ : h?.get? D = some oD := hsb₁.extBut _ _ (Nat.ne_of_lt hDC) (qP _ hoD1);have hst₁ := W.frame 0 _ h? hst0 fun b _ o e => old b o e
 let hid : List Addr := I :: news.map (·.1)
 have nh : ∀ b o, h!.get? b = some o -> b ∉ hid := fun b o e q => by
  rcases qC q with q | q
  ·rw [q, hI0] at e; cases e
  ·obtain ⟨r, hr, rfl⟩ := List.mem_map.mp q;rw [(N r hr).2.2] at e; cases e
 have nL : L ∉ hid := fun q => by
  rcases qC q with q | q
  ·exact hIL q.symm
  ·obtain ⟨r, hr, e⟩ := List.mem_map.mp q;exact (N r hr).2.1 e
 let g := hideAll S1 hid
 have st : ∀ b o, h!.get? b = some o -> g.get? b = some o := fun b o e => hideAll_get _ (F1.keep b o e) (nh b o e);have gs : ∀ b o, g.get? b = some o -> S1.get? b = some o := fun b o e => of_hideAll _ e;have gsz : g.objs.size = D := (hideAll_size _ _).trans hDe;have fresh : ∀ b, D <= b -> g.get? b = none := fun b hb => Heap.get?_none_of_le (gsz.symm ▸ hb);have LD : L < D := by obtain ⟨oL, _, _, hL, _⟩ := F1.ns; exact lowD hL
 apply byc; intro O;obtain ⟨oL, esL, epL, hL, hLd, hLk, hLf⟩ := F1.ns;apply O; clear O;have hLg : g.get? L = some oL := hideAll_get _ hL nL;have Fg : Fr g C h? (fun x => ([] : List (Str × Value)).reverse.lookup x) := ⟨hns₁, fun b o e => old b o (gs b o e), by rw [gsz]; exact Nat.le_of_lt hDC⟩;have Ng : News g C h? ((D, oD) :: (I, oI) :: news) := fun q hq => by
  rcases qC hq with rfl | hq
  ·exact ⟨hD₁, Nat.ne_of_lt hDC, fresh _ (Nat.le_refl _)⟩
  ·rcases qC hq with rfl | hq
   ·exact ⟨old _ _ hI, Nat.ne_of_lt (Nat.lt_trans (lowD hI) hDC), hideAll_none _ (.head _)⟩
   ·exact ⟨old _ _ (N1 q hq).1, Nat.ne_of_lt (Nat.lt_trans (lowD (N1 q hq).1) hDC), hideAll_none _ (.tail _ (qM hq))⟩
 have loop : ∀ s₃ : Shared, s₃ = { s with heap := h?, toks := s.toks + ([] : List (Str × Value)).length } ->
   codeAny (model prog w) A (.compLoop (.DictComp kx vx [⟨.Name x px, iter, [], 0⟩] scope pos) 0 (.ref I) (.ref D) (compEnvC scope cl C env)) (R (.ref D) C) s₃ := by
  rintro s₃ rfl;refine dc_loop (cenv := compEnvC scope cl C env) (g := g) (nx₀ := news) W (fun i h st => ?_) J (lookup_relabel_local hx) (by simp [compEnvC, relabel, hkind]) ?_ (Ne.symm (Nat.ne_of_lt (lowD hI))) hst₁ Fg Ng hoD (fun q hq => ⟨Nat.ne_of_lt (lowD (N1 q hq).1), hIn q hq⟩) hJ ?_ ?_ hys
  ·obtain ⟨⟨o, ho, _⟩, _⟩ := st;exact ⟨o, ho⟩
  ·intro b hb hbI;rcases qC hb with q | q
   ·exact absurd q hbI
   ·rw [qS q];exact .inr ⟨_, hm⟩
  ·intro i v kvs nx own H tk G u hi hPv hJ' hoff F' N';exact turn g C _ i v kvs nx own H tk G u (X.keeps st) (T.keeps st) (fun q hq => Nat.lt_trans (lowD (N1 q hq).1) hDC) hi (by simpa using hPv) hJ' hoff F' N'
  ·intro kvs oD' nx H tk G u hJ' hoD' hoff F' N';refine done D C kvs oD' nx H tk G u hJ' hoD' (fun q hq => (hoff q hq).1) (fun q hq => lowD (N1 q hq).1) hDC F'.ns LD ?_ (fun q hq => (N' q (.tail _ hq)).2.1) ⟨⟨oL, esL, epL, F'.keep L oL hLg, hLd, hLk, hLf⟩, fun b o e => F'.keep b o (st b o e), F.above⟩ fun q hq => ⟨(N' q hq).1, fun e => ?_, ?_⟩
   ·cases e : h!.get? C with
    | none => rfl
    | some o => have := st _ _ e; rw [fresh C (Nat.le_of_lt hDC)] at this; cases this
   ·have := (N' q hq).2.2;rw [e, hLg] at this; cases this
   ·cases e : h!.get? q.1 with
    | none => rfl
    | some o => have := (N' q hq).2.2; rw [st _ _ e] at this; cases this
 exact codeAny_compStart_dict (loop _ rfl) (W.self 0 _ _ _ hst₁ (loop _ rfl))
end
end Mine
end
section
open PySem PySem.W PyProof.Rows PySem.Calls
namespace Mine
section
variable {prog : Program} {w : World} {A : Around} {E : Value -> Shared -> Prop} {R : Result -> Shared -> Prop}
theorem newEnvK {M : Model} {scope : Scope} {globals : Addr} {cl : List (Str × Addr)} {qual : Str} {env : Env} {s : Shared} {Q : Env -> Shared -> Prop}
  (h : Q (newEnv scope s.heap.objs.size globals (cellsFrom (s.heap.objs.size + 1) scope.names cl) qual none .none (some env) builtinsNs) { s with heap := pushCells (s.heap.push { cls := .type "dict", data := .dict #[] }) scope.names }) :
  wpAny M A (newFunctionEnv scope globals cl [] qual none .none (some env)) Q E s := by
 simp only [newFunctionEnv, Option.isSome_some, if_true];refine wpAny_bind (wpAny_alloc ?_);refine wpAny_bind (wpAny_layCells _ (fun name kind cells => by cases hkc : kind == NameKind.cell <;> simp) _ _ _ _ ?_);rw [show ({ s with heap := s.heap.push { cls := .type "dict", data := .dict #[] } } : Shared).heap.objs.size = s.heap.objs.size + 1 from Heap.size_push ..];rw [List.forIn_nil];exact wpAny_bind (wpAny_pure (wpAny_pure h))
inductive LcK (g : Heap) (L ca D I : Addr) (s : Shared) (n : Nat) (St : Nat -> Heap -> Prop) (J : Nat -> List Value -> List (Addr × Obj) -> Prop) (k : Nat) (s' : Shared) : Prop
 | mk (i : Nat) (H : Heap) (tk : Nat) (u : Str -> Option Value) (ys : List Value) (nx : List (Addr × Obj)) (oI oc : Obj) (v0 : Option Value) (kk : Nat) (h1 : k = n + 1 - i) (h2 : i <= n) (h3 : s' = { s with heap := H, toks := tk }) (h4 : St i H) (h5 : Fr g L H u) (h6 : News g L H ((ca, oc) :: (D, listOf ys.toArray kk) :: (I, oI) :: nx)) (h0 : oc.data = .cell v0) (h7 : ∀ p ∈ nx, p.1 ≠ ca /\ p.1 ≠ D /\ p.1 ≠ I) (h8 : J i ys nx)
theorem lc_loopK {elt iter : Expr} {x : Str} {px : Pos} {ifs : List Expr} {scope : Scope} {pos : Pos} {I D ca : Addr} {fp : List Addr} {n : Nat} {P : Nat -> Value -> Prop} {St : Nat -> Heap -> Prop} {cenv : Env} {s : Shared} {m : Str -> Option Value} {g : Heap} {nx₀ : List (Addr × Obj)} {oI oc : Obj} {v0 : Option Value}
  (W : Walks prog w A I fp [I] n P St) (hlive : ∀ i h, St i h -> ∃ o, h.get? I = some o) (J : Nat -> List Value -> List (Addr × Obj) -> Prop)
  (hkf : cenv.scope.kind = .function) (hx : cenv.kindOf x = some .cell) (hca : cenv.cells.lookup x = some ca) (hcI : ca ≠ I) (hcD : ca ≠ D)
  (hfp : ∀ b ∈ fp, b ≠ I -> (∃ o, g.get? b = some o) \/ ∃ o, ∀ i ys nx, J i ys nx -> (b, o) ∈ nx)
  (hDI : D ≠ I) (hst : St 0 s.heap) (F : Fr g cenv.locals s.heap m) (N : News g cenv.locals s.heap ((ca, oc) :: (D, listOf #[] 0) :: (I, oI) :: nx₀)) (hoc : oc.data = .cell v0) (hoff : ∀ p ∈ nx₀, p.1 ≠ ca /\ p.1 ≠ D /\ p.1 ≠ I) (hJ : J 0 [] nx₀)
  (turn : ∀ i v ys nx own H tk (u : Str -> Option Value), i < n -> P i v -> J i ys nx -> OwnOff own (nx.map (·.1)) -> (∃ o : Obj, (ca, o) ∈ own /\ o.data = .cell (some v)) -> Fr g cenv.locals H u -> News g cenv.locals H (nx ++ own) ->
   wpAny (model prog w) A (lcTree ifs cenv) (fun ok s₃ => if ok = true then wpAny (model prog w) A (eval elt cenv) (LcEnd g cenv.locals J i ys own { s with heap := H, toks := tk }) (notedBy (model prog w) A cenv fun e s' => R (.error e) s') s₃
    else LcSkip g cenv.locals J i ys own { s with heap := H, toks := tk } s₃) (notedBy (model prog w) A cenv fun e s' => R (.error e) s') { s with heap := H, toks := tk })
  (done : ∀ ys nx H tk u k, J n ys nx -> (∀ p ∈ nx, p.1 ≠ D /\ p.1 ≠ I) -> Fr g cenv.locals H u -> News g cenv.locals H ((D, listOf ys.toArray k) :: nx) -> R (.ok .next) { s with heap := H, toks := tk })
  (hys : ∀ i ys nx, i <= n -> J i ys nx -> ys.length <= sizeLine) :
  codeAny (model prog w) A (.compLoop (.ListComp elt [⟨.Name x px, iter, ifs, 0⟩] scope pos) 0 (.ref I) (.ref D) cenv) R s := by
 refine codeAny_compLoop_tests
  (LcK g cenv.locals ca D I s n St J) ?_ (n + 1)
  ⟨0, s.heap, s.toks, m, [], nx₀, oI, oc, v0, 0, rfl, Nat.zero_le _, rfl, hst, F, N, hoc, hoff, hJ⟩
 rintro k s' ⟨i, H, tk, u, ys, nx, oI, oc, v0, kk, rfl, hi, rfl, hst', F', N', hoc', hoff', hJ'⟩;have hCa := N' (ca, oc) (.head _);have hD := N' (D, listOf ys.toArray kk) (.tail _ (.head _));have hI := N' (I, oI) (.tail _ (.tail _ (.head _)));by_cases hlt : i < n
 ·refine W.item i _ _ _ hlt hst' fun v h? tk₁ hPv hst₁ hk₁ => ?_;have ne : ∀ b, b ≠ I -> b ∉ [I] := fun b hb hm => hb (qS hm);have F₁ : Fr g cenv.locals h? u := ⟨F'.ns.at fun o e => hk₁ _ o (ne _ (Ne.symm hI.2.1)) e, fun b o e => hk₁ b o (ne _ fun q => by have := hI.2.2; rw [<- q, e] at this; cases this) (F'.keep b o e), F'.above⟩;refine wpAny_assign_Name (wpAny_storeName_cell hkf hx hca ⟨oc, hk₁ _ _ (ne _ hcI) hCa.1, hoc'⟩ (fun h₂ hv₂ hs₂ => ?_));apply byc; intro O;obtain ⟨oc₂, hoc₂, hdc₂⟩ := hv₂;apply O; clear O;have F₂ : Fr g cenv.locals h₂ u := ⟨F₁.ns.at fun o e => (hs₂.2 _ (Ne.symm hCa.2.1)).trans e, fun b o e => (hs₂.2 b fun q => by have := hCa.2.2; rw [<- q, e] at this; cases this).trans (F₁.keep b o e), F₁.above⟩;have up : ∀ b o, b ≠ ca -> b ≠ I -> H.get? b = some o -> h₂.get? b = some o := fun b o h1 h2 e => (hs₂.2 b h1).trans (hk₁ b o (ne _ h2) e);obtain ⟨oI₂, hI₂⟩ := hlive _ _ hst₁;have hI₃ : h₂.get? I = some oI₂ := (hs₂.2 I (Ne.symm hcI)).trans hI₂;have hD₂ : h₂.get? D = some (listOf ys.toArray kk) := up D _ (Ne.symm hcD) hDI hD.1;have N₂ : News g cenv.locals h₂ (nx ++ [(ca, oc₂), (D, listOf ys.toArray kk), (I, oI₂)]) := fun p hp => by
   rcases qA hp with hp | hp
   ·have z := N' p (.tail _ (.tail _ (.tail _ hp)));exact ⟨up p.1 _ (hoff' p hp).1 (hoff' p hp).2.2 z.1, z.2⟩
   ·rcases qC hp with rfl | hp
    ·exact ⟨hoc₂, hCa.2⟩
    rcases qC hp with rfl | hp
    ·exact ⟨hD₂, hD.2⟩
    ·rw [qS hp];exact ⟨hI₃, hI.2⟩
  have hofo : OwnOff [(ca, oc₂), (D, listOf ys.toArray kk), (I, oI₂)] (nx.map (·.1)) := fun p hp b hb => by
   apply byc; intro O;obtain ⟨q, hq, rfl⟩ := List.mem_map.mp hb;apply O; clear O;rcases qC hp with rfl | hp
   ·exact Ne.symm (hoff' q hq).1
   rcases qC hp with rfl | hp
   ·exact Ne.symm (hoff' q hq).2.1
   ·rw [qS hp];exact Ne.symm (hoff' q hq).2.2
  have carry : ∀ (H' : Heap) (m'' : Str -> Option Value) (news'' nx'' : List (Addr × Obj)) (ys'' : List Value), Fr g cenv.locals H' m'' -> News g cenv.locals H' news'' -> (∀ p ∈ nx'', p ∈ news'') -> (∀ p ∈ [(ca, oc₂), (D, listOf ys.toArray kk), (I, oI₂)], p ∈ news'') -> J (i + 1) ys'' nx'' ->
    St (i + 1) H' := fun H' m'' news'' nx'' ys'' F'' N'' h1 h2 hJ'' => W.frame _ _ _ hst₁ fun b hb o e => by
   by_cases hbI : b = I
   ·rw [hbI] at e ⊢;rw [hI₂] at e;cases e;exact (N'' _ (h2 (I, oI₂) (.tail _ (.tail _ (.head _))))).1
   ·rcases hfp b hb hbI with ⟨o', e'⟩ | ⟨o', e'⟩
    ·have e2 := F''.keep b o' e';have e3 := F₁.keep b o' e';rw [e] at e3;cases e3;exact e2
    ·have e2 := (N'' _ (h1 _ (e' _ _ _ hJ''))).1;have e4 := N' _ (.tail _ (.tail _ (.tail _ (e' _ _ _ hJ'))));have e3 : h?.get? b = some o' := hk₁ b o' (ne _ hbI) e4.1;rw [e] at e3;cases e3;exact e2
  have away : ∀ {nx'' : List (Addr × Obj)}, OwnOff [(ca, oc₂), (D, listOf ys.toArray kk), (I, oI₂)] (nx''.map (·.1)) -> ∀ p ∈ nx'', p.1 ≠ ca /\ p.1 ≠ D /\ p.1 ≠ I := fun ho p hp =>
   ⟨Ne.symm (ho _ (.head _) _ (qM hp)), Ne.symm (ho _ (.tail _ (.head _)) _ (qM hp)), Ne.symm (ho _ (.tail _ (.tail _ (.head _))) _ (qM hp))⟩
  refine wpAny_mono (turn i v ys nx _ h₂ _ u hlt hPv hJ' hofo ⟨_, .head _, hdc₂⟩ F₂ N₂) (fun ok s₃ h₃ => ?_) fun _ _ e => e;cases ok with
  | false =>
   simp only [Bool.false_eq_true, if_false] at h₃ ⊢;apply byc; intro O;obtain ⟨H', tk', m'', news'', nx'', rfl, F'', N'', h1, h2, h3, hJ''⟩ := h₃;apply O; clear O;exact ⟨n + 1 - (i + 1), decr (by assumption), i + 1, H', tk', m'', ys, nx'', oI₂, oc₂, _, kk, rfl, hlt, rfl, carry _ _ _ _ _ F'' N'' h1 h2 hJ'', F'', fun p hp => by
    rcases qC hp with rfl | hp
    ·exact N'' _ (h2 _ (.head _))
    rcases qC hp with rfl | hp
    ·exact N'' _ (h2 _ (.tail _ (.head _)))
    rcases qC hp with rfl | hp
    ·exact N'' _ (h2 _ (.tail _ (.tail _ (.head _))))
    ·exact N'' _ (h1 _ hp), hdc₂, away h3, hJ''⟩
  | true =>
   simp only [if_true] at h₃ ⊢;refine wpAny_mono h₃ (fun y s₄ h₄ => ?_) fun _ _ e => e;apply byc; intro O;obtain ⟨H', tk', m'', news'', nx'', rfl, F'', N'', h1, h2, h3, hJ''⟩ := h₄;apply O; clear O;have hD' := N'' _ (h2 _ (.tail _ (.head _)));refine wpAny_list_append_plain (items := ys.toArray) (hsz := by rw [List.size_toArray]; exact hys i ys nx hi hJ') ⟨kk, hD'.1⟩ fun h₅ hl₅ hs₅ => ?_;obtain ⟨k₅, hl₅⟩ := hl₅;have aw := away h3;have F₅ : Fr g cenv.locals h₅ m'' := ⟨F''.ns.at fun o e => (hs₅.2 _ (Ne.symm hD'.2.1)).trans e, fun b o e => (hs₅.2 b (fun q => by have := hD'.2.2; rw [<- q, e] at this; cases this)).trans (F''.keep b o e), F''.above⟩;refine ⟨n + 1 - (i + 1), decr (by assumption), i + 1, h₅, tk', m'', ys ++ [y], nx'', oI₂, oc₂, _, k₅, rfl, hlt, rfl, ?_, F₅, fun p hp => ?_, hdc₂, aw, hJ''⟩
   ·have st4 := carry _ _ _ _ _ F'' N'' h1 h2 hJ'';refine W.frame _ _ _ st4 fun b hb o e => (hs₅.2 b fun q => ?_).trans e;by_cases hbI : b = I
    ·exact hDI (q.symm.trans hbI)
    ·rcases hfp b hb hbI with ⟨o', e'⟩ | ⟨o', e'⟩
     ·have := hD'.2.2;rw [<- q, e'] at this;cases this
     ·exact (aw _ (e' _ _ _ hJ'')).2.1 q
   ·have other : ∀ {p : Addr × Obj}, p.1 ≠ D -> p ∈ news'' -> h₅.get? p.1 = some p.2 /\ p.1 ≠ cenv.locals /\ g.get? p.1 = none := fun hd hp => ⟨(hs₅.2 _ hd).trans (N'' _ hp).1, (N'' _ hp).2⟩;rcases qC hp with rfl | hp
    ·exact other hcD (h2 _ (.head _))
    rcases qC hp with rfl | hp
    ·refine ⟨?_, hD'.2⟩;show h₅.get? D = some (listOf (ys ++ [y]).toArray k₅);rw [hl₅];simp
    rcases qC hp with rfl | hp
    ·exact other (Ne.symm hDI) (h2 _ (.tail _ (.tail _ (.head _))))
    ·exact other (aw p hp).2.1 (h1 _ hp)
 ·have hin : i = n := eqN (by assumption) (by assumption);subst hin;refine W.done _ _ _ hst' fun h? tk₁ hk₁ => ?_;have ne : ∀ b, b ≠ I -> b ∉ [I] := fun b hb hm => hb (qS hm);have F₁ : Fr g cenv.locals h? u := ⟨F'.ns.at fun o e => hk₁ _ o (ne _ (Ne.symm hI.2.1)) e, fun b o e => hk₁ b o (ne _ fun q => by have := hI.2.2; rw [<- q, e] at this; cases this) (F'.keep b o e), F'.above⟩;refine done ys nx h? tk₁ u kk hJ' (fun p hp => (hoff' p hp).2) F₁ fun p hp => ?_;rcases qC hp with rfl | hp
  ·exact ⟨hk₁ _ _ (ne _ hDI) hD.1, hD.2⟩
  ·have z := N' p (.tail _ (.tail _ (.tail _ hp)));exact ⟨hk₁ _ _ (ne _ (hoff' p hp).2.2) z.1, z.2⟩
variable {elt iter : Expr} {x : Str} {px : Pos} {ifs : List Expr} {scope : Scope} {cl : List (Str × Addr)} {pos : Pos} {env : Env} {s : Shared} {h! : Heap} {L : Addr} {m : Str -> Option Value}
  {news : List (Addr × Obj)} {K : Frag} {p : Program} {loose : List Str} {mean : ExcName -> Option Value} {mg mb : Str -> Option Value}
theorem lc_blockK {I : Addr} {fp : List Addr} {n : Nat} {P : Nat -> Value -> Prop} {St : Nat -> Heap -> Prop} {oI : Obj} {R : Value -> Addr -> Result -> Shared -> Prop}
  (W : Walks prog w A I fp [I] n P St) (hlive : ∀ i h, St i h -> ∃ o, h.get? I = some o) (J : Nat -> List Value -> List (Addr × Obj) -> Prop)
  (hcf : ∀ k acc, cellsFrom k scope.names acc = (x, k) :: acc) (hpc : ∀ h : Heap, pushCells h scope.names = h.push { cls := .type "cell", data := .cell none }) (hbn : env.builtins = builtinsNs) (hkind : scope.kind = .function) (hx : (relabel scope env).names.lookup x = some .cell)
  (F : Fr h! L s.heap m) (X : K.In h!) (T : Top p loose mean mg mb h!) (N : News h! L s.heap news) (hst : St 0 s.heap) (hI : s.heap.get? I = some oI) (hI0 : h!.get? I = none) (hIL : I ≠ L) (hIn : ∀ p ∈ news, p.1 ≠ I)
  (hfp : ∀ b ∈ fp, b ≠ I -> (∃ o, h!.get? b = some o) \/ ∃ o, ∀ i ys nx, J i ys nx -> (b, o) ∈ nx) (hJ : J 0 [] news)
  (turn : ∀ g C ca E' i v ys nx own H tk (u : Str -> Option Value), K.In g -> Top p loose mean mg mb g -> (∀ p ∈ news, p.1 < C) -> i < n -> P i v -> J i ys nx -> OwnOff own (nx.map (·.1)) -> (∃ o : Obj, (ca, o) ∈ own /\ o.data = .cell (some v)) -> Fr g C H u -> News g C H (nx ++ own) ->
   wpAny (model prog w) A (lcTree ifs (compEnvC scope ((x, ca) :: cl) C env)) (fun ok s₃ => if ok = true then wpAny (model prog w) A (eval elt (compEnvC scope ((x, ca) :: cl) C env)) (LcEnd g C J i ys own { s with heap := H, toks := tk }) E' s₃
    else LcSkip g C J i ys own { s with heap := H, toks := tk } s₃) E' { s with heap := H, toks := tk })
  (done : ∀ D C ys nx H tk k u, J n ys nx -> (∀ p ∈ nx, p.1 ≠ D) -> (∀ p ∈ news, p.1 < D) -> D < C -> H.Ns C u -> L < D -> h!.get? C = none -> (∀ p ∈ nx, p.1 ≠ C) -> Fr h! L H m -> News h! L H ((D, listOf ys.toArray k) :: nx) -> R (.ref D) C (.ok .next) { s with heap := H, toks := tk })
  (hys : ∀ i ys nx, i <= n -> J i ys nx -> ys.length <= sizeLine) : LcAt prog w A E env elt x px iter ifs scope pos cl R (.ref I) s := by
 refine wpAny_newObj_type (newEnvK ?_);dsimp only;rw [hcf, hpc, hbn.symm];generalize hH2 : s.heap.push { cls := .type "list", dict := none, data := .seq ([] : List Value).toArray } = H2;have hC : H2.objs.size = s.heap.objs.size + 1 := by rw [<- hH2, Heap.size_push]
 generalize hDe : s.heap.objs.size = D at hC ⊢;generalize hCe : H2.objs.size = C at hC ⊢;have hDC : D < C := by rw [hC]; exact Nat.lt_succ_self _
 have lowD : ∀ {b o}, s.heap.get? b = some o -> b < D := fun e => hDe ▸ Heap.lt_size e;have up2 : ∀ b o, H2.get? b = some o -> ((H2.push { cls := .type "dict", data := .dict #[] }).push { cls := .type "cell", data := .cell none }).get? b = some o := fun b o e => qP _ (qP _ e);have old : ∀ b o, s.heap.get? b = some o -> ((H2.push { cls := .type "dict", data := .dict #[] }).push { cls := .type "cell", data := .cell none }).get? b = some o := fun b o e => up2 b o (hH2 ▸ qP _ e);have hD₁ : ((H2.push { cls := .type "dict", data := .dict #[] }).push { cls := .type "cell", data := .cell none }).get? D = some (listOf #[] 0) := up2 _ _ (hH2 ▸ hDe ▸ Heap.get?_push_size _ rfl);have hns₁ : ((H2.push { cls := .type "dict", data := .dict #[] }).push { cls := .type "cell", data := .cell none }).Ns C fun _ => none := (hCe ▸ Heap.Ns.new H2 (.type "dict")).keeps fun b o e => qP _ e;have hca : ((H2.push { cls := .type "dict", data := .dict #[] }).push { cls := .type "cell", data := .cell none }).get? (C + 1) = some { cls := .type "cell", data := .cell none } := by
  have := Heap.get?_push_size (H2.push { cls := .type "dict", data := .dict #[] }) (o := { cls := .type "cell", data := .cell none }) rfl;rw [Heap.size_push, hCe] at this;exact this
 generalize hh1 : (H2.push { cls := .type "dict", data := .dict #[] }).push { cls := .type "cell", data := .cell none } = h? at old hD₁ hns₁ hca ⊢;have hst₁ : St 0 h? := W.frame _ _ _ hst fun b _ o e => old b o e
 let hid : List Addr := I :: news.map (·.1)
 have nh : ∀ b o, h!.get? b = some o -> b ∉ hid := fun b o e q => by
  rcases qC q with q | q
  ·rw [q, hI0] at e; cases e
  ·obtain ⟨r, hr, rfl⟩ := List.mem_map.mp q;rw [(N r hr).2.2] at e; cases e
 have nL : L ∉ hid := fun q => by
  rcases qC q with q | q
  ·exact hIL q.symm
  ·obtain ⟨r, hr, e⟩ := List.mem_map.mp q;exact (N r hr).2.1 e
 let g := hideAll s.heap hid
 have st : ∀ b o, h!.get? b = some o -> g.get? b = some o := fun b o e => hideAll_get _ (F.keep b o e) (nh b o e);have gs : ∀ b o, g.get? b = some o -> s.heap.get? b = some o := fun b o e => of_hideAll _ e;have gsz : g.objs.size = D := (hideAll_size _ _).trans hDe;have fresh : ∀ b, D <= b -> g.get? b = none := fun b hb => Heap.get?_none_of_le (gsz.symm ▸ hb);have LD : L < D := by obtain ⟨oL, _, _, hL, _⟩ := F.ns; exact lowD hL
 apply byc; intro O;obtain ⟨oL, esL, epL, hL, hLd, hLk, hLf⟩ := F.ns;apply O; clear O;have hLg : g.get? L = some oL := hideAll_get _ hL nL;have Fg : Fr g C h? (fun _ => none) := ⟨hns₁, fun b o e => old b o (gs b o e), by rw [gsz]; exact Nat.le_of_lt hDC⟩;have Ng : News g C h? ((C + 1, { cls := .type "cell", data := .cell none }) :: (D, listOf #[] 0) :: (I, oI) :: news) := fun q hq => by
  rcases qC hq with rfl | hq
  ·exact ⟨hca, Nat.ne_of_gt (Nat.lt_succ_self _), fresh _ (Nat.le_of_lt (Nat.lt_succ_of_lt hDC))⟩
  rcases qC hq with rfl | hq
  ·exact ⟨hD₁, Nat.ne_of_lt hDC, fresh _ (Nat.le_refl _)⟩
  ·rcases qC hq with rfl | hq
   ·exact ⟨old _ _ hI, Nat.ne_of_lt (Nat.lt_trans (lowD hI) hDC), hideAll_none _ (.head _)⟩
   ·exact ⟨old _ _ (N q hq).1, Nat.ne_of_lt (Nat.lt_trans (lowD (N q hq).1) hDC), hideAll_none _ (.tail _ (qM hq))⟩
 have ltC : ∀ {b o}, s.heap.get? b = some o -> b ≠ C + 1 := fun e => Nat.ne_of_lt (Nat.lt_succ_of_lt (Nat.lt_trans (lowD e) hDC));have loop : ∀ s₃ : Shared, s₃ = { s with heap := h? } ->
   codeAny (model prog w) A (.compLoop (.ListComp elt [⟨.Name x px, iter, ifs, 0⟩] scope pos) 0 (.ref I) (.ref D) (compEnvC scope ((x, C + 1) :: cl) C env)) (R (.ref D) C) s₃ := by
  rintro s₃ rfl;refine lc_loopK (cenv := compEnvC scope ((x, C + 1) :: cl) C env) (g := g) (nx₀ := news) (ca := C + 1) (v0 := none) W hlive J hkind hx (by simp [compEnvC]) (Ne.symm (ltC hI)) (Nat.ne_of_gt (Nat.lt_succ_of_lt hDC)) ?_ (Ne.symm (Nat.ne_of_lt (lowD hI))) hst₁ Fg Ng rfl (fun q hq => ⟨ltC (N q hq).1, Nat.ne_of_lt (lowD (N q hq).1), hIn q hq⟩) hJ ?_ ?_ hys
  ·intro b hb hbI;rcases hfp b hb hbI with ⟨o, e⟩ | h
   ·exact .inl ⟨o, st b o e⟩
   ·exact .inr h
  ·intro i v ys nx own H tk u hi hPv hJ' hoff hcc F' N';exact turn g C _ _ i v ys nx own H tk u (X.keeps st) (T.keeps st) (fun q hq => Nat.lt_trans (lowD (N q hq).1) hDC) hi hPv hJ' hoff hcc F' N'
  ·intro ys nx H tk u k hJ' hoff F' N';refine done D C ys nx H tk k u hJ' (fun q hq => (hoff q hq).1) (fun q hq => lowD (N q hq).1) hDC F'.ns LD ?_ (fun q hq => (N' q (.tail _ hq)).2.1) ⟨⟨oL, esL, epL, F'.keep L oL hLg, hLd, hLk, hLf⟩, fun b o e => F'.keep b o (st b o e), F.above⟩ fun q hq => ⟨(N' q hq).1, fun e => ?_, ?_⟩
   ·cases e : h!.get? C with
    | none => rfl
    | some o => have := st _ _ e; rw [fresh C (Nat.le_of_lt hDC)] at this; cases this
   ·have := (N' q hq).2.2;rw [e, hLg] at this; cases this
   ·cases e : h!.get? q.1 with
    | none => rfl
    | some o => have := (N' q hq).2.2; rw [st _ _ e] at this; cases this
 exact codeAny_compStart_list (loop _ rfl) (W.self 0 _ _ _ hst₁ (loop _ rfl))
theorem lc_rangeK {R : Value -> Addr -> Result -> Shared -> Prop} {r : Addr} {b : Int} {t₀ u₀ v₀ : Tok} {n : Nat} (hh : A.handled = none) (J : Nat -> List Value -> List (Addr × Obj) -> Prop)
  (hr : IsRange s.heap r 0 b 1 t₀ u₀ v₀) (hsmall : Builtin.Range.small 0 b 1 = true) (hn : Builtin.Range.rangeSize 0 b 1 = (n : Int))
  (hcf : ∀ k acc, cellsFrom k scope.names acc = (x, k) :: acc) (hpc : ∀ h : Heap, pushCells h scope.names = h.push { cls := .type "cell", data := .cell none }) (hbn : env.builtins = builtinsNs) (hkind : scope.kind = .function) (hx : (relabel scope env).names.lookup x = some .cell)
  (F : Fr h! L s.heap m) (X : K.In h!) (T : Top p loose mean mg mb h!) (N : News h! L s.heap news) (hJ : J 0 [] news)
  (turn : ∀ g C ca E' (i : Nat) t ys nx own H tk (u : Str -> Option Value), K.In g -> Top p loose mean mg mb g -> (∀ p ∈ news, p.1 < C) -> i < n -> J i ys nx -> OwnOff own (nx.map (·.1)) -> (∃ o : Obj, (ca, o) ∈ own /\ o.data = .cell (some (.int (i : Int) t))) -> Fr g C H u -> News g C H (nx ++ own) ->
   wpAny (model prog w) A (lcTree ifs (compEnvC scope ((x, ca) :: cl) C env)) (fun ok s₃ => if ok = true then wpAny (model prog w) A (eval elt (compEnvC scope ((x, ca) :: cl) C env)) (LcEnd g C J i ys own { s with heap := H, toks := tk }) E' s₃
    else LcSkip g C J i ys own { s with heap := H, toks := tk } s₃) E' { s with heap := H, toks := tk })
  (done : ∀ D C ys nx H tk k u, J n ys nx -> (∀ p ∈ nx, p.1 ≠ D) -> (∀ p ∈ news, p.1 < D) -> D < C -> H.Ns C u -> L < D -> h!.get? C = none -> (∀ p ∈ nx, p.1 ≠ C) -> Fr h! L H m -> News h! L H ((D, listOf ys.toArray k) :: nx) -> R (.ref D) C (.ok .next) { s with heap := H, toks := tk })
  (hys : ∀ i ys nx, i <= n -> J i ys nx -> ys.length <= sizeLine) :
  wpAny (model prog w) A (pyIter (.ref r)) (fun it s₂ => LcAt prog w A E env elt x px iter ifs scope pos cl R it s₂) E s := by
 have W := Walks.range (prog := prog) (w := w) (A := A) hh s.heap.objs.size 0 1 n;refine wpAny_pyIter_range hr hsmall ?_;refine lc_blockK (s := { s with heap := s.heap.push _ }) W (fun i h st => ⟨_, st⟩) J hcf hpc hbn hkind hx (F.push _) X T (fun q hq => ⟨qP _ (N q hq).1, (N q hq).2⟩) (by show IsRangeIter _ _ _ _ _; rw [hn]; simpa using Heap.get?_push_size _ rfl) (Heap.get?_push_size _ rfl)
  (Heap.get?_none_of_le (Nat.le_trans F.above (Nat.le_of_lt F.ns.lt))) (Ne.symm (Nat.ne_of_lt F.ns.lt)) (fun q hq => Nat.ne_of_lt (Heap.lt_size (N q hq).1)) (fun b hb hne' => absurd (qS hb) hne') hJ ?_ done hys
 intro g C ca E' i v ys nx own H tk u Xg Tg lC hi hP hJ' ho hcc F' N';obtain ⟨t, rfl⟩ := hP;exact turn g C ca E' i t ys nx own H tk u Xg Tg lC hi hJ' ho (by simpa using hcc) F' N'
end
end Mine
end
section
open PySem PySem.W PyProof.Rows PySem.Calls
namespace Mine
def OutP (P : Addr) (g : Heap) (news : List (Addr × Obj)) (s₀ : Shared) (R : Value -> Shared -> Prop) (v : Value) (s' : Shared) : Prop :=
 ∃ L' m' news', Fr g L' s'.heap m' /\ News g L' s'.heap news' /\ (∀ p ∈ news, p.1 ≠ P -> p ∈ news') /\
  ((∀ b o, b ≠ P -> s₀.heap.get? b = some o -> s'.heap.get? b = some o) -> (∀ p ∈ news', p.1 ∉ news.map (·.1) -> s₀.heap.get? p.1 = none) -> R v s')
theorem OutP.intro {P : Addr} {g : Heap} {news : List (Addr × Obj)} {s₀ : Shared} {R : Value -> Shared -> Prop} {v : Value} {s' : Shared} {L' : Addr} {m' : Str -> Option Value} {news' : List (Addr × Obj)}
  (F : Fr g L' s'.heap m') (N : News g L' s'.heap news') (hn : ∀ p ∈ news, p.1 ≠ P -> p ∈ news')
  (k : (∀ b o, b ≠ P -> s₀.heap.get? b = some o -> s'.heap.get? b = some o) -> (∀ p ∈ news', p.1 ∉ news.map (·.1) -> s₀.heap.get? p.1 = none) -> R v s') : OutP P g news s₀ R v s' := ⟨L', m', news', F, N, hn, k⟩
def OutPR (P : Addr) (g : Heap) (news : List (Addr × Obj)) (s : Shared) (Q R : Value -> Shared -> Prop) (gs : Array GenState) (dr : Drawn) (os : OsState) : Prop := ∀ v h₂ tk₂, OutP P g news s Q v { s with heap := h₂, toks := tk₂ } -> R v ⟨h₂, gs, dr, tk₂, os⟩
theorem OutPR.out {P : Addr} {g : Heap} {news : List (Addr × Obj)} {s : Shared} {Q R : Value -> Shared -> Prop} {gs : Array GenState} {dr : Drawn} {os : OsState} (hR : OutPR P g news s Q R gs dr os) {v : Value} {h₂ : Heap} {tk₂ : Tok} {L' : Addr} {m' : Str -> Option Value} {news' : List (Addr × Obj)}
  (F : Fr g L' h₂ m') (N : News g L' h₂ news') (hn : ∀ p ∈ news, p.1 ≠ P -> p ∈ news')
  (k : (∀ b o, b ≠ P -> s.heap.get? b = some o -> h₂.get? b = some o) -> (∀ p ∈ news', p.1 ∉ news.map (·.1) -> s.heap.get? p.1 = none) -> Q v { s with heap := h₂, toks := tk₂ }) : RetK R v ⟨h₂, gs, dr, tk₂, os⟩ := hR _ _ _ (OutP.intro F N hn k)
section
variable {prog : Program} {w : World} {A : Around} {s : Shared} {h! : Heap} {news : List (Addr × Obj)} {K : Frag} {p : Program} {loose : List Str} {mean : ExcName -> Option Value} {mg mb : Str -> Option Value} {Q E : Value -> Shared -> Prop}
 {name qual : Str} {params : Arguments} {body : List Stmt} {scope : Scope} {dV kV doc pm cdv ct oc : Value} {an od : Option Addr} {osl : Array (Option Value)} {f P : Addr} {pos : List Value}
theorem out_useP {v : Value} {s' : Shared} {R : Value -> Shared -> Prop} (hN : ∀ p ∈ news, s.heap.get? p.1 = some p.2) (ho : OutP P (hideAll s.heap (news.map (·.1))) news s R v s') : R v s' := by
 apply byc; intro O;obtain ⟨L', m', news', F', N', hn, k⟩ := ho;apply O; clear O;refine k (fun b o hb e => ?_) fun p hp hnp => ?_
 ·by_cases hm : b ∈ news.map (·.1)
  ·obtain ⟨p, hp, rfl⟩ := List.mem_map.mp hm;have e2 := hN p hp;rw [e] at e2;cases e2;exact (N' p (hn p hp hb)).1
  ·exact F'.keep b o (hideAll_get _ e hm)
 ·cases q : s.heap.get? p.1 with
  | none => rfl
  | some o =>
   have e1 := hideAll_get _ q hnp;rw [(N' p hp).2.2] at e1;cases e1
theorem enterPc {R : Result -> Shared -> Prop} (keep : h!.StaysIn s.heap) (hN : ∀ p ∈ news, s.heap.get? p.1 = some p.2 /\ h!.get? p.1 = none) (X₀ : K.In h!) (T : Top p loose mean mg mb h!) {binds : List (Str × Value)}
  (ho : K.lookup f = some ⟨oc, od, .func (fnOf name qual params body scope dV kV doc pm an cdv ct), osl⟩) (hcd : codeIn K cdv qual = true) (hroom : A.depth < recursionLimit)
  (hbind : BindsTo s (fnOf name qual params body scope dV kV doc pm an cdv ct) ⟨pos, []⟩ binds) (hloc : ∀ y ∈ binds, scope.names.lookup y.1 = some .local)
  (h : ∀ g L' h? gs dr tk os Rz, OutPR P g news s (fun v s' => R (.ok (.ret v)) s') Rz gs dr os -> K.In g -> Top p loose mean mg mb g -> Fr g L' h? (fun y => binds.reverse.lookup y) -> News g L' h? news -> (∀ p ∈ news, p.1 < L') ->
   wpAny (model prog w) (A.deeper (envOf qual scope L' f cdv)) (execs body (envOf qual scope L' f cdv))
    (exitQ Rz) (fun _ _ => False) ⟨h?, gs, dr, tk, os⟩)
  (hco : scope.isCoroutine = false) (hgen : scope.isGenerator = false) (hk : scope.kind = .function)
  (hcell : ∀ x ∈ scope.names, x.2 ≠ .cell) : codeAny (model prog w) A (.call (.ref f) ⟨pos, []⟩) R s := by
 have st := hide_stays keep hN;refine codeAny_call_def (fd := fnOf name qual params body scope dV kV doc pm an cdv ct) (body := body) (binds := binds) hroom ((X₀.keeps keep) _ _ ho) rfl (T.nolimit.keeps keep) (codeRec_of (X₀.keeps keep) hcd) rfl hbind hcell hloc (fun h? hns hk₁ => ?_) hco hgen hk;refine wpAny_mono (h (hideAll s.heap (news.map (·.1))) s.heap.objs.size h? s.gens s.drawn _ s.os (fun v s' => OutP P (hideAll s.heap (news.map fun q : Addr × Obj => q.1)) news s (fun v s' => R (.ok (.ret v)) s') v s') (fun _ _ _ o => o) (X₀.keeps fun b o e => st b o e) (T.keeps fun b o e => st b o e) ⟨hns, fun b o e => hk₁ b o (of_hideAll _ e), Nat.le_of_eq (hideAll_size _ _)⟩
  (fun p hp => ⟨hk₁ _ _ (hN p hp).1, Nat.ne_of_lt (Heap.lt_size (hN p hp).1), hideAll_none _ (qM hp)⟩) (fun p hp => Heap.lt_size (hN p hp).1)) (fun fl s' hl => ?_) fun _ _ y => y.elim
 exact out_useP (fun p hp => (hN p hp).1) (show OutP P _ news s (fun v s' => R (.ok (.ret v)) s') (match (generalizing := false) fl with | .ret v => v | _ => .none) s' from hl)
theorem enterCP (keep : h!.StaysIn s.heap) (hN : ∀ p ∈ news, s.heap.get? p.1 = some p.2 /\ h!.get? p.1 = none) (X₀ : K.In h!) (T : Top p loose mean mg mb h!) {binds : List (Str × Value)}
  (ho : K.lookup f = some ⟨oc, od, .func (fnOf name qual params body scope dV kV doc pm an cdv ct), osl⟩) (hcd : codeIn K cdv qual = true) (hroom : A.depth < recursionLimit)
  (hbind : BindsTo s (fnOf name qual params body scope dV kV doc pm an cdv ct) ⟨pos, []⟩ binds)
  (hkind : (binds.all fun y => scope.names.lookup y.1 == some .local || scope.names.lookup y.1 == some .cell) = true)
  (hnd : ((cellsFrom 0 scope.names []).map (·.1)).Nodup)
  (h : ∀ g L' h? gs dr tk os Rz, OutPR P g news s Q Rz gs dr os -> ∀ cells, K.In g -> Top p loose mean mg mb g -> Fr g L' h? (bindL (envOfC qual scope L' f cdv).kindOf binds fun _ => none) -> News g L' h? (cells ++ news) ->
   CellsAre (bindC (envOfC qual scope L' f cdv).kindOf binds fun _ => none) (cellsFrom (L' + 1) scope.names []) cells -> (∀ p ∈ news, p.1 < L') -> (∀ b o, b ∉ news.map (·.1) -> s.heap.get? b = some o -> g.get? b = some o) ->
   wpAny (model prog w) (A.deeper (envOfC qual scope L' f cdv)) (execs body (envOfC qual scope L' f cdv))
    (exitQ Rz) (fun _ _ => False) ⟨h?, gs, dr, tk, os⟩)
  (hco : scope.isCoroutine = false) (hgen : scope.isGenerator = false) (hk : scope.kind = .function) : wpAny (model prog w) A (call (.ref f) pos) Q E s := by
 have st := hide_stays keep hN;refine wpAny_call (codeAny_call_function (o := _) (fd := fnX name qual params body scope [] dV kV doc pm an cdv ct) hroom ((X₀.keeps keep) _ _ ho) rfl hco hgen rfl (codeRec_of (X₀.keeps keep) hcd) (hbind _ _ _ _ ?_));refine wpAny_newFunctionEnv_cells hk (kindsX hkind _) fun env' he s' x => ?_;subst he;refine ⟨(T.nolimit.keeps keep).keeps x.toInCall.keep, codeAny_func ?_⟩;apply byc; intro O;obtain ⟨h?, tk, rfl, _⟩ := x.done;apply O; clear O;have hk₁ := x.toInCall.keep;apply byc; intro O;obtain ⟨cells, NC, Y⟩ := Cl.news (h₀ := s.heap) (Nat.le_refl _) fun n c hm => ⟨x.cell n c (lookup_of_mem_nodup (cellsFrom_names scope.names 0 (s.heap.objs.size + 1) [] [] rfl ▸ hnd) hm), x.above n c hm⟩;apply O; clear O;refine wpAny_mono (h (hideAll s.heap (news.map (·.1))) s.heap.objs.size h? s.gens s.drawn tk s.os (fun v s' => OutP P (hideAll s.heap (news.map fun q : Addr × Obj => q.1)) news s Q v s') (fun _ _ _ o => o) cells (X₀.keeps fun b o e => st b o e) (T.keeps fun b o e => st b o e) ⟨x.toInCall.ns, fun b o e => hk₁ b o (of_hideAll _ e), Nat.le_of_eq (hideAll_size _ _)⟩ (fun p hp => ?_) Y (fun p hp => Heap.lt_size (hN p hp).1) fun b o hb e => hideAll_get _ e hb) (fun fl s' hl => out_useP (fun p hp => (hN p hp).1) hl) fun _ _ y => y.elim;rcases qA hp with hp | hp
 ·refine ⟨(NC p hp).1, (NC p hp).2.1, ?_⟩;cases q : (hideAll s.heap (news.map (·.1))).get? p.1 with
  | none => rfl
  | some o => have := of_hideAll _ q; rw [(NC p hp).2.2] at this; cases this
 ·exact ⟨hk₁ _ _ (hN p hp).1, Nat.ne_of_lt (Heap.lt_size (hN p hp).1), hideAll_none _ (qM hp)⟩
theorem backP {h h' : Heap} {L : Addr} {m : Str -> Option Value} (F : Fr h! L h m) (hPL : P ≠ L) (hP0 : h!.get? P = none) (ext : ∀ b o, b ≠ P -> h.get? b = some o -> h'.get? b = some o) : Fr h! L h' m :=
 ⟨F.ns.at fun o e => ext L o hPL.symm e, fun b o e => ext b o (fun q => by rw [q, hP0] at e; cases e) (F.keep b o e), F.above⟩
end
end Mine
end
section
open PySem PySem.W PyProof.Rows PySem.Calls
namespace Mine
noncomputable def holdIds : List String := ["bytearray.__contains__", "bytearray.__mod__", "bytearray.__rmod__", "_struct.pack_into.held", "bytearray.find.held"] ++ Builtin.Bytes.decodersThatHold
noncomputable def NBc : Code -> Bool
 | .builtin id _ => !holdIds.contains id
 | _ => true
def NBl (l : List (Code × Pos)) : Prop := ∀ x ∈ l, NBc x.1 = true
def wpS {α : Type} (M : Model) (A : Around) (t : Sem α) (Q : α -> Shared -> Prop) (E : Value -> Shared -> Prop) (s : Shared) : Prop :=
 ∀ Γ p, Γ.In A -> NBc Γ.code = true -> NBl Γ.below -> Sem.wp M Γ t (fun a _ s' => Q a s') (fun e _ s' => E e s') p s
def codeS (M : Model) (A : Around) (c : Code) (R : Result -> Shared -> Prop) (s : Shared) : Prop :=
 ∀ Γ p, Γ.code = c -> Γ.Below A -> NBl Γ.below -> wpCode M Γ R p s
section
variable {α β : Type} {M : Model} {A : Around} {E : Value -> Shared -> Prop} {s : Shared}
theorem S_any {t : Sem α} {Q : α -> Shared -> Prop} (h : wpAny M A t Q E s) : wpS M A t Q E s := fun Γ p hΓ _ _ => h Γ p hΓ
theorem S_mono {t : Sem α} {Q Q' : α -> Shared -> Prop} {E' : Value -> Shared -> Prop} (h : wpS M A t Q E s) (hQ : ∀ a s, Q a s -> Q' a s) (hE : ∀ e s, E e s -> E' e s) : wpS M A t Q' E' s :=
 fun Γ p hΓ h1 h2 => Sem.wp_mono M Γ t (fun a _ s => hQ a s) (fun e _ s => hE e s) p s (h Γ p hΓ h1 h2)
theorem S_bind {m : Sem α} {f : α -> Sem β} {Q : β -> Shared -> Prop} (h : wpS M A m (fun a s' => wpS M A (f a) Q E s') E s) : wpS M A (m >>= f) Q E s := fun Γ p hΓ h1 h2 => by
 rw [Sem.wp_bind'];exact Sem.wp_mono M Γ m (fun a p' s' h' => h' Γ p' hΓ h1 h2) (fun _ _ _ h' => h') p s (h Γ p hΓ h1 h2)
theorem S_onRaise {m : Sem α} {k : Value -> Sem Unit} {Q : α -> Shared -> Prop} (h : wpS M A m Q (fun e s' => wpAny M A (k e) (fun _ s'' => E e s'') E s') s) : wpS M A (m.onRaise k) Q E s := fun Γ p hΓ h1 h2 => by
 rw [Sem.wp_onRaise];exact Sem.wp_mono M Γ m (fun _ _ _ h' => h') (fun e p' s' h' => h' Γ p' hΓ) p s (h Γ p hΓ h1 h2)
theorem S_holding {vs : List Value} {m : Sem α} {Q : α -> Shared -> Prop} (h : wpS M A m Q E s) : wpS M A (holding vs m) Q E s :=
 fun Γ p hΓ h1 h2 => by rw [Sem.wp_holding]; exact h Γ p hΓ h1 h2
theorem S_keep {vs : List Value} {m : Sem α} {Q : α -> Shared -> Prop} (h : wpS M A m Q E s) : wpS M A (m.keep vs) Q E s :=
 fun Γ p hΓ h1 h2 => by rw [Sem.wp_keep]; exact h Γ p hΓ h1 h2
theorem S_call {f : Value} {pos : List Value} {kw : List (Str × Value)} {Q : Value -> Shared -> Prop}
  (hc : codeS M A (.call f ⟨pos, kw⟩) (fun r s' => match r with | .ok (.ret v) => Q v s' | .ok _ => False | .error e => E e s') s) : wpS M A (call f pos kw) Q E s := fun Γ p hΓ h1 h2 => by
 show Sem.wp M Γ (runValue (.call f ⟨pos, kw⟩)) _ _ p s;rw [Sem.wp_runValue];exact hc _ p rfl (hΓ.enter _ none p (by intro x; cases x)) fun x hx => by
  rcases qC hx with rfl | hx
  ·exact h1
  ·exact h2 x hx
theorem codeS_mono {c : Code} {R R' : Result -> Shared -> Prop} (h : codeS M A c R s) (hR : ∀ r s, R r s -> R' r s) : codeS M A c R' s :=
 fun Γ p hc hΓ h2 => wpCode_mono hR (h Γ p hc hΓ h2)
theorem codeS_of_tree {c : Code} {R : Result -> Shared -> Prop} (hn : NBc c = true)
  (h : wpS M (A.under c) (M.den c) (fun fin s' => match fin with | .done f => R (.ok f) s' | .again c' => c'.quiet = true /\ codeS M A c' R s') (fun e s' => R (.error e) s') s) : codeS M A c R s := fun Γ p hc hΓ h2 => by
 rw [wpCode_iff_wp, hc];refine Sem.wp_mono M Γ _ (fun fin p' s' h' => ?_) (fun _ _ _ h' => h') p s (h Γ p (hc ▸ hΓ.in) (hc ▸ hn) h2);cases fin with
 | done f => exact h'
 | again c' => exact ⟨h'.1, h'.2 (Γ.goto c') p' rfl (hΓ.goto c') h2⟩
theorem S_stack {Q : List (Code × Pos) -> Shared -> Prop} (h : ∀ st, NBl st -> Q st s) : wpS M A stack Q E s := fun Γ p _ h1 h2 => by
 show Q ((Γ.code, p) :: Γ.below) s;exact h _ fun x hx => by
  rcases qC hx with rfl | hx
  ·exact h1
  ·exact h2 x hx
variable {env : Env}
theorem S_execs_cons {st rest} {Q : Flow -> Shared -> Prop} (h : wpS M A (exec st env) (fun f s' => match f with | .next => wpS M A (execs rest env) Q E s' | f => Q f s') E s) : wpS M A (execs (st :: rest) env) Q E s := fun Γ p hΓ h1 h2 => by
 rw [execs_cons, Sem.wp_bind'];refine Sem.wp_mono M Γ _ (fun f p' s' h' => ?_) (fun _ _ _ h' => h') _ _ (h Γ p hΓ h1 h2);cases f <;> first | exact h' Γ p' hΓ h1 h2 | exact h'
theorem S_Assign_Name {x pos' value pos} {Q : Flow -> Shared -> Prop} (h : wpS M A (eval value env) (fun v s₁ => wpAny M A (storeName env x v) (fun _ => Q .next) E s₁) E s)
  (hs : swapsWith value (some (.Name x pos')) pos.line env = pure false) : wpS M A (exec (.Assign [.Name x pos'] value pos) env) Q E s := fun Γ p hΓ h1 h2 => by
 simp only [exec_Assign_Name env x pos' value pos hs, Sem.wp_bind', Sem.wp_cmd_standAt, Sem.wp_bindName, Sem.wp_pure'];exact Sem.wp_mono M Γ _ (fun v _ s₁ h? => h? Γ _ hΓ) (fun _ _ _ h' => h') _ _ (h Γ _ hΓ h1 h2)
theorem S_Call {func : Expr} {args : List Expr} {pos : Pos} {Q : Value -> Shared -> Prop} (h : wpAny M A (eval func env) (fun f s₁ => wpS M A (callWith pos f [] (backTo pos (starEach args env)) []) Q E s₁) E s)
  (he : eval (.Call func args [] pos) env = (do callWith pos (<- eval func env) [] (backTo pos (starEach args env)) (backToKw pos (keywordEach [] env)))) : wpS M A (eval (.Call func args [] pos) env) Q E s := by
 rw [he]; exact S_bind (S_any h)
end
section
variable {prog : Program} {w : World} {A : Around} {E : Value -> Shared -> Prop} {s : Shared} {R : Result -> Shared -> Prop} {Q : Value -> Shared -> Prop} {pos : Pos} {f : Value} {first : List Value}
theorem S_callWith {M : Model} {P : Heap -> Prop} {args : List (Bool × Sem Value)} {keywords : List (Option Str × Sem Value)} (hplain : (args.any (·.1) || keywords.any (·.1.isNone)) = false)
  (hk : ∀ h, P h -> ∃ k, (k = Keeper.frame \/ k = Keeper.machine \/ k = Keeper.boundFrame) /\ Looks M h (keeperOf f) k)
  (h : wpAny M A (evalArgs f true args keywords) (fun a s₁ => P s₁.heap /\ wpS M A (call f (first ++ a.pos) a.kw) Q E s₁) E s) : wpS M A (callWith pos f first args keywords) Q E s := by
 unfold callWith;refine S_bind (S_holding (S_mono (S_any h) (fun a s₁ h? => S_bind (S_any (wpAny_standAt ?_))) fun _ _ x => x));apply byc; intro O;obtain ⟨k, hk', L⟩ := hk _ h?.1;apply O; clear O;simp only [hplain];refine S_bind (S_any (L.here ?_));have tail : ∀ {t : Sem Value}, wpS M A t Q E s₁ -> wpS M A (t >>= fun r => holding [r] point >>= fun _ => pure r) Q E s₁ := fun ht =>
  S_bind (S_mono ht (fun r s₂ hr => S_any (wpAny_bind (wpAny_holding (wpAny_point (wpAny_pure hr))))) fun _ _ x => x)
 have marked (mk : Value) : wpS M A (callMarked mk f (first ++ a.pos) a.kw) Q E s₁ := by unfold callMarked; exact S_keep h?.2
 rcases hk' with rfl | rfl | rfl <;> dsimp only <;> first | exact tail h?.2 | (split <;> first | exact tail h?.2 | exact tail (marked _))
theorem S_callWith_type {M : Model} {T : String} {args : List (Bool × Sem Value)} (hplain : args.any (·.1) = false)
  (h : wpAny M A (evalArgs (.type T) true args []) (fun a s₁ => wpS M A (call (.type T) (first ++ a.pos) a.kw) Q E s₁) E s) : wpS M A (callWith pos (.type T) first args []) Q E s := by
 unfold callWith;refine S_bind (S_holding (S_mono (S_any h) (fun a s₁ h? => S_bind (S_any (wpAny_standAt ?_))) fun _ _ x => x));simp only [hplain, List.any_nil, Bool.or_false];refine S_bind (S_any (wpAny_pure ?_));exact S_bind (S_mono h? (fun r s₂ hr => S_any (wpAny_bind (wpAny_holding (wpAny_point (wpAny_pure hr))))) fun _ _ x => x)
theorem S_callWith_type1 {M : Model} {env : Env} {T : String} {e : Expr} {rest : List Expr}
  (h : wpAny M A (spliced (backTo pos (starEach (e :: rest) env))) (fun vs s₁ => wpS M A (call (.type T) vs) Q E s₁) E s)
  (he : starEach (e :: rest) env = (false, eval e env) :: starEach rest env) (hplain : (backTo pos (starEach rest env)).any (·.1) = false) :
  wpS M A (callWith pos (.type T) [] (backTo pos (starEach (e :: rest) env)) []) Q E s := by
 rw [he] at h ⊢;exact S_callWith_type (by show (false || (backTo pos (starEach rest env)).any (·.1)) = false; rw [hplain]; rfl) (evalArgs_plain h)
theorem S_callWith_K {M : Model} {env : Env} {K : Frag} {e : Expr} {rest : List Expr} (hk : keepIn K f = true)
  (h : wpAny M A (spliced (backTo pos (starEach (e :: rest) env))) (fun vs s₁ => K.In s₁.heap /\ wpS M A (call f (first ++ vs)) Q E s₁) E s)
  (he : starEach (e :: rest) env = (false, eval e env) :: starEach rest env) (hplain : (backTo pos (starEach rest env)).any (·.1) = false) :
  wpS M A (callWith pos f first (backTo pos (starEach (e :: rest) env)) []) Q E s := by
 rw [he] at h ⊢;exact S_callWith (by show ((false || (backTo pos (starEach rest env)).any (·.1)) || false) = false; rw [hplain]; rfl) (keeps_K hk) (evalArgs_plain h)
theorem codeS_func {body : List Stmt} {env : Env} (h : wpS (model prog w) (A.deeper env) (execs body env) (fun f s' => R (.ok (.ret (match f with | .ret v => v | _ => .none))) s')
   (fun e s' => wpAny (model prog w) (A.deeper env) (leaving env e) (fun _ s'' => R (.error e) s'') (fun e' s'' => R (.error e') s'') s') s) : codeS (model prog w) A (.func body env) R s := by
 refine codeS_of_tree rfl ?_;show wpS _ (A.deeper env) (do point; match <- (execs body env).onRaise (leaving env) with | .ret v => ret v | _ => ret .none) _ _ s;refine S_bind (S_any (wpAny_point (S_bind (S_onRaise (S_mono h (fun f s' h' => ?_) fun _ _ h' => h')))));cases f <;> exact S_any (wpAny_pure h')
theorem codeS_call_function {a : Addr} {args : Args} {o : Obj} {fd : FuncData} {body : List Stmt} (hroom : A.depth < recursionLimit) (ho : s.heap.get? a = some o)
  (hd' : o.data = .func fd) (hco : fd.scope.isCoroutine = false) (hgen : fd.scope.isGenerator = false) (hbody : fd.body = .stmts body) (hcd : s.heap.CodeRec fd.code fd.qualname)
  (h : wpAny (model prog w) A.in1 (bindArgs fd args) (fun binds s₁ =>
   wpAny (model prog w) A.in1 (newFunctionEnv fd.scope fd.globals fd.closure binds (fd.qualname ++ ".<locals>.") (some a) fd.code none fd.builtins)
    (fun env s₂ => s₂.heap.NoLimit /\ codeS (model prog w) A (.func body env) R s₂) (fun e s' => R (.error e) s') s₁) (fun e s' => R (.error e) s') s) : codeS (model prog w) A (.call (.ref a) args) R s := by
 refine codeS_of_tree rfl (S_any ?_);show wpAny _ A.in1 (callAny (.ref a) args) _ _ s;simp only [callAny];refine wpAny_bind (wpAny_load ho ?_);apply byc; intro O;obtain ⟨c, oc, vs, tq, hc, hoc, hdc, hq⟩ := hcd;apply O; clear O;simp only [hd', callFunction, hco, hgen, hbody, hc];rw [hc] at h;refine wpAny_bind (m := field (.ref c) 1) (wpAny_field hoc hdc hq (wpAny_bind (wpAny_pure ?_)));exact wpAny_bind (wpAny_mono h (fun binds s₁ h? => wpAny_bind (wpAny_mono h? (fun env s₂ h₂ => wpAny_bind (wpAny_enterFrame h₂.1 hroom
  (wpAny_pure (And.intro rfl h₂.2)))) fun _ _ h' => h')) fun _ _ h' => h')
end
section
variable {prog : Program} {w : World} {A : Around} {s : Shared} {h! : Heap} {news : List (Addr × Obj)} {K : Frag} {p : Program} {loose : List Str} {mean : ExcName -> Option Value} {mg mb : Str -> Option Value} {Q E : Value -> Shared -> Prop}
 {name qual : Str} {params : Arguments} {body : List Stmt} {scope : Scope} {dV kV doc pm cdv ct oc : Value} {an od : Option Addr} {osl : Array (Option Value)} {f : Addr} {pos : List Value}
theorem S_weak {α : Type} {M : Model} {A A' : Around} {t : Sem α} {Q : α -> Shared -> Prop} {E : Value -> Shared -> Prop} {s : Shared}
  (hh : A.handled = A'.handled) (hd : A.depth <= A'.depth) (hu : A.units <= A'.units) (hf : A'.frames = none) (hg : A'.guards = none) (h : wpS M A' t Q E s) : wpS M A t Q E s :=
 fun Γ p hΓ => h Γ p ⟨hΓ.1.trans hh, Nat.le_trans hΓ.2.1 hd, (fun l e => by rw [hf] at e; cases e), (fun g e => by rw [hg] at e; cases e), Nat.le_trans hΓ.2.2.2.2 hu⟩
theorem enterS (keep : h!.StaysIn s.heap) (hN : ∀ p ∈ news, s.heap.get? p.1 = some p.2 /\ h!.get? p.1 = none) (X₀ : K.In h!) (T : Top p loose mean mg mb h!) {binds : List (Str × Value)}
  (ho : K.lookup f = some ⟨oc, od, .func (fnOf name qual params body scope dV kV doc pm an cdv ct), osl⟩) (hcd : codeIn K cdv qual = true) (hroom : A.depth < recursionLimit)
  (hbind : BindsTo s (fnOf name qual params body scope dV kV doc pm an cdv ct) ⟨pos, []⟩ binds) (hloc : ∀ y ∈ binds, scope.names.lookup y.1 = some .local)
  (h : ∀ g L' h? gs dr tk os Rz, OutR g news s Q Rz gs dr os -> K.In g -> Top p loose mean mg mb g -> Fr g L' h? (fun y => binds.reverse.lookup y) -> News g L' h? news -> (∀ p ∈ news, p.1 < L') ->
   wpS (model prog w) (A.deeper (envOf qual scope L' f cdv)) (execs body (envOf qual scope L' f cdv))
    (exitQ Rz) (fun _ _ => False) ⟨h?, gs, dr, tk, os⟩)
  (hco : scope.isCoroutine = false) (hgen : scope.isGenerator = false) (hk : scope.kind = .function)
  (hcell : ∀ x ∈ scope.names, x.2 ≠ .cell) : wpS (model prog w) A (call (.ref f) pos) Q E s := by
 have st := hide_stays keep hN;refine S_call (codeS_call_function (fd := fnOf name qual params body scope dV kV doc pm an cdv ct) (body := body) hroom ((X₀.keeps keep) _ _ ho) rfl hco hgen rfl (codeRec_of (X₀.keeps keep) hcd) (hbind _ _ _ _ ?_));refine wpAny_newFunctionEnv hcell hloc (fun h? hns hsb => ?_) hk;have hk₁ : ∀ b o, s.heap.get? b = some o -> h?.get? b = some o := fun b o e => hsb.extBut b o (Nat.ne_of_lt (Heap.lt_size e)) (qP _ e);refine ⟨(T.nolimit.keeps keep).keeps hk₁, codeS_func ?_⟩;refine S_mono (h (hideAll s.heap (news.map (·.1))) s.heap.objs.size h? s.gens s.drawn _ s.os (fun v s' => Out (hideAll s.heap (news.map fun q : Addr × Obj => q.1)) news s Q v s') (fun _ _ _ o => o) (X₀.keeps fun b o e => st b o e) (T.keeps fun b o e => st b o e) ⟨hns, fun b o e => hk₁ b o (of_hideAll _ e), Nat.le_of_eq (hideAll_size _ _)⟩
  (fun p hp => ⟨hk₁ _ _ (hN p hp).1, Nat.ne_of_lt (Heap.lt_size (hN p hp).1), hideAll_none _ (qM hp)⟩) (fun p hp => Heap.lt_size (hN p hp).1)) (fun fl s' hl => ?_) fun _ _ y => y.elim
 exact out_use (fun p hp => (hN p hp).1) hl
end
end Mine
end
section
open PySem PySem.W PyProof.Rows PySem.Calls PySem.Spec
namespace Mine
theorem thread_S {prog : Program} {w : World} {t : Sem Fin} {s : Shared} {R : Result -> Shared -> Prop} (hreg : s.asleep)
  (h : wpS (model prog w) callerA t (fun fin s' => ∃ f, fin = .done f /\ (R (.ok f) s' /\ leftWithCleanup s'.gens = false)) (fun e s' => R (.error e) s' /\ leftWithCleanup s'.gens = false) s) :
  ∃ n r s' s'', runN (denote table) prog w n s ⟨t, .builtin "claim.caller" {}, default, []⟩ = .halted (outcomeOf r) s' /\
   schedN (denote table) prog w n (.single s ⟨t, .builtin "claim.caller" {}, default, []⟩) = .halted (outcomeOf r) s' /\ s'.forget = s''.forget /\ R r s'' := by
 have h0 := h ⟨.builtin "claim.caller" {}, none, none, [], none⟩ default caller_in (by show (!holdIds.contains "claim.caller") = true; decide +kernel) (fun _ hx => nomatch hx);have h1 : Sem.wp (model prog w) ⟨.builtin "claim.caller" {}, none, none, [], none⟩ t (Sem.finPost (model prog w) ⟨.builtin "claim.caller" {}, none, none, [], none⟩ fun r s' => R r s' /\ leftWithCleanup s'.gens = false) (fun e _ s' => R (.error e) s' /\ leftWithCleanup s'.gens = false) default s :=
  Sem.wp_mono _ _ _ (fun fin _ s' ⟨f, e, hf⟩ => e ▸ hf) (fun _ _ _ x => x) _ _ h0
 apply byc; intro O;obtain ⟨n, r, s₁, s₂, hs, hn, hfo, hR⟩ := wp_halts_full (M := model prog w) (R := R) hreg h1;apply O; clear O;exact ⟨n, r, s₂, s₁, hn, hs, hfo, hR⟩
abbrev WalkS (q : Program) (loose : List Str) (XP : (Str -> Option Value) -> Heap -> Prop) (YP : World -> Heap -> Prop) (r : RowW) (d : DefRec) (kwd : List (Str × Expr)) (run : Value -> List Value -> Sem Value) : Prop :=
 ∀ (w : World) (s₀ s₁ : Shared) (mg mb : Str -> Option Value), Ground q loose r.records XP w s₀ mg mb s₁.heap -> YP w s₁.heap -> ∀ (a : Addr) (o : Obj) (pm cd doc dV kV : Value), s₁.heap.get? a = some o ->
  o.data = .func { docDef d.name d.params d.body d.scope pm cd doc with defaults := dV, kwdefaults := kV } -> s₁.heap.CodeRec cd d.name -> Dflts mg s₁.heap d.params kwd dV kV -> mg d.name = some (.ref a) -> s₁.gens = #[] ->
  ∀ (args : List WData) (vals : List Value) (as : List Addr), r.claim.pre args = true -> WData.layableAll args = true -> ReadsAllW r.records (classAt s₀.heap) s₁.heap vals args as -> WellAll w.params s₁.heap vals args -> (∀ a ∈ as, (a == sysModules) = false) ->
   wpS (model r.prog w) callerA (run (.ref a) vals) (fun v s' => GoodWG r.claim (classAt s₀.heap) (ExcName.means s₀.heap) args s₁ (.ok (.ret v)) s')
    (fun e s' => GoodWG r.claim (classAt s₀.heap) (ExcName.means s₀.heap) args s₁ (.error e) s') s₁
theorem spec_S {c : ClaimW} {tree : List Value -> Sem Fin} {w : World} {s : Shared} {free : Addr -> Prop} {gens : Prop} {kept : Heap -> Prop} (hz : s.asleep) (hgens : s.gens = #[])
  (hspec : ∀ args, c.pre args = true -> WData.layableAll args = true -> ∀ ord : List DictEntry -> List DictEntry, (∀ l, (ord l).Perm l) ->
   ∃ vs s₁, layAllW c.records (classAt s.heap) w.params ord args s = some (vs, s₁) /\
    wpS (model c.prog w) callerA (tree vs) (fun fin s' => ∃ f, fin = .done f /\ (c.Ends s args vs s₁ (.ok f) s' /\ s'.os = s.os /\ AllBare s'.gens /\ kept s'.heap))
     (fun e s' => c.Ends s args vs s₁ (.error e) s' /\ s'.os = s.os /\ AllBare s'.gens /\ kept s'.heap) s₁) :
  c.CallFrom (fun vs => ⟨tree vs, .builtin "claim.caller" {}, default, []⟩) w free gens kept s := by
 intro args hpre hlay ord hord;apply byc; intro O;obtain ⟨vs, s₁, hlaid, hcode⟩ := hspec args hpre hlay ord hord;apply O; clear O;have rest := layAllW_rest _ _ _ hlaid;apply byc; intro O;obtain ⟨k, r, s', s'', hrun, hsched, hfo, hE, hos, hkp⟩ := thread_S (prog := c.prog) (w := w) (t := tree vs) (s := s₁) (R := fun r s' => c.Ends s args vs s₁ r s' /\ s'.os = s.os /\ kept s'.heap)
  (Shared.asleep_of_life rest.2.2.2 hz)
  (S_mono hcode (fun fin s' ⟨f, e, h1, h2, h3, h4⟩ => ⟨f, e, ⟨h1, h2, h4⟩, leftWithCleanup_false_of_bare h3⟩) fun e s' ⟨h1, h2, h3, h4⟩ => ⟨⟨h1, h2, h4⟩, leftWithCleanup_false_of_bare h3⟩)
 obtain ⟨eh, _, _, eo, _⟩ := Shared.forget_eq hfo;apply O; clear O;have hE := hE.congr eh;have hlife : s'.heap.life = s.heap.life := (runN_life _ _ _ hrun).trans rest.2.2.2;refine ⟨vs, s₁, hlaid, k, _, s', hsched, ?_, (fun _ i x hx => by rw [hgens] at hx; simp at hx), (by rw [eh]; exact hkp), by rw [hlife], Shared.rest_eq (by rw [eo]; exact hos)⟩;rcases hE with ⟨v, rfl, d1, d2, d3, d4, d5⟩ | ⟨e, ob, cls, rfl, d1, d2, d3, d4, d5⟩
 ·exact .inl ⟨v, rfl, d1, d2, d3, fun b o y _ => d4 b o y, d5⟩
 ·exact .inr ⟨e, ob, cls, rfl, d1, d2, d3, d4, fun b o y _ => d5 b o y⟩
theorem PySem.W.holds_open {r : OpenRow} {q : Program} {loose : List Str} {Xt : Shared -> Bool} {XP : (Str -> Option Value) -> Heap -> Prop} {α : Type} {Yf : Shared -> α} {Ya : World -> α} {YP : World -> Heap -> Prop} {d : DefRec} {kwd : List (Str × Expr)} {N : Nat}
  (left : LeftO r.prog q loose Xt Yf Ya N) (hY : ∀ w s, Yf s = Ya w -> YP w s.heap) (hYk : ∀ w h h', YP w h -> (∀ b o, h.get? b = some o -> h'.get? b = some o) -> YP w h')
  (hX : ∀ s, Xt s = true -> XP (s.heap.nsMap mainGlobals) s.heap) (hXk : ∀ mg h h', XP mg h -> (∀ b o, h.get? b = some o -> h'.get? b = some o) -> XP mg h')
  (hdef : defOf q r.name = some (d, kwd)) (hp : r.prog.theDef r.name = some (d.params, d.body, d.scope)) (hk : kwWritten? d.params.kwonlyargs d.params.kw_defaults = some kwd) (hRf : ∀ s, Xt s = true -> RecFacts r.records s.heap) (hwr : (!r.writes || r.records.isEmpty) = true)
  (k1 : r.wellSaid = true) (ok : (chainsOk q && opensWell r.prog && (frees r.toRowW && r.within.isEmpty)) = true) (hb : r.prog.bare) (hw : r.toRowW.promised)
  (walk : WalkS q loose XP YP r.toRowW d kwd fun f vs => PySem.call f vs) : r.Holds := by
 apply byc; intro O;obtain ⟨ok, k5⟩ := Bool.and_eq_true_iff.mp ok;obtain ⟨hch, o1⟩ := Bool.and_eq_true_iff.mp ok;obtain ⟨k5, k6⟩ := Bool.and_eq_true_iff.mp k5;obtain ⟨hsame, hu, ha, hap, hm⟩ := frees_parts k5;apply O; clear O;refine ⟨k1, hw, ⟨hb, o1, by show r.makers.map _ = []; rw [hm]; rfl⟩, hw.witness, fun w => ⟨(left.behind hX hch w).1, fun s' hs' => ?_⟩⟩;apply byc; intro O;obtain ⟨s₀, hf, hg0, s, hT, hz, hgens, hg, G00, y⟩ := (left.behind (XP := fun mg h => XP mg h /\ RecFacts r.records h) (fun s hs => ⟨hX s hs, hRf s hs⟩) hch w).2 s' hs';apply O; clear O;have G0 : Ground q loose [] XP w s (s.heap.nsMap mainGlobals) (s.heap.nsMap builtinsNs) s.heap := ⟨G00.T, G00.B, G00.D, G00.TE, G00.TD, G00.W, G00.X.1, G00.cls, G00.has, G00.apart, G00.once, G00.K⟩;have RF := G00.X.2;have hT' := hT;have hgens : s.gens = #[] := Array.eq_empty_of_size_eq_zero (beq_iff_eq.mp hgens);have G : Ground q loose r.records XP w s _ _ s.heap := RF.ground G0;refine ⟨s₀, hf, hg0, s, hT, fun n hn => ?_, RF.1, RF.2.1, ?_⟩
 ·obtain rfl : n = r.name := by split at hn <;> simp_all
  exact pinned_of_view hg G0 hdef hp hk
 ·refine spec_S (c := r.claim) (tree := fun vs => do match <- nsGet mainNs r.name with
   | some f => do PySem.ret (<- PySem.call f vs)
   | none => unsupported "claim.caller:no-such-global") hz hgens fun args hpre hlay ord hord => ?_
  apply byc; intro O;obtain ⟨⟨vs, s₁⟩, hlaid⟩ := Option.isSome_iff_exists.mp (layAllW_isSome (P := w.params) (ord := ord) G.has args r.args s (pre_splitW hpre).1);apply O; clear O;have keeps := layAllW_keeps _ _ _ hlaid;have hal := layAllW_rest _ _ _ hlaid;apply byc; intro O;obtain ⟨as, hrd, hin, hold⟩ := reads_layAllW hord _ _ _ hlaid hlay s₁.heap (fun _ _ e => e);apply O; clear O;have L : Laid r.records w s s₁ args vs as := ⟨⟨ord, hord, hlaid⟩, hrd, hin, hold, keeps, hal.1.trans hgens, hal.2.2.1⟩;have G₁ := G.keeps hXk keeps;apply byc; intro O;obtain ⟨a, o, pm, cd, doc, dV, kV, h1, h2, h3, h4, h5⟩ := G₁.fn hdef;apply O; clear O;have hwalk := walk w s s₁ _ _ G₁ (hYk _ _ _ (hY w s y) keeps) a o pm cd doc dV kV h2 h3 h4 h5 (defOf_name hdef ▸ h1) L.gens args vs as hpre hlay L.reads L.well (L.low G.low);have hi := ident_freeW hu ha hap;have hwi : r.claim.within = [] := List.isEmpty_iff.mp k6;refine ⟨vs, s₁, hlaid, S_bind (S_any (wpAny_nsGet G₁.T.g ?_))⟩;rw [h1];have fin : ∀ {res : Result} {s' : Shared}, GoodWG r.claim (classAt s.heap) (ExcName.means s.heap) args s₁ res s' -> r.claim.Ends s args vs s₁ res s' /\ s'.os = s.os /\ AllBare s'.gens /\ (r.writes = true -> namesKept r.claim.prog r.keeps s.heap s'.heap /\ ∀ x ∈ r.claim.records, ∀ a, classAt s.heap x.1 = some a -> recordClass s'.heap a x.1 (x.2.map (·.1)) = true) := fun g =>
   have z := g.laid (c := r.claim) hsame hwi hi L
   ⟨z.1, z.2.1, z.2.2, fun q => ⟨namesKept_of hT' hg r.keeps keeps g.2.1.old, noTable hwr q⟩⟩
  exact S_bind (S_mono hwalk (fun v s' g => S_any (wpAny_pure ⟨_, rfl, fin g⟩)) fun e s' g => fin g)
end Mine
end
section
open PySem PySem.W PyProof.Rows PySem.Calls
namespace Mine
noncomputable def NoE : Value -> Shared -> Prop := fun _ _ => False
section
variable {M : Model} {A : Around} {R : GenEnd} {Y : Protocol} {n : Nat} {s₀ : Shared} {c : Code} {fs : List Frame} {s : Shared} {env : Env}
theorem seg_bindN {α β : Type} {m : Sem α} {K : α -> Sem β} {K' : β -> Sem Fin} {H' : Value -> Sem Fin} {gd : Bool -> Bool} {lv : List Value -> List Value}
  (h : wpAny M (A.over c fs) m (fun a s' => Seg M A R Y n s₀ c ((K a).wrap K' H' gd lv) fs s') NoE s) : Seg M A R Y n s₀ c ((m >>= K).wrap K' H' gd lv) fs s :=
 seg_bind_wrap (wpAny_mono h (fun _ _ x => x) fun _ _ x => x.elim)
theorem seg_wrapN {α : Type} {m : Sem α} {K : α -> Sem Fin} {H : Value -> Sem Fin} {gd : Bool -> Bool} {lv : List Value -> List Value}
  (h : wpAny M (A.over c fs) m (fun a s' => Seg M A R Y n s₀ c (K a) fs s') NoE s) : Seg M A R Y n s₀ c (m.wrap K H gd lv) fs s :=
 seg_wrap (wpAny_mono h (fun _ _ x => x) fun _ _ x => x.elim)
noncomputable def backK (env : Env) (K : Flow -> Sem Fin) (H : Value -> Sem Fin) (gd : Bool -> Bool) (lv : List Value -> List Value) (r : Result) : Sem Fin :=
 ((match r with | .ok f => (.pure f : Sem Flow) | .error e => .raise e).onRaise fun (x : Value) => do
    if (<- field x 1) == Value.none then unsupported "frame.own-activation:exception-without-traceback"
    setFlight x env.frame).wrap K H gd lv
variable {K : Flow -> Sem Fin} {H : Value -> Sem Fin} {gd : Bool -> Bool} {lv : List Value -> List Value}
theorem seg_For {target iter : Expr} {body : List Stmt} {pos : Pos}
  (h : wpAny M (A.over c fs) (eval iter env) (fun xv s₁ => wpAny M (A.over c fs) (pyIter xv) (fun it s₂ => ∀ p,
   Seg M A R Y n s₀ (.forLoop target it body [] env) (M.den (.forLoop target it body [] env)) (.ret (backK env K H gd lv) none (gd false) (lv []) c p [] :: fs) s₂) NoE s₁) NoE s)
  (hs : ∀ x, foldedSetIterable iter env x = pure x := by intro _; rfl) :
  Seg M A R Y n s₀ c ((exec (.For target iter body [] pos) env).wrap K H gd lv) fs s := by
 rw [exec_For];refine seg_bindN (wpAny_standAt ?_);refine seg_bindN (wpAny_mono h (fun xv s₁ h? => ?_) fun _ _ x => x);refine seg_bindN (wpAny_of_eq (hs xv) ?_);refine seg_bindN (wpAny_standAt ?_);refine seg_bindN (wpAny_holding (wpAny_mono h? (fun it s₂ h₂ => ?_) fun _ _ x => x));exact seg_call h₂
theorem seg_block_end {k h g l c₁ p₁ kp} (hk : Seg M A R Y n s₀ c₁ (k (.ok .next)) fs s) (hc : M.den (.block [] env) = (do return .done (<- (execs [] env).onRaise (fun x => do noteFrame x env; theTreesLotGoes x)))) :
  Seg M A R Y n s₀ (.block [] env) (M.den (.block [] env)) (.ret k h g l c₁ p₁ kp :: fs) s := by
 rw [hc];exact seg_leaf (.ok .next) hk
end
section
variable {prog : Program} {w : World} {A : Around} {R : GenEnd} {Y : Protocol} {n : Nat} {s₀ : Shared} {fs : List Frame} {s : Shared} {env : Env}
noncomputable def turnK (target : Expr) (it : Value) (body : List Stmt) (env : Env) : Flow -> Sem Fin := fun f => match f with
 | .next | .cont => .pure (.again (.forLoop target it body [] env))
 | .brk => .pure (.done .next)
 | .ret v => .pure (.done (.ret v))
noncomputable def turnH (env : Env) : Value -> Sem Fin := fun e => (do noteFrame e env; theTreesLotGoes e : Sem Unit).wrap (fun _ => .raise e) .raise id id
theorem seg_forLoop {x : Str} {px : Pos} {it : Value} {body : List Stmt}
  (h : wpAny (model prog w) (A.over (.forLoop (.Name x px) it body [] env) fs) (pyNext it) (fun r s₁ => match r with
   | none => Seg (model prog w) A R Y n s₀ (.block [] env) ((model prog w).den (.block [] env)) fs s₁
   | some v => wpAny (model prog w) (A.over (.forLoop (.Name x px) it body [] env) fs) (assign (.Name x px) env v) (fun _ s₂ =>
     Seg (model prog w) A R Y n s₀ (.forLoop (.Name x px) it body [] env) ((execs body env).wrap (turnK (.Name x px) it body env) (turnH env) id id) fs s₂) NoE s₁) NoE s) :
  Seg (model prog w) A R Y n s₀ (.forLoop (.Name x px) it body [] env) ((model prog w).den (.forLoop (.Name x px) it body [] env)) fs s := by
 show Seg _ A R Y n s₀ _ ((forTurn (.Name x px) it body [] env).onRaise (fun x => do noteFrame x env; theTreesLotGoes x)) fs s;rw [Sem.onRaise_eq_wrap];unfold forTurn;refine seg_bindN (wpAny_standAt ?_);refine seg_bindN (wpAny_onRaise (wpAny_mono h (fun r s₁ h? => ?_) fun _ _ x => x.elim));cases r with
 | none => exact seg_again rfl h?
 | some v =>
  dsimp only at h? ⊢;refine seg_bindN (wpAny_of_eq (rfl : letOwnedTupleGo (.Name x px) it v = pure ()) ?_);refine seg_bindN (wpAny_mono h? (fun _ s₂ h₂ => ?_) fun _ _ x => x);rw [Sem.bind_eq_wrap', Sem.wrap_wrap];rw [Sem.wrap_congr (execs body env) _ _ (K' := turnK (.Name x px) it body env) (H' := turnH env) (fun f => by cases f <;> rfl) (fun e => by
   first
    | exact Sem.bind_eq_wrap _ _
    | (show (do noteFrame e env; theTreesLotGoes e : Sem Unit).bind (fun _ => .raise e) = _; rw [Sem.bind_eq_wrap]; rfl))]
  exact h₂
theorem seg_If_yield {c : Code} {K : Flow -> Sem Fin} {H : Value -> Sem Fin} {test e : Expr} {yp ep ip : Pos} 
  (h : wpAny (model prog w) (A.over c fs) (isTrue test env (eval test env)) (fun ok s₁ => if ok = true then Seg (model prog w) A R Y n s₀ c ((execs [.Expr (.Yield (some e) yp) ep] env).wrap K H id id) fs s₁ else Seg (model prog w) A R Y n s₀ c (K .next) fs s₁) NoE s) :
  Seg (model prog w) A R Y n s₀ c ((execs [.If test [.Expr (.Yield (some e) yp) ep] [] ip] env).wrap K H id id) fs s := by
 refine seg_execs_cons ?_;have hx : exec (.If test [.Expr (.Yield (some e) yp) ep] [] ip) env = (do
  standAt ip
  if <- isTrue test env (eval test env) then execs [.Expr (.Yield (some e) yp) ep] env else execs [] env) := rfl
 rw [hx];refine seg_bindN (wpAny_standAt ?_);refine seg_bindN (wpAny_mono h (fun ok s₁ h? => ?_) fun _ _ x => x);cases ok with
 | true =>
  rw [if_pos rfl] at h?;show Seg _ _ _ _ _ _ _ (Sem.wrap _ _ _ _ (if true = true then _ else _)) _ _;rw [if_pos rfl];refine Eq.mpr (congrArg (fun t => Seg (model prog w) A R Y n s₀ c t fs s₁) (Sem.wrap_congr _ id id (fun f => ?_) (fun _ => rfl))) h?;cases f <;> rfl
 | false =>
  rw [if_neg Bool.false_ne_true] at h?;exact h?
end
theorem execs_app_wrap {env : Env} {gd : Bool -> Bool} {lv : List Value -> List Value} (rest : List Stmt) : ∀ (pre : List Stmt) (K : Flow -> Sem Fin) (H : Value -> Sem Fin),
  (execs (pre ++ rest) env).wrap K H gd lv = (execs pre env).wrap (fun f => match f with | .next => (execs rest env).wrap K H gd lv | f => K f) H gd lv
 | [], _, _ => rfl
 | st :: pre, K, H => by
  rw [List.cons_append, execs_cons_wrap, execs_cons_wrap];refine Sem.wrap_congr _ _ _ (fun f => ?_) fun _ => rfl;cases f <;> first | exact execs_app_wrap rest pre K H | rfl
structure GInv (gE : Heap) (newsG : List (Addr × Obj)) (h : Heap) : Prop where
 keep : ∀ b o, gE.get? b = some o -> h.get? b = some o
 led : ∀ p ∈ newsG, h.get? p.1 = some p.2
theorem GInv.keeps {gE : Heap} {newsG : List (Addr × Obj)} {h h' : Heap} (x : GInv gE newsG h) (hk : ∀ b o, h.get? b = some o -> h'.get? b = some o) : GInv gE newsG h' := ⟨fun b o e => hk b o (x.keep b o e), fun p hp => hk _ _ (x.led p hp)⟩
def GSince (C B : Addr) (s₀ s : Shared) : Prop := ∃ h' tk, s = { s₀ with heap := h', toks := tk } /\ ∀ b o, C < b -> b < B -> s₀.heap.get? b = some o -> h'.get? b = some o
theorem GSince.refl (C B : Addr) (s : Shared) : GSince C B s s := ⟨s.heap, s.toks, rfl, fun _ _ _ _ e => e⟩
theorem GSince.step {C B : Addr} {s₀ s : Shared} (x : GSince C B s₀ s) {h' : Heap} {tk : Nat} (hk : ∀ b o, C < b -> b < B -> s.heap.get? b = some o -> h'.get? b = some o) : GSince C B s₀ { s with heap := h', toks := tk } := by
 apply byc; intro O;obtain ⟨h?, tk₁, rfl, hk₁⟩ := x;apply O; clear O;exact ⟨h', tk, rfl, fun b o h1 h2 e => hk b o h1 h2 (hk₁ b o h1 h2 e)⟩
noncomputable def gProto (gE : Heap) (newsG : List (Addr × Obj)) (C B : Addr) (items : List Value) (pz : Nat -> Bool) : Protocol := fun m s₀ v s kap =>
 (∃ i, (passing pz items.length 0)[(passing pz items.length 0).length - 1 - m]? = some i /\ items[i]? = some v) /\ GSince C B s₀ s /\ GInv gE newsG s.heap /\
  ∀ s'' : Shared, GInv gE newsG s''.heap -> (∀ b o, (b = C \/ B <= b) -> s.heap.get? b = some o -> s''.heap.get? b = some o) -> kap (.send .none) s''
noncomputable def gEnd (gE : Heap) (newsG : List (Addr × Obj)) (C B : Addr) : GenEnd := fun n s₀ r s₁ => r = .ok (.ret .none) /\ (n = 0 /\ GSince C B s₀ s₁ /\ GInv gE newsG s₁.heap)
def TurnOk (prog : Program) (w : World) (cenv : Env) (gE : Heap) (newsG : List (Addr × Obj)) (x : Str) (items : List Value) (pz : Nat -> Bool) (D U : Nat) (pre : List Stmt) (test : Expr) : Prop :=
 ∀ (A' : Around) (i : Nat) (v : Value) (m : Str -> Option Value) (own : List (Addr × Obj)) (s₂ : Shared), A'.handled = none -> A'.depth <= D -> A'.units <= U -> items[i]? = some v -> m x = some v ->
  Fr gE cenv.locals s₂.heap m -> News gE cenv.locals s₂.heap (newsG ++ own) ->
  wpAny (model prog w) A' (execs pre cenv) (fun f s₃ => f = .next /\ wpAny (model prog w) A' (isTrue test cenv (eval test cenv)) (fun ok s₄ => ok = pz i /\ ∃ h' tk m' news', s₄ = { s₂ with heap := h', toks := tk } /\
   Fr gE cenv.locals h' m' /\ m' x = some v /\ News gE cenv.locals h' news' /\ ∀ p ∈ newsG ++ own, p ∈ news') NoE s₃) NoE s₂
noncomputable def gK0 : Flow -> Sem Fin := fun f => .pure (.done (.ret (match f with | .ret v => v | _ => .none)))
noncomputable def gH0 (env : Env) : Value -> Sem Fin := fun e => (leaving env e).wrap (fun _ => .raise e) .raise id id
section
variable {prog : Program} {w : World} {A : Around}
theorem seg_selLoop {gE : Heap} {newsG : List (Addr × Obj)} {B I l : Addr} {items : List Value} {pz : Nat -> Bool} {cenv : Env} {x : Str} {px px2 yp ep ip p : Pos} {pre : List Stmt} {test : Expr} {c0 : Code} {D U : Nat}
  (hh : ∀ c fs, fs = [.ret (backK cenv gK0 (gH0 cenv) id id) none false [] c0 p []] -> (A.over c fs).handled = none /\ ((c = .forLoop (.Name x px) (.ref I) (pre ++ [.If test [.Expr (.Yield (some (.Name x px2)) yp) ep] [] ip]) [] cenv) -> (A.over c fs).depth <= D /\ (A.over c fs).units <= U))
  (hT : TurnOk prog w cenv gE newsG x items pz D U pre test)
  (hk : cenv.scope.kind = .function) (hx : cenv.kindOf x = some .local) (hxd : (x == ("__debug__" : Str)) = false) (hco : cenv.scope.isCoroutine = false) (hint : interactive cenv = false) (hB : B <= I) (hCB : cenv.locals < B)
  (hl : ∃ o n, (l, o) ∈ newsG /\ o = listOf items.toArray n) (hNG : ∀ p ∈ newsG, p.1 < cenv.locals /\ gE.get? p.1 = none) (hgE : gE.objs.size <= cenv.locals) :
  ∀ (k i : Nat) (s₀ s : Shared) (m : Str -> Option Value), items.length - i = k -> i <= items.length -> s.heap.IsListIter I l i -> s.heap.Ns cenv.locals m -> GInv gE newsG s.heap -> GSince cenv.locals B s₀ s ->
   Seg (model prog w) A (gEnd gE newsG cenv.locals B) (gProto gE newsG cenv.locals B items pz) (passing pz items.length i).length s₀
    (.forLoop (.Name x px) (.ref I) (pre ++ [.If test [.Expr (.Yield (some (.Name x px2)) yp) ep] [] ip]) [] cenv)
    ((model prog w).den (.forLoop (.Name x px) (.ref I) (pre ++ [.If test [.Expr (.Yield (some (.Name x px2)) yp) ep] [] ip]) [] cenv)) [.ret (backK cenv gK0 (gH0 cenv) id id) none false [] c0 p []] s := by
 have hp0 : (cenv.scope.kind == .class || (cenv.scope.kind == .module && cenv.locals != cenv.globals)) = false := by rw [hk]; rfl
 have hlI : l ≠ I := by
  apply byc; intro O;obtain ⟨o, n, hm, _⟩ := hl;apply O; clear O;exact Nat.ne_of_lt (Nat.lt_of_lt_of_le (Nat.lt_trans (hNG _ hm).1 hCB) hB)
 have hsz : items.toArray.size = items.length := List.size_toArray;have hIC : cenv.locals ≠ I := Nat.ne_of_lt (Nat.lt_of_lt_of_le hCB hB);have isL : ∀ {h : Heap}, GInv gE newsG h -> h.IsList l items.toArray := fun g => by
  apply byc; intro O;obtain ⟨o, n, hm, rfl⟩ := hl;apply O; clear O;exact ⟨_, g.led _ hm, rfl, n, rfl⟩
 have hCI : cenv.locals < I := Nat.lt_of_lt_of_le hCB hB;have eC : ∀ {b : Addr} {o : Obj}, gE.get? b = some o -> b < cenv.locals := fun e => Nat.lt_of_lt_of_le (Heap.lt_size e) hgE;have e1 : ∀ {b : Addr} {o : Obj}, gE.get? b = some o -> b ≠ cenv.locals := fun e => Nat.ne_of_lt (eC e);have e2 : ∀ {b : Addr} {o : Obj}, gE.get? b = some o -> b ≠ I := fun e => Nat.ne_of_lt (Nat.lt_trans (eC e) hCI);have n1 : ∀ {p : Addr × Obj}, p ∈ newsG -> p.1 ≠ cenv.locals := fun hp => Nat.ne_of_lt (hNG _ hp).1;have n2 : ∀ {p : Addr × Obj}, p ∈ newsG -> p.1 ≠ I := fun hp => Nat.ne_of_lt (Nat.lt_trans (hNG _ hp).1 hCI);intro k
 induction k with
 | zero =>
  intro i s₀ s m hki hi hit hn hg hsince;have hin : i = items.length := subEq (by assumption) (by assumption);subst hin;have W := Walks.list (prog := prog) (w := w) (hh (.forLoop (.Name x px) (.ref I) (pre ++ [.If test [.Expr (.Yield (some (.Name x px2)) yp) ep] [] ip]) [] cenv) _ rfl).1 I l hlI items.toArray;rw [hsz] at W;refine seg_forLoop (W.done s _ _ ⟨hit, isL hg⟩ fun h' tk hk' => ?_);dsimp only;have hk2 : ∀ b o, b ≠ I -> s.heap.get? b = some o -> h'.get? b = some o := fun b o hb e => hk' b o (fun q => hb (qS q)) e;refine seg_block_end ?_ rfl;refine seg_end (.ok (.ret .none)) ⟨rfl, by rw [passing_end]; rfl, hsince.step fun b o _ hb e => hk2 b o (Nat.ne_of_lt (Nat.lt_of_lt_of_le hb hB)) e, ⟨fun b o e => hk2 b o (e2 e) (hg.keep b o e), fun p hp => hk2 _ _ (n2 hp) (hg.led p hp)⟩⟩
 | succ k ih =>
  intro i s₀ s m hki hi hit hn hg hsince;have hlt : i < items.length := subLt (by assumption);have hA := hh (.forLoop (.Name x px) (.ref I) (pre ++ [.If test [.Expr (.Yield (some (.Name x px2)) yp) ep] [] ip]) [] cenv) _ rfl;have W := Walks.list (prog := prog) (w := w) hA.1 I l hlI items.toArray;rw [hsz] at W;refine seg_forLoop (W.item i s _ _ hlt ⟨hit, isL hg⟩ fun v h? tk₁ hPv hst₁ hk₁ => ?_);dsimp only;have hv : items[i]? = some v := by simpa using hPv
  have hk2 : ∀ b o, b ≠ I -> s.heap.get? b = some o -> h?.get? b = some o := fun b o hb e => hk₁ b o (fun q => hb (qS q)) e;refine wpAny_assign_Name (wpAny_storeName_local hx (hn.at' fun o e => hk2 _ o hIC e) (fun h₂ hn₂ hs₂ => ?_) hp0);have up₂ : ∀ b o, b ≠ cenv.locals -> b ≠ I -> s.heap.get? b = some o -> h₂.get? b = some o := fun b o hbC hbI e => hs₂.extBut b o hbC (hk2 b o hbI e);have g₂ : GInv gE newsG h₂ := ⟨fun b o e => up₂ b o (e1 e) (e2 e) (hg.keep b o e), fun p hp => up₂ _ _ (n1 hp) (n2 hp) (hg.led p hp)⟩;have hit₂ : h₂.IsListIter I l (i + 1) := hst₁.1.at fun o e => (hs₂.2 I (Ne.symm hIC)).trans e;have F₂ : Fr gE cenv.locals h₂ (fun y => if y = x then some v else m y) := ⟨hn₂, g₂.keep, hgE⟩;have hLf : cenv.locals ∉ (List.range h₂.objs.size).filter fun b => decide (cenv.locals < b) := fun hm => by
   have := (List.mem_filter.mp hm).2;simp at this
  have N₂ : News gE cenv.locals h₂ (newsG ++ ownOf gE ((List.range h₂.objs.size).filter fun b => decide (cenv.locals < b)) h₂) := fun p hp => by
   rcases qA hp with hp | hp
   ·exact ⟨g₂.led p hp, Nat.ne_of_lt (hNG p hp).1, (hNG p hp).2⟩
   ·exact news_ownOf hLf p hp
  have inOwn : ∀ b o, cenv.locals < b -> h₂.get? b = some o -> (b, o) ∈ ownOf gE ((List.range h₂.objs.size).filter fun b => decide (cenv.locals < b)) h₂ := fun b o hb e =>
   mem_ownOf (List.mem_filter.mpr ⟨List.mem_range.mpr (Heap.lt_size e), by simpa using hb⟩) (Heap.get?_none_of_le (Nat.le_trans hgE (Nat.le_of_lt hb))) e
  generalize hown : ownOf gE ((List.range h₂.objs.size).filter fun b => decide (cenv.locals < b)) h₂ = own at N₂ inOwn;rw [execs_app_wrap];refine seg_wrapN (wpAny_mono (hT _ i v _ own _ hA.1 (hA.2 rfl).1 (hA.2 rfl).2 hv (if_pos rfl) F₂ N₂) (fun f s₃ h₃ => ?_) fun _ _ e => e);obtain ⟨rfl, h₃⟩ := h₃;dsimp only;refine seg_If_yield (wpAny_mono h₃ (fun ok s₄ h₄ => ?_) fun _ _ e => e);apply byc; intro O;obtain ⟨rfl, h₄, tk₄, m₄, news₄, rfl, F₄, hm₄, N₄, hsub⟩ := h₄;apply O; clear O;have g₄ : GInv gE newsG h₄ := ⟨F₄.keep, fun p hp => (N₄ p (hsub p (qL _ hp))).1⟩;have hi₄ : ∀ b o, cenv.locals < b -> h₂.get? b = some o -> h₄.get? b = some o := fun b o hb e => (N₄ _ (hsub _ (qR _ (inOwn b o hb e)))).1;have hit₄ : h₄.IsListIter I l (i + 1) := hit₂.at fun o e => hi₄ I o (Nat.lt_of_lt_of_le hCB hB) e;have hsince₄ : GSince cenv.locals B s₀ { s with heap := h₄, toks := tk₄ } := hsince.step fun b o h1 h2 e => hi₄ b o h1 (up₂ b o (Nat.ne_of_gt h1) (Nat.ne_of_lt (Nat.lt_of_lt_of_le h2 hB)) e);cases hpz : pz i with
  | false =>
   rw [if_neg Bool.false_ne_true, passing_false hlt hpz];exact seg_again rfl (ih (i + 1) s₀ _ m₄ (sub1 (by assumption)) hlt hit₄ F₄.ns g₄ hsince₄)
  | true =>
   rw [if_pos rfl, passing_true hlt hpz, List.length_cons];refine seg_execs_cons (seg_Expr_Yield rfl rfl rfl ?_ hco hint);refine wpAny_Name (wpAny_loadName_local hk hx F₄.ns hm₄ ?_) hxd;intro kap hkap;refine ⟨⟨i, passing_here hlt hpz, hv⟩, hsince₄, g₄, fun s'' g'' hk'' => hkap _ _ ?_⟩;show Seg _ _ _ _ _ _ _ _ _ _;exact seg_again rfl (ih (i + 1) s'' s'' m₄ (sub1 (by assumption)) hlt (hit₄.at fun o e => hk'' I o (.inr hB) e) (F₄.ns.at' fun o e => hk'' _ o (.inl rfl) e) g'' (GSince.refl _ _ _))
end
end Mine
end
section
open PySem PySem.W PyProof.Rows PySem.Calls
namespace Mine
section
variable {prog : Program} {w : World} {A : Around}
noncomputable def selFor (x r : Str) (px pr px2 yp ep ip fp : Pos) (pre : List Stmt) (test : Expr) : Stmt := .For (.Name x px) (.Name r pr) (pre ++ [.If test [.Expr (.Yield (some (.Name x px2)) yp) ep] [] ip]) [] fp
theorem seg_sel {gE : Heap} {newsG : List (Addr × Obj)} {B l : Addr} {items : List Value} {pz : Nat -> Bool} {cenv : Env} {x r : Str} {px pr px2 yp ep ip fp : Pos} {pre : List Stmt} {test : Expr} {D U : Nat}
  (hh : A.handled = none) (hD : A.depth + 4 <= D) (hU : A.units + 20 <= U)
  (hT : TurnOk prog w cenv gE newsG x items pz D U pre test)
  (hk : cenv.scope.kind = .function) (hx : cenv.kindOf x = some .local) (hxd : (x == ("__debug__" : Str)) = false) (hr : cenv.kindOf r = some .local) (hrd : (r == ("__debug__" : Str)) = false) (hco : cenv.scope.isCoroutine = false) (hint : interactive cenv = false) (hCB : cenv.locals < B)
  (hl : ∃ o n, (l, o) ∈ newsG /\ o = listOf items.toArray n) (hNG : ∀ p ∈ newsG, p.1 < cenv.locals /\ gE.get? p.1 = none) (hgE : gE.objs.size <= cenv.locals)
  (s₀ s : Shared) (m : Str -> Option Value) (hm : m r = some (.ref l)) (hn : s.heap.Ns cenv.locals m) (hg : GInv gE newsG s.heap) (hsince : GSince cenv.locals B s₀ s) (hBs : B <= s.heap.objs.size) :
   Seg (model prog w) A (gEnd gE newsG cenv.locals B) (gProto gE newsG cenv.locals B items pz) (passing pz items.length 0).length s₀
    (.func [selFor x r px pr px2 yp ep ip fp pre test] cenv) ((model prog w).den (.func [selFor x r px pr px2 yp ep ip fp pre test] cenv)) [] s := by
 have isL : s.heap.IsList l items.toArray := by
  apply byc; intro O;obtain ⟨o, n, hm, rfl⟩ := hl;apply O; clear O;exact ⟨_, hg.led _ hm, rfl, n, rfl⟩
 refine seg_func (seg_execs_cons ?_);refine Eq.mpr (congrArg (fun t => Seg (model prog w) A _ _ _ s₀ _ t [] s) (Sem.wrap_congr (K' := gK0) (H' := gH0 cenv) _ id id (fun f => ?_) (fun _ => rfl))) ?_
 ·cases f <;> rfl
 refine seg_For (wpAny_Name (wpAny_loadName_local hk hr hn hm (wpAny_pyIter_list isL fun p => ?_)) hrd);refine seg_selLoop ?_ hT hk hx hxd hco hint hBs hCB hl hNG hgE items.length 0 s₀ _ m (Nat.sub_zero _) (Nat.zero_le _) ⟨_, Heap.get?_push_size _ rfl, rfl, rfl⟩ (hn.push _) (hg.keeps fun b o e => qP _ e) ?_
 ·rintro c fs rfl;refine ⟨hh, ?_⟩;rintro rfl;constructor
  ·show A.depth + frameCount _ + _ <= D;refine Nat.le_trans ?_ hD;rw [Nat.add_assoc];exact Nat.add_le_add_left (qB rfl) _
  ·show A.units + unitsOf _ + _ <= U;refine Nat.le_trans ?_ hU;rw [Nat.add_assoc];exact Nat.add_le_add_left (qB rfl) _
 ·exact hsince.step fun b o _ _ e => qP _ e
def GA (prog : Program) (w : World) (A : Around) (g : Nat) (C B : Addr) (gE : Heap) (newsG : List (Addr × Obj)) (items : List Value) (pz : Nat -> Bool) (j : Nat) (s : Shared) : Prop :=
 ∃ gs, s.gens[g]? = some gs /\ ∀ s'' : Shared, GInv gE newsG s''.heap -> (∀ b o, (b = C \/ B <= b) -> s.heap.get? b = some o -> s''.heap.get? b = some o) -> B <= s''.heap.objs.size ->
  gs.Goes (model prog w) A.in1 (gEnd gE newsG C B) (gProto gE newsG C B items pz) ((passing pz items.length 0).length - j) (.send .none) s''
theorem GA.keeps {g : Nat} {C B : Addr} {gE : Heap} {newsG : List (Addr × Obj)} {items : List Value} {pz : Nat -> Bool} {j : Nat} {s s' : Shared} (x : GA prog w A g C B gE newsG items pz j s) (hg : s'.gens = s.gens)
  (hk : ∀ b o, (b = C \/ B <= b) -> s.heap.get? b = some o -> s'.heap.get? b = some o) : GA prog w A g C B gE newsG items pz j s' := by
 apply byc; intro O;obtain ⟨gs, h1, h2⟩ := x;apply O; clear O;exact ⟨gs, by rw [hg]; exact h1, fun s'' hi hk'' hz => h2 s'' hi (fun b o hb e => hk'' b o hb (hk b o hb e)) hz⟩
theorem GA.next {g : Nat} {C B a : Addr} {gE : Heap} {newsG : List (Addr × Obj)} {items : List Value} {pz : Nat -> Bool} {j : Nat} {s : Shared} {Q : Option Value -> Shared -> Prop} {E : Value -> Shared -> Prop} (x : GA prog w A g C B gE newsG items pz j s)
  (hh : A.handled = none) (hl : s.heap.NoLimit) (hroom : A.depth < recursionLimit) (hg : s.heap.IsGen a g) (hgi : GInv gE newsG s.heap) (hz : B <= s.heap.objs.size) (hj : j < (passing pz items.length 0).length)
  (hQ : ∀ v h' tk G, (∃ i, (passing pz items.length 0)[j]? = some i /\ items[i]? = some v) -> GInv gE newsG h' -> (∀ b o, C < b -> b < B -> s.heap.get? b = some o -> h'.get? b = some o) -> GenOnly g s.gens G ->
   GA prog w A g C B gE newsG items pz (j + 1) { s with heap := h', toks := tk, gens := G } -> Q (some v) { s with heap := h', toks := tk, gens := G }) :
  wpAny (model prog w) A (pyNext (.ref a)) Q E s := by
 apply byc; intro O;obtain ⟨gs, hgs, hgo⟩ := x;obtain ⟨m, hm⟩ : ∃ m, (passing pz items.length 0).length - j = m + 1 := ⟨(passing pz items.length 0).length - j - 1, subEx (by assumption)⟩;apply O; clear O;rw [hm] at hgo;refine wpAny_pyNext_gen (P := fun n s₀ s₁ => n = 0 /\ GSince C B s₀ s₁ /\ GInv gE newsG s₁.heap) hh hl hroom hg hgs (hgo _ hgi (fun _ _ _ e => e) hz) (fun v s₁ gs' hv => ?_) (fun s₁ hp h' hk => absurd hp.1 (Nat.succ_ne_zero m));apply byc; intro O;obtain ⟨⟨i, hi, hF⟩, ⟨h?, tk₁, rfl, hk₁⟩, hgi₁, hkap⟩ := hv;apply O; clear O;have hidx : (passing pz items.length 0).length - 1 - (m + 1 - 1) = j := subIdx hm;rw [hidx] at hi;refine hQ v _ _ _ ⟨i, hi, hF⟩ hgi₁ hk₁ ((GenOnly.setGen s g .running).trans (GenOnly.setGen _ g gs')) ⟨gs', setGen_self (gs := .running) (setGen_self hgs), fun s'' hi'' hk'' _ => ?_⟩;have e : (passing pz items.length 0).length - (j + 1) = m := sub1 hm;rw [e];exact hkap s'' hi'' hk''
theorem GA.done {g : Nat} {C B a : Addr} {gE : Heap} {newsG : List (Addr × Obj)} {items : List Value} {pz : Nat -> Bool} {s : Shared} {Q : Option Value -> Shared -> Prop} {E : Value -> Shared -> Prop} (x : GA prog w A g C B gE newsG items pz (passing pz items.length 0).length s)
  (hh : A.handled = none) (hl : s.heap.NoLimit) (hroom : A.depth < recursionLimit) (hg : s.heap.IsGen a g) (hgi : GInv gE newsG s.heap) (hz : B <= s.heap.objs.size)
  (hQ : ∀ h' tk G, GInv gE newsG h' -> (∀ b o, C < b -> b < B -> s.heap.get? b = some o -> h'.get? b = some o) -> GenOnly g s.gens G -> G[g]? = some .finished -> Q none { s with heap := h', toks := tk, gens := G }) :
  wpAny (model prog w) A (pyNext (.ref a)) Q E s := by
 apply byc; intro O;obtain ⟨gs, hgs, hgo⟩ := x;apply O; clear O;rw [Nat.sub_self] at hgo;refine wpAny_pyNext_gen (P := fun n s₀ s₁ => n = 0 /\ GSince C B s₀ s₁ /\ GInv gE newsG s₁.heap) hh hl hroom hg hgs (hgo _ hgi (fun _ _ _ e => e) hz) (fun v s₁ gs' hv => ?_) (fun s₁ hp h' hk => ?_)
 ·obtain ⟨_, _, hgi₁, hkap⟩ := hv;exact False.elim (hkap s₁ hgi₁ fun _ _ _ e => e)
 ·obtain ⟨_, ⟨h?, tk₁, rfl, hk₁⟩, hgi₁⟩ := hp;exact hQ _ _ _ (hgi₁.keeps hk) (fun b o h1 h2 e => hk b o (hk₁ b o h1 h2 e)) ((GenOnly.setGen s g .running).trans (GenOnly.setGen _ g .finished)) (setGen_self (gs := .running) (setGen_self hgs))
section
variable {E : Value -> Shared -> Prop}
inductive LcG (prog : Program) (w : World) (A : Around) (g : Nat) (C C' D : Addr) (gE : Heap) (newsG news : List (Addr × Obj)) (items : List Value) (pz : Nat -> Bool) (gB : Heap) (s : Shared) (J : Nat -> List Value -> Prop) (k : Nat) (s' : Shared) : Prop
 | mk (j : Nat) (H : Heap) (tk : Nat) (G : Array GenState) (u : Str -> Option Value) (ys : List Value) (kk : Nat) (h1 : k = (passing pz items.length 0).length + 1 - j) (h2 : j <= (passing pz items.length 0).length) (h3 : s' = { s with heap := H, toks := tk, gens := G }) (h4 : GA prog w A g C (C' + 1) gE newsG items pz j s') (h5 : Fr gB C' H u) (h6 : News gB C' H ((D, listOf ys.toArray kk) :: news)) (h7 : J j ys) (h8 : GenOnly g s.gens G)
theorem lc_gen {elt iter : Expr} {x : Str} {px : Pos} {scope : Scope} {cl : List (Str × Addr)} {pos : Pos} {env : Env} {s : Shared} {h! : Heap} {L : Addr} {m : Str -> Option Value} {news : List (Addr × Obj)} {K : Frag} {p : Program} {loose : List Str} {mean : ExcName -> Option Value} {mg mb : Str -> Option Value}
  {a C : Addr} {g : Nat} {gE : Heap} {newsG : List (Addr × Obj)} {items : List Value} {pz : Nat -> Bool} {c0 : Code} {R : Value -> Addr -> Result -> Shared -> Prop} (J : Nat -> List Value -> Prop)
  (hh : A.handled = none) (hroom : A.depth < recursionLimit) (hcell : ∀ y ∈ scope.names, y.2 ≠ .cell) (hkind : scope.kind = .function) (hx : scope.names.lookup x = some .local)
  (F : Fr h! L s.heap m) (X : K.In h!) (T : Top p loose mean mg mb h!) (N : News h! L s.heap news)
  (hCn : ∀ p ∈ news, p.1 ≠ C) (hC0 : h!.get? C = none) (hCL : L < C) (hCa : C < a) (hCs : ∃ o, s.heap.get? C = some o) (hgE : gE.objs.size <= C) (hNG : ∀ p ∈ newsG, p.1 < C)
  (hcov : ∀ b o, b ≠ C -> s.heap.get? b = some o -> C < b \/ gE.get? b = some o \/ (b, o) ∈ newsG) (hg : s.heap.IsGen a g) (hga : s.gens[g]? = some (.fresh c0)) (hgi : GInv gE newsG s.heap)
  (hfresh : ∀ B s'', C < B -> GInv gE newsG s''.heap -> B <= s''.heap.objs.size -> (∀ o, s.heap.get? C = some o -> s''.heap.get? C = some o) ->
   Seg (model prog w) A.in1 (gEnd gE newsG C B) (gProto gE newsG C B items pz) (passing pz items.length 0).length s'' c0 ((model prog w).den c0) [] s'')
  (hJ0 : J 0 []) (hJl : ∀ j ys, j <= (passing pz items.length 0).length -> J j ys -> ys.length <= sizeLine)
  (turn : ∀ gB C' E' j v ys own H tk G (u : Str -> Option Value), K.In gB -> Top p loose mean mg mb gB -> (∀ p ∈ news, p.1 < C') -> (∃ i, (passing pz items.length 0)[j]? = some i /\ items[i]? = some v) -> J j ys -> OwnOff own (news.map (·.1)) -> Fr gB C' H (fun y => if y = x then some v else u y) -> News gB C' H (news ++ own) ->
   wpAny (model prog w) A (eval elt (compEnvC scope cl C' env)) (fun y s₂ => ∃ h' tk' m' news', s₂ = { s with heap := h', toks := tk', gens := G } /\ Fr gB C' h' m' /\ News gB C' h' news' /\ (∀ p ∈ news ++ own, p ∈ news') /\ J (j + 1) (ys ++ [y])) E' { s with heap := H, toks := tk, gens := G })
  (done : ∀ D C' ys H tk G k u, J (passing pz items.length 0).length ys -> (∀ p ∈ news, p.1 ≠ D) -> (∀ p ∈ news, p.1 < D) -> D < C' -> H.Ns C' u -> L < D -> h!.get? C' = none -> (∀ p ∈ news, p.1 ≠ C') -> Fr h! L H m -> News h! L H ((D, listOf ys.toArray k) :: news) ->
   GenOnly g s.gens G -> G[g]? = some .finished -> R (.ref D) C' (.ok .next) { s with heap := H, toks := tk, gens := G }) :
  LcAt prog w A E env elt x px iter [] scope pos cl R (.ref a) s := by
 unfold LcAt;refine wpAny_newObj_type (wpAny_newFunctionEnv hcell (by intro y hy; simp at hy) (fun h? hns₁ hsb₁ => ?_) hkind);dsimp only at hns₁ hsb₁ ⊢;generalize hH2 : s.heap.push { cls := .type "list", dict := none, data := .seq ([] : List Value).toArray } = H2 at hns₁ hsb₁ ⊢;have hC : H2.objs.size = s.heap.objs.size + 1 := by rw [<- hH2, Heap.size_push]
 generalize hDe : s.heap.objs.size = D at hC ⊢;generalize hCe : H2.objs.size = C' at hC hns₁ hsb₁ ⊢;have hDC : D < C' := by rw [hC]; exact Nat.lt_succ_self _
 have lowD : ∀ {b o}, s.heap.get? b = some o -> b < D := fun e => hDe ▸ Heap.lt_size e;have lowC : ∀ {b o}, s.heap.get? b = some o -> b < C' := fun e => Nat.lt_trans (lowD e) hDC;have old : ∀ b o, s.heap.get? b = some o -> h?.get? b = some o := fun b o e => hsb₁.extBut b o (Nat.ne_of_lt (lowC e)) (qP _ (hH2 ▸ qP _ e));have hD₁ : h?.get? D = some (listOf #[] 0) := hsb₁.extBut _ _ (Nat.ne_of_lt hDC) (qP _ (hH2 ▸ hDe ▸ Heap.get?_push_size _ rfl));obtain ⟨oC, hoC⟩ := id hCs;have hCD : C < D := lowD hoC;have hCC' : C < C' := Nat.lt_trans hCD hDC
 let hid : List Addr := C :: news.map (·.1)
 have nh : ∀ b o, h!.get? b = some o -> b ∉ hid := fun b o e q => by
  rcases qC q with q | q
  ·rw [q, hC0] at e; cases e
  ·obtain ⟨r, hr, rfl⟩ := List.mem_map.mp q;rw [(N r hr).2.2] at e; cases e
 have nL : L ∉ hid := fun q => by
  rcases qC q with q | q
  ·exact Nat.ne_of_lt hCL q
  ·obtain ⟨r, hr, e⟩ := List.mem_map.mp q;exact (N r hr).2.1 e
 let gB := hideAll s.heap hid
 have st : ∀ b o, h!.get? b = some o -> gB.get? b = some o := fun b o e => hideAll_get _ (F.keep b o e) (nh b o e);have gs : ∀ b o, gB.get? b = some o -> s.heap.get? b = some o := fun b o e => of_hideAll _ e;have gC0 : gB.get? C = none := hideAll_none _ (.head _);have gsz : gB.objs.size = D := (hideAll_size _ _).trans hDe;have fresh : ∀ b, D <= b -> gB.get? b = none := fun b hb => Heap.get?_none_of_le (gsz.symm ▸ hb);have LD : L < D := by obtain ⟨oL, _, _, hL, _⟩ := F.ns; exact lowD hL
 apply byc; intro O;obtain ⟨oL, esL, epL, hL, hLd, hLk, hLf⟩ := F.ns;apply O; clear O;have hLg : gB.get? L = some oL := hideAll_get _ hL nL;have XB : K.In gB := X.keeps st;have TB : Top p loose mean mg mb gB := T.keeps st;have cover : ∀ b o, b ≠ C -> s.heap.get? b = some o -> gB.get? b = some o \/ (b, o) ∈ news := fun b o hb e => by
  by_cases hm : b ∈ news.map (·.1)
  ·obtain ⟨q, hq, rfl⟩ := List.mem_map.mp hm;have := (N q hq).1;rw [e] at this;have h3 : q = (q.1, o) := Prod.ext rfl (Option.some.inj this).symm;exact .inr (h3 ▸ hq)
  ·exact .inl (hideAll_get _ e fun q => by
    rcases qC q with q | q
    ·exact hb q
    ·exact hm q)
 have alive : ∀ {h : Heap} {u : Str -> Option Value} {nx : List (Addr × Obj)}, Fr gB C' h u -> News gB C' h nx -> (∀ p ∈ news, p ∈ nx) -> ∀ b o, b ≠ C -> s.heap.get? b = some o -> h.get? b = some o := fun F' N' hs b o hb e => by
  rcases cover b o hb e with e' | e'
  ·exact F'.keep b o e'
  ·exact (N' _ (hs _ e')).1
 have ginv : ∀ {h : Heap}, (∀ b o, b ≠ C -> s.heap.get? b = some o -> h.get? b = some o) -> GInv gE newsG h := fun hk =>
  ⟨fun b o e => hk b o (Nat.ne_of_lt (Nat.lt_of_lt_of_le (Heap.lt_size e) hgE)) (hgi.keep b o e), fun p hp => hk _ _ (Nat.ne_of_lt (hNG p hp)) (hgi.led p hp)⟩
 have aliveG : ∀ {h : Heap} {h' : Heap}, (∀ b o, b ≠ C -> s.heap.get? b = some o -> h.get? b = some o) -> GInv gE newsG h' -> (∀ b o, C < b -> b < C' + 1 -> h.get? b = some o -> h'.get? b = some o) -> ∀ b o, b ≠ C -> s.heap.get? b = some o -> h'.get? b = some o := fun hk gi hs b o hb e => by
  rcases hcov b o hb e with h1 | h1 | h1
  ·exact hs b o h1 (Nat.lt_succ_of_lt (lowC e)) (hk b o hb e)
  ·exact gi.keep b o h1
  ·exact gi.led _ h1
 have isGen : ∀ {h : Heap}, (∀ b o, b ≠ C -> s.heap.get? b = some o -> h.get? b = some o) -> h.IsGen a g := fun hk =>
  let ⟨o, nm, qn, ho, r⟩ := hg; ⟨o, nm, qn, hk a o (Nat.ne_of_gt hCa) ho, r⟩
 have noLim : ∀ {h : Heap} {u : Str -> Option Value}, Fr gB C' h u -> h.NoLimit := fun F' => TB.nolimit.keeps F'.keep;have F₁ : Fr gB C' h? (fun x => ([] : List (Str × Value)).reverse.lookup x) := ⟨hns₁, fun b o e => old b o (gs b o e), by rw [gsz]; exact Nat.le_of_lt hDC⟩;have N₁ : News gB C' h? ((D, listOf #[] 0) :: news) := nC (⟨hD₁, Nat.ne_of_lt hDC, fresh _ (Nat.le_refl _)⟩) (fun q hq => ⟨old _ _ (N q hq).1, Nat.ne_of_lt (lowC (N q hq).1), hideAll_none _ (.tail _ (qM hq))⟩);have nD : ∀ p ∈ news, p.1 ≠ D := fun p hp => Nat.ne_of_lt (lowD (N p hp).1);have hsz₁ : C' + 1 <= h?.objs.size := hns₁.lt;have loop : ∀ s₃ : Shared, s₃ = { s with heap := h?, toks := s.toks + ([] : List (Str × Value)).length } ->
   codeAny (model prog w) A (.compLoop (.ListComp elt [⟨.Name x px, iter, [], 0⟩] scope pos) 0 (.ref a) (.ref D) (compEnvC scope cl C' env)) (R (.ref D) C') s₃ := by
  rintro s₃ rfl;refine codeAny_compLoop_tests
   (LcG prog w A g C C' D gE newsG news items pz gB s J) ?_ ((passing pz items.length 0).length + 1)
   ⟨0, h?, _, s.gens, _, [], 0, rfl, Nat.zero_le _, rfl, ⟨.fresh c0, hga, fun s'' hi'' hk'' hz'' => ⟨rfl, ?_⟩⟩, F₁, N₁, hJ0, ⟨rfl, fun _ _ => rfl⟩⟩
  ·rintro k s' ⟨j, H, tk, G, u, ys, kk, rfl, hj, rfl, ga, F', N', hJ, hgo⟩;have hD := N' (D, listOf ys.toArray kk) (.head _);have al := alive F' N' fun p hp => .tail _ hp;by_cases hlt : j < (passing pz items.length 0).length
   ·refine ga.next hh (noLim F') hroom (isGen al) (ginv al) F'.ns.lt hlt fun v H₁ tk₁ G₁ hv gi₁ hk₁ hgo₁ ga₁ => ?_;dsimp only at hk₁ hgo₁ ga₁ ⊢;have al₁ := aliveG al gi₁ hk₁;have F₁ : Fr gB C' H₁ u := ⟨F'.ns.at' fun o e => hk₁ C' o hCC' (Nat.lt_succ_self _) e, fun b o e => al₁ b o (fun q => by rw [q, gC0] at e; cases e) (gs b o e), F'.above⟩;have hD₁ : H₁.get? D = some (listOf ys.toArray kk) := hk₁ D _ hCD (Nat.lt_succ_of_lt hDC) hD.1;refine wpAny_assign_Name (wpAny_storeName_local (env := compEnvC scope cl C' env) (lookup_relabel_local hx) F₁.ns (fun H₂ hn₂ hs₂ => ?_) (by simp [compEnvC, relabel, hkind]));have F₂ : Fr gB C' H₂ (fun y => if y = x then some v else u y) := F₁.set hn₂ hs₂;have up : ∀ b o, b ≠ C' -> H₁.get? b = some o -> H₂.get? b = some o := fun b o hb e => (hs₂.2 b hb).trans e;have ga₂ := ga₁.keeps (s' := { s with heap := H₂, toks := tk₁ + 1, gens := G₁ }) rfl fun b o hb e => up b o (by
     rcases hb with rfl | hb
     ·exact Nat.ne_of_lt hCC'
     ·exact Nat.ne_of_gt hb) e
    have hfpC : C' ∉ C :: (List.range H₂.objs.size).filter fun b => decide (C' < b) := fun hm => by
     rcases qC hm with hm | hm
     ·exact Nat.ne_of_gt hCC' hm
     ·have := (List.mem_filter.mp hm).2;simp at this
    have inOwn : ∀ b o, (b = C \/ C' + 1 <= b) -> H₂.get? b = some o -> (b, o) ∈ ownOf gB (C :: (List.range H₂.objs.size).filter fun b => decide (C' < b)) H₂ := fun b o hb e => by
     rcases hb with rfl | hb
     ·exact mem_ownOf (.head _) gC0 e
     ·exact mem_ownOf (.tail _ (List.mem_filter.mpr ⟨List.mem_range.mpr (Heap.lt_size e), decide_eq_true hb⟩)) (fresh b (Nat.le_of_lt (Nat.lt_trans hDC hb))) e
    have ofOwn : ∀ p ∈ ownOf gB (C :: (List.range H₂.objs.size).filter fun b => decide (C' < b)) H₂, p.1 = C \/ C' < p.1 := fun p hp => by
     have h1 := ownOf_sub p hp;rcases qC h1 with h1 | h1
     ·exact .inl h1
     ·exact .inr (of_decide_eq_true (List.mem_filter.mp h1).2)
    have Nown : News gB C' H₂ (ownOf gB (C :: (List.range H₂.objs.size).filter fun b => decide (C' < b)) H₂) := news_ownOf hfpC;generalize ownOf gB (C :: (List.range H₂.objs.size).filter fun b => decide (C' < b)) H₂ = own at inOwn ofOwn Nown;have N₂ : News gB C' H₂ (news ++ ((D, listOf ys.toArray kk) :: own)) := fun p hp => by
     rcases qA hp with hp | hp
     ·exact ⟨up _ _ (Nat.ne_of_lt (lowC (N p hp).1)) (al₁ _ _ (hCn p hp) (N p hp).1), Nat.ne_of_lt (lowC (N p hp).1), hideAll_none _ (.tail _ (qM hp))⟩
     ·rcases qC hp with rfl | hp
      ·exact ⟨up _ _ (Nat.ne_of_lt hDC) hD₁, hD.2⟩
      ·exact Nown p hp
    have hoff : OwnOff ((D, listOf ys.toArray kk) :: own) (news.map (·.1)) := fun p hp b hb => by
     apply byc; intro O;obtain ⟨q, hq, rfl⟩ := List.mem_map.mp hb;apply O; clear O;rcases qC hp with rfl | hp
     ·exact Ne.symm (nD q hq)
     ·rcases ofOwn p hp with h | h
      ·rw [h]; exact Ne.symm (hCn q hq)
      ·exact Nat.ne_of_gt (Nat.lt_trans (lowC (N q hq).1) h)
    refine wpAny_tests_nil ?_;rw [if_pos rfl];refine wpAny_mono (turn gB C' _ j v ys _ H₂ _ G₁ u XB TB (fun p hp => lowC (N p hp).1) hv hJ hoff F₂ N₂) (fun y s₄ h₄ => ?_) fun _ _ e => e;apply byc; intro O;obtain ⟨h₄, tk₄, m₄, news₄, rfl, F₄, N₄, hsub, hJ₄⟩ := h₄;apply O; clear O;have hD₄ := N₄ _ (hsub _ (qR _ (.head _)));refine wpAny_list_append_plain (items := ys.toArray) (hsz := by rw [List.size_toArray]; exact hJl j ys hj hJ) ⟨kk, hD₄.1⟩ fun h₅ hl₅ hs₅ => ?_;obtain ⟨k₅, hl₅⟩ := hl₅;have F₅ : Fr gB C' h₅ m₄ := ⟨F₄.ns.at fun o e => (hs₅.2 _ (Ne.symm hD₄.2.1)).trans e, fun b o e => (hs₅.2 b (fun q => by have := hD₄.2.2; rw [<- q, e] at this; cases this)).trans (F₄.keep b o e), F₄.above⟩;refine ⟨(passing pz items.length 0).length + 1 - (j + 1), decr (by assumption), j + 1, h₅, tk₄, G₁, m₄, ys ++ [y], k₅, rfl, hlt, rfl, ?_, F₅, fun p hp => ?_, hJ₄, hgo.trans hgo₁⟩
    ·refine ga₂.keeps rfl fun b o hb e => ?_;have hbD : b ≠ D := by
      rcases hb with rfl | hb
      ·exact Nat.ne_of_lt hCD
      ·exact Nat.ne_of_gt (Nat.lt_trans hDC hb)
     exact (hs₅.2 b hbD).trans (N₄ _ (hsub _ (qR _ (.tail _ (inOwn b o hb e))))).1
    ·rcases qC hp with rfl | hp
     ·refine ⟨?_, hD₄.2⟩;show h₅.get? D = some (listOf (ys ++ [y]).toArray k₅);rw [hl₅];simp
     ·have z := N₄ _ (hsub _ (qL _ hp));exact ⟨(hs₅.2 _ (nD p hp)).trans z.1, z.2⟩
   ·have hjn : j = (passing pz items.length 0).length := eqN (by assumption) (by assumption);subst hjn;refine ga.done hh (noLim F') hroom (isGen al) (ginv al) F'.ns.lt fun H₁ tk₁ G₁ gi₁ hk₁ hgo₁ hfin => ?_;dsimp only at hk₁ hgo₁ ⊢;have al₁ := aliveG al gi₁ hk₁;have F₁ : Fr gB C' H₁ u := ⟨F'.ns.at' fun o e => hk₁ C' o hCC' (Nat.lt_succ_self _) e, fun b o e => al₁ b o (fun q => by rw [q, gC0] at e; cases e) (gs b o e), F'.above⟩;have hD₁ : H₁.get? D = some (listOf ys.toArray kk) := hk₁ D _ hCD (Nat.lt_succ_of_lt hDC) hD.1;refine done D C' ys H₁ _ G₁ kk u hJ nD (fun p hp => lowD (N p hp).1) hDC F₁.ns LD ?_ (fun p hp => Nat.ne_of_lt (lowC (N p hp).1)) ⟨⟨oL, esL, epL, F₁.keep L oL hLg, hLd, hLk, hLf⟩, fun b o e => F₁.keep b o (st b o e), F.above⟩ (fun q hq => ?_) (hgo.trans hgo₁) hfin
    ·cases e : h!.get? C' with
     | none => rfl
     | some o => have := st _ _ e; rw [fresh C' (Nat.le_of_lt hDC)] at this; cases this
    ·rcases qC hq with rfl | hq
     ·refine ⟨hD₁, Nat.ne_of_gt LD, ?_⟩;cases e : h!.get? D with
      | none => rfl
      | some o => have := st _ _ e; rw [fresh D (Nat.le_refl _)] at this; cases this
     ·exact ⟨al₁ _ _ (hCn q hq) (N q hq).1, (N q hq).2⟩
  ·exact hfresh (C' + 1) s'' (Nat.lt_trans hCC' (Nat.lt_succ_self _)) hi'' hz'' fun o e => hk'' C o (.inl rfl) (old C o e)
 exact codeAny_compStart_list (loop _ rfl) (wpAny_pyIter_gen (isGen fun b o _ e => old b o e) (loop _ rfl))
end
end
end Mine
end
open PySem PySem.W PyProof.Rows PySem.Calls
namespace Mine
theorem warm : PySem.Challenge.rw_wv0014_01 = PySem.Challenge.rw_wv0014_01 /\ Kq = Kq := by
 k_fill
 exact ⟨rfl, rfl⟩
local macro_rules | `(tactic| walk_at $s) => if ["exec For Name Name cons nil", "exec For Name Subscript cons nil"].contains s.getString then `(tactic| (k_here; (rename Fr .. => lF'); (with_unfolding_all refine' For_invVF lF' ?k1 ?k2 ?_; (case k1 => exact rfl); (case k2 => exact rfl); k_whole))) else Lean.Macro.throwUnsupported
local macro_rules | `(tactic| walk_at $s) => hz s ["pyIter str", "pyIter ref", "InvEndN", "LcEnd", "LcSkip", "Out", "OutP", "RetK", "DcEnd", "GEl", "GrowPost", "KswEnd", "NextPost", "TestEnd", "call builtin:str.join", "call builtin:list.extend", "call builtin:re.Pattern.sub", "call builtin:sorted", "exec FunctionDef", "exec While Compare cons nil", "setItem ref str", "compareOp Eq ref ref", "compareOp In int ref", "compareOp NotEq ref ref", "compareOp NotIn int ref", "compareOp NotIn str ref", "call type:list", "subscriptTail Name Name ref str"]
local macro_rules | `(tactic| walk_at $s) => if ["eval ListComp", "eval DictComp"].contains s.getString then `(tactic| (k_here; k_dflt (first | refine lc_eval rfl rfl (by decide) ?_ | refine dc_eval rfl rfl (by decide) ?_))) else Lean.Macro.throwUnsupported
local macro_rules | `(tactic| walk_at "eval Name") => `(tactic| (k_here; (with_reducible show wpAny _ _ (eval _ (compEnvC _ _ _ _)) _ _ _); (with_reducible rename Fr .. => kF); k_dflt (refine' ldc kF ?k1 ?_ ?k2 ?k3 ?k4; (case k1 => with_unfolding_all rfl); (case k2 => rfl); (case k3 => rfl); (case k4 => decide))))
local macro_rules | `(tactic| walk_at "truthy str") => `(tactic| (k_here; (with_reducible show wpAny _ _ (PySem.truthy (Value.str _ _)) _ _ _); (refine KXt.truthy rfl (by omega) ?_); intro _))
local macro_rules | `(tactic| walk_at "ENTERED") => `(tactic| ((case k6 => k_is); (case k7 => k_is); (case k8 => decide); (case k9 => exact BindsTo.of_eq rfl); (case c5 => decide); (case kB => exact locs rfl); (case c2 => exact rfl); (case c3 => exact rfl); (case c4 => exact rfl); k_whole))
local macro_rules | `(tactic| walk_at $s) => if ["execs cons", "execs"].contains s.getString then `(tactic| ((first | k_gentoks | with_reducible refine execs_lastK ?_ | with_reducible refine execs_lastX ?_ | (refine execs_K ?_; intro kQ kR)); try dsimp only)) else Lean.Macro.throwUnsupported
local macro_rules | `(tactic| walk_at "stQ") => `(tactic| (rename NextK _ _ _ _ _ _ _ => kR; (first | refine kR.nx ?_ | refine kR.out ?_ | refine kR.brk ?_ | refine kR.cont ?_); clear kR; rename Flow -> Shared -> Prop => kQ; clear kQ))
theorem weakL {α : Type} {M : Model} {A : Around} {t : Sem α} {Q : α -> Shared -> Prop} {E : Value -> Shared -> Prop} {s : Shared} (hh : A.handled = none) (hd : A.depth <= 320) (hu : A.units <= 200) (h : wpAny M { handled := none, depth := 320, frames := none, guards := none, units := 200 } t Q E s) : wpAny M A t Q E s := weak hh hd hu rfl rfl h
variable {w : World} {A : Around} {h! : Heap} {L : Addr} {m : Str -> Option Value} {news C rest : List (Addr × Obj)} {cv : Nat -> Option Value} {s : Shared} {p : Program} {loose : List Str} {mean : ExcName -> Option Value} {mg mb : Str -> Option Value} {E : Value -> Shared -> Prop}
section
section
variable {Q : Value -> Shared -> Prop}
noncomputable def cName (c : Int) : Str := ⟨#[97 + (c % 5).toNat]⟩
theorem cName_eq (c : Int) : Txt.item (Str.ofString "abcde") (c.fmod 5) = cName c := by
 rw [Int.fmod_eq_emod_of_nonneg _ (by decide)];have h1 := Int.emod_nonneg c (show (5 : Int) ≠ 0 by decide);have h2 := Int.emod_lt_of_pos c (show (0 : Int) < 5 by decide);unfold cName;generalize c % 5 = r at h1 h2;have : r = 0 \/ r = 1 \/ r = 2 \/ r = 3 \/ r = 4 := by omega
 rcases this with rfl | rfl | rfl | rfl | rfl <;> decide
theorem clause_K {c : Int} {tk : Tok} (F : Fr h! L s.heap m) (X : (Kq w.params).In h!) (N : News h! L s.heap news) (T : Top p loose mean mg mb h!)
  (hh : A.handled = none) (hd : A.depth <= 350) (hu : A.units <= 500)
  (hc : 0 <= c) (hc2 : c < 2 ^ 40)
  (ret : ∀ r h' tk' t1 t2 t3, Fr h! L h' m -> News h! L h' ((r, { cls := .type "tuple", data := .seq #[.str (cName c) t1, .int (c / 5 % 6) t2, .int (c / 30 % 6) t3] }) :: news) -> (∀ p ∈ news, p.1 ≠ r) -> (∀ b o, s.heap.get? b = some o -> h'.get? b = some o) -> Q (.ref r) { s with heap := h', toks := tk' }) :
  wpAny (model PR w) A (call (.ref 147) [.int c tk]) Q E s := by
 refine weak (A' := AL 2) hh hd hu rfl rfl ?_
 k_dflt (refine' enter (news := []) (binds := [(Str.ofString "cell", Value.int c tk)]) F.keep (fun _ h => nomatch h) X T ?k6 ?k7 ?k8 ?k9 ?kB ?_ ?c2 ?c3 ?c4 ?c5; walk_at "ENTERED")
 clear X T;intro g' L' h' gz dz tz oz Rz hR hz0 X' T' F' N' l1
 try dsimp only
 k_steps;unfold Halt;rename Fr .. => F6;rename News .. => N6;simp only [cName_eq, Int.fmod_eq_emod_of_nonneg _ (show (0 : Int) <= 6 by decide), Int.fdiv_eq_ediv_of_nonneg _ (show (0 : Int) <= 5 by decide), Int.fdiv_eq_ediv_of_nonneg _ (show (0 : Int) <= 30 by decide)] at N6;refine hR.out F6 N6 (fun _ h => nomatch h) fun ext fresh => ?_;apply byc; intro O;obtain ⟨Fz, Nz, nz⟩ := back F N ext (N6 _ (.head _)).1 (fresh _ (.head _) (fun h => nomatch h));apply O; clear O;exact ret _ _ _ _ _ _ Fz Nz nz ext
noncomputable def hexd (n : Nat) : Nat := if n < 10 then 48 + n else 55 + n
noncomputable def safe (n : Nat) : Bool := (65 <= n && n <= 90) || (97 <= n && n <= 122) || (48 <= n && n <= 57) || n == 45 || n == 33 || n == 42 || n == 43 || n == 47
noncomputable def wrL (n : Nat) : List Nat := if safe n then [n] else if n = 32 then [95] else [61, hexd (n / 16), hexd (n % 16)]
noncomputable def wr (n : Nat) : Str := ⟨(wrL n).toArray⟩
noncomputable def safeTxt : Str := Str.ofString "ABCDEFGHIJKLMNOPQRSTUVWXYZabcdefghijklmnopqrstuvwxyz0123456789-!*+/"
noncomputable def safeCs : List Nat := [65, 66, 67, 68, 69, 70, 71, 72, 73, 74, 75, 76, 77, 78, 79, 80, 81, 82, 83, 84, 85, 86, 87, 88, 89, 90, 97, 98, 99, 100, 101, 102, 103, 104, 105, 106, 107, 108, 109, 110, 111, 112, 113, 114, 115, 116, 117, 118, 119, 120, 121, 122, 48, 49, 50, 51, 52, 53, 54, 55, 56, 57, 45, 33, 42, 43, 47]
theorem safeTxt_eq : safeTxt = ⟨safeCs.toArray⟩ := by decide +kernel
theorem safe_mem : ∀ n : Nat, n < 256 -> decide (n ∈ safeCs) = safe n := by decide +kernel
theorem safe_all (n : Nat) (h : n < 256) : (Builtin.Str.occurrences safeTxt ⟨#[n]⟩ 0 safeTxt.length 1).isEmpty = !safe n := by
 rw [empty_one, safeTxt_eq, <- safe_mem n h]
noncomputable def hexTxt : Str := Str.ofString "0123456789ABCDEF"
theorem item_hex : ∀ k : Nat, k < 16 -> Txt.item hexTxt (k : Int) = ⟨#[hexd k]⟩ := by decide +kernel
theorem hex_all (n : Nat) (h : n < 256) : (Str.ofString "=" ++ Txt.item hexTxt ((n : Int).fdiv 16) ++ Txt.item hexTxt ((n : Int).fmod 16)) = (⟨#[61, hexd (n / 16), hexd (n % 16)]⟩ : Str) := by
 have e1 : (n : Int).fdiv 16 = ((n / 16 : Nat) : Int) := by rw [Int.fdiv_eq_ediv_of_nonneg _ (by decide)]; rfl
 have e2 : (n : Int).fmod 16 = ((n % 16 : Nat) : Int) := by rw [Int.fmod_eq_emod_of_nonneg _ (by decide)]; rfl
 rw [e1, e2, item_hex _ (by omega), item_hex _ (by omega)];rfl
theorem q_str {Q : Value -> Shared -> Prop} {x y : Str} {t : Tok} {s : Shared} (e : x = y) (h : Q (.str y t) s) : Q (.str x t) s := e ▸ h
theorem written_K {o : Nat} {tk : Tok} (F : Fr h! L s.heap m) (X : (Kq w.params).In h!) (N : News h! L s.heap news) (T : Top p loose mean mg mb h!)
  (hh : A.handled = none) (hd : A.depth <= 350) (hu : A.units <= 500) (ho2 : o < 256)
  (ret : ∀ t h' tk', Fr h! L h' m -> News h! L h' news -> (∀ b o, s.heap.get? b = some o -> h'.get? b = some o) -> Q (.str (wr o) t) { s with heap := h', toks := tk' }) :
  wpAny (model PR w) A (call (.ref 161) [.int (o : Int) tk]) Q E s := by
 refine weak (A' := AL 2) hh hd hu rfl rfl ?_
 k_dflt (refine' enter (news := []) (binds := [(Str.ofString "octet", Value.int o tk)]) F.keep (fun _ h => nomatch h) X T ?k6 ?k7 ?k8 ?k9 ?kB ?_ ?c2 ?c3 ?c4 ?c5; walk_at "ENTERED")
 clear X T;intro g' L' h' gz dz tz oz Rz hR hz0 X' T' F' N' l1
 try dsimp only
 have ho : (0 : Int) <= o := Int.natCast_nonneg o;have ho3 : (o : Int) < 256 := by omega
 k_steps
 all_goals (unfold Halt; (try dsimp only); rename Fr .. => F6; rename News .. => N6)
 ·rename (_ = true) => hs1;refine hR.out F6 N6 (fun _ h => nomatch h) fun ext fresh => ?_;obtain ⟨Fz, Nz⟩ := back0 F N ext;have e : wr o = Str.ofString "_" := by
   have : o = 32 := by omega
   subst this; decide
  exact q_str e.symm (ret _ _ _ Fz Nz ext)
 ·rename (List.isEmpty _ = true) => hs1;refine hR.out F6 N6 (fun _ h => nomatch h) fun ext fresh => ?_;obtain ⟨Fz, Nz⟩ := back0 F N ext;have hs2 := (safe_all o ho2).symm.trans hs1;have e : wr o = ⟨#[61, hexd (o / 16), hexd (o % 16)]⟩ := by
   unfold wr wrL;rw [if_neg (by simpa using hs2), if_neg (by omega)]
  exact q_str ((hex_all o ho2).trans e.symm) (ret _ _ _ Fz Nz ext)
 ·rename (List.isEmpty _ = false) => hs1;refine hR.out F6 N6 (fun _ h => nomatch h) fun ext fresh => ?_;obtain ⟨Fz, Nz⟩ := back0 F N ext;have hs2 := (safe_all o ho2).symm.trans hs1;have e : wr o = ⟨#[(o : Int).toNat]⟩ := by
   unfold wr wrL;rw [if_pos (by simpa using hs2), Int.toNat_natCast]
  exact q_str e.symm (ret _ _ _ Fz Nz ext)
noncomputable def litB (c l : Nat) : Bool := c.testBit (l % 3) == decide (l < 3)
theorem lit_all : ∀ c : Nat, c < 8 -> ∀ l : Nat, l < 6 -> ((Builtin.bitAnd ((c : Int).fdiv (2 ^ ((l : Int).fmod 3).toNat)) 1 == 1) == decide ((l : Int) < 3)) = litB c l := by decide +kernel
theorem holds_K {c l : Nat} {tk tk2 : Tok} (F : Fr h! L s.heap m) (X : (Kq w.params).In h!) (N : News h! L s.heap news) (T : Top p loose mean mg mb h!)
  (hh : A.handled = none) (hd : A.depth <= 350) (hu : A.units <= 500)
  (hc2 : c < 8) (hl2 : l < 6)
  (ret : ∀ h' tk', Fr h! L h' m -> News h! L h' news -> (∀ b o, s.heap.get? b = some o -> h'.get? b = some o) -> Q (.bool (litB c l)) { s with heap := h', toks := tk' }) :
  wpAny (model PR w) A (call (.ref 199) [.int (c : Int) tk, .int (l : Int) tk2]) Q E s := by
 refine weak (A' := AL 2) hh hd hu rfl rfl ?_
 k_dflt (refine' enter (news := []) (binds := [(Str.ofString "choice", Value.int c tk), (Str.ofString "literal", Value.int l tk2)]) F.keep (fun _ h => nomatch h) X T ?k6 ?k7 ?k8 ?k9 ?kB ?_ ?c2 ?c3 ?c4 ?c5; walk_at "ENTERED")
 clear X T;intro g' L' h' gz dz tz oz Rz hR hz0 X' T' F' N' l1
 try dsimp only
 have hc : (0 : Int) <= c := Int.natCast_nonneg c;have hc3 : (c : Int) < 8 := by omega
 have hl : (0 : Int) <= l := Int.natCast_nonneg l;have hl3 : (l : Int) < 6 := by omega
 k_steps;unfold Halt;rename Fr .. => F6;rename News .. => N6;rw [lit_all c hc2 l hl2];refine hR.out F6 N6 (fun _ h => nomatch h) fun ext fresh => ?_;obtain ⟨Fz, Nz⟩ := back0 F N ext;exact ret _ _ Fz Nz ext
end
end
section
section
open PySem.Builtin
theorem dec_road {id : String} {a b : UInt8} : _codecs.decodeRoad id #[a, b] (PySem.Str.ofString "latin1") none [] = mkStr ⟨#[a.toNat, b.toNat]⟩ := by kernel_rfl
theorem dec_entry {a b : UInt8} {t u : Tok} : «bytes.decode» ⟨[.bytes #[a, b] t, .str (PySem.Str.ofString "latin1") u], []⟩ = (mkStr (PySem.Str.ofString "utf-8") >>= fun _ => mkStr (PySem.Str.ofString "latin1") >>= fun e => mkStr (PySem.Str.ofString "bytes.decode") >>= fun d =>
  call (.builtin "_codecs.decode.text") [.bytes #[a, b] t, e, .none, d] >>= fun v => ret v) := by kernel_rfl
theorem dec_text {a b : UInt8} {t t1 t2 : Tok} {d : PySem.Str} :
  Meets («_codecs.decode.text» ⟨[.bytes #[a, b] t, .str (PySem.Str.ofString "latin1") t1, .none, .str d t2], []⟩) (fun _ R s => R (.ok (.ret (.str ⟨#[a.toNat, b.toNat]⟩ s.toks))) { s with toks := s.toks + 1 }) := by
 refine .of_wp fun prog w A R s h => ?_;show wpAny _ _ (Bytes.bytesLike _ (.bytes #[a, b] t) >>= fun r => _) _ _ s;refine wpAny_bind (wpAny_of_eq KBd.like_eq ?_);refine wpAny_bind (wpAny_of_eq KBd.held_eq ?_);show wpAny _ _ (_codecs.decodeRoad _ #[a, b] (PySem.Str.ofString "latin1") none [] >>= fun v => _) _ _ s;rw [dec_road];exact wpAny_bind (wpAny_mkStr (wpAny_pure ⟨_, rfl, h⟩) (by show 2 <= _; decide))
theorem dec_meets {a b : UInt8} {t u : Tok} :
  Meets («bytes.decode» ⟨[.bytes #[a, b] t, .str (PySem.Str.ofString "latin1") u], []⟩) (fun _ R s => ∀ t' k, R (.ok (.ret (.str ⟨#[a.toNat, b.toNat]⟩ t'))) { s with toks := k }) := by
 refine .of_wp fun prog w A R s h => ?_;rw [dec_entry];refine wpAny_bind (wpAny_mkStr ?_ (by decide));refine wpAny_bind (wpAny_mkStr ?_ (by decide));refine wpAny_bind (wpAny_mkStr ?_ (by decide));exact wpAny_bind (call_function_meets KBd.kind_text KBd.plain_text KBd.entry_text (KBd.args_text _ _ _ _) dec_text (wpAny_pure ⟨_, rfl, h _ _⟩))
theorem dec_args (a b : Value) : argsOk "bytes.decode" ⟨[a, b], []⟩ := by unfold argsOk; kernel_rfl
theorem decode2 {prog : Program} {w : World} {A : Around} {E : Value -> Shared -> Prop} {s : Shared} {a b : UInt8} {t u : Tok} {Q : Value -> Shared -> Prop} (h : ∀ t' k, Q (.str ⟨#[a.toNat, b.toNat]⟩ t') { s with toks := k }) :
  wpAny (model prog w) A (call (.builtin "bytes.decode") [.bytes #[a, b] t, .str (PySem.Str.ofString "latin1") u]) Q E s :=
 call_meets FB.slot_bytes_decode (typeIs_bytes _ _ _) FB.entry_bytes_decode (dec_args _ _) dec_meets h
theorem truthy2 {prog : Program} {w : World} {A : Around} {E : Value -> Shared -> Prop} {s : Shared} {a b : UInt8} {t : Tok} {Q : Bool -> Shared -> Prop} (h : Q true { s with toks := s.toks + 1 + 1 }) : wpAny (model prog w) A (truthy (.bytes #[a, b] t)) Q E s :=
 truthy_bytes (by show 2 <= 1099511627776; decide) h
end
end
section
section
open PySem.Builtin
theorem lookup_hit {prog : Program} {w : World} {A : Around} {E : Value -> Shared -> Prop} {h : Heap} {g : Array GenState} {d : Drawn} {tk : Nat} {os : OsState} {l : Addr} {vs : List Value} {c : Nat} {x : PySem.Str} {t : Tok} {Q : Str.Mapped -> Shared -> Prop}
  (hl : h.IsList l vs.toArray) (hc : (c : Int) < 2 ^ 63) (hx : vs[c]? = some (.str x t)) (hq : Q (.text x) ⟨h, g, d, tk + 1, os⟩) :
  wpAny (model prog w) A (Str.tableLookup (.ref l) c) Q E ⟨h, g, d, tk, os⟩ := by
 unfold Str.tableLookup;refine wpAny_bind (wpAny_attempt (wpAny_bind (wpAny_mkInt' ?_)));refine wpAny_getItem_list (x := .str x t) hl (by omega) hc (by simpa using hx) ?_
 wp_walk
 exact hq
noncomputable def accP (pieces : List PySem.Str) : Array Nat := pieces.reverse.foldl (fun acc p => acc ++ p.cps) #[]
noncomputable def accT (tr : Nat -> PySem.Str) (cs : List Nat) : Array Nat := cs.foldl (fun acc c => acc ++ (tr c).cps) #[]
theorem accP_cons (p : PySem.Str) (ps : List PySem.Str) : accP (p :: ps) = accP ps ++ p.cps := by simp [accP, List.foldl_append]
theorem accT_snoc (tr : Nat -> PySem.Str) (cs : List Nat) (c : Nat) : accT tr (cs ++ [c]) = accT tr cs ++ (tr c).cps := by simp [accT, List.foldl_append]
theorem accT_length (tr : Nat -> PySem.Str) : ∀ (cs : List Nat), (∀ c ∈ cs, (tr c).length <= 3) -> (accT tr cs).size <= 3 * cs.length := by
 suffices H : ∀ (cs : List Nat) (a : Array Nat), (∀ c ∈ cs, (tr c).length <= 3) -> (cs.foldl (fun acc c => acc ++ (tr c).cps) a).size <= a.size + 3 * cs.length from fun cs h => by simpa [accT] using H cs #[] h
 intro cs
 induction cs with
 | nil => intro a _; simp
 | cons c cs ih =>
  intro a h;have := ih (a ++ (tr c).cps) fun c' hc' => h c' (List.mem_cons_of_mem _ hc');have h2 : (tr c).cps.size <= 3 := h c (List.mem_cons_self ..);simp only [List.foldl_cons, List.length_cons];rw [Array.size_append] at this;omega
theorem one_of {x : PySem.Str} (h : x.length = 1) : ∃ n, x = ⟨#[n]⟩ := by
 obtain ⟨⟨cs⟩⟩ := x;change cs.length = 1 at h
 match cs, h with
 | [n], _ => exact ⟨n, rfl⟩
def trI (tr : Nat -> PySem.Str) (x : PySem.Str) (hp : Heap) (g : Array GenState) (d : Drawn) (os : OsState) (rest : List Nat) (b : List PySem.Str × Nat × Bool × List (Nat × Option Nat) × Bool) (s : Shared) : Prop :=
 (∃ tk, s = ⟨hp, g, d, tk, os⟩) /\ b.2.2.2.2 = false /\ (∃ pre, x.cps.toList = pre ++ rest /\ accP b.1 = accT tr pre /\ b.2.1 <= 3 * pre.length) /\ ∀ c a, b.2.2.2.1.lookup c = some a -> ∃ n, a = some n /\ tr c = ⟨#[n]⟩
theorem tr_meets {l : Addr} {vs : List Value} {tr : Nat -> PySem.Str} {x : PySem.Str} {t : Tok} (htr : ∀ c ∈ x.cps.toList, (c : Int) < 2 ^ 63 /\ (∃ tk, vs[c]? = some (.str (tr c) tk)) /\ (tr c).length <= 3) (hx0 : x.length ≠ 0) (hx : x.length < 100) :
  Meets («str.translate» ⟨[.str x t, .ref l], []⟩) (fun _ R s => s.heap.IsList l vs.toArray /\ ∀ t' k, R (.ok (.ret (.str ⟨accT tr x.cps.toList⟩ t'))) { s with toks := k }) := by
 refine .of_wp fun prog w A R s h => ?_;apply byc; intro O;obtain ⟨hp, g, d, tk, os⟩ := s;obtain ⟨hl, h⟩ := h;apply O; clear O;dsimp only at hl h;have hlen : x.cps.toList.length < 100 := hx
 wp_walk using PySem.MeetsSeq2.wpAny_forIn_array _ (trI tr x hp g d os) _
 case h.h.h => exact ⟨⟨_, rfl⟩, rfl, ⟨[], rfl, rfl, Nat.zero_le _⟩, fun c a e => by cases e⟩
 case h.h.fin =>
  rintro ⟨pieces, total, fast, known, dr⟩ s ⟨⟨tk', rfl⟩, hdr, ⟨pre, hpre, hacc, htot⟩, hk⟩;dsimp only at *;subst hdr;have h1 : Str.tooLong total = false := by
   have : pre.length = x.cps.toList.length := by rw [hpre]; simp
   unfold Str.tooLong; rw [decide_eq_false_iff_not, sizeLine_eq]; omega
  rw [h1];have hpre2 : x.cps.toList = pre := by rw [hpre]; simp
  have hacc2 : accP pieces = accT tr x.cps.toList := by rw [hacc, hpre2]
  refine wpAny_ite_false rfl ?_;show wpAny _ _ (retStr ⟨accP pieces⟩) _ _ _;rw [hacc2];refine wpAny_bind (wpAny_mkStr ?_ ?_)
  ·wp_walk
   exact ⟨_, rfl, h _ _⟩
  ·have := accT_length tr x.cps.toList fun c hc => (htr c hc).2.2;show (accT tr x.cps.toList).size <= _;rw [sizeLine_eq]; omega
 case h.h.turn =>
  rintro c rest ⟨pieces, total, fast, known, dr⟩ s ⟨⟨tk', rfl⟩, hdr, ⟨pre, hpre, hacc, htot⟩, hk⟩;dsimp only at *;subst hdr;apply byc; intro O;obtain ⟨hc63, ⟨tkc, hvc⟩, hlc⟩ := htr c (by rw [hpre]; simp);apply O; clear O;have hlp : pre.length < 100 := by
   have : x.cps.toList.length = pre.length + (rest.length + 1) := by rw [hpre]; simp
   omega
  have h1 : Str.tooLong total = false := by
   unfold Str.tooLong; rw [decide_eq_false_iff_not, sizeLine_eq]; omega
  rw [h1];have hpre' : x.cps.toList = (pre ++ [c]) ++ rest := by rw [hpre]; simp
  cases fast
  ·wp_walk using lookup_hit hl hc63 hvc
   exact ⟨⟨_, rfl⟩, rfl, ⟨pre ++ [c], hpre', by dsimp only; rw [accP_cons, accT_snoc, hacc], by dsimp only; rw [List.length_append]; show _ <= 3 * (pre.length + 1); omega⟩, hk⟩
  ·cases hkl : known.lookup c with
   | some a =>
    apply byc; intro O;obtain ⟨n, rfl, hn⟩ := hk c a hkl;apply O; clear O
    wp_walk using lookup_hit hl hc63 hvc
    exact ⟨⟨_, rfl⟩, rfl, ⟨pre ++ [c], hpre', by dsimp only; rw [accP_cons, accT_snoc, hacc, hn], by dsimp only; rw [List.length_append]; show _ <= 3 * (pre.length + 1); omega⟩, hk⟩
   | none =>
    wp_walk using lookup_hit hl hc63 hvc
    dsimp only;cases hq : ((tr c).length == 1 && (tr c).cps.all fun x => decide (x < 128)) with
    | false =>
     rw [if_neg (by decide)]
     wp_walk using lookup_hit hl hc63 hvc
     exact ⟨⟨_, rfl⟩, rfl, ⟨pre ++ [c], hpre', by dsimp only; rw [accP_cons, accT_snoc, hacc], by dsimp only; rw [List.length_append]; show _ <= 3 * (pre.length + 1); omega⟩, hk⟩
    | true =>
     apply byc; intro O;obtain ⟨n, hn⟩ : ∃ n, tr c = ⟨#[n]⟩ := one_of (by rw [Bool.and_eq_true] at hq; exact beq_iff_eq.mp hq.1);apply O; clear O;have h0 : (tr c).cps[0]? = some n := by rw [hn]; rfl
     rw [if_pos rfl, h0]
     wp_walk
     refine ⟨⟨_, rfl⟩, rfl, ⟨pre ++ [c], hpre', by dsimp only; rw [accP_cons, accT_snoc, hacc, hn], by dsimp only; rw [List.length_append]; show _ <= 3 * (pre.length + 1); omega⟩, fun c' a e => ?_⟩;dsimp only at e;rw [List.lookup_cons] at e;by_cases hcc : c' == c
     ·rw [hcc] at e; cases e; exact ⟨n, rfl, by rw [beq_iff_eq.mp hcc]; exact hn⟩
     ·rw [Bool.eq_false_iff.mpr hcc] at e; exact hk c' a e
theorem translate_K {prog : Program} {w : World} {A : Around} {E : Value -> Shared -> Prop} {s : Shared} {l : Addr} {vs : List Value} {tr : Nat -> PySem.Str} {x : PySem.Str} {t : Tok} {Q : Value -> Shared -> Prop}
  (htr : ∀ c ∈ x.cps.toList, (c : Int) < 2 ^ 63 /\ (∃ tk, vs[c]? = some (.str (tr c) tk)) /\ (tr c).length <= 3) (hx0 : x.length ≠ 0) (hx : x.length < 100) (hl : s.heap.IsList l vs.toArray)
  (h : ∀ t' k, Q (.str ⟨accT tr x.cps.toList⟩ t') { s with toks := k }) :
  wpAny (model prog w) A (call (.builtin "str.translate") [.str x t, .ref l]) Q E s :=
 call_meets F.slot_str_translate (typeIs_str _ _ _) F.entry_str_translate (F.args_str_translate_2 _ _) (tr_meets htr hx0 hx) ⟨hl, h⟩
end
end
section
noncomputable def toL (x : Str) : List Nat := x.cps.toList
theorem str_ext {x y : Str} (h : toL x = toL y) : x = y := by
 obtain ⟨⟨x⟩⟩ := x;obtain ⟨⟨y⟩⟩ := y;exact congrArg (fun l : List Nat => (⟨l.toArray⟩ : Str)) h
theorem toL_app (x y : Str) : toL (x ++ y) = toL x ++ toL y := Array.toList_append ..
theorem toL_len (x : Str) : (toL x).length = x.length := rfl
theorem toL_empty : toL Str.empty = [] := rfl
theorem toL_wr (n : Nat) : toL (wr n) = wrL n := rfl
theorem toL_mk (l : List Nat) : toL ⟨l.toArray⟩ = l := rfl
noncomputable def hword (cs : Str) (a b : Nat) : Str := ⟨([61, 63] ++ toL cs ++ [63, 113, 63] ++ (wrL a ++ wrL b) ++ [63, 61]).toArray⟩
theorem hword_eq (cs : Str) (a b : Nat) : Str.empty ++ Str.ofString "=?" ++ cs ++ Str.ofString "?q?" ++ (wr a ++ wr b) ++ Str.ofString "?=" = hword cs a b := by
 apply str_ext;simp only [toL_app, toL_empty, toL_wr, hword, toL_mk, List.nil_append, show toL (Str.ofString "=?") = [61, 63] by decide +kernel, show toL (Str.ofString "?q?") = [63, 113, 63] by decide +kernel, show toL (Str.ofString "?=") = [63, 61] by decide +kernel]
section
variable {w : World}
noncomputable def rdAt (vs : List Value) (c : Nat) : Bool := match vs[c]? with | some (.str x _) => x == wr c | _ => false
theorem rdAt_of {vs : List Value} {c : Nat} (h : rdAt vs c = true) : ∃ tk, vs[c]? = some (.str (wr c) tk) := by
 unfold rdAt at h;split at h
 ·rename_i x tk e;exact ⟨tk, by rw [e, eq_of_beq h]⟩
 ·cases h
theorem map72 : ∃ (vs : List Value) (n : Nat), (Kq w.params).lookup 72 = some ⟨.type "list", none, .seq vs.toArray n, #[]⟩ /\ ∀ c < 256, ∃ tk, vs[c]? = some (.str (wr c) tk) := by
 refine ⟨_, _, by k_is, fun c hc => rdAt_of (List.all_eq_true.mp (show (List.range 256).all (fun c => rdAt _ c) = true by decide +kernel) c (List.mem_range.mpr hc))⟩
theorem wr_length (n : Nat) : (wr n).length <= 3 := by
 show (wrL n).length <= 3;unfold wrL;split
 ·exact qB rfl
 ·split
  ·exact qB rfl
  ·exact Nat.le_refl 3
theorem headTr {prog : Program} {A : Around} {E : Value -> Shared -> Prop} {s : Shared} {h! : Heap} {L : Addr} {m : Str -> Option Value} {a b : UInt8} {t : Tok} {Q : Value -> Shared -> Prop}
  (F : Fr h! L s.heap m) (X : (Kq w.params).In h!)
  (h : ∀ y t' k, y = (wr a.toNat) ++ (wr b.toNat) -> y.length <= 6 -> Q (.str y t') { s with toks := k }) :
  wpAny (model prog w) A (call (.builtin "str.translate") [.str ⟨#[a.toNat, b.toNat]⟩ t, .ref 72]) Q E s := by
 apply byc; intro O;obtain ⟨vs, n, hl, hv⟩ := map72 (w := w);apply O; clear O;have ha : a.toNat < 256 := a.toNat_lt;have hb : b.toNat < 256 := b.toNat_lt;have e : accT wr (⟨#[a.toNat, b.toNat]⟩ : Str).cps.toList = (wr a.toNat).cps ++ (wr b.toNat).cps := by simp [accT]
 refine translate_K (tr := wr) (vs := vs) (fun c hc => ?_) (by show 2 ≠ 0; decide) (by show 2 < 100; decide) (listIn X F hl) fun t' k => by rw [e]; exact h _ t' k rfl (by have h1 := wr_length a.toNat; have h2 := wr_length b.toNat; show ((wr a.toNat).cps ++ (wr b.toNat).cps).size <= 6; rw [Array.size_append]; change (wr a.toNat).cps.size <= 3 at h1; change (wr b.toNat).cps.size <= 3 at h2; omega)
 have hc2 : c < 256 := by
  change c ∈ [a.toNat, b.toNat] at hc;rcases qC hc with rfl | hc
  ·exact ha
  ·rcases qC hc with rfl | hc
   ·exact hb
   ·cases hc
 exact ⟨by omega, hv c hc2, wr_length c⟩
end
end
section
section
variable {Q : Value -> Shared -> Prop}
theorem news_swap {h : Heap} {a b : Addr × Obj} {r : List (Addr × Obj)} (N : News h! L h (a :: b :: r)) : News h! L h (b :: a :: r) := fun p hp => by
 rcases qC hp with rfl | hp
 ·exact N _ (.tail _ (.head _))
 ·rcases qC hp with rfl | hp
  ·exact N _ (.head _)
  ·exact N _ (.tail _ (.tail _ hp))
theorem ints_at : ∀ {vs : List Value} {ns : List Int} {i : Nat} {v : Value}, IntsAre vs ns -> vs[i]? = some v -> ∃ n t, v = .int n t /\ ns[i]? = some n
 | _, _, i, v, h, hv => by
  have hl := h.length;have hi : i < _ := (List.getElem?_eq_some_iff.mp hv).1;obtain ⟨t, ht⟩ := h.get i _ (List.getElem?_eq_getElem (by omega));rw [hv] at ht;exact ⟨_, t, Option.some.inj ht, List.getElem?_eq_getElem (by omega)⟩
theorem written_KI {o : Int} {tk : Tok} (F : Fr h! L s.heap m) (X : (Kq w.params).In h!) (N : News h! L s.heap news) (T : Top p loose mean mg mb h!)
  (hh : A.handled = none) (hd : A.depth <= 350) (hu : A.units <= 500) (h0 : 0 <= o /\ o < 256)
  (ret : ∀ h' tk' t, Fr h! L h' m -> News h! L h' news -> (∀ b o, s.heap.get? b = some o -> h'.get? b = some o) -> Q (.str (wr o.toNat) t) { s with heap := h', toks := tk' }) :
  wpAny (model PR w) A (call (.ref 161) [.int o tk]) Q E s := by
 apply byc; intro O;obtain ⟨n, rfl⟩ : ∃ n : Nat, o = n := ⟨o.toNat, by omega⟩;apply O; clear O;exact written_K F X N T hh hd hu (by omega) fun t h tk => ret h tk t
def OctOk (os : List Int) : Prop := os.length = 6 /\ ∀ o ∈ os, 0 <= o /\ o < 256
noncomputable def octA (c : Int) (os : List Int) : Nat := (os.getD (c / 5 % 6).toNat 0).toNat
noncomputable def octB (c : Int) (os : List Int) : Nat := (os.getD (c / 30 % 6).toNat 0).toNat
theorem OctOk.at {os : List Int} (h : OctOk os) (k : Int) : 0 <= os.getD (k % 6).toNat 0 /\ os.getD (k % 6).toNat 0 < 256 := by
 have hk : (k % 6).toNat < 6 := by omega
 apply h.2;rw [List.getD_eq_getElem?_getD, List.getElem?_eq_getElem (by rw [h.1]; exact hk)];exact List.getElem_mem _
noncomputable def tailS (c : Int) (os : List Int) : Str := wr (octA c os) ++ wr (octB c os) ++ Str.ofString "?="
noncomputable def itemS (os : List Int) (c : Int) : Str := if c / 180 % 2 = 0 then cName c ++ Str.ofString "=?x?q?" ++ tailS c os else cName c ++ Str.ofString "=\"=?x\",x?q?" ++ tailS c os ++ Str.ofString "\""
end
local macro_rules | `(tactic| walk_at $s) => hz s ["call builtin:list.append"]
local macro_rules | `(tactic| walk_at "call ref") => `(tactic| (k_here; rename Fr .. => kF; rename News .. => kN; (first
 | (refine clause_K kF (by assumption) kN (by assumption) rfl (qB rfl) (qB rfl) (by assumption) (by assumption) ?_; intro _ _ _ _ _ _ _ _ _ _)
 | (refine written_KI kF (by assumption) kN (by assumption) rfl (qB rfl) (qB rfl) (by assumption) ?_; intro _ _ _ _ _ _))))
section
variable {Q : Value -> Shared -> Prop}
theorem items_K {l l2 : Addr} {vs vs2 : List Value} {cs os : List Int} {nn nn2 : Nat} (F : Fr h! L s.heap m) (X : (Kq w.params).In h!) (N : News h! L s.heap news) (T : Top p loose mean mg mb h!)
  (hh : A.handled = none) (hd : A.depth <= 330) (hu : A.units <= 300)
  (hl : (l, listOf vs.toArray nn) ∈ news) (hl2 : (l2, listOf vs2.toArray nn2) ∈ news) (hvs : IntsAre vs cs) (hvs2 : IntsAre vs2 os) (hcs : cs.length = 7) (hcb : ∀ c ∈ cs, 0 <= c /\ c < 2 ^ 40) (hos : OctOk os)
  (ret : ∀ r h' tk' ys k, Fr h! L h' m -> News h! L h' ((r, listOf ys.toArray k) :: news) -> (∀ p ∈ news, p.1 ≠ r) -> (∀ b o, s.heap.get? b = some o -> h'.get? b = some o) -> StrsAre ys ((cs.take 6).map (itemS os)) -> Q (.ref r) { s with heap := h', toks := tk' }) :
  wpAny (model PR w) A (call (.ref 168) [.ref l, .ref l2]) Q E s := by
 refine weak (A' := AL 1) hh hd hu rfl rfl ?_
 k_dflt (refine' enter (news := [(l, listOf vs.toArray nn), (l2, listOf vs2.toArray nn2)]) (binds := [(Str.ofString "cells", Value.ref l), (Str.ofString "octets", Value.ref l2)]) F.keep (fun p h => by rcases qC h with rfl | h; exact ⟨(N _ hl).1, (N _ hl).2.2⟩; rw [qS h]; exact ⟨(N _ hl2).1, (N _ hl2).2.2⟩) X T ?k6 ?k7 ?k8 ?k9 ?kB ?_ ?c2 ?c3 ?c4 ?c5; walk_at "ENTERED")
 clear X T;intro g' L' h' gz dz tz oz Rz hR hz0 X' T' F' N' l1
 try dsimp only
 have kL1 := IntsAre.length hvs;have kL2 := IntsAre.length hvs2;have hos1 := hos.1;k_steps;rename Fr .. => F9;rename News .. => N9;rename IntsAre _ (List.take 6 cs) => hsl;rename (List.take 6 cs).length = min 6 cs.length => hsn;rename _ /\ _ /\ _ => lts;rename List Value => ws;apply byc; intro O;obtain ⟨hDl, -, -⟩ := id lts;apply O; clear O;rename Addr => D1;rename l < _ /\ l2 < _ => lts2;unfold Halt
 with_unfolding_all refine' st_list (σ := List Value × List Str × Nat) (vs := ws) (nn := 0) (fun c => [(_, listOf c.1.toArray c.2.2), (D1, listOf ws.toArray 0), (l, listOf vs.toArray nn), (l2, listOf vs2.toArray nn2)]) (fun _ => []) (fun c => StrsAre c.1 c.2.1) [Str.ofString "name", Str.ofString "first", Str.ofString "second", Str.ofString "told"] (fun i c => c.2.1 = ((cs.take 6).take i).map (itemS os)) ([], [], 0) (by rfl) (fun c => List.Mem.tail _ (List.Mem.head _)) F9 (news_swap N9) .nil (fun _ h => nomatch h) rfl ?_ ?_
 ·refine unc3 ?_;intro us ss k i v u h1 tk1 own hi hv hoff hfa hP F1 N1;dsimp only [kstB] at F1 N1 hfa hP hoff;simp only [List.nil_append, List.cons_append, List.append_nil] at N1;simp only [List.map_cons, List.map_nil] at hoff;have kLen := StrsAre.length hfa;have kMark : KstMark := kstMark;clear F9 N9;apply byc; intro O;obtain ⟨c, tc, rfl, hc⟩ := ints_at hsl hv;apply O; clear O;have hcm : c ∈ cs := List.mem_of_mem_take (qG hc);obtain ⟨hc0, hc1⟩ := hcb c hcm;have ho1 := hos.at (c / 5);have ho2 := hos.at (c / 30);have hcn : (cName c).length = 1 := rfl;have hw1 := wr_length (os.getD (c / 5 % 6).toNat 0).toNat;have hw2 := wr_length (os.getD (c / 30 % 6).toNat 0).toNat;have h180 : (c.fdiv 180).fmod 2 = c / 180 % 2 := by rw [Int.fdiv_eq_ediv_of_nonneg _ (by decide), Int.fmod_eq_emod_of_nonneg _ (by decide)]
  have hz : us.length <= 6 := by
   have h1 : ss.length <= 6 := by
    rw [hP, List.length_map, List.length_take, List.length_take];omega
   omega
  k_steps
  all_goals (
   unfold Halt;rename Fr .. => F8;rename News .. => N8;refine append_head F8 (fun p hp => N8 p (.tail _ hp)) ?_ (fun h9 F9 N9 => ?_) ?_
   ·refine List.forall_mem_cons.mpr ⟨Nat.ne_of_gt hDl, List.forall_mem_cons.mpr ⟨Nat.ne_of_lt lts2.1, List.forall_mem_cons.mpr ⟨Nat.ne_of_lt lts2.2, fun p hp => ?_⟩⟩⟩
    ·exact hoff p hp _ (.head _)
   ·clear F8 N8;simp only [List.push_toArray] at N9;k_steps;unfold Halt;refine st_end (_, _, _) F9 N9 (by kst_in) (by intro p hp; kst_mem) (by rfl) (StrsAre.append' hfa (.cons _ _ .nil)) (by kst_all) (by kst_same) ?_;dsimp only;rw [take_snoc hc, List.map_append, <- hP];congr 1;show [_] = [itemS os c];congr 1;unfold itemS
    first
     | (rw [if_pos (by rw [<- h180]; assumption)]; rfl)
     | (rw [if_neg (by rw [<- h180]; assumption)]; rfl)
   ·rw [List.size_toArray, sizeLine_eq];omega)
 ·refine unc3 ?_;intro us ss k u h1 tk1 hfa hP F1 N1;dsimp only [kstB] at F1 N1 hfa hP;clear F9 N9;k_steps
  try unfold Halt
  try dsimp only
  rename Fr .. => F6;rename News .. => N6;have hP2 : ss = (cs.take 6).map (itemS os) := by
   have h3 : ws.length = (cs.take 6).length := IntsAre.length hsl;rw [h3, List.take_length] at hP;exact hP
  subst hP2;refine hR.out F6 N6 (fun p hp => by rcases qC hp with rfl | hp; exact .tail _ (.tail _ (.head _)); rw [qS hp]; exact .tail _ (.tail _ (.tail _ (.head _)))) fun ext fresh => ?_;have hfr : s.heap.get? _ = none := fresh _ (.head _) (fun h => by
   rcases qC h with h | h
   ·exact absurd (congrArg Prod.fst h) (Nat.ne_of_gt lts2.1)
   ·exact absurd (congrArg Prod.fst (qS h)) (Nat.ne_of_gt lts2.2))
  apply byc; intro O;obtain ⟨Fz, Nz, nz⟩ := back F N ext (N6 _ (.head _)).1 hfr;apply O; clear O;exact ret _ _ _ _ _ Fz Nz nz ext hfa
end
end
section
section
variable {Q : Value -> Shared -> Prop}
theorem cells_K {l : Addr} {vs : List Value} {ns : List Int} (F : Fr h! L s.heap m) (X : (Kq w.params).In h!) (N : News h! L s.heap news) (T : Top p loose mean mg mb h!)
  (hh : A.handled = none) (hd : A.depth <= 330) (hu : A.units <= 300)
  (hl : h!.IsList l vs.toArray) (hvs : IntsAre vs ns) (hn : ns.length <= 63)
  (ret : ∀ r h' tk' ys k cs, Fr h! L h' m -> News h! L h' ((r, listOf ys.toArray k) :: news) -> (∀ p ∈ news, p.1 ≠ r) -> (∀ b o, s.heap.get? b = some o -> h'.get? b = some o) -> IntsAre ys cs -> cs.length = 7 -> (∀ c ∈ cs, 0 <= c /\ c < 2 ^ 40) -> Q (.ref r) { s with heap := h', toks := tk' }) :
  wpAny (model PR w) A (call (.ref 140) [.ref l]) Q E s := by
 refine weak (A' := AL 1) hh hd hu rfl rfl ?_
 k_dflt (refine' enterB (news := []) (binds := [(Str.ofString "script", Value.ref l)]) F.keep (fun p h => nomatch h) X T ?k6 ?k7 ?k8 ?k9 ?kB ?_ ?c2 ?c3 ?c4 ?c5; walk_at "ENTERED")
 clear X T;intro g' L' h' gz dz tz oz Rz hR st X' T' F' N' l1;have hl' : g'.IsList l vs.toArray := hl.at fun o e => st l o e
 try dsimp only
 k_steps;rename Fr .. => F9;rename News .. => N9;rename IsRange _ _ _ _ _ _ _ _ => hr;unfold Halt;have h00 : ∀ n ∈ ([150, 261, 117, 248, 139, 45, 4000] : List Int), 0 <= n /\ n <= 4000 + 1000000 * ((0 : Nat) : Int) := by decide
 with_unfolding_all refine' st_range (σ := List Value × List Int × Nat) (n := ns.length) (fun c => [(_, listOf c.1.toArray c.2.2)]) (fun _ => []) (fun c => IntsAre c.1 c.2.1) [] (fun i c => c.2.1.length = 7 /\ ∀ n ∈ c.2.1, 0 <= n /\ n <= 4000 + 1000000 * (i : Int)) ([_, _, _, _, _, _, _], [150, 261, 117, 248, 139, 45, 4000], 0) (by rfl) hr rfl (by omega) F9 N9 (.cons _ _ (.cons _ _ (.cons _ _ (.cons _ _ (.cons _ _ (.cons _ _ (.cons _ _ .nil))))))) (fun _ h => nomatch h) ⟨rfl, h00⟩ ?_ ?_
 ·refine unc3 ?_;intro us cs nn i t u h1 tk1 own hi hoff hfa zp1 F1 N1;apply byc; intro O;obtain ⟨hP, hP2⟩ := zp1;apply O; clear O;dsimp only [kstB] at F1 N1 hfa hP hP2 hoff;simp only [List.nil_append, List.cons_append, List.append_nil] at N1;simp only [List.map_cons, List.map_nil] at hoff;have kLen := IntsAre.length hfa;have kMark : KstMark := kstMark;clear F9 N9;k_steps;unfold Halt;rename Fr .. => F8;rename News .. => N8;rename IntsAre (List.set _ _ _) _ => hi8;refine st_end (_, _, _) F8 N8 (by kst_in) (by intro p hp; kst_mem) (by rfl) hi8 (by kst_all) (by kst_same) ⟨by dsimp only; rw [List.length_set]; exact hP, fun n hn => ?_⟩;dsimp only at hn;rcases List.mem_or_eq_of_mem_set hn with h | h
  ·have := hP2 n h;omega
  ·have hm : ((i : Int).fmod 7).toNat < 7 := by rw [Int.fmod_eq_emod_of_nonneg _ (by decide)]; omega
   have hmem : cs.getD ((i : Int).fmod 7).toNat 0 ∈ cs := by
    rw [List.getD_eq_getElem?_getD, List.getElem?_eq_getElem (by omega)];exact List.getElem_mem _
   have hb := hP2 _ hmem;have e6 : ((10 : Int) ^ Int.toNat 6) = 1000000 := by decide
   rw [e6, Int.fmod_eq_emod_of_nonneg (ns.getD (i : Int).toNat 0) (by decide : (0 : Int) <= 1000000)] at h;have h1 := Int.emod_nonneg (ns.getD (i : Int).toNat 0) (show (1000000 : Int) ≠ 0 by decide);have h2 := Int.emod_lt_of_pos (ns.getD (i : Int).toNat 0) (show (0 : Int) < 1000000 by decide);generalize (ns.getD (i : Int).toNat 0) % 1000000 = z at *;generalize cs.getD ((i : Int).fmod 7).toNat 0 = y at *;subst h;omega
 ·refine unc3 ?_;intro us cs nn u h1 tk1 hfa zp1 F1 N1;apply byc; intro O;obtain ⟨hP, hP2⟩ := zp1;apply O; clear O;dsimp only [kstB] at F1 N1 hfa hP hP2;clear F9 N9;k_steps
  try unfold Halt
  try dsimp only
  rename Fr .. => F6;rename News .. => N6;refine hR.out F6 N6 (fun _ h => nomatch h) fun ext fresh => ?_;apply byc; intro O;obtain ⟨Fz, Nz, nz⟩ := back F N ext (N6 _ (.head _)).1 (fresh _ (.head _) (fun h => nomatch h));apply O; clear O;exact ret _ _ _ _ _ _ Fz Nz nz ext hfa hP fun c hc => by have := hP2 c hc; omega
end
end
section
local macro_rules | `(tactic| walk_at "getMethod str") => `(tactic| (k_here; with_reducible refine GM.of (Value.str _ _) (typeIs_str _ _ _) F.slot_str_translate F.type_str_translate GM.noRef ?_))
local macro_rules | `(tactic| walk_at "call builtin:str.translate") => `(tactic| (k_here; rename Fr .. => kF; refine headTr kF (by assumption) ?_; intro encY _ _ encE encL))
local macro_rules | `(tactic| walk_at "truthy bytes") => `(tactic| (k_here; refine truthy2 ?_))
local macro_rules | `(tactic| walk_at "call builtin:bytes.decode") => `(tactic| (k_here; refine decode2 ?_; intro _ _))
section
variable {Q : Value -> Shared -> Prop}
theorem henc_K {a b : UInt8} {cs : Str} {tk tk2 : Tok} (F : Fr h! L s.heap m) (X : (Kq w.params).In h!) (N : News h! L s.heap news) (T : Top p loose mean mg mb h!)
  (hh : A.handled = none) (hd : A.depth <= 350) (hu : A.units <= 500)
  (hcs : cs.length <= 10)
  (ret : ∀ h' tk' t, Fr h! L h' m -> News h! L h' news -> (∀ b o, s.heap.get? b = some o -> h'.get? b = some o) -> Q (.str (hword cs a.toNat b.toNat) t) { s with heap := h', toks := tk' }) :
  wpAny (model PR w) A (call (.ref 95) [.bytes #[a, b] tk, .str cs tk2]) Q E s := by
 refine weak (A' := AL 2) hh hd hu rfl rfl ?_
 k_dflt (refine' enter (news := []) (binds := [(Str.ofString "header_bytes", Value.bytes #[a, b] tk), (Str.ofString "charset", Value.str cs tk2)]) F.keep (fun _ h => nomatch h) X T ?k6 ?k7 ?k8 ?k9 ?kB ?_ ?c2 ?c3 ?c4 ?c5; (case k6 => k_is); (case k7 => k_is); (case k8 => decide); (case k9 => first | exact BindsTo.of_eq rfl | exact binds_K (by k_in) rfl (by k_is) rfl rfl rfl); (case c5 => decide); (case kB => exact locs rfl); (case c2 => exact rfl); (case c3 => exact rfl); (case c4 => exact rfl); k_whole)
 clear X T;intro g' L' h' gz dz tz oz Rz hR hz0 X' T' F' N' l1
 try dsimp only
 k_steps
 try dsimp only
 unfold Halt
 try dsimp only
 rename Fr .. => F6;rename News .. => N6;refine hR.out F6 N6 (fun _ h => nomatch h) fun ext fresh => ?_;obtain ⟨Fz, Nz⟩ := back0 F N ext;rename _ = wr _ ++ wr _ => encE;refine q_str (y := hword cs a.toNat b.toNat) (by rw [encE]; exact hword_eq _ _ _) ?_;exact ret _ _ _ Fz Nz ext
end
end
section
section
variable {Q : Value -> Shared -> Prop}
theorem pair_K {prog : Program} {l : Addr} {x y : Int} {tx ty : Tok} {n : Nat} (F : Fr h! L s.heap m) (N : News h! L s.heap news) (hm : (l, listOf #[.int x tx, .int y ty] n) ∈ news) (hx : 0 <= x /\ x < 256) (hy : 0 <= y /\ y < 256) (hh : A.handled = none)
  (h : ∀ h' t k, Fr h! L h' m -> News h! L h' news -> Q (.bytes #[x.toNat.toUInt8, y.toNat.toUInt8] t) { s with heap := h', toks := k }) : wpAny (model prog w) A (call (.type "bytes") [.ref l]) Q E s :=
 bytes_K (vs := [.int x tx, .int y ty]) (ns := [x, y]) F N ⟨_, (N _ hm).1, rfl, n, rfl⟩ (.cons _ _ (.cons _ _ .nil)) (fun k hk => by
  rcases qC hk with rfl | hk
  ·exact hx
  ·rw [qS hk]; exact hy) (by rw [sizeLine_eq]; exact qB rfl) hh fun h' t k F' N' _ => h h' t k F' N'
theorem henc_KI {x y : Int} {cs : Str} {tk tk2 : Tok} (F : Fr h! L s.heap m) (X : (Kq w.params).In h!) (N : News h! L s.heap news) (T : Top p loose mean mg mb h!)
  (hh : A.handled = none) (hd : A.depth <= 350) (hu : A.units <= 500) (hx : 0 <= x /\ x < 256) (hy : 0 <= y /\ y < 256)
  (hcs : cs.length <= 10)
  (ret : ∀ h' tk' t, Fr h! L h' m -> News h! L h' news -> (∀ b o, s.heap.get? b = some o -> h'.get? b = some o) -> (hword cs x.toNat y.toNat).length <= 25 -> Q (.str (hword cs x.toNat y.toNat) t) { s with heap := h', toks := tk' }) :
  wpAny (model PR w) A (call (.ref 95) [.bytes #[x.toNat.toUInt8, y.toNat.toUInt8] tk, .str cs tk2]) Q E s := by
 have ex : ∀ z : Int, 0 <= z /\ z < 256 -> z.toNat.toUInt8.toNat = z.toNat := fun z hz => by
  show z.toNat % 256 = z.toNat;omega
 have hl : (hword cs x.toNat y.toNat).length <= 25 := by
  have h1 := wr_length x.toNat;have h2 := wr_length y.toNat;change (wrL x.toNat).length <= 3 at h1;change (wrL y.toNat).length <= 3 at h2;show (([61, 63] ++ toL cs ++ [63, 113, 63] ++ (wrL x.toNat ++ wrL y.toNat) ++ [63, 61])).length <= 25;simp only [List.length_append, List.length_cons, List.length_nil, toL_len];omega
 refine henc_K F X N T hh hd hu hcs fun h' tk' t F' N' ext => ?_;rw [ex x hx, ex y hy];exact ret h' tk' t F' N' ext hl
theorem strs_values : ∀ {us : List Value} {ss : List Str}, StrsAre us ss -> ∃ l, us = strValues l /\ l.map (·.1) = ss
 | _, _, .nil => ⟨[], rfl, rfl⟩
 | _, _, .cons x t h => by
  apply byc; intro O;obtain ⟨l, rfl, rfl⟩ := strs_values h;apply O; clear O;exact ⟨(x, t) :: l, rfl, rfl⟩
theorem sum_le {B : Nat} : ∀ (ss : List Str), (∀ y ∈ ss, y.length <= B) -> (ss.map (·.length)).sum <= ss.length * B
 | [], _ => Nat.zero_le _
 | a :: r, h => by
  have h1 := sum_le r fun y hy => h y (.tail _ hy);have h2 := h a (.head _);simp only [List.map_cons, List.sum_cons, List.length_cons, Nat.add_mul, Nat.one_mul];omega
theorem join_strs {prog : Program} {l : Addr} {us : List Value} {ss : List Str} {sep : Str} {t : Tok} {n : Nat} (hl : s.heap.get? l = some (listOf us.toArray n)) (hs : StrsAre us ss) (hB : ∀ y ∈ ss, y.length <= 100) (hn : ss.length <= 100) (hsep : sep.length <= 10)
  (h : ∀ t' k, Q (.str (Txt.join sep ss) t') { s with toks := k }) : wpAny (model prog w) A (call (.builtin "str.join") [.str sep t, .ref l]) Q E s := by
 apply byc; intro O;obtain ⟨q, rfl, rfl⟩ := strs_values hs;apply O; clear O;refine SC.join ⟨_, hl, rfl, _, rfl⟩ rfl ?_ h;unfold JoinOk;rw [StrLaws.joinTotal];have h1 := sum_le (q.map (·.1)) hB;have h2 : (q.map (·.1)).length * sep.length <= 100 * 10 := Nat.mul_le_mul hn hsep;have h3 : (q.map (·.1)).length * 100 <= 100 * 100 := Nat.mul_le_mul_right _ hn;unfold Builtin.Str.tooLong;rw [sizeLine_eq, decide_eq_false (by omega)]; rfl
noncomputable def letterS (os : List Int) (c : Int) : Str := if c / 180 % 2 = 0 then cName c ++ hword (Str.ofString "x") (octA c os) (octB c os) else cName c ++ Str.ofString "=\"" ++ hword (Str.ofString "x\\\",x") (octA c os) (octB c os) ++ Str.ofString "\""
theorem hword_len (cs : Str) (a b : Nat) (h : cs.length <= 10) : (hword cs a b).length <= 25 := by
 have h1 := wr_length a;have h2 := wr_length b;change (wrL a).length <= 3 at h1;change (wrL b).length <= 3 at h2;show (([61, 63] ++ toL cs ++ [63, 113, 63] ++ (wrL a ++ wrL b) ++ [63, 61])).length <= 25;simp only [List.length_append, List.length_cons, List.length_nil, toL_len];omega
theorem letterS_len (os : List Int) (c : Int) : (letterS os c).length <= 100 := by
 have e1 : (Str.ofString "x").length <= 10 := by decide +kernel
 have e2 : (Str.ofString "x\\\",x").length <= 10 := by decide +kernel
 have e3 : (Str.ofString "=\"").length = 2 := by decide +kernel
 have e4 : (Str.ofString "\"").length = 1 := by decide +kernel
 have h1 := hword_len (Str.ofString "x") (octA c os) (octB c os) e1;have h2 := hword_len (Str.ofString "x\\\",x") (octA c os) (octB c os) e2;have hc : (cName c).length = 1 := rfl;unfold letterS;split
 ·rw [Str.length_append]; omega
 ·rw [Str.length_append, Str.length_append, Str.length_append]; omega
end
local macro_rules | `(tactic| walk_at $s) => hz s ["call builtin:list.append"]
local macro_rules | `(tactic| walk_at "call ref") => `(tactic| (k_here; rename Fr .. => kF; rename News .. => kN; (first
 | (refine clause_K kF (by assumption) kN (by assumption) rfl (qB rfl) (qB rfl) (by assumption) (by assumption) ?_; intro _ _ _ _ _ _ _ _ _ _)
 | (refine henc_KI kF (by assumption) kN (by assumption) rfl (qB rfl) (qB rfl) (by assumption) (by assumption) (by decide +kernel) ?_; intro _ _ _ _ _ _ _))))
local macro_rules | `(tactic| walk_at "call type:bytes") => `(tactic| (k_here; rename Fr .. => kF; rename News .. => kN; refine pair_K kF kN (List.Mem.head _) (by assumption) (by assumption) rfl ?_; intro _ _ _ _ _))
section
variable {Q : Value -> Shared -> Prop}
theorem letter_K {l l2 : Addr} {vs vs2 : List Value} {cs os : List Int} {nn nn2 : Nat} (F : Fr h! L s.heap m) (X : (Kq w.params).In h!) (N : News h! L s.heap news) (T : Top p loose mean mg mb h!)
  (hh : A.handled = none) (hd : A.depth <= 330) (hu : A.units <= 300)
  (hl : (l, listOf vs.toArray nn) ∈ news) (hl2 : (l2, listOf vs2.toArray nn2) ∈ news) (hvs : IntsAre vs cs) (hvs2 : IntsAre vs2 os) (hcs : cs.length = 7) (hcb : ∀ c ∈ cs, 0 <= c /\ c < 2 ^ 40) (hos : OctOk os)
  (ret : ∀ h' tk' t, Fr h! L h' m -> News h! L h' news -> (∀ b o, s.heap.get? b = some o -> h'.get? b = some o) -> Q (.str (Txt.join (Str.ofString ", ") ((cs.take 6).map (letterS os))) t) { s with heap := h', toks := tk' }) :
  wpAny (model PR w) A (call (.ref 154) [.ref l, .ref l2]) Q E s := by
 refine weak (A' := AL 1) hh hd hu rfl rfl ?_
 k_dflt (refine' enter (news := [(l, listOf vs.toArray nn), (l2, listOf vs2.toArray nn2)]) (binds := [(Str.ofString "cells", Value.ref l), (Str.ofString "octets", Value.ref l2)]) F.keep (fun p h => by rcases qC h with rfl | h; exact ⟨(N _ hl).1, (N _ hl).2.2⟩; rw [qS h]; exact ⟨(N _ hl2).1, (N _ hl2).2.2⟩) X T ?k6 ?k7 ?k8 ?k9 ?kB ?_ ?c2 ?c3 ?c4 ?c5; walk_at "ENTERED")
 clear X T;intro g' L' h' gz dz tz oz Rz hR hz0 X' T' F' N' l1
 try dsimp only
 have kL1 := IntsAre.length hvs;have kL2 := IntsAre.length hvs2;have hos1 := hos.1;k_steps;rename Fr .. => F9;rename News .. => N9;rename IntsAre _ (List.take 6 cs) => hsl;rename (List.take 6 cs).length = min 6 cs.length => hsn;rename _ /\ _ /\ _ => lts;rename List Value => ws;apply byc; intro O;obtain ⟨hDl, -, -⟩ := id lts;apply O; clear O;rename Addr => D1;rename l < _ /\ l2 < _ => lts2;unfold Halt
 with_unfolding_all refine' st_list (σ := List Value × List Str × Nat) (vs := ws) (nn := 0) (fun c => [(_, listOf c.1.toArray c.2.2), (D1, listOf ws.toArray 0), (l, listOf vs.toArray nn), (l2, listOf vs2.toArray nn2)]) (fun _ => []) (fun c => StrsAre c.1 c.2.1) [Str.ofString "name", Str.ofString "first", Str.ofString "second", Str.ofString "pair"] (fun i c => c.2.1 = ((cs.take 6).take i).map (letterS os)) ([], [], 0) (by rfl) (fun c => List.Mem.tail _ (List.Mem.head _)) F9 (news_swap N9) .nil (fun _ h => nomatch h) rfl ?_ ?_
 ·refine unc3 ?_;intro us ss k i v u h1 tk1 own hi hv hoff hfa hP F1 N1;dsimp only [kstB] at F1 N1 hfa hP hoff;simp only [List.nil_append, List.cons_append, List.append_nil] at N1;simp only [List.map_cons, List.map_nil] at hoff;have kLen := StrsAre.length hfa;have kMark : KstMark := kstMark;clear F9 N9;apply byc; intro O;obtain ⟨c, tc, rfl, hc⟩ := ints_at hsl hv;apply O; clear O;have hcm : c ∈ cs := List.mem_of_mem_take (qG hc);obtain ⟨hc0, hc1⟩ := hcb c hcm;have ho1 := hos.at (c / 5);have ho2 := hos.at (c / 30);have hcn : (cName c).length = 1 := rfl;have hw1 := wr_length (os.getD (c / 5 % 6).toNat 0).toNat;have hw2 := wr_length (os.getD (c / 30 % 6).toNat 0).toNat;have h180 : (c.fdiv 180).fmod 2 = c / 180 % 2 := by rw [Int.fdiv_eq_ediv_of_nonneg _ (by decide), Int.fmod_eq_emod_of_nonneg _ (by decide)]
  have hz : us.length <= 6 := by
   have h1 : ss.length <= 6 := by
    rw [hP, List.length_map, List.length_take, List.length_take];omega
   omega
  k_steps
  all_goals (
   unfold Halt;rename Fr .. => F8;rename News .. => N8;refine append_head F8 (fun p hp => N8 p (.tail _ (.tail _ hp))) ?_ (fun h9 F9 N9 => ?_) ?_
   ·refine List.forall_mem_cons.mpr ⟨Nat.ne_of_gt hDl, List.forall_mem_cons.mpr ⟨Nat.ne_of_lt lts2.1, List.forall_mem_cons.mpr ⟨Nat.ne_of_lt lts2.2, fun p hp => ?_⟩⟩⟩
    ·exact hoff p hp _ (.head _)
   ·clear F8 N8;simp only [List.push_toArray] at N9;k_steps;unfold Halt;refine st_end (_, _, _) F9 N9 (by kst_in) (by intro p hp; kst_mem) (by rfl) (StrsAre.append' hfa (.cons _ _ .nil)) (by kst_all) (by kst_same) ?_;dsimp only;rw [take_snoc hc, List.map_append, <- hP];congr 1;show [_] = [letterS os c];congr 1;unfold letterS
    first
     | (rw [if_pos (by rw [<- h180]; assumption)]; rfl)
     | (rw [if_neg (by rw [<- h180]; assumption)]; rfl)
   ·rw [List.size_toArray, sizeLine_eq];omega)
 ·refine unc3 ?_;intro us ss k u h1 tk1 hfa hP F1 N1;dsimp only [kstB] at F1 N1 hfa hP;clear F9 N9;k_steps;unfold Halt
  try dsimp only
  rename Fr .. => F6;rename News .. => N6;have hP2 : ss = (cs.take 6).map (letterS os) := by
   have h3 : ws.length = (cs.take 6).length := IntsAre.length hsl;rw [h3, List.take_length] at hP;exact hP
  subst hP2;refine join_strs (N6 _ (.head _)).1 hfa (fun y hy => ?_) (by rw [List.length_map, List.length_take]; omega) (by decide +kernel) fun t' k => ?_
  ·obtain ⟨c, hc, rfl⟩ := List.mem_map.mp hy;exact letterS_len os c
  ·k_steps
   try unfold Halt
   try dsimp only
   refine hR.out F6 N6 (fun p hp => by rcases qC hp with rfl | hp; exact .tail _ (.tail _ (.head _)); rw [qS hp]; exact .tail _ (.tail _ (.tail _ (.head _)))) fun ext fresh => ?_;obtain ⟨Fz, Nz⟩ := back0 F N ext;exact ret _ _ _ Fz Nz ext
end
end
section
noncomputable def hStep (st : List Str × Str × Bool × Bool) (c : Int) : List Str × Str × Bool × Bool :=
 if st.2.2.1 = true then (st.1, st.2.1 ++ ⟨#[c.toNat]⟩, false, st.2.2.2)
 else if st.2.2.2 = true then
  if c = 92 then (st.1, st.2.1, true, true)
  else (st.1, st.2.1 ++ ⟨#[c.toNat]⟩, false, if c = 34 then false else true)
 else if c = 44 then (st.1 ++ [st.2.1], Str.ofString "", false, false)
 else (st.1, st.2.1 ++ ⟨#[c.toNat]⟩, false, if c = 34 then true else false)
noncomputable def hRun (cs : List Int) : List Str × Str × Bool × Bool := cs.foldl hStep ([], Str.ofString "", false, false)
noncomputable def hParse (x : Str) : List Str := (if (hRun (KStt.codes x)).2.1.length = 0 then (hRun (KStt.codes x)).1 else (hRun (KStt.codes x)).1 ++ [(hRun (KStt.codes x)).2.1]).map Txt.strip
theorem hRun_snoc (pre : List Int) (c : Int) : hRun (pre ++ [c]) = hStep (hRun pre) c := by simp [hRun]
theorem one_beq (c d : Nat) : ((⟨#[c]⟩ : Str) == ⟨#[d]⟩) = decide (c = d) := by
 rw [Bool.eq_iff_iff];simp
theorem len1 (c : Nat) : (⟨#[c]⟩ : Str).length = 1 := rfl
theorem hEnd {c : Nat} {pre : List Int} {res res' : List Str} {part part' : Str} {esc q esc' q' : Bool} (hP : (res, part, esc, q) = hRun pre) (h : hStep (res, part, esc, q) c = (res', part', esc', q')) (h2 : part'.length <= pre.length + 1) (h3 : res'.length <= pre.length + 1) (h4 : ∀ r ∈ res', r.length <= pre.length + 1) :
  (res', part', esc', q') = hRun (pre ++ [(c : Int)]) /\ part'.length <= (pre ++ [(c : Int)]).length /\ res'.length <= (pre ++ [(c : Int)]).length /\ ∀ r ∈ res', r.length <= (pre ++ [(c : Int)]).length := by
 rw [hRun_snoc, <- hP, h, List.length_append, List.length_singleton];exact ⟨rfl, h2, h3, h4⟩
theorem b92 (c : Nat) : ((⟨#[c]⟩ : Str) == Str.ofString "\\") = decide (c = 92) := one_beq c 92
theorem b34 (c : Nat) : ((⟨#[c]⟩ : Str) == Str.ofString "\"") = decide (c = 34) := one_beq c 34
theorem b44 (c : Nat) : ((⟨#[c]⟩ : Str) == Str.ofString ",") = decide (c = 44) := one_beq c 44
theorem j92 (c : Nat) : ((c : Int) = 92) = (c = 92) := by rw [eq_iff_iff]; omega
theorem j34 (c : Nat) : ((c : Int) = 34) = (c = 34) := by rw [eq_iff_iff]; omega
theorem j44 (c : Nat) : ((c : Int) = 44) = (c = 44) := by rw [eq_iff_iff]; omega
section
local macro_rules | `(tactic| walk_at $s) => hz s ["execs cons Return nil"]
theorem http_K {w : World} {A : Around} {h! : Heap} {L : Addr} {m : Str -> Option Value} {news : List (Addr × Obj)} {s : Shared}
  {p : Program} {loose : List Str} {mean : ExcName -> Option Value} {mg mb : Str -> Option Value} {Q E : Value -> Shared -> Prop} {x : Str} {tk : Tok}
  (F : Fr h! L s.heap m) (X : (Kq w.params).In h!) (N : News h! L s.heap news) (T : Top p loose mean mg mb h!)
  (hh : A.handled = none) (hd : A.depth <= 330) (hu : A.units <= 300)
  (hx : x.length < 10000)
  (ret : ∀ r h' tk' ys k, Fr h! L h' m -> News h! L h' ((r, listOf ys.toArray k) :: news) -> (∀ p ∈ news, p.1 ≠ r) -> (∀ b o, s.heap.get? b = some o -> h'.get? b = some o) -> StrsAre ys (hParse x) -> Q (.ref r) { s with heap := h', toks := tk' }) :
  wpAny (model PR w) A (call (.ref 126) [.str x tk]) Q E s := by
 refine weak (A' := AL 1) hh hd hu rfl rfl ?_
 k_dflt (refine' enter (news := []) (binds := [(Str.ofString "s", Value.str x tk)]) F.keep (fun _ h => nomatch h) X T ?k6 ?k7 ?k8 ?k9 ?kB ?_ ?c2 ?c3 ?c4 ?c5; walk_at "ENTERED")
 clear X T;intro g' L' h' gz dz tz oz Rz hR hz0 X' T' F' N' l1
 try dsimp only
 have tail : ∀ (h2 : Heap) (tk2 : Tok) (m2 : Str -> Option Value) (r : Addr) (us2 : List Value) (res2 : List Str) (nn2 : Nat), Fr g' L' h2 m2 -> News g' L' h2 [(r, listOf us2.toArray nn2)] -> m2 (Str.ofString "res") = some (.ref r) -> StrsAre us2 res2 -> hParse x = res2.map Txt.strip -> (∀ r ∈ res2, r.length <= x.length) -> res2.length <= x.length + 1 ->
   wpAny (model PR w) ((AL 1).deeper (envOf (o "parse_http_list") (fs 25) L' 126 (Value.ref 125))) (execs (List.drop 5 (fb 25)) (envOf (o "parse_http_list") (fs 25) L' 126 (Value.ref 125))) (exitQ Rz) (fun _ _ => False) ⟨h2, gz, dz, tk2, oz⟩ := by
  intro h2 tk2 m2 r us2 res2 nn2 F2 N2 hm2 hfa2 hp2 hle hr2;have F3 : Fr g' L' h2 (fun y => if y = Str.ofString "res" then some (.ref r) else m2 y) := by
   have e : m2 = fun y => if y = Str.ofString "res" then some (.ref r) else m2 y := funext fun y => by
    by_cases q : y = Str.ofString "res"
    ·rw [if_pos q, q, hm2]
    ·rw [if_neg q]
   rw [e] at F2;exact F2
  clear F2;have hl2 := StrsAre.length hfa2;have kMark : KstMark := kstMark;k_steps;unfold Halt;rename Fr .. => F2;rename News .. => N2;refine lc_list (items := us2) rfl (fun i ys nx => nx = [(_, listOf us2.toArray nn2)] /\ ∃ ws, StrsAre ys ws /\ ws = (res2.take i).map Txt.strip) (fun i ys nx h => by rw [h.1]; exact List.Mem.head _) (by decide) rfl rfl F2 X' T' N2 ⟨rfl, [], .nil, rfl⟩ ?_ ?_ ?_
  ·intro g C E' i v ys nx own H tk9 u Xg Tg lC hi hv zp1 hoff F3 N3;apply byc; intro O;obtain ⟨rfl, ws, hws, hw⟩ := zp1;apply O; clear O;apply byc; intro O;obtain ⟨xi, ti, rfl, hxi⟩ := strs_at hfa2 hv;apply O; clear O;have hxl := hle xi (qG hxi);clear F2 N2;refine lc_nil ?_;k_steps;unfold Halt;rename Fr .. => F6;rename News .. => N6;exact LcEnd.intro _ F6 N6 (fun p hp => qL _ hp) (fun p hp => qR _ hp) hoff ⟨rfl, ws ++ [Txt.strip xi], StrsAre.append' hws (.cons _ _ .nil), by rw [take_snoc hxi, List.map_append, hw]; rfl⟩
  ·intro D C ys nx H tk9 k u zp1 hne hlt hDC hC hL hC0 hCn F4 N4;apply byc; intro O;obtain ⟨rfl, ws, hws, hw⟩ := zp1;apply O; clear O;refine lc_fin hDC hC hL hC0 hCn F4 N4 fun h5 F5 N5 => ?_;rw [List.take_of_length_le (by omega), <- hp2] at hw;subst hw;clear F2 N2;k_steps;unfold Halt;rename Fr .. => F6;rename News .. => N6;refine hR.out F6 N6 (fun _ h => nomatch h) fun ext fresh => ?_;apply byc; intro O;obtain ⟨Fz, Nz, nz⟩ := back F N ext (N6 _ (.head _)).1 (fresh _ (.head _) (fun h => nomatch h));apply O; clear O;exact ret _ _ _ _ _ Fz Nz nz ext hws
  ·rintro i ys nx hi ⟨_, ws, hws, hw⟩;rw [StrsAre.length hws, hw, List.length_map];have := List.length_take_le i res2;have : (res2.take i).length <= i := by rw [List.length_take]; omega
   show _ <= 16777216;omega
 k_steps;rename_i l9 h7 tk8 h6 h5 h4 F9 N9 _ _;unfold Halt
 with_unfolding_all refine' KStt.kst_text (σ := List Value × List Str × Nat × Str × Tok × Bool × Bool) (fun c => [(_, listOf c.1.toArray c.2.2.1)]) (fun c => [(Str.ofString "part", .str c.2.2.2.1 c.2.2.2.2.1), (Str.ofString "escape", .bool c.2.2.2.2.2.1), (Str.ofString "quote", .bool c.2.2.2.2.2.2)]) (fun c => StrsAre c.1 c.2.1) [] (fun pre c => (c.2.1, c.2.2.2.1, c.2.2.2.2.2.1, c.2.2.2.2.2.2) = hRun pre /\ c.2.2.2.1.length <= pre.length /\ c.2.1.length <= pre.length /\ ∀ r ∈ c.2.1, r.length <= pre.length) ([], [], 0, _, _, false, false) (by rfl) F9 N9 StrsAre.nil (by kst_all) ⟨rfl, Nat.zero_le _, Nat.zero_le _, fun _ h => nomatch h⟩ ?_ ?_
 ·refine unc7 ?_;intro us res nn part tp esc q pre post c tc u h1 tk1 own hcs hoff hfa zp1 F1 N1;apply byc; intro O;obtain ⟨hP, hP2, hP3, hP4⟩ := zp1;apply O; clear O;dsimp only [kstB] at F1 N1 hfa hP hP2 hP3 hoff;have kMark : KstMark := kstMark;have kL := congrArg List.length hcs;simp only [List.length_append, List.length_cons, KStt.codes_length] at kL;have kLen := StrsAre.length hfa;simp only [List.nil_append, List.cons_append, List.append_nil] at N1;simp only [List.map_cons, List.map_nil] at hoff;clear F9 N9;k_steps
  all_goals (unfold Halt; rename News .. => nE'; (try simp only [List.push_toArray] at nE'); refine kst_end (_, _, _, _, _, _, _) (by assumption) nE' (by first | kst_in | kst_inAny) (by first | (intro p hp; kst_mem) | kst_anyIn) (by rfl) (by first | assumption | exact StrsAre.append' (by assumption) (.cons _ _ .nil)) (by kst_all) (by kst_same) ?_)
  all_goals (try simp only [b92, b34, b44, decide_eq_true_eq, decide_eq_false_iff_not] at *)
  all_goals (refine hEnd hP ?_ ?_ ?_ ?_)
  all_goals (first | (simp [hStep, Int.toNat_natCast, j92, j34, j44, *]; done) | omega | (simp only [List.length_append, List.length_singleton, len1] at *; omega) | (show 0 <= _; omega) | (exact fun r hr => Nat.le_succ_of_le (hP4 r hr)) | (intro r hr; rcases qA hr with hr | hr; exact Nat.le_succ_of_le (hP4 r hr); rw [qS hr]; exact Nat.le_succ_of_le hP2))
 ·refine unc7 ?_;intro us res nn part tp esc q u h1 tk1 hfa zp1 F1 N1;apply byc; intro O;obtain ⟨hP, hP2, hP3, hP4⟩ := zp1;apply O; clear O;dsimp only [kstB] at F1 N1 hfa hP hP2 hP3;have kMark : KstMark := kstMark;have kLen := StrsAre.length hfa;simp only [KStt.codes_length] at hP2 hP3 hP4;k_steps
  ·unfold Halt;rename Fr .. => F2;rename News .. => N2;rename ((part.length : Int) ≠ 0) => hne;have hfa2 : StrsAre (us ++ [.str part tp]) (res ++ [part]) := StrsAre.append' hfa (.cons _ _ .nil);have hl2 : (us ++ [Value.str part tp]).length = (res ++ [part]).length := StrsAre.length hfa2;have hp2 : hParse x = (res ++ [part]).map Txt.strip := by
    unfold hParse;rw [<- hP, if_neg (by dsimp only; omega)]
   have hle : ∀ r ∈ res ++ [part], r.length <= x.length := fun r hr => by
    rcases qA hr with hr | hr
    ·exact hP4 r hr
    ·rw [qS hr]; exact hP2
   have hr2 : (res ++ [part]).length <= x.length + 1 := by rw [List.length_append, List.length_singleton]; omega
   (try simp only [List.push_toArray] at N2)
   generalize us ++ [Value.str part tp] = us2 at hfa2 hl2 N2;generalize res ++ [part] = res2 at hfa2 hl2 hp2 hle hr2;exact tail _ _ _ _ _ _ _ F2 N2 (by with_unfolding_all rfl) hfa2 hp2 hle hr2
  ·unfold Halt;rename Fr .. => F2;rename News .. => N2;rename (_ = (0 : Int)) => hne;have hp2 : hParse x = res.map Txt.strip := by
    unfold hParse;rw [<- hP, if_pos (by dsimp only; omega)]
   have hr2 : res.length <= x.length + 1 := by omega
   exact tail _ _ _ _ _ _ _ F2 N2 (by with_unfolding_all rfl) hfa hp2 hP4 hr2
end
end
section
section
open PySem.Builtin PySem.Builtin.Str
theorem splitMax_one (key val : PySem.Str) (hk : 61 ∉ toL key) : Txt.splitMax (key ++ Str.ofString "=" ++ val) (Str.ofString "=") 1 = [key, val] := by
 have e1 : PySem.Str.ofString "=" = ⟨#[61]⟩ := by decide +kernel
 rw [e1];have hL : toL (key ++ ⟨#[61]⟩ ++ val) = toL key ++ 61 :: toL val := by rw [toL_app, toL_app]; simp [toL]
 have hget : ∀ i : Nat, (key ++ ⟨#[61]⟩ ++ val : PySem.Str).cps.toList[i]? = (toL key ++ 61 :: toL val)[i]? := fun i => by rw [<- hL]; rfl
 generalize hx : key ++ ⟨#[61]⟩ ++ val = x at *;have hlen : x.length = key.length + 1 + val.length := by rw [<- hx, Str.length_append, Str.length_append]; rfl
 have hat : ∀ i : Nat, (i + (⟨#[61]⟩ : PySem.Str).length <= x.length /\ subAt x ⟨#[61]⟩ i = true) ↔ (toL key ++ 61 :: toL val)[i]? = some 61 := fun i => by rw [<- hget]; exact StrLaws.subAt_one x 61 i
 have hkey : (toL key ++ 61 :: toL val)[key.length]? = some 61 := by rw [<- toL_len, List.getElem?_append_right (Nat.le_refl _)]; simp
 have hno : ∀ k : Nat, k < key.length -> (toL key ++ 61 :: toL val)[k]? ≠ some 61 := fun k hk2 e => by
  rw [List.getElem?_append_left (by rw [toL_len]; exact hk2)] at e;exact hk (qG e)
 have ho : occurrences x ⟨#[61]⟩ 0 x.length 1 = [key.length] := by
  rcases StrLaws.occ_head x ⟨#[61]⟩ 1 (Nat.le_refl _) with ⟨_, hn⟩ | ⟨i, r, e, ha, hn⟩
  ·exact absurd ((hat _).mpr hkey) (hn _)
  ·have hi := (hat i).mp ha;have h1 : i = key.length := by
    rcases Nat.lt_trichotomy i key.length with h | h | h
    ·exact absurd hi (hno i h)
    ·exact h
    ·exact absurd ((hat _).mpr hkey) (hn _ h)
   have h2 := StrLaws.occ_length_le x ⟨#[61]⟩ 0 x.length 1;rw [e] at h2 ⊢;have : r = [] := List.eq_nil_of_length_eq_zero (by rw [List.length_cons] at h2; omega);rw [h1, this]
 have hmem : 61 ∈ x.cps.toList := qG (by rw [hget]; exact hkey);unfold Txt.splitMax;rw [if_neg, show limitOf x 1 = 1 from rfl, ho]
 ·rw [if_neg (fun h => by cases h), StrLaws.partsBetween_eq];show [strSub x 0 key.length, strSub x (key.length + 1) x.length] = _;have hxL : x.cps.toList = toL key ++ 61 :: toL val := hL;congr 1
  ·apply str_ext;show (strSub x 0 key.length).cps.toList = toL key;rw [StrLaws.strSub_toList, hxL];simp [<- toL_len]
  ·congr 1;apply str_ext;show (strSub x (key.length + 1) x.length).cps.toList = toL val;rw [StrLaws.strSub_toList, hxL, hlen];rw [<- toL_len, List.drop_append, List.drop_eq_nil_of_le (by omega), show (toL key).length + 1 - (toL key).length = 1 by omega, List.nil_append];show List.take _ (toL val) = _;exact List.take_of_length_le (by rw [toL_len]; omega)
 ·rw [Bool.or_eq_true, decide_eq_true_eq, decide_eq_true_eq];rintro (h | h)
  ·change x.length < 1 at h; omega
  ·exact StrLaws.kind_free x 61 h hmem
end
end
section
local macro_rules | `(tactic| walk_at "assign Tuple") => `(tactic| refine halt ?_)
section
variable {Q : Value -> Shared -> Prop}
noncomputable def unqt (v : Str) : Str := if (Txt.item v 0 == Str.ofString "\"") = true /\ (Txt.item v (-1) == Str.ofString "\"") = true then Txt.slice v (some 1) (some (-1)) else v
noncomputable def putS (sp : List (Str × Str)) (k v : Str) : List (Str × Str) := if sp.any (fun kv => kv.1 = k) then sp.map (fun kv => if kv.1 = k then (kv.1, v) else kv) else sp ++ [(k, v)]
def KvIs (kvs : List (Str × Value)) (sp : List (Str × Str)) : Prop := kvs.map (·.1) = sp.map (·.1) /\ StrsAre (kvs.map (·.2)) (sp.map (·.2))
noncomputable def specK (its : List (Str × Str)) : List (Str × Str) := its.foldl (fun sp q => putS sp q.1 (unqt q.2)) []
theorem stored_KvIs {kvs : List (Str × Value)} {sp : List (Str × Str)} {k v : Str} {t : Tok} (h : KvIs kvs sp) : KvIs (stored kvs k (.str v t)) (putS sp k v) := by
 obtain ⟨h1, h2⟩ := h;have hany : kvs.any (fun kv => decide (kv.1 = k)) = sp.any (fun kv => decide (kv.1 = k)) := by
  have e : ∀ {α : Type} (l : List (Str × α)), l.any (fun kv => decide (kv.1 = k)) = (l.map (·.1)).any (fun a => decide (a = k)) := fun l => by rw [List.any_map]; rfl
  rw [e, e, h1]
 unfold stored putS;rw [hany];by_cases hc : sp.any (fun kv => decide (kv.1 = k)) = true
 ·rw [if_pos hc, if_pos hc];clear hany hc
  induction kvs generalizing sp with
  | nil =>
   cases sp with
   | nil => exact ⟨rfl, .nil⟩
   | cons a r => cases h1
  | cons b kvs ih =>
   cases sp with
   | nil => cases h1
   | cons a r =>
    apply byc; intro O;obtain ⟨b1, b2⟩ := b;obtain ⟨a1, a2⟩ := a;apply O; clear O;simp only [List.map_cons, List.cons.injEq] at h1;obtain ⟨rfl, h1⟩ := h1;simp only [List.map_cons] at h2;cases h2 with
    | cons _ tt h2' =>
     obtain ⟨i1, i2⟩ := ih h1 h2';simp only [List.map_cons];by_cases hk : b1 = k
     ·rw [if_pos hk, if_pos hk];exact ⟨by simp only [List.map_cons]; rw [i1], by simp only [List.map_cons]; exact .cons _ _ i2⟩
     ·rw [if_neg hk, if_neg hk];exact ⟨by simp only [List.map_cons]; rw [i1], by simp only [List.map_cons]; exact .cons _ _ i2⟩
 ·rw [if_neg hc, if_neg hc];exact ⟨by simp [h1], by rw [List.map_append, List.map_append]; exact h2.append' (.cons _ _ .nil)⟩
theorem stored_len {kvs : List (Str × Value)} {k : Str} {v : Value} : (stored kvs k v).length <= kvs.length + 1 := by
 unfold stored;split <;> simp
theorem specK_snoc {its : List (Str × Str)} {i : Nat} {k v : Str} (h : its[i]? = some (k, v)) : specK (its.take (i + 1)) = putS (specK (its.take i)) k (unqt v) := by
 rw [take_snoc h];simp [specK, List.foldl_append]
local macro_rules | `(tactic| walk_at "z") => `(tactic| skip)
theorem keqv_K {l : Addr} {vs : List Value} {nn : Nat} {its : List (Str × Str)} {xs : List Str} (F : Fr h! L s.heap m) (X : (Kq w.params).In h!) (N : News h! L s.heap news) (T : Top p loose mean mg mb h!)
  (hh : A.handled = none) (hd : A.depth <= 330) (hu : A.units <= 300)
  (hl : (l, listOf vs.toArray nn) ∈ news) (hvs : StrsAre vs xs) (hx : xs = its.map fun q => q.1 ++ Str.ofString "=" ++ q.2) (hq : ∀ q ∈ its, 61 ∉ toL q.1 /\ q.1.length = 1 /\ 2 <= q.2.length /\ q.2.length <= 100) (hn : its.length <= 6)
  (ret : ∀ r h' tk' o kvs, Fr h! L h' m -> News h! L h' ((r, o) :: news) -> (∀ p ∈ news, p.1 ≠ r) -> (r == sysModules) = false -> (∀ b o, s.heap.get? b = some o -> h'.get? b = some o) -> o.IsDictOf (strKind PR w) kvs -> KvIs kvs (specK its) -> Q (.ref r) { s with heap := h', toks := tk' }) :
  wpAny (model PR w) A (call (.ref 121) [.ref l]) Q E s := by
 refine weak (A' := AL 1) hh hd hu rfl rfl ?_
 k_dflt (refine' enter (news := [(l, listOf vs.toArray nn)]) (binds := [(Str.ofString "l", Value.ref l)]) F.keep (fun p h => by rw [qS h]; exact ⟨(N _ hl).1, (N _ hl).2.2⟩) X T ?k6 ?k7 ?k8 ?k9 ?kB ?_ ?c2 ?c3 ?c4 ?c5; walk_at "ENTERED")
 clear X T;intro g' L' h' gz dz tz oz Rz hR hz0 X' T' F' N' l1
 try dsimp only
 k_steps;rename Fr .. => F9;rename News .. => N9;rename Obj.IsDictOf (intKind _ _) _ _ => hi1;rename Obj.IsDictOf (PySem.strKind _ _) _ _ => hs1;rename (_ == sysModules) = false => hlo;rename l < _ => llt;unfold Halt;clear hi1
 with_unfolding_all refine' st_list (σ := Obj × List (Str × Value)) (vs := vs) (nn := nn) (fun c => [(_, c.1), (l, listOf vs.toArray nn)]) (fun _ => []) (fun c => c.1.IsDictOf (strKind PR w) c.2) [Str.ofString "k", Str.ofString "v"] (fun i c => KvIs c.2 (specK (its.take i)) /\ c.2.length <= i) (_, []) (by rfl) (fun c => List.Mem.tail _ (List.Mem.head _)) F9 N9 hs1 (fun _ h => nomatch h) ⟨⟨rfl, .nil⟩, Nat.zero_le _⟩ ?_ ?_
 ·refine unc2 ?_;intro o kvs i v u h1 tk1 own hi hv hoff hfa zp1 F1 N1;apply byc; intro O;obtain ⟨hP, hP2⟩ := zp1;apply O; clear O;dsimp only [kstB] at F1 N1 hfa hP hP2 hoff;apply byc; intro O;obtain ⟨xi, ti, rfl, hxi⟩ := strs_at hvs hv;apply O; clear O;rw [hx, List.getElem?_map] at hxi;apply byc; intro O;obtain ⟨⟨key, val⟩, hit, hxe⟩ := Option.map_eq_some_iff.mp hxi;apply O; clear O;subst hxe;apply byc; intro O;obtain ⟨hk1, hk2, hv1, hv2⟩ := hq _ (qG hit);apply O; clear O;dsimp only at hk1 hk2 hv1 hv2;have hK : kvs.length <= 16777216 := by
   have h1 := StrsAre.length hvs;rw [hx, List.length_map] at h1;omega
  simp only [List.nil_append, List.cons_append, List.append_nil] at N1;simp only [List.map_cons, List.map_nil] at hoff;clear F9 N9;have hdz := Heap.lt_size (N1 _ (.head _)).1;have hlt := llt;k_steps;unfold Halt;rename_i sl h7 tk9 hsl hsS hsB hsI F8 N8;rw [splitMax_one key val hk1] at hsl;apply byc; intro O;obtain ⟨⟨ka, ta⟩, ⟨va, tb⟩, rfl, rfl, rfl⟩ : ∃ a b, sl = [a, b] /\ a.1 = key /\ b.1 = val := by
   match sl, hsl with
   | [a, b], h => exact ⟨a, b, rfl, by simpa using (List.cons.inj h).1, by simpa using (List.cons.inj (List.cons.inj h).2).1⟩
  apply O; clear O;dsimp only at *;refine kun_list F8 N8 ⟨_, (N8 _ (.head _)).1, rfl, _, rfl⟩ rfl rfl rfl fun h9 F9 N9 => ?_;clear F8 N8 hsI;change wpAny _ _ (assignInOrder _ [Value.str ka ta, Value.str va tb]) _ _ _;k_steps
  all_goals (
   unfold Halt;rename Fr .. => F8;rename News .. => N8;refine kda_set (knd := PySem.strKind _ _) F8 N8 (UpdF.tail (Nat.ne_of_gt hdz) (UpdF.head (List.forall_mem_cons.mpr ⟨Nat.ne_of_lt hlt, fun p hp => hoff p hp _ (.head _)⟩))) hfa (strKind_is _ _ _ _) (by rw [sizeLine_eq]; exact hK) fun h9 o9 F9 N9 hd9 => ?_
   try dsimp only at N9
   k_steps)
  all_goals (
   unfold Halt;rename Fr .. => F8;rename News .. => N8;rename Obj.IsDictOf _ _ (stored _ _ _) => hd9;refine st_end (_, _) F8 N8 (by kst_in) (by intro p hp; kst_mem) (by rfl) hd9 (by kst_all) (by kst_same) ⟨?_, Nat.le_trans stored_len (Nat.succ_le_succ hP2)⟩;rw [specK_snoc hit])
  all_goals (first
   | (rename (Txt.item va 0 == _) = true => e0; rename (Txt.item va (-1) == _) = true => e1; rw [unqt, if_pos ⟨e0, e1⟩]; exact stored_KvIs hP)
   | (rename (Txt.item va (-1) == _) = false => e1; rw [unqt, if_neg (fun h => by rw [e1] at h; cases h.2)]; exact stored_KvIs hP)
   | (rename (Txt.item va 0 == _) = false => e1; rw [unqt, if_neg (fun h => by rw [e1] at h; cases h.1)]; exact stored_KvIs hP))
 ·refine unc2 ?_;intro o kvs u h1 tk1 hfa zp1 F1 N1;apply byc; intro O;obtain ⟨hP, hP2⟩ := zp1;apply O; clear O;dsimp only [kstB] at F1 N1 hfa hP hP2;have hle : its.take vs.length = its := List.take_of_length_le (by have := StrsAre.length hvs; rw [hx, List.length_map] at this; omega);rw [hle] at hP;clear F9 N9;k_steps
  try unfold Halt
  try dsimp only
  rename Fr .. => F6;rename News .. => N6;refine hR.out F6 N6 (fun p hp => by rw [qS hp]; exact .tail _ (.head _)) fun ext fresh => ?_;have hfr : s.heap.get? _ = none := fresh _ (.head _) (fun h => absurd (congrArg Prod.fst (qS h)) (Nat.ne_of_gt llt));apply byc; intro O;obtain ⟨Fz, Nz, nz⟩ := back F N ext (N6 _ (.head _)).1 hfr;apply O; clear O;exact ret _ _ _ _ _ Fz Nz nz hlo ext hfa hP
end
end
section
section
open PySem.Builtin PySem.Builtin.Str
noncomputable def clipS (l : Option Int) (d : Int) (n : Nat) : Int := match l with | none => d | some i => max 0 (min (if i < 0 then i + n else i) n)
theorem idx_clip (l u : Option Int) (n : Nat) : strSliceIndices l u 1 n = sliceRange (clipS l 0 n) (clipS u n n) 1 := by
 cases l <;> cases u <;> rfl
theorem slice_at (x : PySem.Str) (l u : Option Int) (a b : Nat) (hl : clipS l 0 x.length = a) (hu : clipS u x.length x.length = b) (hab : a <= b) (hb : b <= x.length) :
  Txt.slice x l u = ⟨(((toL x).drop a).take (b - a)).toArray⟩ := by
 have e : strSliceIndices l u 1 x.length = strSliceIndices (some (a : Int)) (some (b : Int)) 1 x.length := by
  rw [idx_clip, idx_clip, hl, hu];have h1 : clipS (some (a : Int)) 0 x.length = a := by
   show max (0 : Int) (min (if (a : Int) < 0 then (a : Int) + x.length else a) x.length) = a;rw [if_neg (Int.not_lt.mpr (Int.natCast_nonneg a)), mmPos, Nat.min_eq_left (Nat.le_trans hab hb)]
  have h2 : clipS (some (b : Int)) x.length x.length = b := by
   show max (0 : Int) (min (if (b : Int) < 0 then (b : Int) + x.length else b) x.length) = b;rw [if_neg (Int.not_lt.mpr (Int.natCast_nonneg b)), mmPos, Nat.min_eq_left hb]
  rw [h1, h2]
 unfold Txt.slice;rw [e];have hp := StrLaws.sliced_plain x hab hb;split
 ·rename_i hc;have hlen : (strSliceIndices (some (a : Int)) (some (b : Int)) 1 x.length).length = x.length := by
   simpa using hc
  rw [StrLaws.strSliceIndices_plain hab hb, List.length_map, List.length_range] at hlen;apply str_ext;show toL x = ((toL x).drop a).take (b - a);have ha : a = 0 := by omega
  rw [ha, List.drop_zero, List.take_of_length_le (by rw [toL_len]; omega)]
 ·rw [hp]; rfl
theorem cut_word (pre : List Nat) (a b : Nat) : Txt.slice ⟨(pre ++ [a, b, 63, 61]).toArray⟩ (some (-4)) (some (-2)) = ⟨#[a, b]⟩ := by
 have hl : (⟨(pre ++ [a, b, 63, 61]).toArray⟩ : PySem.Str).length = pre.length + 4 := by
  show (pre ++ [a, b, 63, 61]).length = _;simp
 rw [slice_at _ _ _ pre.length (pre.length + 2) _ _ (by omega) (by rw [hl]; omega)]
 ·apply str_ext;rw [toL_mk, toL_mk, List.drop_left];simp;rfl
 ·rw [hl]; show max (0 : Int) (min (if (-4 : Int) < 0 then (-4 : Int) + ((pre.length + 4 : Nat) : Int) else -4) _) = _;rw [if_pos (by decide)]; exact mmNeg 4 (pre.length + 4)
 ·rw [hl]; show max (0 : Int) (min (if (-2 : Int) < 0 then (-2 : Int) + ((pre.length + 4 : Nat) : Int) else -2) _) = _;rw [if_pos (by decide)]; exact mmNeg 2 (pre.length + 4)
end
end
section
section
open PySem.Sre hiding Seen
noncomputable abbrev SSeen := PySem.Sre.Seen
noncomputable def CD : Array Nat := #[14, 8, 1, 3, 3, 1, 1, 61, 0, 16, 61, 24, 16, 2, 2, 13, 11, 9, 0, 67043328, 126, 126, 0, 0, 0, 0, 0, 1, 1]
noncomputable def isH (c : Nat) : Bool := (48 <= c && c <= 57) || (65 <= c && c <= 70) || (97 <= c && c <= 102)
noncomputable def SS (t : Array Nat) (s : Nat) (o : Bool) (k : SSeen) : M :=
 { code := CD, text := t, lim := t.size, start := s, lastStart := t.size, wholeText := false, mustAdvance := false, pc := 9, pos := s, handed := s, outermost := o, marks := #[], lastmark := -1, lastindex := -1, loops := #[], inner := none, frames := [{ wait := .nextStart, pc := 9, pos := s, outermost := o }], weight := 1, answer := none, seen := k, outcome := none }
noncomputable def SF (t : Array Nat) (s : Nat) (o : Bool) (pc pos : Nat) (k : SSeen) : M :=
 { code := CD, text := t, lim := t.size, start := s, lastStart := t.size, wholeText := false, mustAdvance := false, pc := pc, pos := pos, handed := s, outermost := o, marks := #[], lastmark := -1, lastindex := -1, loops := #[], inner := none, frames := [{ wait := .nextStart, pc := 9, pos := s, outermost := o }], weight := 1, answer := some false, seen := k, outcome := none }
noncomputable def SL (t : Array Nat) (s : Nat) (o : Bool) (k : SSeen) : M :=
 { code := CD, text := t, lim := t.size, start := s, lastStart := t.size, wholeText := false, mustAdvance := false, pc := 11, pos := s + 1, handed := s, outermost := o, marks := #[], lastmark := -1, lastindex := -1, loops := #[], inner := none, frames := [{ wait := .nextStart, pc := 9, pos := s, outermost := o }], weight := 1, answer := none, seen := k, outcome := none }
theorem acc9 (c : Nat) (k : SSeen) : accepts CD 9 c k = .ok (c == 61, k) := rfl
theorem step_end {t : Array Nat} {s : Nat} {o : Bool} {k : SSeen} (h : t.size <= s) : M.step (SS t s o k) = SF t s o 9 s (k.add 16) := by
 show M.exec (SS t s o k) = _;show (if s ≥ t.size then _ else _) = _;rw [if_pos h]; rfl
theorem step_no {t : Array Nat} {s : Nat} {o : Bool} {k : SSeen} (h : s < t.size) (hc : (t.getD s 0 == 61) = false) : M.step (SS t s o k) = SF t s o 9 s (k.add 16) := by
 show M.exec (SS t s o k) = _;show (if s ≥ t.size then _ else match accepts CD 9 (t.getD s 0) (k.add 16) with | .error why => _ | .ok (false, seen) => _ | .ok (true, seen) => _) = _;rw [if_neg (by omega), acc9, hc]; rfl
theorem step_lit {t : Array Nat} {s : Nat} {o : Bool} {k : SSeen} (h : s < t.size) (hc : (t.getD s 0 == 61) = true) : M.step (SS t s o k) = SL t s o (k.add 16) := by
 show M.exec (SS t s o k) = _;show (if s ≥ t.size then _ else match accepts CD 9 (t.getD s 0) (k.add 16) with | .error why => _ | .ok (false, seen) => _ | .ok (true, seen) => _) = _;rw [if_neg (by omega), acc9, hc]; rfl
theorem setH (c : Nat) : (decide (c < 256) && (CD.getD (17 + (1 + c / 32)) 0).testBit (c % 32)) = isH c := by
 by_cases h : c < 256
 ·have H : ∀ c : Nat, c < 256 -> (decide (c < 256) && (CD.getD (17 + (1 + c / 32)) 0).testBit (c % 32)) = isH c := by decide +kernel
  exact H c h
 ·rw [decide_eq_false h, Bool.false_and];have h1 : decide (c <= 57) = false := decide_eq_false (by omega);have h2 : decide (c <= 70) = false := decide_eq_false (by omega);have h3 : decide (c <= 102) = false := decide_eq_false (by omega);simp [isH, h1, h2, h3]
theorem acc15 (c : Nat) (k : SSeen) : ∃ k', accepts CD 15 c k = .ok (isH c, k') := by
 show ∃ k', (if (decide (c < 256) && (CD.getD (17 + (1 + c / 32)) 0).testBit (c % 32)) = true then Except.ok (true, _) else inSet CD c 28 26 true _) = _;rw [setH];cases isH c
 ·exact ⟨_, rfl⟩
 ·exact ⟨_, rfl⟩
theorem step_short {t : Array Nat} {s : Nat} {o : Bool} {k : SSeen} (h : t.size < s + 3) : M.step (SL t s o k) = SF t s o 11 (s + 1) (k.add 24) := by
 show M.exec (SL t s o k) = _;show (if ((2 : Nat) : Int) > (t.size : Int) - ((s + 1 : Nat) : Int) then _ else _) = _;rw [if_pos (by omega)]; rfl
noncomputable def SG (t : Array Nat) (s : Nat) (o : Bool) (k : SSeen) : M :=
 { code := CD, text := t, lim := t.size, start := s, lastStart := t.size, wholeText := false, mustAdvance := false, pc := 28, pos := s + 3, handed := s + 3, outermost := o, marks := #[], lastmark := -1, lastindex := -1, loops := #[], inner := none, frames := [{ wait := .giveBack, pc := 11, pos := s + 3, outermost := o, count := 2, kept := { lastmark := -1, lastindex := -1, whole := false, marks := #[] } }, { wait := .nextStart, pc := 9, pos := s, outermost := o }], weight := 2, answer := none, seen := k, outcome := none }
theorem step_rep {t : Array Nat} {s : Nat} {o : Bool} {k : SSeen} (h : s + 3 <= t.size) : ∃ k', M.step (SL t s o k) = if isH (t.getD (s + 1) 0) && isH (t.getD (s + 2) 0) then SG t s o k' else SF t s o 11 (s + 1) k' := by
 obtain ⟨k1, e1⟩ := acc15 (t.getD (s + 1) 0) ((k.add 24).add 13);obtain ⟨k2, e2⟩ := acc15 (t.getD (s + 2) 0) k1;have hm : min 2 ((t.size : Int) - ((s + 1 : Nat) : Int)).toNat = 2 := by omega
 show ∃ k', M.exec (SL t s o k) = _;have hr : run CD t 15 2 (s + 1) 0 ((k.add 24).add 13) = if isH (t.getD (s + 1) 0) then (if isH (t.getD (s + 2) 0) then .ok (2, k2) else .ok (1, k2)) else .ok (0, k1) := by
  show (do let (yes, seen) <- accepts CD 15 (t.getD (s + 1) 0) ((k.add 24).add 13); if yes then run CD t 15 1 (s + 2) 1 seen else pure (0, seen)) = _;rw [e1];cases isH (t.getD (s + 1) 0)
  ·rfl
  ·show (do let (yes, seen) <- accepts CD 15 (t.getD (s + 2) 0) k1; if yes then run CD t 15 0 (s + 3) 2 seen else pure (1, seen)) = _;rw [e2];cases isH (t.getD (s + 2) 0) <;> rfl
 have hx : M.exec (SL t s o k) = (if ((2 : Nat) : Int) > (t.size : Int) - ((s + 1 : Nat) : Int) then SF t s o 11 (s + 1) (k.add 24) else match run CD t 15 (min 2 ((t.size : Int) - ((s + 1 : Nat) : Int)).toNat) (s + 1) 0 ((k.add 24).add 13) with
   | .error why => { SL t s o k with seen := k.add 24 }.stick why
   | .ok (n, seen) => if n < 2 then { SL t s o k with seen }.say false else { SL t s o k with seen, pos := s + 1 + n }.afterRun .giveBack n ({ SL t s o k with seen, pos := s + 1 + n }.keep false)) := rfl
 rw [hx];rw [if_neg (by omega), hm, hr];cases isH (t.getD (s + 1) 0)
 ·exact ⟨k1, rfl⟩
 ·cases isH (t.getD (s + 2) 0)
  ·exact ⟨k2, rfl⟩
  ·exact ⟨k2, rfl⟩
theorem runFor_done {m : M} (h : m.outcome.isSome = true) : ∀ n, M.runFor n m = m
 | 0 => rfl
 | n + 1 => by show (if m.outcome.isSome = true then m else _) = m; rw [if_pos h]
theorem runFor_add (b : Nat) : ∀ (a : Nat) (m : M), M.runFor (a + b) m = M.runFor b (M.runFor a m)
 | 0, m => by rw [Nat.zero_add]; rfl
 | a + 1, m => by
  rw [Nat.add_right_comm];show (if m.outcome.isSome = true then m else _) = M.runFor b (if m.outcome.isSome = true then m else _);by_cases h : m.outcome.isSome = true
  ·rw [if_pos h, if_pos h, runFor_done h]
  ·rw [if_neg h, if_neg h]; exact runFor_add b a m.step
def Gets (n : Nat) (m f : M) : Prop := ∃ k, k <= n /\ M.runFor k m = f
theorem Gets.step {n : Nat} {m f : M} (ho : m.outcome = none) (h : Gets n m.step f) : Gets (n + 1) m f := by
 obtain ⟨k, hk, e⟩ := h;exact ⟨k + 1, by omega, by show (if m.outcome.isSome = true then m else M.runFor k m.step) = f; rw [ho]; exact e⟩
theorem Gets.here {n : Nat} {m : M} : Gets n m m := ⟨0, Nat.zero_le _, rfl⟩
structure Hit (m : M) (s : Nat) : Prop where
 out : m.outcome = some .matched
 start : m.start = s
 handed : m.handed = s + 3
 lm : m.lastmark = -1
 li : m.lastindex = -1
 marks : m.marks = #[]
theorem sg_hit {t : Array Nat} {s : Nat} {o : Bool} {k : SSeen} : ∃ f, Hit f s /\ Gets 4 (SG t s o k) f := by
 cases o <;> exact ⟨_, ⟨rfl, rfl, rfl, rfl, rfl, rfl⟩, Gets.step rfl (Gets.step rfl (Gets.step rfl (Gets.step rfl (Gets.here (m := M.step (M.step (M.step (M.step _))))))))⟩
theorem sf_next {t : Array Nat} {s : Nat} {o : Bool} {pc pos : Nat} {k : SSeen} (h : s < t.size) : M.step (SF t s o pc pos k) = SS t (s + 1) false k := by
 show (if s < t.size then _ else _) = _;rw [if_pos h]; rfl
theorem sf_end {t : Array Nat} {s : Nat} {o : Bool} {pc pos : Nat} {k : SSeen} (h : t.size <= s) : ∃ f, f.outcome = some Outcome.failed /\ Gets 2 (SF t s o pc pos k) f := by
 have e : M.step (SF t s o pc pos k) = { SF t s o 9 s k with frames := [], weight := 0 } := by
  show (if s < t.size then _ else _) = _;rw [if_neg (by omega)]; rfl
 refine ⟨M.step { SF t s o 9 s k with frames := [], weight := 0 }, rfl, Gets.step rfl ?_⟩;rw [e];exact Gets.step rfl Gets.here
noncomputable def hitAt (t : Array Nat) (s : Nat) : Bool := decide (s + 3 <= t.size) && (t.getD s 0 == 61 && (isH (t.getD (s + 1) 0) && isH (t.getD (s + 2) 0)))
theorem ss_hit {t : Array Nat} {s : Nat} {o : Bool} {k : SSeen} (h : hitAt t s = true) : ∃ f, Hit f s /\ Gets 8 (SS t s o k) f := by
 simp only [hitAt, Bool.and_eq_true, decide_eq_true_eq] at h;obtain ⟨h1, h2, h3, h4⟩ := h;obtain ⟨k', e⟩ := step_rep (o := o) (k := k.add 16) h1;rw [h3, h4] at e;obtain ⟨f, hf, n, hn, hg⟩ := sg_hit (t := t) (s := s) (o := o) (k := k');refine ⟨f, hf, .step rfl ?_⟩;rw [step_lit (by omega) h2];refine .step rfl ?_;rw [e];exact ⟨n, by omega, hg⟩
theorem ss_miss {t : Array Nat} {s : Nat} {o : Bool} {k : SSeen} (h : hitAt t s = false) : ∃ n pc pos k', n <= 2 /\ M.runFor n (SS t s o k) = SF t s o pc pos k' := by
 by_cases hs : s < t.size
 ·cases hc : t.getD s 0 == 61 with
  | false => exact ⟨1, _, _, _, by decide, step_no hs hc⟩
  | true =>
   have e2 : M.runFor 2 (SS t s o k) = M.step (M.step (SS t s o k)) := by
    show (if (SS t s o k).outcome.isSome = true then _ else if (SS t s o k).step.outcome.isSome = true then _ else M.runFor 0 _) = _;rw [if_neg (fun h => by cases h), step_lit hs hc, if_neg (fun h => by cases h)]; rfl
   by_cases h3 : s + 3 <= t.size
   ·obtain ⟨k', e⟩ := step_rep (o := o) (k := k.add 16) h3;have hh : (isH (t.getD (s + 1) 0) && isH (t.getD (s + 2) 0)) = false := by
     rw [hitAt, decide_eq_true h3, hc, Bool.true_and, Bool.true_and] at h;exact h
    rw [hh] at e;exact ⟨2, _, _, _, by decide, by rw [e2, step_lit hs hc, e]; rfl⟩
   ·exact ⟨2, _, _, _, by decide, by rw [e2, step_lit hs hc, step_short (by omega)]⟩
 ·exact ⟨1, _, _, _, by decide, step_end (by omega)⟩
theorem search_hit {t : Array Nat} {j : Nat} (hj : hitAt t j = true) : ∀ (d s : Nat) (o : Bool) (k : SSeen), s + d = j -> (∀ i, s <= i -> i < j -> hitAt t i = false) -> ∃ f, Hit f j /\ Gets (8 * d + 8) (SS t s o k) f
 | 0, s, o, k, e, _ => by
  obtain rfl : s = j := by omega
  exact ss_hit hj
 | d + 1, s, o, k, e, h => by
  obtain ⟨n, pc, pos, k', hn, hr⟩ := ss_miss (o := o) (k := k) (h s (Nat.le_refl _) (by omega));have hz : j < t.size := by
   simp only [hitAt, Bool.and_eq_true, decide_eq_true_eq] at hj;omega
  obtain ⟨f, hf, q, hq, hg⟩ := search_hit hj d (s + 1) false k' (by omega) fun i h1 h2 => h i (by omega) h2;refine ⟨f, hf, n + (1 + q), by omega, ?_⟩;rw [runFor_add, hr, runFor_add, show M.runFor 1 (SF t s o pc pos k') = M.step (SF t s o pc pos k') from rfl, sf_next (by omega)];exact hg
theorem search_miss {t : Array Nat} : ∀ (d s : Nat) (o : Bool) (k : SSeen), s + d = t.size -> (∀ i, s <= i -> hitAt t i = false) -> ∃ f, f.outcome = some Outcome.failed /\ Gets (8 * d + 8) (SS t s o k) f
 | 0, s, o, k, e, h => by
  obtain ⟨n, pc, pos, k', hn, hr⟩ := ss_miss (o := o) (k := k) (h s (Nat.le_refl _));obtain ⟨f, hf, q, hq, hg⟩ := sf_end (t := t) (s := s) (o := o) (pc := pc) (pos := pos) (k := k') (by omega);refine ⟨f, hf, n + q, by omega, ?_⟩;rw [runFor_add, hr]; exact hg
 | d + 1, s, o, k, e, h => by
  obtain ⟨n, pc, pos, k', hn, hr⟩ := ss_miss (o := o) (k := k) (h s (Nat.le_refl _));obtain ⟨f, hf, q, hq, hg⟩ := search_miss d (s + 1) false k' (by omega) fun i h1 => h i (by omega);refine ⟨f, hf, n + (1 + q), by omega, ?_⟩;rw [runFor_add, hr, runFor_add, show M.runFor 1 (SF t s o pc pos k') = M.step (SF t s o pc pos k') from rfl, sf_next (by omega)];exact hg
end
end
section
section
open PySem.Sre hiding Seen
open PySem.Builtin.Re
theorem find_at {t : Array Nat} {s : Nat} (h : s + 3 <= t.size) : forSearch CD t 0 s t.size false = SS t s true (({} : SSeen).add 14) := by
 have hb : (decide (s > t.size) || decide (t.size - s < 3)) = false := by rw [decide_eq_false (by omega), decide_eq_false (by omega)]; rfl
 show (if (decide (s > t.size) || decide (t.size - s < 3)) = true then _ else _) = _;rw [hb, if_neg (by decide)]; rfl
theorem find_short {t : Array Nat} {s : Nat} (h : t.size < s + 3) : ∃ f, f.outcome = some Outcome.failed /\ Gets 1 (forSearch CD t 0 s t.size false) f := by
 have hb : (decide (s > t.size) || decide (t.size - s < 3)) = true := by
  by_cases h1 : s > t.size
  ·rw [decide_eq_true h1]; rfl
  ·rw [decide_eq_true (show t.size - s < 3 by omega), Bool.or_true]
 have e : forSearch CD t 0 s t.size false = { SS t s true (({} : SSeen).add 14) with lastStart := 0, frames := [], weight := 0, answer := some false } := by
  show (if (decide (s > t.size) || decide (t.size - s < 3)) = true then _ else _) = _;rw [hb, if_pos rfl]; rfl
 rw [e];exact ⟨_, rfl, Gets.step rfl Gets.here⟩
theorem gets_find_hit {t : Array Nat} {s j : Nat} (hj : hitAt t j = true) (hs : s <= j) (hm : ∀ i, s <= i -> i < j -> hitAt t i = false) : ∃ f, Hit f j /\ Gets (8 * t.size + 8) (forSearch CD t 0 s t.size false) f := by
 have hz : j + 3 <= t.size := by
  simp only [hitAt, Bool.and_eq_true, decide_eq_true_eq] at hj;omega
 rw [find_at (by omega)];apply byc; intro O;obtain ⟨f, hf, n, hn, hg⟩ := search_hit hj (j - s) s true (({} : SSeen).add 14) (by omega) hm;apply O; clear O;exact ⟨f, hf, n, by omega, hg⟩
theorem gets_find_miss {t : Array Nat} {s : Nat} (hm : ∀ i, s <= i -> hitAt t i = false) : ∃ f, f.outcome = some Outcome.failed /\ Gets (8 * t.size + 8) (forSearch CD t 0 s t.size false) f := by
 by_cases h : s + 3 <= t.size
 ·rw [find_at h];apply byc; intro O;obtain ⟨f, hf, n, hn, hg⟩ := search_miss (t.size - s) s true (({} : SSeen).add 14) (by omega) hm;apply O; clear O;exact ⟨f, hf, n, by omega, hg⟩
 ·obtain ⟨f, hf, n, hn, hg⟩ := find_short (t := t) (s := s) (by omega);exact ⟨f, hf, n, by omega, hg⟩
variable {MM : Model} {A : Around} {E : Value -> Shared -> Prop} {s : Shared}
theorem wp_drive {f : M} {Q : M -> Shared -> Prop} (ho : f.outcome.isSome = true) (h : Q f s) : ∀ (T n : Nat) (m : M), M.runFor n m = f -> n <= 4 * T -> 0 < T -> wpAny MM A (reDrive T m) Q E s
 | 0, _, _, _, _, h0 => absurd h0 (Nat.lt_irrefl 0)
 | T + 1, n, m, e, hn, _ => by
  show wpAny MM A (if (M.runFor 4 m).outcome.isSome = true then pure (M.runFor 4 m) else do rule "sre.turn"; reDrive T (M.runFor 4 m)) Q E s;by_cases h4 : n <= 4
  ·have e4 : M.runFor 4 m = f := by
    rw [show 4 = n + (4 - n) by omega, runFor_add, e, runFor_done ho]
   rw [e4, if_pos ho];exact wpAny_pure h
  ·have e4 : M.runFor (n - 4) (M.runFor 4 m) = f := by
    rw [<- runFor_add, show 4 + (n - 4) = n by omega]; exact e
   by_cases hs : (M.runFor 4 m).outcome.isSome = true
   ·rw [runFor_done hs] at e4;rw [if_pos hs, e4];exact wpAny_pure h
   ·rw [if_neg hs];exact wpAny_bind (wpAny_rule (wp_drive ho h T (n - 4) _ e4 (by omega) (by omega)))
theorem wp_run {f m : M} {n : Nat} {Q : Option M -> Shared -> Prop} (hg : Gets n m f) (hn : n < 2 ^ 60) (ho : (f.outcome = some .matched /\ Q (some f) s) \/ (f.outcome = some .failed /\ Q none s)) : wpAny MM A (reRunToEnd m) Q E s := by
 apply byc; intro O;obtain ⟨k, hk, e⟩ := hg;apply O; clear O;have hsome : f.outcome.isSome = true := by rcases ho with ⟨h, _⟩ | ⟨h, _⟩ <;> rw [h] <;> rfl
 refine wpAny_bind (wp_drive hsome ?_ (2 ^ 64) k m e (by omega) (by decide));refine wpAny_bind (wpAny_forIn_list _ (fun _ _ s' => s' = s) _ (fun x rest b s' hi => ?_) (fun b s' hi => ?_) _ _ rfl)
 ·subst hi;split
  ·exact wpAny_bind (wpAny_rule (wpAny_pure rfl))
  ·exact wpAny_pure rfl
 ·subst hi;rcases ho with ⟨h, hq⟩ | ⟨h, hq⟩
  ·rw [h]; exact wpAny_pure hq
  ·rw [h]; exact wpAny_pure hq
theorem next_hit {tg : ReTarget} {s0 j : Nat} {Q : Option M -> Shared -> Prop} (hc : tg.code = CD) (hg : tg.groups = 0) (hl : tg.lim = tg.text.size) (hj : hitAt tg.text j = true) (hs : s0 <= j) (hm : ∀ i, s0 <= i -> i < j -> hitAt tg.text i = false) (hz : tg.text.size < 10000)
  (h : ∀ f, Hit f j -> Q (some f) s) : wpAny MM A (reNextFound tg s0 false) Q E s := by
 unfold reNextFound;rw [hc, hg, hl];apply byc; intro O;obtain ⟨f, hf, hG⟩ := gets_find_hit hj hs hm;apply O; clear O;exact wp_run hG (by omega) (.inl ⟨hf.out, h f hf⟩)
theorem next_miss {tg : ReTarget} {s0 : Nat} {Q : Option M -> Shared -> Prop} (hc : tg.code = CD) (hg : tg.groups = 0) (hl : tg.lim = tg.text.size) (hm : ∀ i, s0 <= i -> hitAt tg.text i = false) (hz : tg.text.size < 10000)
  (h : Q none s) : wpAny MM A (reNextFound tg s0 false) Q E s := by
 unfold reNextFound;rw [hc, hg, hl];apply byc; intro O;obtain ⟨f, hf, hG⟩ := gets_find_miss hm;apply O; clear O;exact wp_run hG (by omega) (.inr ⟨hf, h⟩)
end
end
section
section
open PySem.Builtin PySem.Builtin.Re
theorem plainAttrs_Match : PlainAttrs "re.Match" :=
 ⟨⟨"object.__getattribute__", by rw [typeLookup_type, builtinLookup_eq_fast]; kernel_rfl, by decide +kernel⟩, by rw [typeLookup_type, builtinLookup_eq_fast]; kernel_rfl⟩
theorem slot_Match_group : Slot "re.Match" "group" "re.Match.group" :=
 .of (owner := "re.Match") (n := "group") (by rw [typeLookup_type, builtinLookup_eq_fast]; kernel_rfl) (by decide +kernel) (by decide +kernel) (by decide +kernel)
  (by first | exact .inl (by decide +kernel) | exact .inr (by decide +kernel)) (by rw [isSubtype_type]; kernel_rfl)
theorem type_Match_group : typeOf (.builtin "re.Match.group") = pure (.type "method_descriptor") := by show builtinType _ = _; rw [builtinType_eq_fast]; kernel_rfl
theorem entry_Match_group : entryFor table "re.Match.group" = some Builtin.«re.Match.group» := entryFor_of_tree (by kernel_rfl)
theorem args_Match_group_2 (a b : Value) : argsOk "re.Match.group" ⟨[a, b], []⟩ := by
 unfold argsOk; kernel_rfl
theorem plainAttrs_Pattern : PlainAttrs "re.Pattern" :=
 ⟨⟨"object.__getattribute__", by rw [typeLookup_type, builtinLookup_eq_fast]; kernel_rfl, by decide +kernel⟩, by rw [typeLookup_type, builtinLookup_eq_fast]; kernel_rfl⟩
theorem slot_Pattern_sub : Slot "re.Pattern" "sub" "re.Pattern.sub" :=
 .of (owner := "re.Pattern") (n := "sub") (by rw [typeLookup_type, builtinLookup_eq_fast]; kernel_rfl) (by decide +kernel) (by decide +kernel) (by decide +kernel)
  (by first | exact .inl (by decide +kernel) | exact .inr (by decide +kernel)) (by rw [isSubtype_type]; kernel_rfl)
theorem type_Pattern_sub : typeOf (.builtin "re.Pattern.sub") = pure (.type "method_descriptor") := by show builtinType _ = _; rw [builtinType_eq_fast]; kernel_rfl
theorem entry_Pattern_sub : entryFor table "re.Pattern.sub" = some Builtin.«re.Pattern.sub» := entryFor_of_tree (by kernel_rfl)
theorem args_Pattern_sub_3 (a b c : Value) : argsOk "re.Pattern.sub" ⟨[a, b, c], []⟩ := by
 unfold argsOk; kernel_rfl
theorem entry_sub_loop : entryFor table "re.Pattern.sub.loop" = some Builtin.«re.Pattern.sub.loop» := entryFor_of_tree (by kernel_rfl)
theorem plain_sub_loop : plainId "re.Pattern.sub.loop" = true := by decide +kernel
variable {w : World}
theorem pat64 : ∃ vs : List Value, (Kq w.params).lookup 64 = some ⟨.type "re.Pattern", none, .fields vs.toArray, #[]⟩ /\ vs.length = 7 /\ vs[5]? = some (.ref 63) /\ reRawNat (vs.getD 6 .none) = 0 /\ reRawNat (vs.getD 2 .none) = 0 /\ vs[3]? = some (.none) := by
 refine ⟨_, by k_is, rfl, rfl, rfl, rfl, rfl⟩
theorem code63 : ∃ (vs : List Value) (n : Nat), (Kq w.params).lookup 63 = some ⟨.type "tuple", none, .seq vs.toArray n, #[]⟩ /\ (vs.toArray.map reRawOf).map (·.toNat) = CD := by
 refine ⟨_, _, by k_is, by kernel_rfl⟩
theorem group_meets {a b pt : Addr} {x : PySem.Str} {t u t1 t2 : Tok} {i j n : Nat} {p2 p3 p4 : Value} (hx : x.length <= 1000) :
  Meets («re.Match.group» ⟨[.ref a, .int 0 u], []⟩) (fun _ R s => s.heap.get? a = some ⟨.type "re.Match", none, .fields #[.str x t, .ref pt, p2, p3, p4, .ref b], #[]⟩ /\
   s.heap.get? b = some ⟨.type "tuple", none, .seq #[.int (i : Int) t1, .int (j : Int) t2] n, #[]⟩ /\ ∀ t' k, R (.ok (.ret (.str ⟨x.cps.extract i j⟩ t'))) { s with toks := k }) := by
 refine .of_wp fun prog w A R s h => ?_;apply byc; intro O;obtain ⟨hp, g, d, tk, os⟩ := s;obtain ⟨ha, hb, h⟩ := h;apply O; clear O;dsimp only at ha hb h;have h1 : ((decide ((i : Int) < 0)) || decide ((j : Int) < 0)) = false := by rw [decide_eq_false (by omega), decide_eq_false (by omega)]; rfl
 wp_walk
 have e : Array.map reRawOf #[Value.int (i : Int) t1, Value.int (j : Int) t2] = #[(i : Int), (j : Int)] := by
  show Array.map reRawOf (List.toArray [_, _]) = _;rw [List.map_toArray]; rfl
 simp only [Option.getD_some, e];show wpAny _ _ (if (decide ((i : Int) < 0) || decide ((j : Int) < 0)) = true then pure Value.none else reTextOf (Value.str x t) >>= fun q => reSlice q.1 q.2 (i : Int).toNat (j : Int).toNat) _ _ _;rw [h1, if_neg (by decide)];refine wpAny_bind (wpAny_pure ?_);refine wpAny_mkStr ?_ ?_
 ·exact wpAny_pure ⟨_, rfl, h _ _⟩
 ·show (x.cps.extract (i : Int).toNat (j : Int).toNat).size <= _;rw [Array.size_extract, sizeLine_eq];change x.cps.size <= 1000 at hx;exact Nat.le_trans (Nat.sub_le _ _) (Nat.le_trans (Nat.min_le_right _ _) (Nat.le_trans hx (by decide)))
theorem group0 {prog : Program} {A : Around} {E : Value -> Shared -> Prop} {s : Shared} {Q : Value -> Shared -> Prop} {a b pt : Addr} {x : PySem.Str} {t u t1 t2 : Tok} {i j n : Nat} {p2 p3 p4 : Value} (hx : x.length <= 1000)
  (ha : s.heap.get? a = some ⟨.type "re.Match", none, .fields #[.str x t, .ref pt, p2, p3, p4, .ref b], #[]⟩)
  (hb : s.heap.get? b = some ⟨.type "tuple", none, .seq #[.int (i : Int) t1, .int (j : Int) t2] n, #[]⟩)
  (h : ∀ t' k, Q (.str ⟨x.cps.extract i j⟩ t') { s with toks := k }) : wpAny (model prog w) A (call (.builtin "re.Match.group") [.ref a, .int 0 u]) Q E s :=
 call_meets slot_Match_group (show s.TypeIs (.ref a) "re.Match" from ⟨_, ha, rfl⟩) entry_Match_group (args_Match_group_2 _ _) (group_meets hx) ⟨ha, hb, h⟩
end
end
section
section
open PySem.Builtin PySem.NumText
theorem read16_all : ((List.range 16).map fun a => (List.range 16).map fun b => (int_private% "readNumeral") 0 16 [hexd a, hexd b]) = (List.range 16).map fun a => (List.range 16).map fun b => (int_private% "Numeral.value") ((16 * a + b : Nat) : Int) := by kernel_rfl
theorem read16 {a b : Nat} (ha : a < 16) (hb : b < 16) : (int_private% "readNumeral") 0 16 [hexd a, hexd b] = (int_private% "Numeral.value") ((16 * a + b : Nat) : Int) := by
 have h := congrArg (fun l => (l[a]?).bind fun r => r[b]?) read16_all;simp only [List.getElem?_map, List.getElem?_range ha, List.getElem?_range hb, Option.map_some, Option.bind_some] at h;exact Option.some.inj h
theorem hexd_lt {a : Nat} (ha : a < 16) : 48 <= hexd a /\ hexd a < 128 := by unfold hexd; split <;> omega
theorem wp_text16 {M : Model} {A : Around} {E : Value -> Shared -> Prop} {s : Shared} {Q : Value -> Shared -> Prop} {v : Value} {text : List Nat} {base : Nat} {a b : Nat} (et : text = [hexd a, hexd b]) (eb : base = 16) (ha : a < 16) (hb : b < 16)
  (h : Q (.int ((16 * a + b : Nat) : Int) s.toks) { s with toks := s.toks + 1 }) :
  wpAny M A ((int_private% "intFromText") v text base) Q E s := by
 subst et eb;apply byc; intro O;obtain ⟨hp, g, d, tk, os⟩ := s;apply O; clear O;have e : [hexd a, hexd b].takeWhile (· != 0) = [hexd a, hexd b] := by
  have h1 := hexd_lt ha; have h2 := hexd_lt hb;rw [List.takeWhile_cons, if_pos (by simp; omega), List.takeWhile_cons, if_pos (by simp; omega), List.takeWhile_nil]
 have hr := read16 ha hb;have hs : ([hexd a, hexd b].takeWhile (· != 0)).length <= 640 := by rw [e]; exact qB rfl
 have hq : (([hexd a, hexd b].takeWhile (· != 0)).length == [hexd a, hexd b].length) = true := by rw [e]; rfl
 rw [<- e] at hr;clear ha hb e
 repeat (any_goals (first
  | assumption
  | (with_reducible refine wpAny_ite_true (decide_eq_true hs) ?_)
  | (with_reducible refine wpAny_ite_true (decide_eq_true hq) ?_)
  | wp_step))
 all_goals (try rw [hr])
 all_goals (try dsimp only)
 repeat (any_goals (first
  | assumption
  | (with_reducible refine wpAny_ite_true (decide_eq_true hs) ?_)
  | (with_reducible refine wpAny_ite_true (decide_eq_true hq) ?_)
  | wp_step))
theorem gives_hex {a b : Nat} {u v : Tok} (ha : a < 16) (hb : b < 16) : Gives (Builtin.«int.__new__» ⟨[.type "int", .str ⟨#[hexd a, hexd b]⟩ u, .int 16 v], []⟩) (.int ((16 * a + b : Nat) : Int)) :=
 .of_wp fun M A E s Q h => by
  apply byc; intro O;obtain ⟨hp, g, d, tk, os⟩ := s;apply O; clear O;have f1 := F.conv_sub_int;have f2 := F.madeHere_int;have f6 : typeOf (.str ⟨#[hexd a, hexd b]⟩ u) = pure (.type "str") := rfl;have h1 := hexd_lt ha; have h2 := hexd_lt hb;have f7 : ((⟨#[hexd a, hexd b]⟩ : PySem.Str).cps.all fun x => decide (x < 128)) = true := by
   show (List.toArray [hexd a, hexd b]).all _ = true;rw [List.all_toArray, List.all_cons, List.all_cons, List.all_nil, decide_eq_true h1.2, decide_eq_true h2.2]; rfl
  have hk := And.intro ha hb;clear h1 h2
  repeat (any_goals (first
   | assumption
   | (with_reducible refine wpAny_ite_true f7 ?_)
   | ((with_reducible show wpAny _ _ ((int_private% "intFromText") _ _ _) _ _ _); refine wp_text16 (by rw [if_pos f7]) rfl hk.1 hk.2 ?_)
   | wp_step))
  all_goals first | exact ⟨_, rfl, h⟩ | skip
theorem typeCall_int_2 (a b : Value) : checkTypeCall "int" ⟨[a, b], []⟩ = pure () := by kernel_rfl
theorem newCall_int_2 (a b : Value) : checkBuiltinCall "int.__new__" ⟨[.type "int", a, b], []⟩ = pure () := by kernel_rfl
theorem args_object_init_3 (obj a b : Value) : argsOk "object.__init__" ⟨[obj, a, b], []⟩ := by unfold argsOk; kernel_rfl
theorem int_hex {prog : Program} {w : World} {A : Around} {E : Value -> Shared -> Prop} {s : Shared} {Q : Value -> Shared -> Prop} {a b : Nat} {t u : Tok} (ha : a < 16) (hb : b < 16) (h : Q (.int ((16 * a + b : Nat) : Int) s.toks) { s with toks := s.toks + 1 }) :
  wpAny (model prog w) A (call (.type "int") [.str ⟨#[hexd a, hexd b]⟩ t, .int 16 u]) Q E s :=
 callType_new F.called_int F.newNe_int (typeCall_int_2 _ _) (newCall_int_2 _ _) (fun obj => args_object_init_3 obj _ _) F.entry_int_new (gives_hex ha hb).meets (show (Made.int ((16 * a + b : Nat) : Int)).post _ s from ⟨rfl, h⟩)
theorem cut_hex (x y : Nat) : Txt.slice ⟨#[61, x, y]⟩ (some 1) (some 3) = ⟨#[x, y]⟩ := by kernel_rfl
theorem int_cut {prog : Program} {w : World} {A : Around} {E : Value -> Shared -> Prop} {s : Shared} {Q : Value -> Shared -> Prop} {a b : Nat} {t u : Tok} (ha : a < 16) (hb : b < 16) (h : Q (.int ((16 * a + b : Nat) : Int) s.toks) { s with toks := s.toks + 1 }) :
  wpAny (model prog w) A (call (.type "int") [.str (Txt.slice ⟨#[61, hexd a, hexd b]⟩ (some 1) (some 3)) t, .int 16 u]) Q E s := by
 rw [cut_hex]; exact int_hex ha hb h
end
end
section
local macro_rules | `(tactic| walk_at "call type:int") => `(tactic| (k_here; refine int_cut (by assumption) (by assumption) ?_))
section
variable {Q : Value -> Shared -> Prop}
theorem unq_K {a b : Nat} {tk : Tok} (F : Fr h! L s.heap m) (X : (Kq w.params).In h!) (N : News h! L s.heap news) (T : Top p loose mean mg mb h!)
  (hh : A.handled = none) (hd : A.depth <= 390) (hu : A.units <= 900) (ha : a < 16) (hb : b < 16)
  (ret : ∀ h' tk' t, Fr h! L h' m -> News h! L h' news -> (∀ b o, s.heap.get? b = some o -> h'.get? b = some o) -> Q (.str ⟨#[16 * a + b]⟩ t) { s with heap := h', toks := tk' }) :
  wpAny (model PR w) A (call (.ref 87) [.str ⟨#[61, hexd a, hexd b]⟩ tk]) Q E s := by
 refine weak (A' := AL 4) hh hd hu rfl rfl ?_
 k_dflt (refine' enter (news := []) (binds := [(Str.ofString "s", Value.str ⟨#[61, hexd a, hexd b]⟩ tk)]) F.keep (fun _ h => nomatch h) X T ?k6 ?k7 ?k8 ?k9 ?kB ?_ ?c2 ?c3 ?c4 ?c5; walk_at "ENTERED")
 clear X T;intro g' L' h' gz dz tz oz Rz hR hz0 X' T' F' N' l1
 try dsimp only
 k_steps
 try unfold Halt
 try dsimp only
 rename Fr .. => F6;rename News .. => N6;refine hR.out F6 N6 (fun _ h => nomatch h) fun ext fresh => ?_;obtain ⟨Fz, Nz⟩ := back0 F N ext;exact ret _ _ _ Fz Nz ext
end
end
section
section
variable {Q : Value -> Shared -> Prop}
noncomputable def matchObj (x : Str) (t : Tok) (b : Addr) (p2 p3 p4 : Value) : Obj := ⟨.type "re.Match", none, .fields #[.str x t, .ref 64, p2, p3, p4, .ref b], #[]⟩
noncomputable def spanObj (i j n : Nat) (t1 t2 : Tok) : Obj := ⟨.type "tuple", none, .seq #[.int (i : Int) t1, .int (j : Int) t2] n, #[]⟩
theorem group_news {prog : Program} {x : Str} {t t1 t2 u : Tok} {a b : Addr} {p2 p3 p4 : Value} {i j n c d : Nat} (N : News h! L s.heap news) (hx : x.length <= 1000) (he : x.cps.extract i j = #[61, hexd c, hexd d])
  (ha : (a, matchObj x t b p2 p3 p4) ∈ news) (hb : (b, spanObj i j n t1 t2) ∈ news) (h : ∀ t' k, Q (.str ⟨#[61, hexd c, hexd d]⟩ t') { s with toks := k }) : wpAny (model prog w) A (call (.builtin "re.Match.group") [.ref a, .int 0 u]) Q E s :=
 group0 hx (N _ ha).1 (N _ hb).1 (by rw [he]; exact h)
theorem group_here {prog : Program} {x : Str} {t : Tok} {a b : Addr} {p2 p3 p4 : Value} {pl : Sem Bool} {R : Value × List Value -> Shared -> Prop} (N : News h! L s.heap news)
  (ha : (a, matchObj x t b p2 p3 p4) ∈ news) (h : R (.builtin "re.Match.group", [.ref a]) s) : wpAny (model prog w) A (getMethod (.ref a) (Str.ofString "group") pl) R E s :=
 getMethod_builtin (show s.TypeIs (.ref a) "re.Match" from ⟨_, (N _ ha).1, rfl⟩) plainAttrs_Match slot_Match_group type_Match_group (fun b e => by cases e; exact ⟨_, (N _ ha).1, rfl⟩) h
end
local macro_rules | `(tactic| walk_at "getMethod ref") => `(tactic| (k_here; rename News .. => kN; with_reducible refine group_here kN (by assumption) ?_))
local macro_rules | `(tactic| walk_at "call ref") => `(tactic| (k_here; rename News .. => kN; rename Fr .. => kF; refine unq_K kF (by assumption) kN (by assumption) rfl (qB rfl) (qB rfl) (by assumption) (by assumption) ?_; intro _ _ _ _ _ _))
local macro_rules | `(tactic| walk_at "call builtin:re.Match.group") => `(tactic| (k_here; rename News .. => kN; refine group_news kN (by assumption) (by assumption) (by assumption) (by assumption) ?_; intro _ _))
section
variable {Q : Value -> Shared -> Prop}
theorem um_K {x : Str} {t t1 t2 : Tok} {a b : Addr} {p2 p3 p4 : Value} {i j n c d : Nat} (F : Fr h! L s.heap m) (X : (Kq w.params).In h!) (N : News h! L s.heap news) (T : Top p loose mean mg mb h!)
  (hh : A.handled = none) (hd : A.depth <= 370) (hu : A.units <= 700) (hx : x.length <= 1000) (he : x.cps.extract i j = #[61, hexd c, hexd d]) (hc : c < 16) (hd16 : d < 16)
  (ha : (a, matchObj x t b p2 p3 p4) ∈ news) (hb : (b, spanObj i j n t1 t2) ∈ news)
  (ret : ∀ h' tk' t, Fr h! L h' m -> News h! L h' news -> (∀ b o, s.heap.get? b = some o -> h'.get? b = some o) -> Q (.str ⟨#[16 * c + d]⟩ t) { s with heap := h', toks := tk' }) :
  wpAny (model PR w) A (call (.ref 107) [.ref a]) Q E s := by
 refine weak (A' := AL 3) hh hd hu rfl rfl ?_
 k_dflt (refine' enter (news := news) (binds := [(Str.ofString "match", Value.ref a)]) F.keep (fun p h => ⟨(N p h).1, (N p h).2.2⟩) X T ?k6 ?k7 ?k8 ?k9 ?kB ?_ ?c2 ?c3 ?c4 ?c5; walk_at "ENTERED")
 clear X T;intro g' L' h' gz dz tz oz Rz hR hz0 X' T' F' N' l1
 try dsimp only
 k_steps
 try unfold Halt
 try dsimp only
 rename Fr .. => F6;rename News .. => N6;refine hR.out F6 N6 (fun _ h => h) fun ext fresh => ?_;obtain ⟨Fz, Nz⟩ := back0 F N ext;exact ret _ _ _ Fz Nz ext
end
end
section
section
open PySem.Sre hiding Seen
open PySem.Builtin PySem.Builtin.Re
inductive Dec : List Nat -> List Nat -> Prop
 | rest (t : List Nat) : (∀ i, hitAt t.toArray i = false) -> Dec t t
 | hit (b : List Nat) (p q : Nat) (r z : List Nat) : p < 16 -> q < 16 -> (∀ i, i < b.length -> hitAt (b ++ 61 :: hexd p :: hexd q :: r).toArray i = false) -> Dec r z -> Dec (b ++ 61 :: hexd p :: hexd q :: r) (b ++ (16 * p + q) :: z)
theorem isH_hexd : ∀ p : Nat, p < 16 -> isH (hexd p) = true := by decide +kernel
theorem hitAt_drop (t : List Nat) (k i : Nat) (hk : k <= t.length) : hitAt t.toArray (k + i) = hitAt (t.drop k).toArray i := by
 have h1 : ∀ j, t.toArray.getD (k + j) 0 = (t.drop k).toArray.getD j 0 := fun j => by simp [Array.getD_eq_getD_getElem?]
 have h2 : decide (k + i + 3 <= t.toArray.size) = decide (i + 3 <= (t.drop k).toArray.size) := by
  simp only [List.size_toArray, List.length_drop];exact decide_eq_decide.mpr (by omega)
 unfold hitAt;rw [h2, Nat.add_assoc k i 1, Nat.add_assoc k i 2, h1, h1, h1]
theorem hit_at (b : List Nat) (p q : Nat) (r : List Nat) (hp : p < 16) (hq : q < 16) : hitAt (b ++ 61 :: hexd p :: hexd q :: r).toArray b.length = true := by
 have := hitAt_drop (b ++ 61 :: hexd p :: hexd q :: r) b.length 0 (by simp);rw [Nat.add_zero] at this;rw [this, List.drop_left];unfold hitAt;simp [isH_hexd p hp, isH_hexd q hq, Array.getD_eq_getD_getElem?]
noncomputable def flat (l : List (PySem.Str × Tok)) : List Nat := l.flatMap fun q => toL q.1
theorem flat_snoc (l : List (PySem.Str × Tok)) (x : PySem.Str) (t : Tok) : flat (l ++ [(x, t)]) = flat l ++ toL x := by simp [flat]
theorem join_toL : ∀ (l : List (PySem.Str × Tok)), toL (PySem.Str.join ⟨#[]⟩ (l.map (·.1))) = flat l
 | [] => rfl
 | [a] => by simp [flat, PySem.Str.join]
 | a :: b :: r => by
  have ih := join_toL (b :: r);show toL (a.1 ++ ⟨#[]⟩ ++ PySem.Str.join ⟨#[]⟩ ((b :: r).map (·.1))) = _;rw [toL_app, toL_app, ih];simp [flat, toL]
theorem join0 (l : List (PySem.Str × Tok)) : Txt.join ⟨#[]⟩ (l.map (·.1)) = ⟨(flat l).toArray⟩ := by
 apply str_ext;show toL (Builtin.Str.glued ⟨#[]⟩ (l.map (·.1))) = _;rw [StrLaws.glued_eq_join, join_toL, toL_mk]
theorem flat_length : ∀ (l : List (PySem.Str × Tok)), ((l.map (·.1)).map (·.length)).sum = (flat l).length
 | [] => rfl
 | a :: r => by
  have ih := flat_length r;simp only [List.map_cons, List.sum_cons, ih, flat, List.flatMap_cons, List.length_append];rfl
theorem joinOk0 (l : List (PySem.Str × Tok)) (h : (flat l).length <= 1000) : JoinOk ⟨#[]⟩ (l.map (·.1)) = true := by
 unfold JoinOk;rw [StrLaws.joinTotal, flat_length];unfold Builtin.Str.tooLong;rw [sizeLine_eq];have : ¬ ((flat l).length + (l.map (·.1)).length * (⟨#[]⟩ : PySem.Str).length > 16777216) := by
  show ¬ ((flat l).length + (l.map (·.1)).length * 0 > 16777216);omega
 rw [decide_eq_false this]; rfl
noncomputable def tgt (x : PySem.Str) (t : Tok) : ReTarget := { pattern := .ref 64, string := .str x t, code := CD, text := x.cps, kind := 0, groups := 0, pos := 0, lim := x.cps.size }
section
variable {MM : Model} {A : Around} {E : Value -> Shared -> Prop} {s : Shared} {w : World}
theorem whole_target {x : PySem.Str} {t : Tok} {Q : ReTarget -> Shared -> Prop} (X : (Kq w.params).In s.heap) (h : Q (tgt x t) s) : wpAny MM A (reWholeTarget (.ref 64) (.str x t)) Q E s := by
 apply byc; intro O;obtain ⟨vs, h64, h7, h5, h6, h2, h3⟩ := pat64 (w := w);obtain ⟨us, n, h63, hc⟩ := code63 (w := w);apply O; clear O;have e5 : vs.toArray.getD 5 Value.none = .ref 63 := by simp [Array.getD_eq_getD_getElem?, h5]
 have e6 : reRawNat (vs.toArray.getD 6 Value.none) = 0 := by rw [<- h6]; simp [Array.getD_eq_getD_getElem?, List.getD_eq_getElem?_getD]
 have e2 : reRawNat (vs.toArray.getD 2 Value.none) = 0 := by rw [<- h2]; simp [Array.getD_eq_getD_getElem?, List.getD_eq_getElem?_getD]
 unfold reWholeTarget;refine wpAny_bind (wpAny_fieldsOf (X _ _ h64) rfl ?_);refine wpAny_bind (wpAny_pure ?_);dsimp only;rw [e6];refine wpAny_bind (wpAny_pure ?_);refine wpAny_bind ?_;rw [e5];refine wpAny_bind (wpAny_seqItems (X _ _ h63) rfl ?_);refine wpAny_pure ?_;refine wpAny_pure ?_;rw [e2];simp only [Option.getD_some, hc];exact h
theorem push_at {D : Addr} {its : Array Value} {n : Nat} {x : Value} {Q : Unit -> Shared -> Prop} (ho : s.heap.get? D = some { cls := .type "list", data := .seq its n })
  (h : ∀ h', Heap.SameBut D s.heap h' -> h'.get? D = some { cls := .type "list", data := .seq (its.push x) (n + 1) } -> Q () { s with heap := h' })
  (hsz : its.size <= 10000) : wpAny MM A (updateSeq D (·.push x)) Q E s := by
 refine wpAny_updateSeq ho rfl (h _ (Heap.SameBut.update ..) ?_) (by rw [sizeLine_eq]; omega) (by rw [sizeLine_eq, Array.size_push]; omega);rw [Heap.get?_update_self _ ho (by rw [mapSeq_push]; rfl), mapSeq_push]
end
end
end
section
section
open PySem.Sre hiding Seen
open PySem.Builtin PySem.Builtin.Re
variable {Q : Value -> Shared -> Prop}
theorem get?_past {h : Heap} {a : Addr} (ha : h.objs.size <= a) : h.get? a = none := by
 cases q : h.get? a with
 | none => rfl
 | some o => exact absurd (Heap.lt_size q) (Nat.not_lt_of_le ha)
theorem new_match {MM : Model} {x : Str} {t : Tok} {lim j : Nat} {f : M} {Q : Value -> Shared -> Prop} (hf : Hit f j)
  (h : ∀ a b h' p2 p3 p4, s.heap.get? a = none -> s.heap.get? b = none -> (∀ c o, s.heap.get? c = some o -> h'.get? c = some o) -> h'.get? b = some (spanObj j (j + 3) 0 0 0) -> h'.get? a = some (matchObj x t b p2 p3 p4) -> Q (.ref a) { s with heap := h' }) :
  wpAny MM A (reNewMatch (.ref 64) (.str x t) 0 0 lim f) Q E s := by
 unfold reNewMatch;rw [hf.start, hf.handed];rw [if_neg (by rw [List.range_zero, List.any_nil]; decide)];refine wpAny_bind (wpAny_newTuple ?_ (by show 2 <= _; rw [sizeLine_eq]; decide));refine wpAny_newObj_type ?_ (by show 6 <= _; rw [sizeLine_eq]; decide);refine h _ s.heap.objs.size _ _ _ _ (get?_past (by rw [Heap.size_push]; omega)) (get?_past (Nat.le_refl _)) (fun c o e => qP _ (qP _ e)) (qP _ (Heap.get?_push_size _ rfl)) (Heap.get?_push_size _ rfl)
noncomputable def loopCode (txt : List Nat) (tk : Tok) (lp : Addr) (n k : Int) : Code := .builtin "re.Pattern.sub.loop" ⟨[.ref 64, .str ⟨txt.toArray⟩ tk, .ref 107, rawInt 1, rawInt 0, rawInt n, rawInt k, rawInt k, .bool false, .ref lp, .bool false], []⟩
theorem loop_wp {txt total : List Nat} {tk : Tok} {lp : Addr} (F : Fr h! L s.heap m) (X : (Kq w.params).In h!) (N : News h! L s.heap news) (T : Top p loose mean mg mb h!)
  (hh : A.handled = none) (hd : A.depth <= 370) (hu : A.units <= 690) (hz : txt.length <= 1000) (ht : total.length <= 1000) (hlp : s.heap.get? lp = none)
  (ret : ∀ h' tk' t, (∀ b o, s.heap.get? b = some o -> h'.get? b = some o) -> Q (.str ⟨total.toArray⟩ t) { s with heap := h', toks := tk' }) :
  ∀ {rest res : List Nat}, Dec rest res -> ∀ (k : Nat) (n : Int) (l : List (Str × Tok)) (c : Nat) (h' : Heap) (tk' : Nat), txt.drop k = rest -> k <= txt.length -> flat l ++ res = total -> l.length <= 2 * k ->
   (∀ b o, s.heap.get? b = some o -> h'.get? b = some o) -> h'.get? lp = some { cls := .type "list", data := .seq (strValues l).toArray c } ->
   codeAny (model PR w) A (loopCode txt tk lp n k) (wants Q E) { s with heap := h', toks := tk' } := by
 have tail : ∀ (n : Int) (l : List (Str × Tok)) (c : Nat) (h' : Heap) (tk' : Nat), flat l = total -> (∀ b o, s.heap.get? b = some o -> h'.get? b = some o) -> h'.get? lp = some { cls := .type "list", data := .seq (strValues l).toArray c } ->
   wpAny (model PR w) A.in1 (do
    let joiner <- reSlice txt.toArray 0 0 0
    let text <- if ((<- seqItems? (.ref lp)).getD #[]).isEmpty then pure joiner
     else call (.builtin (if (0 : Nat) == 0 then "str.join" else "bytes.join")) [joiner, .ref lp]
    if false = true then PySem.ret (<- holding [text] do newTuple [text, <- mkInt n]) else PySem.ret text)
    (fun fin s' => match fin with | .done f => wants Q E (.ok f) s' | .again c' => c'.quiet = true /\ codeAny (model PR w) A c' (wants Q E) s') (fun e s' => wants Q E (.error e) s') { s with heap := h', toks := tk' } := by
  intro n l c h' tk' hf ext hl;have e0 : (⟨txt.toArray.extract 0 0⟩ : Str) = ⟨#[]⟩ := by simp
  refine wpAny_bind ?_;refine cvM (congrArg (fun x => mkStr x) e0) ?_;refine wpAny_mkStr ?_ (Nat.zero_le _);refine wpAny_bind ?_;refine wpAny_seqItems hl rfl ?_;simp only [Option.getD_some];cases hE : (strValues l).toArray.isEmpty with
  | true =>
   rw [if_pos rfl];refine wpAny_bind (wpAny_pure ?_);refine iteF (by decide) (wpAny_pure ?_);have : l = [] := by
    cases l with
    | nil => rfl
    | cons a r => cases hE
   subst this;have hf' : total = [] := hf.symm;subst hf';exact ret _ _ _ ext
  | false =>
   rw [if_neg (by decide)];refine wpAny_bind ?_;rw [if_pos (by decide)];refine SC.join (x := ⟨#[]⟩) ⟨_, hl, rfl, _, rfl⟩ rfl (joinOk0 l (by rw [hf]; exact ht)) fun t' k => ?_;rw [if_neg (by decide), join0, hf];exact wpAny_pure (ret _ _ _ ext)
 intro rest res D
 induction D with
 | rest t hm =>
  intro k n l c h' tk' e1 hk e2 hl ext hlo;have X' : (Kq w.params).In h' := X.keeps fun b o e => ext b o (F.keep b o e);refine codeAny_builtin entry_sub_loop ?_;rw [Around.under_plainId plain_sub_loop];unfold «re.Pattern.sub.loop»;refine wpAny_bind (whole_target X' ?_);dsimp only;refine iteF (by decide) ?_;refine wpAny_bind ?_;refine iteF (by simp) ?_;refine next_miss rfl rfl rfl (fun i hi => ?_) (by show txt.length < 10000; omega) ?_
  ·obtain ⟨j, rfl⟩ : ∃ j, i = k + j := ⟨i - k, by rw [Int.toNat_natCast] at hi; omega⟩;show hitAt txt.toArray (k + j) = false;rw [hitAt_drop txt k j hk, e1]; exact hm j
  ·dsimp only;by_cases hk2 : k < txt.length
   ·refine wpAny_ite_true (decide_eq_true (show (k : Int).toNat < txt.length from hk2)) ?_;refine wpAny_bind ?_;have ex : (⟨txt.toArray.extract (k : Int).toNat txt.length⟩ : Str) = ⟨t.toArray⟩ := by
     apply str_ext;show (txt.toArray.extract k txt.length).toList = t;rw [<- e1, Array.toList_extract];show List.take (txt.length - k) (List.drop k txt) = _;exact List.take_of_length_le (by simp)
    refine cvM (congrArg (fun x => mkStr x) ex) ?_;refine wpAny_mkStr ?_ (by rw [sizeLine_eq, <- e1]; show (txt.drop k).length <= _; rw [List.length_drop]; omega);refine wpAny_bind (push_at hlo (fun h2 hs hl2 => ?_) (by show (strValues l).length <= 10000; rw [show (strValues l).length = l.length by simp [strValues]]; omega));refine tail n (l ++ [(⟨t.toArray⟩, tk')]) (c + 1) h2 _ (by rw [flat_snoc]; exact e2) (fun b o e => ?_) ?_
    ·rw [hs.2 b (fun hb => by rw [hb, hlp] at e; cases e)]; exact ext b o e
    ·rw [hl2]; simp [strValues]
   ·refine wpAny_ite_false (decide_eq_false (show ¬ ((k : Int).toNat < txt.length) from hk2)) ?_;refine tail n l c h' tk' ?_ ext hlo;have : t = [] := by rw [<- e1]; exact List.drop_eq_nil_of_le (by omega)
    rw [this, List.append_nil] at e2;exact e2
 | hit b p q r z hp hq hm D ih =>
  intro k n l c h' tk' e1 hk e2 hl ext hlo;have X' : (Kq w.params).In h' := X.keeps fun b o e => ext b o (F.keep b o e);have hlen : k + (b.length + (r.length + 3)) = txt.length := by
   have := congrArg List.length e1;simp only [List.length_drop, List.length_append, List.length_cons] at this;omega
  have hat : hitAt txt.toArray (k + b.length) = true := by rw [hitAt_drop txt k _ hk, e1]; exact hit_at b p q r hp hq
  refine codeAny_builtin entry_sub_loop ?_;rw [Around.under_plainId plain_sub_loop];unfold «re.Pattern.sub.loop»;refine wpAny_bind (whole_target X' ?_);dsimp only;refine iteF (by decide) ?_;refine wpAny_bind ?_;refine iteF (by simp) ?_;refine next_hit (j := k + b.length) rfl rfl rfl hat (by rw [Int.toNat_natCast]; omega) (fun i hi hj => ?_) (by show txt.length < 10000; omega) (fun f hf => ?_)
  ·obtain ⟨j, rfl⟩ : ∃ j, i = k + j := ⟨i - k, by rw [Int.toNat_natCast] at hi; omega⟩;show hitAt txt.toArray (k + j) = false;rw [hitAt_drop txt k j hk, e1]; exact hm j (by omega)
  dsimp only;rw [hf.start, hf.handed];have after : ∀ (l1 : List (Str × Tok)) (c1 : Nat) (h1 : Heap) (tk1 : Nat), flat l1 ++ ((16 * p + q) :: z) = total -> l1.length <= 2 * k + 1 -> (∀ b o, s.heap.get? b = some o -> h1.get? b = some o) -> h1.get? lp = some { cls := .type "list", data := .seq (strValues l1).toArray c1 } ->
    wpAny (model PR w) A.in1 (do
     let found <- reNewMatch (.ref 64) (.str ⟨txt.toArray⟩ tk) 0 0 txt.length f
     let item <- holding [found] (call (.ref 107) [found])
     if (item != .none) = true then do
      updateSeq lp fun x => x.push item
      again (loopCode txt tk lp (n + 1) ((k + b.length + 3 : Nat) : Int))
     else again (loopCode txt tk lp (n + 1) ((k + b.length + 3 : Nat) : Int)))
    (fun fin s' => match fin with | .done f => wants Q E (.ok f) s' | .again c' => c'.quiet = true /\ codeAny (model PR w) A c' (wants Q E) s') (fun e s' => wants Q E (.error e) s') { s with heap := h1, toks := tk1 } := by
   intro l1 c1 h1 tk1 f1 hl1 ext1 hlo1;refine wpAny_bind (new_match hf fun a b2 h2 p2 p3 p4 fa fb ext2 hb2 ha2 => ?_);refine wpAny_bind (wpAny_holding ?_);have ext12 : ∀ b o, s.heap.get? b = some o -> h2.get? b = some o := fun b o e => ext2 b o (ext1 b o e);have F1 : Fr h! L h1 m := F.keeps ext1;apply byc; intro O;obtain ⟨F2, Na, -⟩ := back (news := []) F1 (fun _ h => nomatch h) ext2 ha2 fa;obtain ⟨-, Nb, -⟩ := back (news := []) F1 (fun _ h => nomatch h) ext2 hb2 fb;apply O; clear O;have Nab : News h! L h2 [(a, matchObj ⟨txt.toArray⟩ tk b2 p2 p3 p4), (b2, spanObj (k + b.length) (k + b.length + 3) 0 0 0)] := nC (Na _ (.head _)) (fun p hp => Nb _ hp);refine um_K (s := { s with heap := h2, toks := tk1 }) (t := tk) F2 X Nab T hh hd (by show A.units + 1 <= 700; omega) (x := ⟨txt.toArray⟩) (show txt.length <= 1000 from hz) (i := k + b.length) (j := k + b.length + 3) (c := p) (d := q) ?_ hp hq (.head _) (.tail _ (.head _)) fun h3 tk3 t3 F3 N3 ext3 => ?_
   ·show txt.toArray.extract (k + b.length) (k + b.length + 3) = List.toArray [61, hexd p, hexd q];apply Array.ext';rw [Array.toList_extract];show List.take (k + b.length + 3 - (k + b.length)) (List.drop (k + b.length) txt) = [61, hexd p, hexd q];rw [<- List.drop_drop, e1, List.drop_left, show k + b.length + 3 - (k + b.length) = 3 by omega];rfl
   ·dsimp only at ext3 ⊢;have ext13 : ∀ b o, s.heap.get? b = some o -> h3.get? b = some o := fun b o e => ext3 b o (ext12 b o e);have hlo3 := ext3 _ _ (ext2 _ _ hlo1);have hne : (Value.str ⟨#[16 * p + q]⟩ t3 != Value.none) = true := rfl;refine iteT hne ?_;refine wpAny_bind (push_at hlo3 (fun h4 hs4 hl4 => ?_) (by show (strValues l1).length <= 10000; rw [show (strValues l1).length = l1.length by simp [strValues]]; omega));refine wpAny_pure ⟨Code.quiet_builtin _ (by decide +kernel), ?_⟩;refine ih (k + b.length + 3) (n + 1) (l1 ++ [(⟨#[16 * p + q]⟩, t3)]) (c1 + 1) h4 tk3 ?_ (by omega) (by rw [flat_snoc, List.append_assoc]; exact f1) (by rw [List.length_append]; show l1.length + 1 <= _; omega) (fun b o e => ?_) ?_
    ·rw [Nat.add_assoc, <- List.drop_drop, e1, <- List.drop_drop, List.drop_left]; rfl
    ·rw [hs4.2 b (fun hb => by rw [hb, hlp] at e; cases e)]; exact ext13 b o e
    ·rw [hl4]; simp [strValues]
  have eb : Value.bool (k + b.length + 3 == k + b.length) = .bool false := by
   congr 1;exact beq_false_of_ne (by omega)
  rw [eb];by_cases hb : 0 < b.length
  ·refine wpAny_ite_true (decide_eq_true (show (k : Int).toNat < k + b.length by rw [Int.toNat_natCast]; omega)) ?_;refine wpAny_bind ?_;have ex : (⟨txt.toArray.extract (k : Int).toNat (k + b.length)⟩ : Str) = ⟨b.toArray⟩ := by
    apply str_ext;show (txt.toArray.extract k (k + b.length)).toList = b;rw [Array.toList_extract];show List.take (k + b.length - k) (List.drop k txt) = _;rw [e1, show k + b.length - k = b.length by omega];exact List.take_left ..
   refine cvM (congrArg (fun x => mkStr x) ex) ?_;refine wpAny_mkStr ?_ (by rw [sizeLine_eq]; show b.length <= _; omega);refine wpAny_bind (push_at hlo (fun h2 hs hl2 => ?_) (by show (strValues l).length <= 10000; rw [show (strValues l).length = l.length by simp [strValues]]; omega));refine iteF (by decide) ?_;refine after (l ++ [(⟨b.toArray⟩, tk')]) (c + 1) h2 _ (by rw [flat_snoc, List.append_assoc]; exact e2) (by rw [List.length_append]; show l.length + 1 <= _; omega) (fun b o e => ?_) ?_
   ·rw [hs.2 b (fun hb => by rw [hb, hlp] at e; cases e)]; exact ext b o e
   ·rw [hl2]; simp [strValues]
  ·refine wpAny_ite_false (decide_eq_false (show ¬ ((k : Int).toNat < k + b.length) by rw [Int.toNat_natCast]; omega)) ?_;refine iteF (by decide) ?_;have b0 : b = [] := List.eq_nil_of_length_eq_zero (by omega);refine after l c h' tk' (by rw [b0] at e2; exact e2) (by omega) ext hlo
end
section
open PySem.Sre hiding Seen
open PySem.Builtin PySem.Builtin.Re
variable {Q : Value -> Shared -> Prop}
theorem named_sub (a b : Value) : reNamed "re.Pattern.sub" "sub" ["repl", "string", "count"] 2 [a, b] [] = pure [some a, some b, none] := by kernel_rfl
theorem fn_called : ∃ r, typeLookup (.type "function") (Str.ofString "__call__") = pure (some r) := ⟨.builtin "function.__call__", by rw [typeLookup_type, builtinLookup_eq_fast]; kernel_rfl⟩
theorem str_not_ba : isSubtype (.type "str") (.type "bytearray") = pure false := by rw [isSubtype_type]; kernel_rfl
theorem fn107 : ∃ o, (Kq w.params).lookup 107 = some o /\ o.cls = .type "function" := ⟨_, by k_is, rfl⟩
theorem sub_K {txt res : List Nat} {tk : Tok} (F : Fr h! L s.heap m) (X : (Kq w.params).In h!) (N : News h! L s.heap news) (T : Top p loose mean mg mb h!)
  (hh : A.handled = none) (hd : A.depth <= 370) (hu : A.units <= 690) (hz : txt.length <= 1000) (ht : res.length <= 1000) (D : Dec txt res)
  (ret : ∀ h' tk' t, Fr h! L h' m -> News h! L h' news -> (∀ b o, s.heap.get? b = some o -> h'.get? b = some o) -> Q (.str ⟨res.toArray⟩ t) { s with heap := h', toks := tk' }) :
  wpAny (model PR w) A (call (.builtin "re.Pattern.sub") [.ref 64, .ref 107, .str ⟨txt.toArray⟩ tk]) Q E s := by
 have X' : (Kq w.params).In s.heap := X.keeps F.keep;apply byc; intro O;obtain ⟨vs, h64, -⟩ := pat64 (w := w);apply O; clear O;refine wpAny_call (codeAny_call_builtin slot_Pattern_sub.plain entry_Pattern_sub (slot_Pattern_sub.check _ _ _ _ _ _ _ _ ⟨_, X' _ _ h64, rfl⟩ (args_Pattern_sub_3 _ _ _) ?_));unfold «re.Pattern.sub» reSubstitute;refine wpAny_bind (wpAny_of_eq (named_sub _ _) ?_);dsimp only;refine wpAny_bind (wpAny_pure ?_);apply byc; intro O;obtain ⟨r, hr⟩ := fn_called;obtain ⟨o, ho, hoc⟩ := fn107 (w := w);apply O; clear O;refine wpAny_bind (wpAny_specialOf (⟨o, X' _ _ ho, hoc⟩ : s.TypeIs (.ref 107) "function") hr ?_);simp only [Option.isSome_some, if_true];refine wpAny_bind (wpAny_pure ?_);refine wpAny_bind (wpAny_pure ?_);refine wpAny_bind (wpAny_holding (whole_target X' ?_));rw [if_pos (by decide)];refine wpAny_bind ?_;refine wpAny_bind (wpAny_isInstance (typeIs_str _ _ _) str_not_ba ?_);refine wpAny_pure ?_;refine wpAny_bind (wpAny_newList ?_ (Nat.zero_le _));refine wpAny_pure ⟨Code.quiet_builtin _ (by decide +kernel), ?_⟩;refine loop_wp (total := res) (lp := s.heap.objs.size) F X N T hh hd hu hz ht (get?_past (Nat.le_refl _)) (fun h' tk' t ext => ?_) D 0 0 [] 0 _ _ rfl (Nat.zero_le _) rfl (Nat.le_refl _) (fun b o e => qP _ e) (Heap.get?_push_size _ rfl);obtain ⟨Fz, Nz⟩ := back0 F N ext;exact ret _ _ _ Fz Nz ext
end
end
section
section
variable {Q : Value -> Shared -> Prop}
theorem sub_here {prog : Program} {pl : Sem Bool} {R : Value × List Value -> Shared -> Prop} (F : Fr h! L s.heap m) (X : (Kq w.params).In h!)
  (h : R (.builtin "re.Pattern.sub", [.ref 64]) s) : wpAny (model prog w) A (getMethod (.ref 64) (Str.ofString "sub") pl) R E s := by
 have X' : (Kq w.params).In s.heap := X.keeps F.keep;apply byc; intro O;obtain ⟨vs, h64, -⟩ := pat64 (w := w);apply O; clear O;exact getMethod_builtin (show s.TypeIs (.ref 64) "re.Pattern" from ⟨_, X' _ _ h64, rfl⟩) plainAttrs_Pattern slot_Pattern_sub type_Pattern_sub (fun b e => by cases e; exact ⟨_, X' _ _ h64, rfl⟩) h
end
local macro_rules | `(tactic| walk_at "getMethod ref") => `(tactic| (k_here; rename Fr .. => kF; with_reducible refine sub_here kF (by assumption) ?_))
section
variable {Q : Value -> Shared -> Prop}
noncomputable def us (c : Nat) : Nat := if c = 95 then 32 else c
theorem us_free : ∀ l : List Nat, 95 ∉ l -> l.map us = l
 | [], _ => rfl
 | k :: r, h => by
  have h1 : ¬ k = 95 := fun e => h (e ▸ List.mem_cons_self ..);rw [List.map_cons, us_free r fun m => h (List.mem_cons_of_mem _ m), us, if_neg h1]
theorem us_join : ∀ parts : List Str, (∀ p ∈ parts, 95 ∉ p.cps.toList) -> (Str.join ⟨#[95]⟩ parts).cps.toList.map us = (Str.join ⟨#[32]⟩ parts).cps.toList
 | [], _ => rfl
 | [p], h => us_free _ (h p (List.mem_singleton.mpr rfl))
 | p :: q :: r, h => by
  have ih := us_join (q :: r) fun a ha => h a (List.mem_cons_of_mem _ ha);show (p ++ ⟨#[95]⟩ ++ Str.join ⟨#[95]⟩ (q :: r)).cps.toList.map us = (p ++ ⟨#[32]⟩ ++ Str.join ⟨#[32]⟩ (q :: r)).cps.toList;simp only [Str.cps_append, Array.toList_append, List.map_append];rw [ih, us_free _ (h p (List.mem_cons_self ..))];rfl
theorem us_replace (l : List Nat) : Txt.replace ⟨l.toArray⟩ (Str.ofString "_") (Str.ofString " ") = ⟨(l.map us).toArray⟩ := by
 have e1 : Str.ofString "_" = ⟨#[95]⟩ := by decide +kernel
 have e2 : Str.ofString " " = ⟨#[32]⟩ := by decide +kernel
 apply str_ext;show (Txt.replace ⟨l.toArray⟩ (Str.ofString "_") (Str.ofString " ")).cps.toList = l.map us;rw [e1, e2, StrLaws.replace_one, <- us_join _ (StrLaws.split_free ⟨l.toArray⟩ 95), StrLaws.join_split]
theorem sub_us {txt res : List Nat} {tk : Tok} (F : Fr h! L s.heap m) (X : (Kq w.params).In h!) (N : News h! L s.heap news) (T : Top p loose mean mg mb h!)
  (hh : A.handled = none) (hd : A.depth <= 370) (hu : A.units <= 690) (hz : txt.length <= 1000) (D : Dec (txt.map us) res) (ht : res.length <= 1000)
  (ret : ∀ h' tk' t, Fr h! L h' m -> News h! L h' news -> (∀ b o, s.heap.get? b = some o -> h'.get? b = some o) -> Q (.str ⟨res.toArray⟩ t) { s with heap := h', toks := tk' }) :
  wpAny (model PR w) A (call (.builtin "re.Pattern.sub") [.ref 64, .ref 107, .str (Txt.replace ⟨txt.toArray⟩ (Str.ofString "_") (Str.ofString " ")) tk]) Q E s := by
 rw [us_replace];exact sub_K F X N T hh hd hu (by rw [List.length_map]; exact hz) ht D ret
theorem hdec_K {txt res : List Nat} {tk : Tok} (F : Fr h! L s.heap m) (X : (Kq w.params).In h!) (N : News h! L s.heap news) (T : Top p loose mean mg mb h!)
  (hh : A.handled = none) (hd : A.depth <= 350) (hu : A.units <= 500) (hz : txt.length <= 1000) (ht : res.length <= 1000) (D : Dec (txt.map us) res)
  (ret : ∀ h' tk' t, Fr h! L h' m -> News h! L h' news -> (∀ b o, s.heap.get? b = some o -> h'.get? b = some o) -> Q (.str ⟨res.toArray⟩ t) { s with heap := h', toks := tk' }) :
  wpAny (model PR w) A (call (.ref 114) [.str ⟨txt.toArray⟩ tk]) Q E s := by
 refine weak (A' := AL 2) hh hd hu rfl rfl ?_
 k_dflt (refine' enter (news := []) (binds := [(Str.ofString "s", Value.str ⟨txt.toArray⟩ tk)]) F.keep (fun _ h => nomatch h) X T ?k6 ?k7 ?k8 ?k9 ?kB ?_ ?c2 ?c3 ?c4 ?c5; walk_at "ENTERED")
 clear X T;intro g' L' h' gz dz tz oz Rz hR hz0 X' T' F' N' l1
 try dsimp only
 have hzL : (⟨txt.toArray⟩ : Str).length <= 1000 := hz;replace hz0 : 1 <= tz := hz0;k_steps;unfold Halt;rename Fr .. => kF;rename News .. => kN;refine sub_us kF X' kN T' rfl (qB rfl) (qB rfl) hz D ht ?_;intro _ _ _ _ _ _;k_steps
 try unfold Halt
 try dsimp only
 rename Fr .. => F6;rename News .. => N6;refine hR.out F6 N6 (fun _ h => nomatch h) fun ext fresh => ?_;obtain ⟨Fz, Nz⟩ := back0 F N ext;exact ret _ _ _ Fz Nz ext
end
end
section
section
variable {Q : Value -> Shared -> Prop}
theorem item0 (a b : Nat) : Txt.item ⟨#[a, b]⟩ 0 = ⟨#[a]⟩ := by kernel_rfl
theorem item1 (a b : Nat) : Txt.item ⟨#[a, b]⟩ 1 = ⟨#[b]⟩ := by kernel_rfl
structure WordOk (x : Str) (pre : List Nat) (a b : Nat) : Prop where
 dec : Dec ((toL x).map us) (pre ++ [a, b, 63, 61])
 len : (toL x).length <= 1000
 plen : pre.length <= 100
 ha : a < 256
 hb : b < 256
theorem hdec_W {x : Str} {pre : List Nat} {a b : Nat} {tk : Tok} (F : Fr h! L s.heap m) (X : (Kq w.params).In h!) (N : News h! L s.heap news) (T : Top p loose mean mg mb h!)
  (hh : A.handled = none) (hd : A.depth <= 350) (hu : A.units <= 500) (W : WordOk x pre a b)
  (ret : ∀ y h' tk' t, Fr h! L h' m -> News h! L h' news -> (∀ b o, s.heap.get? b = some o -> h'.get? b = some o) -> y.length <= 104 -> (Txt.slice y (some (-4)) (some (-2))).length = 2 -> Txt.slice y (some (-4)) (some (-2)) = ⟨#[a, b]⟩ -> Q (.str y t) { s with heap := h', toks := tk' }) :
  wpAny (model PR w) A (call (.ref 114) [.str x tk]) Q E s :=
 hdec_K (txt := toL x) F X N T hh hd hu W.len (by have := W.plen; simp; omega) W.dec fun h' tk' t F' N' ext => ret _ h' tk' t F' N' ext (by have := W.plen; show (pre ++ [a, b, 63, 61]).length <= 104; simp; omega) (by rw [cut_word]; rfl) (cut_word pre a b)
noncomputable def viewObj (d : Addr) : Obj := { cls := .type "dict_values", data := .fields #[.ref d] }
end
local macro_rules | `(tactic| walk_at "call ref") => `(tactic| (k_here; rename Fr .. => kF; rename News .. => kN; (refine hdec_W kF (by assumption) kN (by assumption) rfl (qB rfl) (qB rfl) (by assumption) ?_; intro _ _ _ _ _ _ _ _ _ _)))
section
variable {Q : Value -> Shared -> Prop}
theorem kv_at {kvs : List (Str × Value)} {sp : List (Str × Str)} {i : Nat} {key : Str} {v : Value} (h : KvIs kvs sp) (hv : kvs[i]? = some (key, v)) : ∃ x tx, v = .str x tx /\ sp[i]? = some (key, x) := by
 obtain ⟨h1, h2⟩ := h;have e1 : (kvs.map (·.1))[i]? = some key := by rw [List.getElem?_map, hv]; rfl
 have e2 : (kvs.map (·.2))[i]? = some v := by rw [List.getElem?_map, hv]; rfl
 apply byc; intro O;obtain ⟨x, tx, rfl, hx⟩ := strs_at h2 e2;apply O; clear O;rw [h1] at e1;rw [List.getElem?_map] at e1 hx;apply byc; intro O;obtain ⟨⟨a, b⟩, ha, hb⟩ := Option.map_eq_some_iff.mp e1;apply O; clear O;rw [ha] at hx;simp only [Option.map_some, Option.some.injEq] at hx hb;exact ⟨x, tx, rfl, by rw [ha, <- hx, <- hb]⟩
noncomputable def rowOf (ab : List (Nat × Nat)) : List Int := ab.flatMap fun q => [255 - (q.1 : Int), (q.2 : Int)]
theorem rowOf_length : ∀ (ab : List (Nat × Nat)), (rowOf ab).length = 2 * ab.length
 | [] => rfl
 | a :: r => by
  have := rowOf_length r;show ([255 - (a.1 : Int), (a.2 : Int)] ++ rowOf r).length = _;rw [List.length_append, this];simp; omega
theorem rowOf_app (x y : List (Nat × Nat)) : rowOf (x ++ y) = rowOf x ++ rowOf y := by simp [rowOf]
local macro_rules | `(tactic| walk_at "z") => `(tactic| skip)
theorem row_K {r d : Addr} {od : Obj} {kvs : List (Str × Value)} {sp : List (Str × Str)} {ab : List (Nat × Nat)} (F : Fr h! L s.heap m) (X : (Kq w.params).In h!) (N : News h! L s.heap news) (T : Top p loose mean mg mb h!)
  (hh : A.handled = none) (hd : A.depth <= 330) (hu : A.units <= 300)
  (hr : (r, viewObj d) ∈ news) (hdm : (d, od) ∈ news) (hod : od.IsDictOf (strKind PR w) kvs) (hkv : KvIs kvs sp) (hlen : ab.length = sp.length) (h6 : sp.length <= 6) (hw : ∀ (i : Nat) (k x : Str), sp[i]? = some (k, x) -> ∃ pre a b, ab[i]? = some (a, b) /\ WordOk x pre a b)
  (ret : ∀ r h' tk' ys k, Fr h! L h' m -> News h! L h' ((r, listOf ys.toArray k) :: news) -> (∀ p ∈ news, p.1 ≠ r) -> (∀ b o, s.heap.get? b = some o -> h'.get? b = some o) -> IntsAre ys (rowOf ab) -> Q (.ref r) { s with heap := h', toks := tk' }) :
  wpAny (model PR w) A (call (.ref 175) [.ref r]) Q E s := by
 refine weak (A' := AL 1) hh hd hu rfl rfl ?_
 k_dflt (refine' enter (news := [(r, viewObj d), (d, od)]) (binds := [(Str.ofString "words", Value.ref r)]) F.keep (fun p h => by rcases qC h with rfl | h; exact ⟨(N _ hr).1, (N _ hr).2.2⟩; rw [qS h]; exact ⟨(N _ hdm).1, (N _ hdm).2.2⟩) X T ?k6 ?k7 ?k8 ?k9 ?kB ?_ ?c2 ?c3 ?c4 ?c5; walk_at "ENTERED")
 clear X T;intro g' L' h' gz dz tz oz Rz hR hz0 X' T' F' N' l1
 try dsimp only
 k_steps;rename Fr .. => F9;rename News .. => N9;rename r < _ /\ d < _ => ltr;unfold Halt
 with_unfolding_all refine' st_vals (σ := List Value × List Int × Nat) (knd := strKind PR w) (kvs := kvs) (r := r) (d := d) (ov := viewObj d) (od := od) (fun c => [(_, listOf c.1.toArray c.2.2), (r, viewObj d), (d, od)]) (fun _ => []) (fun c => IntsAre c.1 c.2.1) [Str.ofString "pair"] (fun i c => c.2.1 = rowOf (ab.take i)) ([], [], 0) (by rfl) (fun c => List.Mem.tail _ (List.Mem.head _)) (fun c => List.Mem.tail _ (List.Mem.tail _ (List.Mem.head _))) ⟨_, (N9 _ (.tail _ (.head _))).1, rfl, rfl⟩ hod F9 N9 .nil (fun _ h => nomatch h) rfl ?_ ?_
 ·refine unc3 ?_;intro ys zs k i v u h1 tk1 own hi zp1 hoff hfa hP F1 N1;apply byc; intro O;obtain ⟨key, hv⟩ := zp1;apply O; clear O;dsimp only [kstB] at F1 N1 hfa hP hoff;simp only [List.nil_append, List.cons_append, List.append_nil] at N1;simp only [List.map_cons, List.map_nil] at hoff;have kLen := IntsAre.length hfa;have kMark : KstMark := kstMark;clear F9 N9;apply byc; intro O;obtain ⟨x, tx, rfl, hsx⟩ : ∃ x tx, v = .str x tx /\ sp[i]? = some (key, x) := kv_at hkv hv;obtain ⟨pre, a, b, hab, hW⟩ := hw i key x hsx;apply O; clear O;have hz : ys.length <= 12 := by
   have h1 : (rowOf (ab.take i)).length <= 12 := by
    rw [rowOf_length, List.length_take]; omega
   rw [<- hP] at h1;omega
  k_steps;unfold Halt;rename Fr .. => F8;rename News .. => N8;rename Txt.slice _ _ _ = _ => hcut;rename _ /\ _ /\ _ /\ AllLt _ _ => ltl;refine extend_in_ints (own := [_]) F8 N8 (fun p hp => by rw [qS hp]; exact Nat.ne_of_gt ltl.1) ?_ (N8 _ (.head _)).1 hfa (.cons _ _ (.cons _ _ .nil)) (fun h9 n9 F9 N9 hi9 => ?_) (by rw [sizeLine_eq]; show ys.length + 2 <= _; omega)
  ·refine List.forall_mem_cons.mpr ⟨Nat.ne_of_lt ltr.1, List.forall_mem_cons.mpr ⟨Nat.ne_of_lt ltr.2, fun p hp => ?_⟩⟩
   ·exact hoff p hp _ (.head _)
  ·clear F8 N8;k_steps;unfold Halt;refine st_end (_, _, _) F9 N9 (by kst_in) (by intro p hp; kst_mem) (by rfl) hi9 (by kst_all) (by kst_same) ?_;dsimp only;rw [take_snoc hab, rowOf_app, <- hP, hcut, item0, item1];rfl
 ·refine unc3 ?_;intro ys zs k u h1 tk1 hfa hP F1 N1;dsimp only [kstB] at F1 N1 hfa hP;clear F9 N9;k_steps
  try unfold Halt
  try dsimp only
  rename Fr .. => F6;rename News .. => N6;have hP2 : zs = rowOf ab := by
   have h3 : kvs.length = ab.length := by
    have h4 := congrArg List.length hkv.1;rw [List.length_map, List.length_map] at h4;omega
   rw [h3, List.take_length] at hP;exact hP
  subst hP2;refine hR.out F6 N6 (fun p hp => by rcases qC hp with rfl | hp; exact .tail _ (.head _); rw [qS hp]; exact .tail _ (.tail _ (.head _))) fun ext fresh => ?_;have hfr : s.heap.get? _ = none := fresh _ (.head _) (fun h => by
   rcases qC h with h | h
   ·exact absurd (congrArg Prod.fst h) (Nat.ne_of_gt ltr.1)
   ·exact absurd (congrArg Prod.fst (qS h)) (Nat.ne_of_gt ltr.2))
  apply byc; intro O;obtain ⟨Fz, Nz, nz⟩ := back F N ext (N6 _ (.head _)).1 hfr;apply O; clear O;exact ret _ _ _ _ _ Fz Nz nz ext hfa
end
end
section
section
noncomputable abbrev lenv (L : Addr) : Env := envOfC (o "law") (fs 40) L 209 (.ref 208)
noncomputable def lst (k : Nat) : Stmt := (nthS (fb 40) k).getD default
def Cells (L : Addr) (cv : Nat -> Option Value) (C : List (Addr × Obj)) : Prop :=
 (∀ i, i < 12 -> ∃ o : Obj, (L + 1 + i, o) ∈ C /\ o.data = .cell (cv i)) /\ ∀ p ∈ C, L < p.1 /\ p.1 < L + 13
def Apart (L : Addr) (rest : List (Addr × Obj)) : Prop := ∀ p ∈ rest, ∀ i, i < 12 -> p.1 ≠ L + 1 + i
noncomputable def setC (cv : Nat -> Option Value) (i : Nat) (v : Value) : Nat -> Option Value := fun j => if j = i then some v else cv j
theorem setC_self {cv : Nat -> Option Value} {i : Nat} {v : Value} : setC cv i v i = some v := if_pos rfl
theorem setC_ne {cv : Nat -> Option Value} {i j : Nat} {v : Value} (h : j ≠ i) : setC cv i v j = cv j := if_neg h
variable {prog : Program} {w : World} {A : Around} {h! : Heap} {L : Addr} {m : Str -> Option Value} {C rest : List (Addr × Obj)} {cv : Nat -> Option Value} {s : Shared}
  {p : Program} {loose : List Str} {mean : ExcName -> Option Value} {mg mb : Str -> Option Value} {E : Value -> Shared -> Prop}
theorem Apart.cons {a : Addr} {o : Obj} (h : Apart L rest) (ha : ∀ i, i < 12 -> a ≠ L + 1 + i) : Apart L ((a, o) :: rest) := fun p hp => by
 rcases qC hp with rfl | hp
 ·exact ha
 ·exact h p hp
theorem Cells.off {r : Addr} (hC : Cells L cv C) (h : ∀ p ∈ C, p.1 ≠ r) : ∀ i, i < 12 -> r ≠ L + 1 + i := fun i hi e => by
 apply byc; intro O;obtain ⟨o, hm, _⟩ := hC.1 i hi;apply O; clear O;exact h _ hm e.symm
theorem Apart.new {r : Addr} {o : Obj} (h : Apart L rest) (hC : Cells L cv C) (hr : ∀ p ∈ C ++ rest, p.1 ≠ r) : Apart L ((r, o) :: rest) :=
 h.cons (hC.off fun p hp => hr p (qL _ hp))
theorem Apart.app {r2 : List (Addr × Obj)} (h : Apart L rest) (h2 : Apart L r2) : Apart L (r2 ++ rest) := fun p hp => by
 rcases qA hp with hp | hp
 ·exact h2 p hp
 ·exact h p hp
theorem Apart.sub {r2 : List (Addr × Obj)} (h : Apart L rest) (h2 : ∀ q ∈ r2, q ∈ rest) : Apart L r2 := fun p hp => h p (h2 p hp)
theorem store_C {M : Model} {x : Str} {v : Value} {i : Nat} {Q : Unit -> Shared -> Prop} (F : Fr h! L s.heap m) (N : News h! L s.heap (C ++ rest)) (hC : Cells L cv C) (hA : Apart L rest) (hi : i < 12)
  (hc : (lenv L).cells.lookup x = some (L + 1 + i)) (hx : (lenv L).kindOf x = some .cell)
  (h : ∀ h' C', Fr h! L h' m -> News h! L h' (C' ++ rest) -> Cells L (setC cv i v) C' -> Q () { s with heap := h' }) : wpAny M A (storeName (lenv L) x v) Q E s := by
 apply byc; intro O;obtain ⟨o, hm, hd⟩ := hC.1 i hi;apply O; clear O;have z := N _ (qL _ hm);refine wpAny_storeName_cell rfl hx hc ⟨o, z.1, hd⟩ fun h' hv hs => ?_;apply byc; intro O;obtain ⟨o', ho', hd'⟩ := hv;apply O; clear O;have hs' : ∀ b, b ≠ L + 1 + i -> h'.get? b = s.heap.get? b := fun b hb => hs.2 b hb;refine h h' (C.map fun q => if q.1 = L + 1 + i then (q.1, o') else q) ⟨F.ns.sameBut hs (Ne.symm z.2.1), fun b ob e => (hs.2 b (fun q => ?_)).trans (F.keep b ob e), F.above⟩ (fun q hq => ?_) ⟨fun j hj => ?_, fun q hq => ?_⟩
 ·have e0 := z.2.2;rw [<- q, e] at e0; cases e0
 ·rcases qA hq with hq | hq
  ·obtain ⟨r, hr, rfl⟩ := List.mem_map.mp hq;have zr := N r (qL _ hr);by_cases e : r.1 = L + 1 + i
   ·rw [if_pos e];exact ⟨by rw [e]; exact ho', zr.2⟩
   ·rw [if_neg e];exact ⟨(hs' _ e).trans zr.1, zr.2⟩
  ·have zr := N q (qR _ hq);exact ⟨(hs' _ (hA q hq i hi)).trans zr.1, zr.2⟩
 ·obtain ⟨oj, hmj, hdj⟩ := hC.1 j hj;by_cases e : j = i
  ·subst e;exact ⟨o', List.mem_map.mpr ⟨_, hmj, if_pos rfl⟩, by rw [hd', setC_self]⟩
  ·refine ⟨oj, List.mem_map.mpr ⟨_, hmj, if_neg ?_⟩, by rw [hdj, setC_ne e]⟩;exact fun h => e (Nat.add_left_cancel h)
 ·obtain ⟨r, hr, rfl⟩ := List.mem_map.mp hq;have := hC.2 r hr;by_cases e : r.1 = L + 1 + i
  ·rw [if_pos e]; exact this
  ·rw [if_neg e]; exact this
theorem frSet {h : Heap} {x : Str} {v : Value} (F : Fr h! L h m) (hm : m x = some v) : Fr h! L h (fun y => if y = x then some v else m y) := by
 have e : (fun y => if y = x then some v else m y) = m := by
  funext y;by_cases hy : y = x
  ·rw [if_pos hy, hy, hm]
  ·rw [if_neg hy]
 rw [e]; exact F
theorem frBack {h : Heap} {x : Str} {v : Value} (hm : m x = some v) (F : Fr h! L h (fun y => if y = x then some v else m y)) : Fr h! L h m := by
 have e : (fun y => if y = x then some v else m y) = m := by
  funext y;by_cases hy : y = x
  ·rw [if_pos hy, hy, hm]
  ·rw [if_neg hy]
 rw [e] at F; exact F
theorem newsMid {h : Heap} {x : Addr × Obj} (N : News h! L h (x :: (C ++ rest))) : News h! L h (C ++ x :: rest) := fun q hq => N q (by
 rcases qA hq with h | h
 ·exact .tail _ (qL _ h)
 rcases qC h with rfl | h
 ·exact .head _
 ·exact .tail _ (qR _ h))
theorem frLt {h : Heap} (F : Fr h! L h m) : L < h.objs.size := F.ns.lt
end
section
variable {prog : Program} {w : World} {A : Around} {s : Shared} {h! : Heap} {news : List (Addr × Obj)} {K : Frag} {p : Program} {loose : List Str} {mean : ExcName -> Option Value} {mg mb : Str -> Option Value} {Q E : Value -> Shared -> Prop}
 {name qual : Str} {params : Arguments} {body : List Stmt} {scope : Scope} {dV kV doc pm cdv ct oc : Value} {an od : Option Addr} {osl : Array (Option Value)} {f P : Addr} {pos : List Value}
theorem enterCPS (keep : h!.StaysIn s.heap) (hN : ∀ p ∈ news, s.heap.get? p.1 = some p.2 /\ h!.get? p.1 = none) (X₀ : K.In h!) (T : Top p loose mean mg mb h!) {binds : List (Str × Value)}
  (ho : K.lookup f = some ⟨oc, od, .func (fnOf name qual params body scope dV kV doc pm an cdv ct), osl⟩) (hcd : codeIn K cdv qual = true) (hroom : A.depth < recursionLimit)
  (hbind : BindsTo s (fnOf name qual params body scope dV kV doc pm an cdv ct) ⟨pos, []⟩ binds)
  (hkind : (binds.all fun y => scope.names.lookup y.1 == some .local || scope.names.lookup y.1 == some .cell) = true)
  (hnd : ((cellsFrom 0 scope.names []).map (·.1)).Nodup)
  (h : ∀ g L' h? tk cells, K.In g -> Top p loose mean mg mb g -> Fr g L' h? (bindL (envOfC qual scope L' f cdv).kindOf binds fun _ => none) -> News g L' h? (cells ++ news) ->
   CellsAre (bindC (envOfC qual scope L' f cdv).kindOf binds fun _ => none) (cellsFrom (L' + 1) scope.names []) cells -> (∀ p ∈ news, p.1 < L') -> (∀ b o, b ∉ news.map (·.1) -> s.heap.get? b = some o -> g.get? b = some o) ->
   wpS (model prog w) (A.deeper (envOfC qual scope L' f cdv)) (execs body (envOfC qual scope L' f cdv))
    (fun fl s' => OutP P g news s Q (match fl with | .ret v => v | _ => .none) s') (fun _ _ => False) { s with heap := h?, toks := tk })
  (hco : scope.isCoroutine = false) (hgen : scope.isGenerator = false) (hk : scope.kind = .function) : wpS (model prog w) A (call (.ref f) pos) Q E s := by
 have st := hide_stays keep hN;refine S_call (codeS_call_function (o := _) (fd := fnX name qual params body scope [] dV kV doc pm an cdv ct) hroom ((X₀.keeps keep) _ _ ho) rfl hco hgen rfl (codeRec_of (X₀.keeps keep) hcd) (hbind _ _ _ _ ?_));refine wpAny_newFunctionEnv_cells hk (kindsX hkind _) fun env' he s' x => ?_;subst he;refine ⟨(T.nolimit.keeps keep).keeps x.toInCall.keep, codeS_func ?_⟩;apply byc; intro O;obtain ⟨h?, tk, rfl, _⟩ := x.done;apply O; clear O;have hk₁ := x.toInCall.keep;apply byc; intro O;obtain ⟨cells, NC, Y⟩ := Cl.news (h₀ := s.heap) (Nat.le_refl _) fun n c hm => ⟨x.cell n c (lookup_of_mem_nodup (cellsFrom_names scope.names 0 (s.heap.objs.size + 1) [] [] rfl ▸ hnd) hm), x.above n c hm⟩;apply O; clear O;refine S_mono (h (hideAll s.heap (news.map (·.1))) s.heap.objs.size h? tk cells (X₀.keeps fun b o e => st b o e) (T.keeps fun b o e => st b o e) ⟨x.toInCall.ns, fun b o e => hk₁ b o (of_hideAll _ e), Nat.le_of_eq (hideAll_size _ _)⟩ (fun p hp => ?_) Y (fun p hp => Heap.lt_size (hN p hp).1) fun b o hb e => hideAll_get _ e hb) (fun fl s' hl => out_useP (fun p hp => (hN p hp).1) hl) fun _ _ y => y.elim;rcases qA hp with hp | hp
 ·refine ⟨(NC p hp).1, (NC p hp).2.1, ?_⟩;cases q : (hideAll s.heap (news.map (·.1))).get? p.1 with
  | none => rfl
  | some o => have := of_hideAll _ q; rw [(NC p hp).2.2] at this; cases this
 ·exact ⟨hk₁ _ _ (hN p hp).1, Nat.ne_of_lt (Heap.lt_size (hN p hp).1), hideAll_none _ (qM hp)⟩
end
end
section
noncomputable def plainOf (cs : List Int) : List Int := (List.range 3).map fun (k : Nat) => (cs.getD 6 0 + (cs.getD 6 0 / 128 * 2 + 1) * (k : Int)) % 128
noncomputable def octsOf (cs : List Int) : List Int := plainOf cs ++ (plainOf cs).map fun o => 255 - o
section
local macro_rules | `(tactic| walk_at $s) => hz s ["call ref", "storeName"]
variable {Q : Flow -> Shared -> Prop}
theorem law_0 {l : Addr} {vs : List Value} {ns : List Int} (F : Fr h! L s.heap m) (X : (Kq w.params).In h!) (T : Top p loose mean mg mb h!) (hC : Cells L cv C) (N : News h! L s.heap (C ++ rest)) (hA : Apart L rest)
  (hh : A.handled = none) (hd : A.depth <= 320) (hu : A.units <= 200) (hm : m (Str.ofString "script") = some (.ref l)) (hl : h!.IsList l vs.toArray) (hvs : IntsAre vs ns) (hn : ns.length <= 63)
  (ret : ∀ h' tk' r ys k cs C', Fr h! L h' m -> News h! L h' (C' ++ (r, listOf ys.toArray k) :: rest) -> Cells L (setC cv 0 (.ref r)) C' -> (∀ p ∈ C ++ rest, p.1 ≠ r) -> IntsAre ys cs -> cs.length = 7 -> (∀ c ∈ cs, 0 <= c /\ c < 2 ^ 40) -> Q .next { s with heap := h', toks := tk' }) :
  wpAny (model PR w) A (exec (lst 0) (lenv L)) Q E s := by
 refine weakL hh hd hu ?_;have F1 := frSet F hm;refine cvS (by conv => lhs; whnf) ?_;clear F;k_steps;unfold Halt;rename Fr .. => F2;rename News .. => N2;refine cells_K F2 X N2 T rfl (qB rfl) (qB rfl) hl hvs hn fun r h' tk' ys k cs F3 N3 hr ext hi hc hb => ?_;k_steps;unfold Halt;exact store_C F3 (newsMid N3) hC (hA.new hC hr) (i := 0) (by decide) rfl rfl fun h5 C' F5 N5 hC5 => ret h5 _ r ys k cs C' (frBack hm F5) N5 hC5 hr hi hc hb
end
section
local macro_rules | `(tactic| walk_at "exec Assign cons ListComp") => `(tactic| (k_here; k_dflt (refine lc_assign ?hsw rfl rfl (by decide) ?_; (case hsw => rfl))))
local macro_rules | `(tactic| walk_at $s) => hz s ["call ref"]
variable {Q : Flow -> Shared -> Prop}
theorem law_1 {r0 : Addr} {ys : List Value} {k0 : Nat} {cs : List Int} (F : Fr h! L s.heap m) (X : (Kq w.params).In h!) (T : Top p loose mean mg mb h!) (hC : Cells L cv C) (N : News h! L s.heap (C ++ rest))
  (hh : A.handled = none) (hd : A.depth <= 320) (hu : A.units <= 200) (h0 : cv 0 = some (.ref r0)) (hr0 : (r0, listOf ys.toArray k0) ∈ rest) (hi : IntsAre ys cs) (hcs : cs.length = 7) (hcb : ∀ c ∈ cs, 0 <= c /\ c < 2 ^ 40)
  (ret : ∀ h' tk' r zs k, Fr h! L h' (fun y => if y = Str.ofString "plain" then some (.ref r) else m y) -> News h! L h' (C ++ (r, listOf zs.toArray k) :: rest) -> (∀ p ∈ C ++ rest, p.1 ≠ r) -> IntsAre zs (plainOf cs) -> Q .next { s with heap := h', toks := tk' }) :
  wpAny (model PR w) A (exec (lst 1) (lenv L)) Q E s := by
 refine weakL hh hd hu ?_;apply byc; intro O;obtain ⟨o0, m0, d0⟩ := hC.1 0 (by decide);apply O; clear O;rw [h0] at d0;have N1 : News h! L s.heap ((L + 1, o0) :: (r0, listOf ys.toArray k0) :: (C ++ rest)) := nC (N _ (qL _ m0)) (nC (N _ (qR _ hr0)) (N));clear N;refine cvS (by conv => lhs; whnf) ?_;k_steps;unfold Halt;rename IsRange _ _ _ _ _ _ _ _ => hr;rename News .. => N2;rename Fr .. => F2;dsimp only at hr N2 F2;have kL := IntsAre.length hi;have b6 : 0 <= cs.getD 6 0 /\ cs.getD 6 0 < 2 ^ 40 := by
  rw [List.getD_eq_getElem?_getD, List.getElem?_eq_getElem (by omega)];exact hcb _ (List.getElem_mem _)
 refine lc_range (n := 3) rfl (fun i zs nx => nx = (L + 1, o0) :: (r0, listOf ys.toArray k0) :: (C ++ rest) /\ ∃ as, IntsAre zs as /\ as = (plainOf cs).take i) hr rfl rfl (by decide) rfl rfl F2 X T N2 ⟨rfl, [], .nil, rfl⟩ ?_ ?_ ?_
 ·intro g C9 E' i t zs nx own H tk9 u Xg Tg lC hi3 zp1 hoff F3 N3;apply byc; intro O;obtain ⟨rfl, as, hz, ha⟩ := zp1;apply O; clear O;refine lc_nil ?_;have e0 : (0 : Int) + (i : Int) = (i : Int) := by omega
  rw [e0] at F3;have hib : (0 : Int) <= (i : Int) /\ (i : Int) < 3 := by omega
  clear F2 N2 hr;k_steps;unfold Halt;rename News g C9 _ _ => N4;rename Fr g C9 _ _ => F4;have hpi : (plainOf cs)[i]? = some ((cs.getD 6 0 + ((cs.getD 6 0).fdiv 128 * 2 + 1) * (i : Int)).fmod 128) := by
   rw [Int.fmod_eq_emod_of_nonneg _ (by decide : (0 : Int) <= 128), Int.fdiv_eq_ediv_of_nonneg _ (by decide : (0 : Int) <= 128)];unfold plainOf;rw [List.getElem?_map, List.getElem?_range hi3];rfl
  refine LcEnd.intro ((L + 1, o0) :: (r0, listOf ys.toArray k0) :: (C ++ rest)) F4 N4 ?_ ?_ hoff ⟨rfl, ?_⟩
  ·exact fun p hp => qL _ hp
  ·exact fun p hp => qR _ hp
  ·exact ⟨_, IntsAre.append hz (.cons _ _ .nil), by rw [take_snoc hpi, ha]; rfl⟩
 ·intro D C9 zs nx H tk9 k u zp1 hne hlt hDC hC9 hLD hC0 hCn F4 N4;apply byc; intro O;obtain ⟨rfl, as, hz, ha⟩ := zp1;apply O; clear O;refine lc_finA hDC hC9 hLD hC0 hCn rfl F4 N4 rfl rfl fun h5 tk5 F5 N5 => ?_;have N6 : News h! L h5 ((D, listOf zs.toArray k) :: (C ++ rest)) := fun q hq => N5 q (by
   rcases qC hq with rfl | hq
   ·exact .head _
   ·exact .tail _ (.tail _ (.tail _ hq)))
  exact ret h5 tk5 D zs k F5 (newsMid N6) (fun p hp => hne p (.tail _ (.tail _ hp))) (by rw [ha, List.take_of_length_le (by simp [plainOf])] at hz; exact hz)
 ·rintro i zs nx hi3 ⟨_, as, hz, rfl⟩;rw [sizeLine_eq];have := IntsAre.length hz;rw [List.length_take] at this;omega
end
structure St2 (cv : Nat -> Option Value) (rest : List (Addr × Obj)) (cs : List Int) (r0 : Addr) (ys0 : List Value) (k0 : Nat) (r1 : Addr) (ys1 : List Value) (k1 : Nat) : Prop where
 c0 : cv 0 = some (.ref r0)
 m0 : (r0, listOf ys0.toArray k0) ∈ rest
 i0 : IntsAre ys0 cs
 c1 : cv 1 = some (.ref r1)
 m1 : (r1, listOf ys1.toArray k1) ∈ rest
 i1 : IntsAre ys1 (octsOf cs)
theorem cell_at {cv : Nat -> Option Value} {C : List (Addr × Obj)} {L : Addr} {v : Value} (hC : Cells L cv C) (i : Nat) (hi : i < 12) (h : cv i = some v) : ∃ o : Obj, (L + 1 + i, o) ∈ C /\ o.data = .cell (some v) := by
 apply byc; intro O;obtain ⟨o, m, d⟩ := hC.1 i hi;apply O; clear O;exact ⟨o, m, by rw [d, h]⟩
section
local macro_rules | `(tactic| walk_at $s) => hz s ["storeName"]
variable {Q : Flow -> Shared -> Prop}
theorem law_2 {rp : Addr} {zs : List Value} {kp : Nat} {cs : List Int} (F : Fr h! L s.heap m) (X : (Kq w.params).In h!) (T : Top p loose mean mg mb h!) (hC : Cells L cv C) (N : News h! L s.heap (C ++ rest)) (hA : Apart L rest)
  (hh : A.handled = none) (hd : A.depth <= 320) (hu : A.units <= 200) (hm : m (Str.ofString "plain") = some (.ref rp)) (hrp : (rp, listOf zs.toArray kp) ∈ rest) (hi : IntsAre zs (plainOf cs)) (hpb : ∀ o ∈ plainOf cs, 0 <= o /\ o < 128)
  (ret : ∀ h' tk' r ys k C', Fr h! L h' m -> News h! L h' (C' ++ (r, listOf ys.toArray k) :: rest) -> Cells L (setC cv 1 (.ref r)) C' -> (∀ p ∈ C ++ rest, p.1 ≠ r) -> IntsAre ys (octsOf cs) -> Q .next { s with heap := h', toks := tk' }) :
  wpAny (model PR w) A (exec (lst 2) (lenv L)) Q E s := by
 refine weakL hh hd hu ?_;have F1 := frSet F hm;have N1 : News h! L s.heap ((rp, listOf zs.toArray kp) :: (C ++ rest)) := nC (N _ (qR _ hrp)) (N);have kL := IntsAre.length hi;have kP : (plainOf cs).length = 3 := by simp [plainOf]
 clear F N;refine cvS (by conv => lhs; whnf) ?_;k_steps;unfold Halt;rename News .. => N2;rename Fr .. => F2;refine lc_list (items := zs) rfl (fun i us nx => nx = (rp, listOf zs.toArray kp) :: (C ++ rest) /\ ∃ as, IntsAre us as /\ as = ((plainOf cs).take i).map fun o => 255 - o) (fun i us nx h => by rw [h.1]; exact .head _) (by decide) rfl rfl F2 X T N2 ⟨rfl, [], .nil, rfl⟩ ?_ ?_ ?_
 ·intro g C9 E' i v us nx own H tk9 u Xg Tg lC hi3 hv zp1 hoff F3 N3;apply byc; intro O;obtain ⟨rfl, as, hz, ha⟩ := zp1;apply O; clear O;refine lc_nil ?_;apply byc; intro O;obtain ⟨c, tc, rfl, hc⟩ := ints_at hi hv;apply O; clear O;have hcb := hpb c (qG hc);clear F2 N2;k_steps;unfold Halt;rename News g C9 _ _ => N4;rename Fr g C9 _ _ => F4;refine LcEnd.intro ((rp, listOf zs.toArray kp) :: (C ++ rest)) F4 N4 ?_ ?_ hoff ⟨rfl, ?_⟩
  ·exact fun p hp => qL _ hp
  ·exact fun p hp => qR _ hp
  ·exact ⟨_, IntsAre.append hz (.cons _ _ .nil), by rw [take_snoc hc, List.map_append, ha]; rfl⟩
 ·intro D C9 us nx H tk9 k u zp1 hne hlt hDC hC9 hLD hC0 hCn F4 N4;apply byc; intro O;obtain ⟨rfl, as, hz, ha⟩ := zp1;apply O; clear O;refine lc_fin hDC hC9 hLD hC0 hCn F4 N4 fun h5 F5 N5 => ?_;rw [kL, List.take_length] at ha;have kU := IntsAre.length hz;rw [ha, List.length_map] at kU;clear F2 N2;k_steps;unfold Halt;rename News .. => N6;rename Fr .. => F6;dsimp only at N6 F6 ⊢;have N7 : News h! L _ ((h5.objs.size, listOf (zs ++ us).toArray 0) :: (C ++ rest)) := fun q hq => N6 q (by
   rcases qC hq with rfl | hq
   ·exact .head _
   ·exact .tail _ (.tail _ (.tail _ hq)))
  have hr : ∀ p ∈ C ++ rest, p.1 ≠ h5.objs.size := fun p hp => Nat.ne_of_lt (Heap.lt_size (N5 p (.tail _ (.tail _ hp))).1);exact store_C F6 (newsMid N7) hC (hA.new hC hr) (i := 1) (by decide) rfl rfl fun h8 C' F8 N8 hC8 => ret h8 _ _ _ _ C' (frBack hm F8) N8 hC8 hr (by unfold octsOf; rw [<- ha]; exact IntsAre.append hi hz)
 ·rintro i us nx hi3 ⟨_, as, hz, rfl⟩;rw [sizeLine_eq];have := IntsAre.length hz;rw [List.length_map, List.length_take] at this;omega
end
section
local macro_rules | `(tactic| walk_at $s) => hz s ["call ref"]
variable {Q : Flow -> Shared -> Prop}
theorem two_ahead {cs : List Int} {r0 r1 : Addr} {ys0 ys1 : List Value} {k0 k1 : Nat} {h : Heap} (hC : Cells L cv C) (N : News h! L h (C ++ rest)) (S : St2 cv rest cs r0 ys0 k0 r1 ys1 k1) :
  ∃ o0 o1 : Obj, News h! L h ((L + 1, o0) :: (L + 1 + 1, o1) :: (r0, listOf ys0.toArray k0) :: (r1, listOf ys1.toArray k1) :: (C ++ rest)) /\ o0.data = .cell (some (.ref r0)) /\ o1.data = .cell (some (.ref r1)) := by
 apply byc; intro O;obtain ⟨o0, m0, d0⟩ := cell_at hC 0 (by decide) S.c0;obtain ⟨o1, m1, d1⟩ := cell_at hC 1 (by decide) S.c1;apply O; clear O;refine ⟨o0, o1, fun q hq => ?_, d0, d1⟩;rcases qC hq with rfl | hq
 ·exact N _ (qL _ m0)
 rcases qC hq with rfl | hq
 ·exact N _ (qL _ m1)
 rcases qC hq with rfl | hq
 ·exact N _ (qR _ S.m0)
 rcases qC hq with rfl | hq
 ·exact N _ (qR _ S.m1)
 ·exact N q hq
local macro_rules | `(tactic| walk_at "z") => `(tactic| skip)
theorem law_3 {cs : List Int} {r0 r1 : Addr} {ys0 ys1 : List Value} {k0 k1 : Nat} {its : List Str} (F : Fr h! L s.heap m) (X : (Kq w.params).In h!) (T : Top p loose mean mg mb h!) (hC : Cells L cv C) (N : News h! L s.heap (C ++ rest))
  (hh : A.handled = none) (hd : A.depth <= 320) (hu : A.units <= 200) (S : St2 cv rest cs r0 ys0 k0 r1 ys1 k1) (hcs : cs.length = 7) (hcb : ∀ c ∈ cs, 0 <= c /\ c < 2 ^ 40) (hos : OctOk (octsOf cs))
  (hlen : (Txt.join (Str.ofString ", ") ((cs.take 6).map (letterS (octsOf cs)))).length < 10000) (hparse : hParse (Txt.join (Str.ofString ", ") ((cs.take 6).map (letterS (octsOf cs)))) = its)
  (ret : ∀ h' tk' r zs k, Fr h! L h' (fun y => if y = Str.ofString "items" then some (.ref r) else m y) -> News h! L h' (C ++ (r, listOf zs.toArray k) :: rest) -> (∀ p ∈ C ++ rest, p.1 ≠ r) -> StrsAre zs its -> Q .next { s with heap := h', toks := tk' }) :
  wpAny (model PR w) A (exec (lst 3) (lenv L)) Q E s := by
 refine weakL hh hd hu ?_;apply byc; intro O;obtain ⟨o0, o1, N1, d0, d1⟩ := two_ahead hC N S;apply O; clear O;clear N;refine cvS (by conv => lhs; whnf) ?_;k_steps;unfold Halt;rename News .. => N2;rename Fr .. => F2;refine letter_K F2 X N2 T rfl (qB rfl) (qB rfl) (.tail _ (.tail _ (.head _))) (.tail _ (.tail _ (.tail _ (.head _)))) S.i0 S.i1 hcs hcb hos fun h3 tk3 t3 F3 N3 ext3 => ?_;clear F2 N2;k_steps;unfold Halt;rename News .. => N2;rename Fr .. => F2;refine http_K F2 X N2 T rfl (qB rfl) (qB rfl) hlen fun r h4 tk4 zs k4 F4 N4 hr ext4 hz => ?_;clear F2 N2;k_steps
 try unfold Halt
 rename News .. => N2;rename Fr .. => F2;have N6 : News h! L _ ((r, listOf zs.toArray k4) :: (C ++ rest)) := fun q hq => N2 q (by
  rcases qC hq with rfl | hq
  ·exact .head _
  ·exact .tail _ (.tail _ (.tail _ (.tail _ (.tail _ hq)))))
 exact ret _ _ r zs k4 F2 (newsMid N6) (fun p hp => hr p (.tail _ (.tail _ (.tail _ (.tail _ hp))))) (hparse ▸ hz)
theorem law_4 {cs : List Int} {r0 r1 ri : Addr} {ys0 ys1 zs : List Value} {k0 k1 ki : Nat} (F : Fr h! L s.heap m) (X : (Kq w.params).In h!) (T : Top p loose mean mg mb h!) (hC : Cells L cv C) (N : News h! L s.heap (C ++ rest))
  (hh : A.handled = none) (hd : A.depth <= 320) (hu : A.units <= 200) (S : St2 cv rest cs r0 ys0 k0 r1 ys1 k1) (hcs : cs.length = 7) (hcb : ∀ c ∈ cs, 0 <= c /\ c < 2 ^ 40) (hos : OctOk (octsOf cs))
  (hm : m (Str.ofString "items") = some (.ref ri)) (hri : (ri, listOf zs.toArray ki) ∈ rest) (hz : StrsAre zs ((cs.take 6).map (itemS (octsOf cs))))
  (ret : ∀ h' tk', Fr h! L h' m -> News h! L h' (C ++ rest) -> Q .next { s with heap := h', toks := tk' }) :
  wpAny (model PR w) A (exec (lst 4) (lenv L)) Q E s := by
 refine weakL hh hd hu ?_;apply byc; intro O;obtain ⟨o0, o1, N1, d0, d1⟩ := two_ahead hC N S;apply O; clear O;have F1 := frSet F hm;have N1 : News h! L s.heap ((ri, listOf zs.toArray ki) :: (L + 1, o0) :: (L + 1 + 1, o1) :: (r0, listOf ys0.toArray k0) :: (r1, listOf ys1.toArray k1) :: (C ++ rest)) := nC (N _ (qR _ hri)) (N1);clear N F;refine cvS (by conv => lhs; whnf) ?_;k_steps;unfold Halt;rename News .. => N2;rename Fr .. => F2;refine items_K F2 X N2 T rfl (qB rfl) (qB rfl) (.tail _ (.tail _ (.tail _ (.head _)))) (.tail _ (.tail _ (.tail _ (.tail _ (.head _))))) S.i0 S.i1 hcs hcb hos fun r h3 tk3 us k3 F3 N3 hr ext3 hu3 => ?_;clear F2 N2;k_steps;unfold Halt;rename News .. => N2;rename Fr .. => F2;refine ne_strs (isL N2 (.tail _ (.head _))) (isL N2 (.head _)) hz hu3 (Nat.lt_of_lt_of_le (Nat.lt_succ_self _) (qB rfl)) ?_;rw [decide_eq_true rfl, Bool.not_true];k_steps
 try unfold Halt
 rename News .. => N4;rename Fr .. => F4;exact ret _ _ (frBack hm F4) fun q hq => N4 q (.tail _ (.tail _ (.tail _ (.tail _ (.tail _ (.tail _ hq))))))
end
end
section
section
local macro_rules | `(tactic| walk_at $s) => hz s ["call ref"]
variable {Q : Flow -> Shared -> Prop}
theorem law_5 {ri : Addr} {zs : List Value} {ki : Nat} {xs : List Str} {its : List (Str × Str)} (F : Fr h! L s.heap m) (X : (Kq w.params).In h!) (T : Top p loose mean mg mb h!) (N : News h! L s.heap (C ++ rest))
  (hh : A.handled = none) (hd : A.depth <= 320) (hu : A.units <= 200)
  (hm : m (Str.ofString "items") = some (.ref ri)) (hri : (ri, listOf zs.toArray ki) ∈ rest) (hz : StrsAre zs xs) (hx : xs = its.map fun q => q.1 ++ Str.ofString "=" ++ q.2) (hq : ∀ q ∈ its, 61 ∉ toL q.1 /\ q.1.length = 1 /\ 2 <= q.2.length /\ q.2.length <= 100) (hn : its.length <= 6)
  (ret : ∀ h' tk' r o kvs, Fr h! L h' (fun y => if y = Str.ofString "words" then some (.ref r) else m y) -> News h! L h' (C ++ (r, o) :: rest) -> (∀ p ∈ C ++ rest, p.1 ≠ r) -> (r == sysModules) = false -> o.IsDictOf (strKind PR w) kvs -> KvIs kvs (specK its) -> Q .next { s with heap := h', toks := tk' }) :
  wpAny (model PR w) A (exec (lst 5) (lenv L)) Q E s := by
 refine weakL hh hd hu ?_;have F1 := frSet F hm;clear F;refine cvS (by conv => lhs; whnf) ?_;k_steps;unfold Halt;rename News .. => N2;rename Fr .. => F2;refine keqv_K F2 X N2 T rfl (qB rfl) (qB rfl) (qR _ hri) hz hx hq hn fun r h3 tk3 o kvs F3 N3 hr hlo ext3 ho hkv => ?_;clear F2 N2;k_steps
 try unfold Halt
 rename News .. => N4;rename Fr .. => F4;refine ret _ _ r o kvs ?_ (newsMid N4) hr hlo ho hkv;have e : (fun y => if y = Str.ofString "words" then some (Value.ref r) else if y = Str.ofString "items" then some (Value.ref ri) else m y) = fun y => if y = Str.ofString "words" then some (Value.ref r) else m y := by
  funext y;by_cases h1 : y = Str.ofString "words"
  ·rw [if_pos h1, if_pos h1]
  ·rw [if_neg h1, if_neg h1];by_cases h2 : y = Str.ofString "items"
   ·rw [if_pos h2, h2, hm]
   ·rw [if_neg h2]
 rw [<- e]; exact F4
end
section
local macro_rules | `(tactic| walk_at $s) => hz s ["call ref", "storeName"]
variable {Q : Flow -> Shared -> Prop}
local macro_rules | `(tactic| walk_at "z") => `(tactic| skip)
theorem law_6 {cs : List Int} {r0 : Addr} {ys0 : List Value} {k0 : Nat} (F : Fr h! L s.heap m) (X : (Kq w.params).In h!) (T : Top p loose mean mg mb h!) (hC : Cells L cv C) (N : News h! L s.heap (C ++ rest)) (hA : Apart L rest)
  (hh : A.handled = none) (hd : A.depth <= 320) (hu : A.units <= 200) (h0 : cv 0 = some (.ref r0)) (hr0 : (r0, listOf ys0.toArray k0) ∈ rest) (hi : IntsAre ys0 cs) (hcs : cs.length = 7) (hcb : ∀ c ∈ cs, 0 <= c /\ c < 2 ^ 40)
  (ret : ∀ h' tk' r zs k C', Fr h! L h' m -> News h! L h' (C' ++ (r, listOf zs.toArray k) :: rest) -> Cells L (setC cv 2 (.ref r)) C' -> (∀ p ∈ C ++ rest, p.1 ≠ r) -> StrsAre zs ((cs.take 6).map cName) -> Q .next { s with heap := h', toks := tk' }) :
  wpAny (model PR w) A (exec (lst 6) (lenv L)) Q E s := by
 refine weakL hh hd hu ?_;apply byc; intro O;obtain ⟨o0, m0, d0⟩ := cell_at hC 0 (by decide) h0;apply O; clear O;have N1 : News h! L s.heap ((L + 1, o0) :: (r0, listOf ys0.toArray k0) :: (C ++ rest)) := nC (N _ (qL _ m0)) (nC (N _ (qR _ hr0)) (N));have kL := IntsAre.length hi;clear N;refine cvS (by conv => lhs; whnf) ?_;k_steps;unfold Halt;rename_i D1 ws hb1 F2 N2 hsl hsn hsl2 ltD;have kW := IntsAre.length hsl;refine lc_list (items := ws) rfl (fun i us nx => nx = (D1, listOf ws.toArray 0) :: (L + 1, o0) :: (r0, listOf ys0.toArray k0) :: (C ++ rest) /\ ∃ as, StrsAre us as /\ as = ((cs.take 6).take i).map cName) (fun i us nx h => by rw [h.1]; exact .head _) (by decide) rfl rfl F2 X T N2 ⟨rfl, [], .nil, rfl⟩ ?_ ?_ ?_
 ·intro g C9 E' i v us nx own H tk9 u Xg Tg lC hi3 hv zp1 hoff F3 N3;apply byc; intro O;obtain ⟨rfl, as, hz, ha⟩ := zp1;apply O; clear O;refine lc_nil ?_;apply byc; intro O;obtain ⟨c, tc, rfl, hc⟩ := ints_at hsl hv;apply O; clear O;have hcm : c ∈ cs := List.mem_of_mem_take (qG hc);obtain ⟨hc0, hc1⟩ := hcb c hcm;clear F2 N2;k_steps;unfold Halt;rename News g C9 _ _ => N4;rename Fr g C9 _ _ => F4;refine clause_K F4 Xg N4 Tg rfl (qB rfl) (qB rfl) hc0 hc1 fun r h5 tk5 t1 t2 t3 F5 N5 hr5 ext5 => ?_;clear F4 N4;k_steps;unfold Halt;rename News g C9 _ _ => N4;rename Fr g C9 _ _ => F4;refine LcEnd.intro ((D1, listOf ws.toArray 0) :: (L + 1, o0) :: (r0, listOf ys0.toArray k0) :: (C ++ rest)) F4 N4 ?_ ?_ hoff ⟨rfl, ?_⟩
  ·exact fun p hp => .tail _ (qL _ hp)
  ·exact fun p hp => .tail _ (qR _ hp)
  ·exact ⟨_, StrsAre.append' hz (.cons _ _ .nil), by rw [take_snoc hc, List.map_append, ha]; rfl⟩
 ·intro D C9 us nx H tk9 k u zp1 hne hlt hDC hC9 hLD hC0 hCn F4 N4;apply byc; intro O;obtain ⟨rfl, as, hz, ha⟩ := zp1;apply O; clear O;refine lc_fin hDC hC9 hLD hC0 hCn F4 N4 fun h5 F5 N5 => ?_;rw [kW, List.take_length] at ha;clear F2 N2;k_steps;unfold Halt;rename News h! L _ _ => N6;rename Fr h! L _ _ => F6;have N7 : News h! L _ ((D, listOf us.toArray k) :: (C ++ rest)) := fun q hq => N6 q (by
   rcases qC hq with rfl | hq
   ·exact .head _
   ·exact .tail _ (.tail _ (.tail _ (.tail _ hq))))
  have hr : ∀ p ∈ C ++ rest, p.1 ≠ D := fun p hp => hne p (.tail _ (.tail _ (.tail _ hp)));exact store_C F6 (newsMid N7) hC (hA.new hC hr) (i := 2) (by decide) rfl rfl fun h8 C' F8 N8 hC8 => ret h8 _ _ _ _ C' F8 N8 hC8 hr (ha ▸ hz)
 ·rintro i us nx hi3 ⟨_, as, hz, rfl⟩;rw [sizeLine_eq];have := StrsAre.length hz;rw [List.length_map, List.length_take, List.length_take] at this;omega
end
end
section
noncomputable def firstsTo (nms : List Str) (i : Nat) : List Str := ((List.range i).filter fun k => !decide (nms.getD k Str.empty ∈ nms.take k)).map fun k => nms.getD k Str.empty
noncomputable def firstsOf (nms : List Str) : List Str := firstsTo nms 6
theorem firstsTo_skip {nms : List Str} {i : Nat} (h : nms.getD i Str.empty ∈ nms.take i) : firstsTo nms (i + 1) = firstsTo nms i := by
 unfold firstsTo;rw [List.range_succ, List.filter_append, List.map_append, List.filter_cons_of_neg (by rw [decide_eq_true h]; decide)];simp
theorem firstsTo_add {nms : List Str} {i : Nat} (h : ¬ nms.getD i Str.empty ∈ nms.take i) : firstsTo nms (i + 1) = firstsTo nms i ++ [nms.getD i Str.empty] := by
 unfold firstsTo;rw [List.range_succ, List.filter_append, List.map_append, List.filter_cons_of_pos (by rw [decide_eq_false h]; decide)];rfl
theorem firstsTo_len (nms : List Str) (i : Nat) : (firstsTo nms i).length <= i := by
 unfold firstsTo;rw [List.length_map];refine Nat.le_trans (List.length_filter_le _ _) ?_;rw [List.length_range]; exact Nat.le_refl _
theorem strs_of {prog : Program} {w : World} : ∀ {vs : List Value} {kvs : List (Str × Value)}, vs.length = kvs.length -> (∀ (j : Nat) u, vs[j]? = some u -> ∃ k x, kvs[j]? = some (k, x) /\ (PySem.strKind prog w).is k u = true) -> StrsAre vs (kvs.map (·.1))
 | [], [], _, _ => .nil
 | [], _ :: _, h, _ => by simp at h
 | _ :: _, [], h, _ => by simp at h
 | v :: vs, kv :: kvs, h, hv => by
  apply byc; intro O;obtain ⟨k, x, h1, h2⟩ := hv 0 v rfl;obtain ⟨t, rfl⟩ := Value.isStrOf_shape h2;apply O; clear O;simp at h1;subst h1;exact .cons k t (strs_of (by simpa using h) fun j u hu => by simpa using hv (j + 1) u (by simpa using hu))
section
variable {prog : Program} {w : World} {A : Around} {h! : Heap} {L : Addr} {m : Str -> Option Value} {news : List (Addr × Obj)} {s : Shared} {Q E : Value -> Shared -> Prop}
theorem list_keys {d : Addr} {o : Obj} {kvs : List (Str × Value)} (hh : A.handled = none) (F : Fr h! L s.heap m) (N : News h! L s.heap news) (hp : (d, o) ∈ news) (hd : o.IsDictOf (PySem.strKind prog w) kvs) (lo : (d == sysModules) = false) (hn : kvs.length <= 16777216)
  (h : ∀ (B : Addr) c h' tk vs, Fr h! L h' m -> News h! L h' ((B, listOf vs.toArray c) :: news) -> (∀ q ∈ news, q.1 < B) -> StrsAre vs (kvs.map (·.1)) -> Q (.ref B) { s with heap := h', toks := tk }) :
  wpAny (model prog w) A (call (.type "list") [.ref d]) Q E s := by
 obtain ⟨ep, hat⟩ := (kda_dict N hp hd).dictAt;exact kdl_N (kdl_dict (knd := PySem.strKind prog w) (kvs := kvs) (ep := ep) lo) hh F N hat (kdl_size hn) fun B c h' tk vs F' N' l1 hl hv => h B c h' tk vs F' N' l1 (strs_of hl hv)
theorem strs_any {vs : List Value} {ns : List Str} (h : StrsAre vs ns) (k : Str) : vs.any (fun v => match v with | .str x _ => x == k | _ => false) = decide (k ∈ ns) := by
 induction h with
 | nil => rfl
 | cons n t _ ih =>
  rw [List.any_cons, ih];by_cases e : n = k
  ·subst e; simp
  ·have e' : k ≠ n := fun h => e h.symm;simp [e, e']
theorem strs_take {vs : List Value} {ns : List Str} (h : StrsAre vs ns) : ∀ i, StrsAre (vs.take i) (ns.take i) := by
 induction h with
 | nil => intro i; simp; exact .nil
 | cons n t _ ih =>
  intro i;cases i with
  | zero => exact .nil
  | succ i => exact .cons n t (ih i)
theorem notin_S {D : Addr} {k : Str} {t : Tok} {vs : List Value} {ns : List Str} (hl : s.heap.IsList D vs.toArray) (hi : StrsAre vs ns) (h : Q (.bool (!decide (k ∈ ns))) s) :
  wpAny (model prog w) A (compareOp .NotIn (.str k t) (.ref D)) Q E s := by
 refine SeqAt.notIn_listAt (fun v => match v with | .str x _ => x == k | _ => false) hl (fun y hy => ?_) ?_
 ·obtain ⟨i, hi', e⟩ := List.mem_iff_getElem.mp (by simpa using hy);apply byc; intro O;obtain ⟨x, tx, e2, -⟩ := strs_at hi (List.getElem?_eq_getElem hi');apply O; clear O;rw [e] at e2;subst e2;exact SeqAt.EqAt.str_str _ _ _ _
 ·rw [show vs.toArray.any _ = vs.any _ from List.any_toArray, strs_any hi k];exact h
end
section
local macro_rules | `(tactic| walk_at $s) => hz s ["call ref"]
variable {Q : Flow -> Shared -> Prop}
theorem law_7 {rw' rn : Addr} {od : Obj} {kvs : List (Str × Value)} {zs : List Value} {kn : Nat} {nms : List Str} (F : Fr h! L s.heap m) (X : (Kq w.params).In h!) (T : Top p loose mean mg mb h!) (hC : Cells L cv C) (N : News h! L s.heap (C ++ rest))
  (hh : A.handled = none) (hd : A.depth <= 320) (hu : A.units <= 200) (hm : m (Str.ofString "words") = some (.ref rw')) (hrw : (rw', od) ∈ rest) (hod : od.IsDictOf (strKind PR w) kvs) (hk6 : kvs.length <= 6) (hlo : (rw' == sysModules) = false)
  (h2 : cv 2 = some (.ref rn)) (hrn : (rn, listOf zs.toArray kn) ∈ rest) (hz : StrsAre zs nms) (hn6 : nms.length = 6) (hkeys : kvs.map (·.1) = firstsOf nms)
  (ret : ∀ h' tk', Fr h! L h' m -> News h! L h' (C ++ rest) -> Q .next { s with heap := h', toks := tk' }) :
  wpAny (model PR w) A (exec (lst 7) (lenv L)) Q E s := by
 refine weakL hh hd hu ?_;apply byc; intro O;obtain ⟨o2, m2, d2⟩ := cell_at hC 2 (by decide) h2;apply O; clear O;have F1 := frSet F hm;have N1 : News h! L s.heap ((L + 1 + 1 + 1, o2) :: (rn, listOf zs.toArray kn) :: (rw', od) :: (C ++ rest)) := nC (N _ (qL _ m2)) (nC (N _ (qR _ hrn)) (nC (N _ (qR _ hrw)) (N)));have kL := StrsAre.length hz;clear N F;refine cvS (by conv => lhs; whnf) ?_;k_steps;unfold Halt;refine list_keys rfl F1 N1 (.tail _ (.tail _ (.head _))) hod hlo (by omega) fun B kb h3 tk3 us F2 N2 lB hus => ?_;clear F1 N1;k_steps;unfold Halt;rename IsRange _ _ _ _ _ _ _ _ => hr;rename News .. => N3;rename Fr .. => F3;dsimp only at hr N3 F3;refine lc_range (n := 6) rfl (fun i zs' nx => nx = (B, listOf us.toArray kb) :: (L + 1 + 1 + 1, o2) :: (rn, listOf zs.toArray kn) :: (rw', od) :: (C ++ rest) /\ ∃ as, StrsAre zs' as /\ as = firstsTo nms i) hr rfl rfl (by decide) rfl rfl F3 X T N3 ⟨rfl, [], .nil, rfl⟩ ?_ ?_ ?_
 ·intro g C9 E' i t us' nx own H tk9 u Xg Tg lC hi6 zp1 hoff F4 N4;apply byc; intro O;obtain ⟨rfl, as, hz', ha⟩ := zp1;apply O; clear O;refine lc_one ?_;have e0 : (0 : Int) + (i : Int) = (i : Int) := by omega
  rw [e0] at F4;have hib : (0 : Int) <= (i : Int) /\ (i : Int) < 6 := by omega
  clear F3 N3 hr;k_steps;unfold Halt;rename News g C9 _ _ => N5;rename Fr g C9 _ _ => F5;rename StrsAre us' as => hz';dsimp only at N5 F5;rw [slicePick_upto'] at N5;refine notin_S (D := H.objs.size + 1) ⟨_, (N5 _ (.head _)).1, rfl, _, rfl⟩ (by simpa using strs_take hz i) ?_;rw [Int.toNat_natCast];clear N4;by_cases hm9 : nms.getD i Str.empty ∈ nms.take i
  ·rw [decide_eq_true hm9, Bool.not_true];k_steps;unfold Halt;rename News g C9 _ _ => N6;rename Fr g C9 _ _ => F6;refine LcSkip.intro ((B, listOf us.toArray kb) :: (L + 1 + 1 + 1, o2) :: (rn, listOf zs.toArray kn) :: (rw', od) :: (C ++ rest)) F6 N6 ?_ ?_ hoff ⟨rfl, ?_⟩
   ·exact fun p hp => .tail _ (qL _ hp)
   ·exact fun p hp => .tail _ (qR _ hp)
   ·exact ⟨_, hz', ha.trans (firstsTo_skip hm9).symm⟩
  ·rw [decide_eq_false hm9, Bool.not_false];k_steps;unfold Halt;rename News g C9 _ _ => N6;rename Fr g C9 _ _ => F6;rename StrsAre us' as => hz';refine LcEnd.intro ((B, listOf us.toArray kb) :: (L + 1 + 1 + 1, o2) :: (rn, listOf zs.toArray kn) :: (rw', od) :: (C ++ rest)) F6 N6 ?_ ?_ hoff ⟨rfl, ?_⟩
   ·exact fun p hp => .tail _ (qL _ hp)
   ·exact fun p hp => .tail _ (qR _ hp)
   ·exact ⟨_, StrsAre.append' hz' (.cons _ _ .nil), by rw [firstsTo_add hm9, ha, Int.toNat_natCast]⟩
 ·intro D C9 zs' nx H tk9 k u zp1 hne hlt hDC hC9 hLD hC0 hCn F4 N4;apply byc; intro O;obtain ⟨rfl, as, hz', ha⟩ := zp1;apply O; clear O;refine lc_fin hDC hC9 hLD hC0 hCn F4 N4 fun h5 F5 N5 => ?_;clear F3 N3;k_steps;unfold Halt;rename News h! L _ _ => N6;rename Fr h! L _ _ => F6;have e7 : as = kvs.map (·.1) := ha.trans hkeys.symm;refine ne_strs (isL N6 (.tail _ (.head _))) (isL N6 (.head _)) hus (e7 ▸ hz') (Nat.lt_of_lt_of_le (Nat.lt_succ_self _) (qB rfl)) ?_;rw [decide_eq_true rfl, Bool.not_true];k_steps
  try unfold Halt
  rename News h! L _ _ => N7;rename Fr h! L _ _ => F7;exact ret _ _ (frBack hm F7) fun q hq => N7 q (.tail _ (.tail _ (.tail _ (.tail _ (.tail _ hq)))))
 ·rintro i us' nx hi6 ⟨_, as, hz', rfl⟩;rw [sizeLine_eq];have h1 := StrsAre.length hz';have h2 := firstsTo_len nms i;omega
end
end
section
section
open PySem.Builtin
theorem mro_ba : mroOf (.type "bytearray") = pure [.type "bytearray", .type "object"] := by rw [mroOf_type]; kernel_rfl
theorem lookup_ba_new : typeLookup (.type "bytearray") "__new__" = pure (some (.builtin "bytearray.__new__")) := by rw [typeLookup_type, builtinLookup_eq_fast]; kernel_rfl
theorem sub_ba_self : isSubtype (.type "bytearray") (.type "bytearray") = pure true := by rw [isSubtype_type]; kernel_rfl
theorem slot_ba_init : Slot "bytearray" "__init__" "bytearray.__init__" :=
 .of (owner := "bytearray") (n := "__init__") (by rw [typeLookup_type, builtinLookup_eq_fast]; kernel_rfl) (by decide +kernel) (by decide +kernel) (by decide +kernel)
  (by first | exact .inl (by decide +kernel) | exact .inr (by decide +kernel)) (by rw [isSubtype_type]; kernel_rfl)
theorem slot_ba_set : Slot "bytearray" "__setitem__" "bytearray.__setitem__" :=
 .of (owner := "bytearray") (n := "__setitem__") (by rw [typeLookup_type, builtinLookup_eq_fast]; kernel_rfl) (by decide +kernel) (by decide +kernel) (by decide +kernel)
  (by first | exact .inl (by decide +kernel) | exact .inr (by decide +kernel)) (by rw [isSubtype_type]; kernel_rfl)
theorem called_ba : TypeCalled "bytearray" "bytearray.__new__" "bytearray.__init__" :=
 ⟨by decide +kernel, by decide +kernel, ⟨_, _, mro_ba⟩, madeBy_type mro_ba lookup_ba_new (by decide +kernel), by decide +kernel, sub_ba_self, slot_ba_init⟩
theorem typeCall_ba_1 (a : Value) : checkTypeCall "bytearray" ⟨[a], []⟩ = pure () := by kernel_rfl
theorem newCall_ba_1 (a : Value) : checkBuiltinCall "bytearray.__new__" ⟨[.type "bytearray", a], []⟩ = pure () := by kernel_rfl
theorem entry_ba_new : entryFor table "bytearray.__new__" = some Builtin.«list.__new__» :=
 entryFor_alias (id' := "list.__new__") (by kernel_rfl) (by first | rfl | decide +kernel) (by decide +kernel) (by kernel_rfl)
theorem plain_ba_new : plainId "bytearray.__new__" = true := by decide +kernel
theorem entry_ba_init : entryFor table "bytearray.__init__" = some Builtin.«bytearray.__init__» := entryFor_of_tree (by kernel_rfl)
theorem entry_ba_set : entryFor table "bytearray.__setitem__" = some Builtin.«bytearray.__setitem__» := entryFor_of_tree (by kernel_rfl)
theorem args_ba_init (a b : Value) : argsOk "bytearray.__init__" ⟨[a, b], []⟩ := by unfold argsOk; kernel_rfl
theorem args_ba_set (a b c : Value) : argsOk "bytearray.__setitem__" ⟨[a, b, c], []⟩ := by unfold argsOk; kernel_rfl
set_option maxRecDepth 1000000 in
set_option maxHeartbeats 4000000 in
theorem owner_ba_new : ("bytearray.__new__".splitOn ".__new__").headD "" = "bytearray" := by simp +decide [String.splitOn, String.splitOnAux]
section
variable {prog : Program} {w : World} {A : Around} {E : Value -> Shared -> Prop} {s : Shared}
noncomputable def baObj (b : Array UInt8) : Obj := { cls := .type "bytearray", data := .bytearray b }
theorem code_ba_new (a : Value) {Q₁ : Value -> Shared -> Prop}
  (h : Q₁ (.ref s.heap.objs.size) { s with heap := s.heap.push (baObj #[]) }) :
  codeAny (model prog w) A (.call (.builtin "bytearray.__new__") ⟨[.type "bytearray", a], []⟩) (wants Q₁ E) s := by
 refine codeAny_of_tree ?_;show wpAny _ A.in1 (do checkBuiltinCall "bytearray.__new__" ⟨[.type "bytearray", a], []⟩; again (.builtin "bytearray.__new__" ⟨[.type "bytearray", a], []⟩)) _ _ s;refine wpAny_bind (wpAny_of_eq (newCall_ba_1 a) (wpAny_pure ⟨plainId_quiet plain_ba_new _, codeAny_builtin_stack entry_ba_new rfl fun p st => ?_⟩));rw [Around.under_plainId plain_ba_new _];have hsub := sub_ba_self;have hown := owner_ba_new;apply byc; intro O;obtain ⟨hp, g, d, tk, os⟩ := s;apply O; clear O;simp only [hown]
 wp_walk
 exact h
theorem look_release : typeLookup (.type "bytearray") "__release_buffer__" = pure (some (.builtin "bytearray.__release_buffer__")) := by rw [typeLookup_type, builtinLookup_eq_fast]; kernel_rfl
theorem own_name : "bytearray.__release_buffer__".dropRight ("__release_buffer__".length + 1) = "bytearray" := by decide +kernel
theorem own_ends : (!"bytearray.__release_buffer__".endsWith ("." ++ "__release_buffer__")) = false := by decide +kernel
theorem own_ba {MM : Model} {v : Value} {Q : Bool -> Shared -> Prop} (hT : s.TypeIs v "bytearray") (h : Q false s) : wpAny MM A (Bytes.ownRelease v) Q E s := by
 unfold Bytes.ownRelease Bytes.slotIsOwn;refine wpAny_bind ?_;refine wpAny_bind (wpAny_specialOf hT look_release ?_);dsimp only;rw [own_ends, if_neg (by decide), own_name];refine wpAny_isInstance hT sub_ba_self ?_;exact wpAny_pure h
theorem nb_false {st : List (Code × Pos)} (h : NBl st) {f : Code × Pos -> Bool} (hf : ∀ c p, NBc c = true -> f (c, p) = false) : st.any f = false := by
 induction st with
 | nil => rfl
 | cons x r ih =>
  rw [List.any_cons, ih fun y hy => h y (.tail _ hy), hf x.1 x.2 (h x (.head _))]; rfl
theorem nb_dec {id : String} {as : Args} (hc : NBc (.builtin id as) = true) : Bytes.decodersThatHold.contains id = false := by
 have h1 : holdIds.contains id = false := by simpa [NBc] using hc
 cases q : Bytes.decodersThatHold.contains id with
 | false => rfl
 | true =>
  have : holdIds.contains id = true := by
   rw [List.contains_iff_mem] at q ⊢;exact qR _ q
  rw [this] at h1; cases h1
theorem q_b {Q : Bool -> Shared -> Prop} {x y : Bool} (e : x = y) (h : Q y s) : Q x s := e ▸ h
theorem S_exported {MM : Model} {l : Addr} {Q : Bool -> Shared -> Prop} (h : Q false s) : wpS MM A (Bytes.exported (.ref l)) Q E s := by
 unfold Bytes.exported;refine S_bind (S_stack fun st hst => ?_);refine S_any (wpAny_pure ?_);have e : ∀ f : Code × Pos -> Bool, (∀ c p, NBc c = true -> f (c, p) = false) -> st.any f = false := fun f hf => nb_false hst hf;refine q_b (e _ ?_) h
 ·intro c p hc;delta Bytes.exported.match_1;cases c with
  | builtin id as =>
   cases as with
   | mk pos kw =>
    have no : ∀ x : String, holdIds.contains x = true -> id ≠ x := fun x hx e => by
     rw [e] at hc;exact absurd hc (by show ¬ ((!holdIds.contains x) = true); rw [hx]; decide)
    refine (dif_neg (no "bytearray.__contains__" (by decide +kernel))).trans ?_;refine (dif_neg (no "bytearray.__mod__" (by decide +kernel))).trans ?_;refine (dif_neg (no "bytearray.__rmod__" (by decide +kernel))).trans ?_;refine (dif_neg (no "_struct.pack_into.held" (by decide +kernel))).trans ?_;refine (dif_neg (no "bytearray.find.held" (by decide +kernel))).trans ?_;cases pos with
    | nil => rfl
    | cons v r =>
     show (Bytes.sameRef v (.ref l) && Bytes.decodersThatHold.contains id) = false;rw [nb_dec hc, Bool.and_false]
  | _ => rfl
theorem wp_write {MM : Model} {l : Addr} {b : Array UInt8} {f : Array UInt8 -> Array UInt8} {Q : Unit -> Shared -> Prop} (hl : s.heap.get? l = some (baObj b)) (hz : (f b).size <= 16777216)
  (h : ∀ h', Heap.SameBut l s.heap h' -> h'.get? l = some (baObj (f b)) -> Q () { s with heap := h' }) : wpAny MM A (Bytes.write (.ref l) f) Q E s := by
 show wpAny MM A (updateBytearray l f) Q E s;unfold updateBytearray;have hm : (s.heap.update l (Obj.mapBytearray f)).get? l = some (baObj (f b)) := by rw [Heap.get?_update_self _ hl rfl]; rfl
 refine wpAny_bind (wpAny_load hl ?_);dsimp only [baObj];refine wpAny_bind (wpAny_update hl ?_);refine wpAny_lookBehind hm ?_ (h _ (Heap.SameBut.update ..) hm);show (if (f b).size > sizeLine then some "bytearray:memory" else none) = none;rw [if_neg (by rw [sizeLine_eq]; omega)]
theorem bind_ba (v : Value) : Bytes.bindOptional "bytearray.__init__" "bytearray" ["source", "encoding", "errors"] [v] [] = pure [some v, none, none] := by kernel_rfl
theorem ba_init_S {MM : Model} {l : Addr} {n : Nat} {t : Tok} {Q : Fin -> Shared -> Prop} (hn : n < 1000) (hl : s.heap.get? l = some (baObj #[]))
  (h : ∀ h', Heap.SameBut l s.heap h' -> h'.get? l = some (baObj (Array.replicate n 0)) -> Q (.done (.ret .none)) { s with heap := h' }) : wpS MM A («bytearray.__init__» ⟨[.ref l, .int (n : Int) t], []⟩) Q E s := by
 apply byc; intro O;obtain ⟨hp, g, d, tk, os⟩ := s;apply O; clear O;dsimp only at hl h;have hT : (⟨hp, g, d, tk, os⟩ : Shared).TypeIs (.ref l) "bytearray" := ⟨_, hl, rfl⟩;unfold «bytearray.__init__»;refine S_bind (S_any (own_ba hT ?_));refine S_bind (S_any (wpAny_of_eq (bind_ba _) ?_));dsimp only;refine S_bind (S_any (wpAny_pure ?_));refine S_bind (S_any (wpAny_pure ?_));refine S_bind (S_bind (S_exported ?_));refine S_any ?_
 wp_walk
 rw [if_neg (by decide)];refine S_any ?_;have f1 : isSubtype (.type "int") (.type "str") = pure false := by rw [isSubtype_type]; kernel_rfl
 refine wpAny_bind (wp_write hl (Nat.zero_le _) fun h1 hs1 hl1 => ?_);have fs : asStr? (Value.int (n : Int) t) = pure none := rfl;rw [fs]
 with_reducible refine wpAny_bind ?_
 with_reducible refine wpAny_pure ?_
 with_reducible refine wpAny_ite_false rfl ?_
 with_reducible refine wpAny_bind ?_
 with_reducible refine wpAny_ite_false rfl ?_
 with_reducible refine wpAny_ite_false rfl ?_
 with_reducible refine wpAny_pure ?_
 with_reducible refine wpAny_bind ?_
 have ti : typeOf (Value.int (n : Int) t) = pure (.type "int") := rfl
 with_reducible refine wpAny_specialOf_val ti PySem.AutoSeq1.idx_int ?_
 with_reducible refine wpAny_ite_true rfl ?_
 have fa : asIndex (Value.int (n : Int) t) = pure (n : Int) := rfl;rw [fa]
 with_reducible refine wpAny_bind ?_
 with_reducible refine wpAny_attempt ?_
 with_reducible refine wpAny_pure ?_
 dsimp only;have c1 : (!Bytes.fitsIndex (n : Int)) = false := by
  unfold Bytes.fitsIndex;rw [decide_eq_true (show -(2 ^ 63) <= (n : Int) by omega), decide_eq_true (show (n : Int) < 2 ^ 63 by omega)]; rfl
 have c2 : ¬ ((n : Int) < 0) := by omega
 have c3 : ((n : Int) == 2 ^ 63 - 1) = false := beq_false_of_ne (by omega);have c4 : Bytes.tooLong (n : Int).toNat = false := by
  unfold Bytes.tooLong;exact decide_eq_false (by rw [Int.toNat_natCast, sizeLine_eq]; omega)
 with_reducible refine wpAny_ite_false (decide_eq_false (by rw [c1]; decide)) ?_
 with_reducible refine wpAny_ite_false (decide_eq_false c2) ?_
 with_reducible refine wpAny_ite_false (decide_eq_false (by rw [c3]; decide)) ?_
 with_reducible refine wpAny_ite_false (decide_eq_false (by rw [c4]; decide)) ?_
 with_reducible refine wpAny_bind ?_
 with_reducible refine wpAny_rule ?_
 by_cases hn0 : (n : Int) > 0
 ·with_reducible refine wpAny_ite_true (decide_eq_true hn0) ?_
  refine wpAny_bind (wp_write hl1 (by rw [Array.size_replicate, Int.toNat_natCast]; omega) fun h2 hs2 hl2 => ?_);exact wpAny_pure (h h2 (hs1.trans hs2) (by rw [hl2, Int.toNat_natCast]))
 ·with_reducible refine wpAny_ite_false (decide_eq_false hn0) ?_
  have : n = 0 := by omega
  subst this;exact wpAny_pure (h h1 hs1 hl1)
end
end
end
section
section
open PySem.Builtin
variable {prog : Program} {w : World} {A : Around} {E : Value -> Shared -> Prop} {s : Shared}
theorem wp_subscript {MM : Model} {i : Nat} {t : Tok} {Q : Option Int -> Shared -> Prop} (hi : i < 1000) (h : Q (some (i : Int)) s) : wpAny MM A (Bytes.subscript? (.int (i : Int) t)) Q E s := by
 unfold Bytes.subscript?;have ti : typeOf (Value.int (i : Int) t) = pure (.type "int") := rfl;have fa : asIndex (Value.int (i : Int) t) = pure (i : Int) := rfl;have c1 : (!Bytes.fitsIndex (i : Int)) = false := by
  unfold Bytes.fitsIndex;rw [decide_eq_true (show -(2 ^ 63) <= (i : Int) by omega), decide_eq_true (show (i : Int) < 2 ^ 63 by omega)]; rfl
 with_reducible refine wpAny_bind ?_
 with_reducible refine wpAny_specialOf_val ti PySem.AutoSeq1.idx_int ?_
 with_reducible refine wpAny_ite_false rfl ?_
 rw [fa]
 with_reducible refine wpAny_bind ?_
 with_reducible refine wpAny_pure ?_
 with_reducible refine wpAny_ite_false (decide_eq_false (by rw [c1]; decide)) ?_
 with_reducible refine wpAny_pure ?_
 exact h
theorem wp_byte {MM : Model} {v : Int} {t : Tok} {Q : UInt8 -> Shared -> Prop} (h0 : 0 <= v) (h1 : v < 256) (h : Q v.toNat.toUInt8 s) : wpAny MM A (Bytes.byteValue (.int v t)) Q E s := by
 unfold Bytes.byteValue;have fa : asIndex (Value.int v t) = pure v := rfl;rw [fa]
 with_reducible refine wpAny_bind ?_
 with_reducible refine wpAny_pure ?_
 have c1 : (decide (v < 0) || decide (v ≥ 256)) = false := by rw [decide_eq_false (by omega), decide_eq_false (by omega)]; rfl
 with_reducible refine wpAny_ite_false (decide_eq_false (by rw [c1]; decide)) ?_
 exact wpAny_pure h
theorem wp_payload {MM : Model} {l : Addr} {b : Array UInt8} {Q : Array UInt8 -> Shared -> Prop} (hl : s.heap.get? l = some (baObj b)) (h : Q b s) : wpAny MM A (Bytes.payload (.ref l)) Q E s := by
 unfold Bytes.payload
 with_reducible refine wpAny_bind ?_
 show wpAny MM A (load l >>= fun o => match o.data with | .prim (.bytes b _) | .bytearray b .. => pure (some b) | _ => pure none) _ _ s
 with_reducible refine wpAny_bind ?_
 refine wpAny_load hl ?_;exact wpAny_pure (wpAny_pure h)
theorem ba_set_call {l : Addr} {b : Array UInt8} {i : Nat} {v : Int} {t u : Tok} {Q : Value -> Shared -> Prop} (hl : s.heap.get? l = some (baObj b)) (hi : i < b.size) (hb : b.size < 1000) (h0 : 0 <= v) (h1 : v < 256)
  (h : ∀ h', Heap.SameBut l s.heap h' -> h'.get? l = some (baObj (b.setIfInBounds i v.toNat.toUInt8)) -> Q .none { s with heap := h' }) : wpAny (model prog w) A (call (.builtin "bytearray.__setitem__") [.ref l, .int (i : Int) t, .int v u]) Q E s := by
 have hT : s.TypeIs (.ref l) "bytearray" := ⟨_, hl, rfl⟩;refine wpAny_call (codeAny_call_builtin slot_ba_set.plain entry_ba_set (slot_ba_set.check _ _ _ _ _ _ _ _ hT (args_ba_set _ _ _) ?_));delta «bytearray.__setitem__»;dsimp only
 with_reducible refine wpAny_ite_false rfl ?_
 with_reducible refine wpAny_bind ?_
 with_reducible refine wp_subscript (Nat.lt_trans hi hb) ?_
 dsimp only
 with_reducible refine wpAny_bind ?_
 with_reducible refine wp_byte h0 h1 ?_
 with_reducible refine wpAny_bind ?_
 with_reducible refine wp_payload hl ?_
 have hs : seqIndex? (i : Int) b.size = some i := by
  have hneg : ¬ ((i : Int) < 0) := by omega
  have hc : (decide ((0 : Int) <= (i : Int)) && decide ((i : Int) < (b.size : Int))) = true := by rw [decide_eq_true (by omega), decide_eq_true (by omega)]; rfl
  show (if (decide ((0 : Int) <= (if (i : Int) < 0 then (i : Int) + b.size else i)) && decide ((if (i : Int) < 0 then (i : Int) + b.size else i) < (b.size : Int))) = true then some (if (i : Int) < 0 then (i : Int) + b.size else i).toNat else none) = _;rw [if_neg hneg, if_pos hc, Int.toNat_natCast]
 rw [hs];dsimp only
 with_reducible refine wpAny_bind ?_
 refine wp_write hl (by rw [Array.size_setIfInBounds]; omega) fun h2 hs2 hl2 => ?_;exact wpAny_pure (h h2 hs2 hl2)
theorem ba_setItem {l : Addr} {b : Array UInt8} {i : Nat} {v : Int} {t u : Tok} {Q : Unit -> Shared -> Prop} (hl : s.heap.get? l = some (baObj b)) (hi : i < b.size) (hb : b.size < 1000) (h0 : 0 <= v) (h1 : v < 256)
  (h : ∀ h', Heap.SameBut l s.heap h' -> h'.get? l = some (baObj (b.setIfInBounds i v.toNat.toUInt8)) -> Q () { s with heap := h' }) : wpAny (model prog w) A (setItem (.ref l) (.int (i : Int) t) (.int v u)) Q E s := by
 have hT : s.TypeIs (.ref l) "bytearray" := ⟨_, hl, rfl⟩;unfold setItem;refine wpAny_holding ?_;refine wpAny_bind (wpAny_sequenceKey hT (by decide) ?_);refine wpAny_bind (wpAny_callSpecial?_slot (name := Str.ofString "__setitem__") hT slot_ba_set ?_);refine ba_set_call hl hi hb h0 h1 fun h' hs hl' => ?_;exact wpAny_pure (h h' hs hl')
end
end
section
section
open PySem.Builtin
variable {prog : Program} {w : World} {A : Around} {E : Value -> Shared -> Prop} {s : Shared}
theorem look_buffer : typeLookup (.type "bytearray") "__buffer__" = pure (some (.builtin "bytearray.__buffer__")) := by rw [typeLookup_type, builtinLookup_eq_fast]; kernel_rfl
theorem ba_no_bytes : typeLookup (.type "bytearray") "__bytes__" = pure none := by rw [typeLookup_type, builtinLookup_eq_fast]; kernel_rfl
theorem ba_no_index : typeLookup (.type "bytearray") "__index__" = pure none := by rw [typeLookup_type, builtinLookup_eq_fast]; kernel_rfl
theorem buf_name : "bytearray.__buffer__".dropRight ("__buffer__".length + 1) = "bytearray" := by decide +kernel
theorem buf_ends : (!"bytearray.__buffer__".endsWith ("." ++ "__buffer__")) = false := by decide +kernel
theorem own_buf {MM : Model} {v : Value} {Q : Bool -> Shared -> Prop} (hT : s.TypeIs v "bytearray") (h : Q true s) : wpAny MM A (Bytes.slotIsOwn v "__buffer__") Q E s := by
 unfold Bytes.slotIsOwn;refine wpAny_bind (wpAny_specialOf hT look_buffer ?_);dsimp only;rw [buf_ends, if_neg (by decide), buf_name];exact wpAny_isInstance hT sub_ba_self h
theorem ba_buffer {MM : Model} {l : Addr} {b : Array UInt8} {Q : Option (Array UInt8) -> Shared -> Prop} (hl : s.heap.get? l = some (baObj b)) (h : Q (some b) s) : wpAny MM A (Bytes.buffer? "bytes.__new__" (.ref l) true) Q E s := by
 have hT : s.TypeIs (.ref l) "bytearray" := ⟨_, hl, rfl⟩;unfold Bytes.buffer?;refine wpAny_bind (wpAny_specialOf hT look_buffer ?_);refine wpAny_bind (own_buf hT ?_);rw [if_neg (by decide)];refine wpAny_bind (wpAny_specialOf hT look_buffer ?_);dsimp only;refine wpAny_bind (own_ba hT ?_);rw [if_neg (by decide)];refine wpAny_bind (wp_payload hl ?_);exact wpAny_pure h
theorem ba_bytes_new {l : Addr} {b : Array UInt8} {Q : Value -> Shared -> Prop} (hl : s.heap.get? l = some (baObj b)) (hz : b.size < 1000) (hQ : ∀ t k, Q (.bytes b t) { s with toks := k }) :
  codeAny (model prog w) A (.call (.builtin "bytes.__new__") ⟨[.type "bytes", .ref l], []⟩) (wants Q E) s := by
 refine codeAny_of_tree ?_;show wpAny _ A.in1 (do checkBuiltinCall "bytes.__new__" ⟨[.type "bytes", .ref l], []⟩; again (.builtin "bytes.__new__" ⟨[.type "bytes", .ref l], []⟩)) _ _ s;refine wpAny_bind (wpAny_of_eq (F.bm_newCall _) (wpAny_pure ⟨plainId_quiet F.bm_plain _, codeAny_builtin F.bm_entry ?_⟩));rw [Around.under_plainId F.bm_plain _];have hT : s.TypeIs (.ref l) "bytearray" := ⟨_, hl, rfl⟩;unfold Builtin.«bytes.__new__»;refine wpAny_bind (wpAny_of_eq (a := true) rfl ?_);refine bm_if_false rfl ?_;refine wpAny_bind (wpAny_of_eq F.bm_sub ?_);refine bm_if_false rfl ?_;refine wpAny_bind (wpAny_of_eq (F.bm_bind _) ?_);refine wpAny_bind (wpAny_of_eq (a := ()) rfl ?_);refine wpAny_bind (wpAny_of_eq (a := ()) rfl ?_);refine bm_if_false rfl ?_;refine wpAny_bind (wpAny_specialOf hT ba_no_bytes ?_);refine wpAny_bind (wpAny_bind ?_);show wpAny _ _ (load l >>= _) _ _ _;refine wpAny_bind (wpAny_load hl ?_);refine wpAny_pure (wpAny_pure ?_);refine bm_if_false rfl ?_;refine wpAny_bind (wpAny_specialOf hT ba_no_index ?_);refine bm_if_true rfl ?_
 first
  | show wpAny _ _ (Builtin.Bytes.buffer? "bytes.__new__" (.ref l) true >>= _) _ _ _
  | (refine wpAny_bind ?_; show wpAny _ _ (Builtin.Bytes.buffer? "bytes.__new__" (.ref l) true >>= _) _ _ _)
 refine wpAny_bind (ba_buffer hl ?_);dsimp only
 with_reducible refine wpAny_bind ?_
 with_reducible refine wpAny_rule ?_
 with_reducible refine wpAny_bind ?_
 have hz2 : ¬ (b.size > sizeLine) := by rw [sizeLine_eq]; omega
 show wpAny _ _ (if b.size > sizeLine then unsupported "bytes:memory" else fresh >>= fun t => pure (Value.bytes b t)) _ _ _;rw [if_neg hz2];refine wpAny_bind (wpAny_fresh (wpAny_pure ?_));show wpAny _ _ (if ((Value.type "bytes") == Value.type "bytes") = true then ret (Value.bytes b s.toks) else _) _ _ _;exact bm_if_true rfl (wpAny_pure (hQ _ _))
theorem ba_bytes {l : Addr} {b : Array UInt8} {Q : Value -> Shared -> Prop} (hl : s.heap.get? l = some (baObj b)) (hz : b.size < 1000) (hQ : ∀ t k, Q (.bytes b t) { s with toks := k }) : wpAny (model prog w) A (call (.type "bytes") [.ref l]) Q E s := by
 refine callType_codes (Q₁ := fun obj s₁ => s₁.TypeIs obj "bytes" /\ Q obj s₁) F.bm_called (F.bm_typeCall _) F.entry_object_init (ba_bytes_new hl hz fun t k => ⟨typeIs_bytes _ _ _, hQ t k⟩) fun obj s₁ h? => ?_;exact ⟨h?.1, F.args_object_init_2 obj _, object_init_meets F.bm_called.init.lookup F.bm_called.made (by decide) prog w A.in1 _ s₁ ⟨h?.1, rfl, h?.2⟩⟩
end
end
section
section
open PySem.Builtin
variable {prog : Program} {w : World} {A : Around} {E : Value -> Shared -> Prop} {s : Shared}
theorem codeS_builtin {id : String} {args : Args} {b : Builtin} {R : Result -> Shared -> Prop} (hb : entryFor table id = some b) (hn : NBc (.builtin id args) = true)
  (h : wpS (model prog w) (A.under (.builtin id args)) (b args) (fun fin s' => match fin with | .done f => R (.ok f) s' | .again c' => c'.quiet = true /\ codeS (model prog w) A c' R s') (fun e s' => R (.error e) s') s) :
  codeS (model prog w) A (.builtin id args) R s := by
 refine codeS_of_tree hn ?_;show wpS _ _ (match entryFor table id with | some b => b args | none => unsupported ((withoutEnding? id "#data").getD id)) _ _ s;rw [hb]; exact h
theorem S_ba {n : Nat} {t : Tok} {Q : Value -> Shared -> Prop} (hn : n < 1000)
  (h : ∀ h' l, (∀ b o, s.heap.get? b = some o -> h'.get? b = some o) -> s.heap.get? l = none -> h'.get? l = some (baObj (Array.replicate n 0)) -> Q (.ref l) { s with heap := h' }) :
  wpS (model prog w) A (call (.type "bytearray") [.int (n : Int) t]) Q E s := by
 refine S_call (codeS_of_tree rfl (S_any ?_));show wpAny _ _ (callAny (.type "bytearray") _) _ _ _;refine wpAny_pure ⟨Code.quiet_builtin _ (by decide +kernel), codeS_builtin F.entry_type_call (by show (!holdIds.contains "type.__call__") = true; decide +kernel) ?_⟩;rw [Around.under_plain (weight_type_call_type "bytearray" [.int (n : Int) t] []) (units_type_call_type "bytearray" [.int (n : Int) t] [])];unfold «type.__call__»;dsimp only;apply byc; intro O;obtain ⟨c, tl, hmro⟩ := called_ba.mro;apply O; clear O;rw [if_neg (by rw [called_ba.notType]; decide)];rw [if_neg (by rw [called_ba.canCreate]; decide)];refine S_bind (S_any (wpAny_of_eq (typeCall_ba_1 _) ?_));refine S_bind (S_any (wpAny_of_eq hmro ?_));rw [if_neg (fun h => by cases h)];refine S_bind (S_any (wpAny_of_eq called_ba.made ?_));dsimp only;refine S_bind (S_any (wpAny_pure ?_));refine S_bind (S_any (wpAny_holding (wpAny_call (code_ba_new _ (Q₁ := fun v s' => _) ?_))));have hob : (s.heap.push (baObj #[])).get? s.heap.objs.size = some (baObj #[]) := Heap.get?_push_size _ rfl;have hT : ({ s with heap := s.heap.push (baObj #[]) } : Shared).TypeIs (.ref s.heap.objs.size) "bytearray" := ⟨_, hob, rfl⟩;refine S_bind (S_any (wpAny_isInstance hT sub_ba_self ?_));rw [if_neg (by decide)];refine S_bind (S_holding ?_);unfold callSpecial?;refine S_bind (S_any (wpAny_specialOf hT slot_ba_init.lookup ?_));dsimp only;refine S_holding ?_;refine S_bind (S_any (wpAny_of_eq (slot_ba_init.bind _) ?_));dsimp only;refine S_bind (S_call (codeS_of_tree rfl (S_any ?_)));show wpAny _ _ (do checkBuiltinCall "bytearray.__init__" _; again (.builtin "bytearray.__init__" _)) _ _ _;refine wpAny_bind (slot_ba_init.check _ _ _ _ _ _ _ _ hT (args_ba_init _ _) ?_);refine wpAny_pure ⟨Code.quiet_builtin _ (by decide +kernel), codeS_builtin entry_ba_init (by show (!holdIds.contains "bytearray.__init__") = true; decide +kernel) ?_⟩;refine ba_init_S hn hob fun h' hs hl => ?_;dsimp only;refine S_any (wpAny_pure ?_);dsimp only;refine S_any ?_;rw [if_neg (by decide)];have hfr : s.heap.get? s.heap.objs.size = none := by
  cases q : s.heap.get? s.heap.objs.size with
  | none => rfl
  | some o => exact absurd (Heap.lt_size q) (Nat.lt_irrefl _)
 refine wpAny_pure (h h' _ (fun b o e => ?_) hfr hl);rw [hs.2 b (fun hb => by rw [hb, hfr] at e; cases e)];exact qP _ e
end
end
section
local macro_rules | `(tactic| walk_at $s) => hz s ["call type:bytes", "setItem ref int"]
section
variable {Q : Value -> Shared -> Prop}
theorem ba_setItemI {prog : Program} {l : Addr} {b : Array UInt8} {k : Nat} {i v : Int} {t u : Tok} {Q : Unit -> Shared -> Prop} (hk : i = (k : Int)) (hl : s.heap.get? l = some (baObj b)) (hi : k < b.size) (hb : b.size < 1000) (h0 : 0 <= v) (h1 : v < 256)
  (h : ∀ h', Heap.SameBut l s.heap h' -> h'.get? l = some (baObj (b.setIfInBounds k v.toNat.toUInt8)) -> Q () { s with heap := h' }) : wpAny (model prog w) A (setItem (.ref l) (.int i t) (.int v u)) Q E s := by
 subst hk; exact ba_setItem hl hi hb h0 h1 h
theorem byte_lt (b : UInt8) : ((b.toNat : Nat) : Int) < 256 := by have := b.toNat_lt; omega
def SwapOk (b c : Array UInt8) (i : Nat) : Prop := c.size = b.size /\ ∀ k < i, c[2 * k]? = b[2 * k + 1]? /\ c[2 * k + 1]? = b[2 * k]?
def SwapIn (b c c' : Array UInt8) (i j : Nat) : Prop := c'.size = b.size /\ (∀ k < 2 * i, c'[k]? = c[k]?) /\ ∀ k < j, c'[2 * i + 1 - k]? = b[2 * i + k]?
theorem swapIn_step {x : List UInt8} {c c' : Array UInt8} {i j q : Nat} {v : UInt8} (h : SwapIn x.toArray c c' i j) (hq : x.length = 2 * q) (hi : i < q) (hj : j < 2) (hv : v = x.getD (2 * i + j) 0) : SwapIn x.toArray c (c'.setIfInBounds (2 * i + 1 - j) v) i (j + 1) := by
 apply byc; intro O;obtain ⟨h1, h2, h3⟩ := h;apply O; clear O;have hs : c'.size = 2 * q := by rw [h1, List.size_toArray, hq]
 refine ⟨by rw [Array.size_setIfInBounds]; exact h1, fun k hk => ?_, fun k hk => ?_⟩
 ·rw [Array.getElem?_setIfInBounds_ne (by omega)]; exact h2 k hk
 ·by_cases e : k = j
  ·subst e;rw [Array.getElem?_setIfInBounds_self_of_lt (by omega), hv, List.getD_eq_getElem?_getD, List.getElem?_toArray, List.getElem?_eq_getElem (by omega)];rfl
  ·rw [Array.getElem?_setIfInBounds_ne (by omega)]; exact h3 k (by omega)
theorem swapOk_step {b c c' : Array UInt8} {i : Nat} (h : SwapOk b c i) (h2 : SwapIn b c c' i 2) : SwapOk b c' (i + 1) := by
 apply byc; intro O;obtain ⟨h1, h2, h3⟩ := h2;apply O; clear O;refine ⟨h1, fun k hk => ?_⟩;by_cases e : k = i
 ·subst e;have e0 := h3 0 (by omega);have e1 := h3 1 (by omega);exact ⟨e1, e0⟩
 ·rw [h2 (2 * k) (by omega), h2 (2 * k + 1) (by omega)];exact h.2 k (by omega)
local macro_rules | `(tactic| walk_at "z") => `(tactic| skip)
theorem swap_S {x : List UInt8} {tk tk2 : Tok} (F : Fr h! L s.heap m) (X : (Kq w.params).In h!) (N : News h! L s.heap news) (T : Top p loose mean mg mb h!)
  (hh : A.handled = none) (hd : A.depth <= 330) (hu : A.units <= 300) (hb : x.length < 100) (heven : x.length % 2 = 0)
  (ret : ∀ h' tk' t b', Fr h! L h' m -> News h! L h' news -> (∀ b o, s.heap.get? b = some o -> h'.get? b = some o) -> b'.size = x.length -> (∀ i, i < x.length / 2 -> b'[2 * i]? = x.toArray[2 * i + 1]? /\ b'[2 * i + 1]? = x.toArray[2 * i]?) -> Q (.bytes b' t) { s with heap := h', toks := tk' }) :
  wpS (model PR w) A (call (.ref 133) [.bytes x.toArray tk, .int 2 tk2]) Q E s := by
 refine S_weak (A' := AL 1) hh hd hu rfl rfl ?_
 k_dflt (refine' enterS (news := []) (binds := [(Str.ofString "data", Value.bytes x.toArray tk), (Str.ofString "width", Value.int 2 tk2)]) F.keep (fun p h => nomatch h) X T ?k6 ?k7 ?k8 ?k9 ?kB ?_ ?c2 ?c3 ?c4 ?c5; walk_at "ENTERED")
 clear X T;intro g' L' h' gz dz tz oz Rz hR X' T' F' N' l1
 try dsimp only
 refine S_execs_cons ?_;refine S_Assign_Name ?_ rfl;refine S_Call ?_ rfl;k_steps;refine S_callWith_type1 ?_ rfl rfl;k_steps;refine S_mono (S_ba (n := x.length) (by omega) fun h9 lb ext hfr hlb => ?_) (fun _ _ h => h) (fun _ _ h => h);rename Fr .. => F7;rename News .. => N7;apply byc; intro O;obtain ⟨F9, N9, -⟩ := back F7 N7 ext hlb hfr;apply O; clear O;clear F7 N7
 try dsimp only at F9 N9 ext
 k_steps;refine S_any ?_;k_steps;unfold Halt;rename Fr .. => F8;rename News .. => N8;rename IsRange _ _ _ _ _ _ _ _ => hr;apply byc; intro O;obtain ⟨q, hq⟩ : ∃ q, x.length = 2 * q := ⟨x.length / 2, by omega⟩;apply O; clear O
 with_unfolding_all refine' st_range2 (σ := Array UInt8) (n := q) (fun c => [(lb, baObj c)]) (fun _ => []) (fun _ => True) [Str.ofString "j"] (fun i c => SwapOk x.toArray c i) (Array.replicate x.length 0) (by rfl) hr (by rw [List.size_toArray, hq]; omega) (by omega) F8 N8 trivial (fun _ h => nomatch h) ⟨by rw [Array.size_replicate, List.size_toArray], fun k hk => absurd hk (Nat.not_lt_zero _)⟩ ?_ ?_
 ·rintro c i t u h1 tk1 own hi hoff - hP F1 N1;dsimp only [kstB] at F1 N1 hP hoff;simp only [List.nil_append, List.cons_append, List.append_nil] at N1;simp only [List.map_cons, List.map_nil] at hoff;have kMark : KstMark := kstMark;clear F8 N8 hr;k_steps;unfold Halt;rename Fr .. => F8;rename News .. => N8;rename IsRange _ _ _ _ _ _ _ _ => hr
  with_unfolding_all refine' st_range (σ := Array UInt8) (n := 2) (fun c' => (lb, baObj c') :: own) (fun _ => []) (fun _ => True) [] (fun j c' => SwapIn x.toArray c c' i j) c (by rfl) hr rfl (by decide) F8 N8 trivial (fun _ h => nomatch h) ⟨hP.1, fun k hk => rfl, fun k hk => absurd hk (Nat.not_lt_zero _)⟩ ?_ ?_
  ·rintro c' j t2 u2 h2 tk3 own2 hj hoff2 - hP2 F2 N2;dsimp only [kstB] at F2 N2 hP2 hoff2;simp only [List.cons_append] at N2;clear F8 N8 hr;k_steps;unfold Halt;rename Fr .. => F8;rename News .. => N8;refine ba_setItemI (k := 2 * i + 1 - j) (by omega) (N8 _ (.head _)).1 (by rw [hP2.1, List.size_toArray]; omega) (by rw [hP2.1, List.size_toArray]; omega) (by omega) (byte_lt _) fun h9 hs9 hl9 => ?_;have hap : ∀ p ∈ own ++ own2, p.1 ≠ lb := fun p hp => by
    rcases qA hp with hp | hp
    ·exact hoff p hp _ (.head _)
    ·exact hoff2 p hp _ (.head _)
   have F9 := F8.change hs9 (N8 _ (.head _)).2.1 (N8 _ (.head _)).2.2;have N9 := N8.setHead hap hs9 hl9;clear F8 N8;dsimp only;k_steps;unfold Halt;refine st_end (_) F9 N9 (by first | kst_in | kst_inAny) (by intro p hp; exact List.mem_cons_of_mem _ (qR _ hp)) (by rfl) trivial (by kst_all) (by kst_same) (swapIn_step hP2 hq hi hj ?_);have e : ((2 * i : Nat) : Int) + (j : Int) = ((2 * i + j : Nat) : Int) := by omega
   rw [e, Int.toNat_natCast, Int.toNat_natCast];exact UInt8.ofNat_toNat
  ·rintro c' u2 h2 tk3 - hP2 F2 N2;dsimp only [kstB] at F2 N2 hP2;clear F8 N8 hr;k_steps;unfold Halt;rename Fr .. => F8;rename News .. => N8;refine st_end (_) F8 N8 (by first | kst_in | kst_inAny) (by intro p hp; kst_mem) (by rfl) trivial (by kst_all) (by kst_same) (swapOk_step hP hP2)
 ·rintro c u h1 tk1 - hP F1 N1;dsimp only [kstB] at F1 N1 hP;clear F8 N8 hr;k_steps;unfold Halt;rename Fr .. => F8;rename News .. => N8;refine ba_bytes (N8 _ (.head _)).1 (by rw [hP.1, List.size_toArray]; omega) fun t9 k9 => ?_;k_steps
  try unfold Halt
  try dsimp only
  refine hR.out F8 N8 (fun _ h => nomatch h) fun ext fresh => ?_;obtain ⟨Fz, Nz⟩ := back0 F N ext;exact ret _ _ _ _ Fz Nz ext (by rw [hP.1, List.size_toArray]) fun k hk => hP.2 k (by omega)
end
end
section
section
variable {Q : Value -> Shared -> Prop}
noncomputable def rootDict (w : World) (t1 : Tok) : Obj := dictOf [{ hash := PyData.keyHash w.params (Str.ofString "root"), key := .str (Str.ofString "root") t1, val := .none }] 1
theorem mk_K {u : Value} (hu0 : u = .none) (F : Fr h! L s.heap m) (X : (Kq w.params).In h!) (N : News h! L s.heap news) (T : Top p loose mean mg mb h!)
  (hh : A.handled = none) (hd : A.depth <= 340) (hu : A.units <= 400)
  (ret : ∀ x dx t1 h' tk', Fr h! L h' m -> News h! L h' ((x, instObj 55 dx) :: (dx, rootDict w t1) :: news) -> (∀ p ∈ news, p.1 < dx) -> dx < x -> s.heap.get? dx = none -> s.heap.get? x = none -> Q (.ref x) { s with heap := h', toks := tk' }) :
  wpAny (model PR w) A (call (.ref 55) [u]) Q E s := by
 subst hu0;refine weak (A' := AL 2) hh (by show A.depth <= 350; omega) (by show A.units <= 500; omega) rfl rfl ?_;have hLo : L ∉ (List.range s.heap.objs.size).filter fun b => decide (b ≠ L) := fun hm => by
  have := (List.mem_filter.mp hm).2;simp at this
 have inO : ∀ b o, b ≠ L -> h!.get? b = none -> s.heap.get? b = some o -> (b, o) ∈ ownOf h! ((List.range s.heap.objs.size).filter fun b => decide (b ≠ L)) s.heap := fun b o hb h0 e =>
  mem_ownOf (List.mem_filter.mpr ⟨List.mem_range.mpr (Heap.lt_size e), decide_eq_true hb⟩) h0 e
 have NO := news_ownOf (h₀ := h!) (h := s.heap) hLo;generalize ownOf h! ((List.range s.heap.objs.size).filter fun b => decide (b ≠ L)) s.heap = ow at inO NO;refine call_cls (fI := 52) F X (news := news ++ ow) (fun p hp => by rcases qA hp with hp | hp; exact N p hp; exact NO p hp) (by k_is) (by k_is) (by k_is) fun x dx h1 F1 N1' l1' l2 => ?_;have N1 : News h! L h1 ((x, instObj 55 dx) :: (dx, dictOf [] 0) :: news) := fun p hp => N1' p (by
  rcases qC hp with rfl | hp
  ·exact .head _
  rcases qC hp with rfl | hp
  ·exact .tail _ (.head _)
  ·exact .tail _ (.tail _ (qL _ hp)))
 have l1 : ∀ p ∈ news, p.1 < dx := fun p hp => l1' p (qL _ hp);have fr1 : s.heap.get? dx = none := by
  cases q : s.heap.get? dx with
  | none => rfl
  | some o => exact absurd (l1' _ (qR _ (inO dx o (N1 _ (.tail _ (.head _))).2.1 (N1 _ (.tail _ (.head _))).2.2 q))) (Nat.lt_irrefl _)
 have fr2 : s.heap.get? x = none := by
  cases q : s.heap.get? x with
  | none => rfl
  | some o => exact absurd (Nat.lt_trans l2 (l1' _ (qR _ (inO x o (N1 _ (.head _)).2.1 (N1 _ (.head _)).2.2 q)))) (Nat.lt_irrefl _)
 clear N1' l1' inO NO hLo
 k_dflt (refine' enterPc (P := dx) (news := [(x, instObj 55 dx), (dx, dictOf [] 0)]) (binds := [(Str.ofString "self", Value.ref x), (Str.ofString "root", Value.none)]) F1.keep (fun p h => by rcases qC h with rfl | h; exact ⟨(N1 _ (.head _)).1, (N1 _ (.head _)).2.2⟩; rw [qS h]; exact ⟨(N1 _ (.tail _ (.head _))).1, (N1 _ (.tail _ (.head _))).2.2⟩) X T ?k6 ?k7 ?k8 ?k9 ?kB ?_ ?c2 ?c3 ?c4 ?c5; walk_at "ENTERED")
 intro g' L' h' gz dz tz oz Rz hR X' T' F' N' l3
 try dsimp only
 have l2n : @LT.lt Nat instLTNat dx x := l2;k_steps;rename Fr g' _ _ _ => F6;rename News g' _ _ _ => N6;refine hR.out F6 N6 (fun p hp hne => ?_) fun ext fresh => ⟨rfl, ?_⟩
 ·rcases qC hp with rfl | hp
  ·exact .head _
  ·exact absurd (by rw [qS hp]) hne
 ·have hdx := N1 _ (.tail _ (.head _));apply byc; intro O;obtain ⟨t1, ht1⟩ : ∃ t1, Heap.get? _ dx = some (rootDict w t1) := ⟨_, (N6 _ (.tail _ (.head _))).1⟩;apply O; clear O;refine ret x dx t1 _ _ (backP F1 hdx.2.1 hdx.2.2 ext) (fun q hq => ?_) l1 l2 fr1 fr2;rcases qC hq with rfl | hq
  ·exact ⟨ext _ _ (Nat.ne_of_gt l2) (N1 _ (.head _)).1, (N1 _ (.head _)).2⟩
  rcases qC hq with rfl | hq
  ·exact ⟨ht1, hdx.2⟩
  ·have z := N1 _ (.tail _ (.tail _ hq));exact ⟨ext _ _ (Nat.ne_of_lt (l1 q hq)) z.1, z.2⟩
end
end
section
local macro_rules | `(tactic| walk_at $s) => hz s ["call ref", "setAttr ref", "call builtin:list.append"]
section
variable {Q : Value -> Shared -> Prop}
noncomputable def decS (n : Int) : Str := Str.ofString (toString n)
noncomputable def way (a b : Int) : Str := Str.ofString "{" ++ decS a ++ Str.ofString "}" ++ decS b
noncomputable def waysAt (rs : List Int) (bs : List UInt8) (k : Nat) : List Str := [way (rs.getD (2 * k) 0) (rs.getD (2 * k + 1) 0), way (255 - ((bs.getD (2 * k) 0).toNat : Int)) (255 - ((bs.getD (2 * k + 1) 0).toNat : Int))]
noncomputable def waysTo (rs : List Int) (bs : List UInt8) (i : Nat) : List Str := (List.range i).flatMap (waysAt rs bs)
theorem waysTo_succ (rs : List Int) (bs : List UInt8) (i : Nat) : waysTo rs bs (i + 1) = waysTo rs bs i ++ waysAt rs bs i := by
 unfold waysTo;rw [List.range_succ, List.flatMap_append];simp
theorem waysTo_length (rs : List Int) (bs : List UInt8) : ∀ i, (waysTo rs bs i).length = 2 * i
 | 0 => rfl
 | i + 1 => by rw [waysTo_succ, List.length_append, waysTo_length rs bs i]; show 2 * i + 2 = _; omega
noncomputable def thDict (w : World) (t1 t2 : Tok) (tag : Value) : Obj := dictOf [{ hash := PyData.keyHash w.params (Str.ofString "root"), key := .str (Str.ofString "root") t1, val := .none }, { hash := PyData.keyHash w.params (Str.ofString "tag"), key := .str (Str.ofString "tag") t2, val := tag }] 2
structure Things (w : World) (objs : List (Addr × Obj)) (vals tags : List Value) : Prop where
 len : vals.length = tags.length
 at' : ∀ (i : Nat) (tag : Value), tags[i]? = some tag -> ∃ t d t1 t2, vals[i]? = some (.ref t) /\ (t, instObj 55 d) ∈ objs /\ (d, thDict w t1 t2 tag) ∈ objs
theorem Things.nil {w : World} : Things w [] [] [] := ⟨rfl, fun i tag h => by simp at h⟩
theorem Things.snoc {w : World} {objs : List (Addr × Obj)} {vals tags : List Value} {t d : Addr} {t1 t2 : Tok} {tag : Value} (h : Things w objs vals tags) : Things w ((t, instObj 55 d) :: (d, thDict w t1 t2 tag) :: objs) (vals ++ [.ref t]) (tags ++ [tag]) where
 len := by simp [h.len]
 at' := fun i tg hi => by
  by_cases hlt : i < tags.length
  ·rw [List.getElem?_append_left hlt] at hi;apply byc; intro O;obtain ⟨t', d', a, b, h1, h2, h3⟩ := h.at' i tg hi;apply O; clear O;exact ⟨t', d', a, b, by rw [List.getElem?_append_left (by rw [h.len]; exact hlt)]; exact h1, .tail _ (.tail _ h2), .tail _ (.tail _ h3)⟩
  ·rw [List.getElem?_append_right (by omega)] at hi;have hz : i - tags.length = 0 := by
    cases q : i - tags.length with
    | zero => rfl
    | succ k => rw [q] at hi; simp at hi
   rw [hz] at hi;simp at hi;subst hi;refine ⟨t, d, t1, t2, ?_, .head _, .tail _ (.head _)⟩;rw [List.getElem?_append_right (by rw [h.len]; omega), h.len, hz];rfl
theorem news_rot {h : Heap} {a b c : Addr × Obj} {r : List (Addr × Obj)} (N : News h! L h (a :: b :: c :: r)) : News h! L h (c :: a :: b :: r) := fun p hp => N p (by
 rcases qC hp with rfl | hp
 ·exact .tail _ (.tail _ (.head _))
 rcases qC hp with rfl | hp
 ·exact .head _
 rcases qC hp with rfl | hp
 ·exact .tail _ (.head _)
 ·exact .tail _ (.tail _ (.tail _ hp)))
theorem backN {h h' : Heap} {new : List (Addr × Obj)} (F : Fr h! L h m) (N : News h! L h news) (ext : ∀ b o, h.get? b = some o -> h'.get? b = some o) (hn : ∀ p ∈ new, h'.get? p.1 = some p.2 /\ h.get? p.1 = none) : News h! L h' (new ++ news) := fun p hp => by
 rcases qA hp with hp | hp
 ·obtain ⟨h1, h2⟩ := hn p hp;refine ⟨h1, fun e => ?_, ?_⟩
  ·obtain ⟨oL, _, _, hL, _⟩ := F.ns;rw [<- e, h2] at hL; cases hL
  ·cases q : h!.get? p.1 with
   | none => rfl
   | some o' => rw [F.keep _ _ q] at h2; cases h2
 ·exact ⟨ext _ _ (N p hp).1, (N p hp).2⟩
theorem things_K {l l2 : Addr} {vs vs2 : List Value} {os rs : List Int} {nn nn2 q : Nat} {bs : List UInt8} {tb : Tok} (F : Fr h! L s.heap m) (X : (Kq w.params).In h!) (N : News h! L s.heap news) (T : Top p loose mean mg mb h!)
  (hh : A.handled = none) (hd : A.depth <= 330) (hu : A.units <= 300)
  (hl : (l, listOf vs.toArray nn) ∈ news) (hl2 : (l2, listOf vs2.toArray nn2) ∈ news) (hvs : IntsAre vs os) (hvs2 : IntsAre vs2 rs) (hos : os.length = 6 /\ ∀ o ∈ os, 0 <= o /\ o < 256) (hrs : ∀ r ∈ rs, 0 <= r /\ r < 256) (hq : rs.length = 2 * q) (hq6 : q <= 6) (hbs : bs.length = 2 * q)
  (ret : ∀ (r : Addr) (h' : Heap) (tk' : Nat) (vals : List Value) (k : Nat) (objs : List (Addr × Obj)) (us : List Value), Fr h! L h' m -> News h! L h' ((r, listOf vals.toArray k) :: (objs ++ news)) -> (∀ p ∈ (r, listOf vals.toArray k) :: objs, s.heap.get? p.1 = none) -> (∀ b o, s.heap.get? b = some o -> h'.get? b = some o) -> Things w objs vals (.none :: us) -> StrsAre us (os.map decS ++ waysTo rs bs q) -> Q (.ref r) { s with heap := h', toks := tk' }) :
  wpAny (model PR w) A (call (.ref 180) [.ref l, .ref l2, .bytes bs.toArray tb]) Q E s := by
 refine weak (A' := AL 1) hh hd hu rfl rfl ?_
 k_dflt (refine' enter (news := [(l, listOf vs.toArray nn), (l2, listOf vs2.toArray nn2)]) (binds := [(Str.ofString "octets", Value.ref l), (Str.ofString "row", Value.ref l2), (Str.ofString "turned", Value.bytes bs.toArray tb)]) F.keep (fun p h => by rcases qC h with rfl | h; exact ⟨(N _ hl).1, (N _ hl).2.2⟩; rw [qS h]; exact ⟨(N _ hl2).1, (N _ hl2).2.2⟩) X T ?k6 ?k7 ?k8 ?k9 ?kB ?_ ?c2 ?c3 ?c4 ?c5; walk_at "ENTERED")
 clear X T;intro g' L' h' gz dz tz oz Rz hR hz0 X' T' F' N' l1
 try dsimp only
 have kL1 := IntsAre.length hvs;have kL2 := IntsAre.length hvs2;have hos1 := hos.1;k_steps;unfold Halt;rename Addr => ln;rename Fr .. => F9;rename News .. => N9;refine lc_list (items := vs) rfl (fun i ys nx => nx = [(ln, W.listOf #[Value.none] 0), (l, W.listOf vs.toArray nn), (l2, W.listOf vs2.toArray nn2)] /\ ∃ ws, StrsAre ys ws /\ ws = (os.take i).map decS) (fun i ys nx h => by rw [h.1]; exact .tail _ (.head _)) (by decide) rfl rfl F9 X' T' N9 ⟨rfl, [], .nil, rfl⟩ ?_ ?_ ?_
 ·intro g C E' i v ys nx own H tk9 u Xg Tg lC hi hv zp1 hoff F3 N3;apply byc; intro O;obtain ⟨rfl, ws, hws, hw⟩ := zp1;apply O; clear O;apply byc; intro O;obtain ⟨c, tc, rfl, hc⟩ := ints_at hvs hv;apply O; clear O;have hcb := hos.2 c (qG hc);clear F9 N9;refine lc_nil ?_;k_steps;unfold Halt;rename Fr g C _ _ => F6;rename News g C _ _ => N6;exact LcEnd.intro _ F6 N6 (fun p hp => qL _ hp) (fun p hp => qR _ hp) hoff ⟨rfl, ws ++ [decS c], StrsAre.append' hws (.cons _ _ .nil), by rw [take_snoc hc, List.map_append, hw]; rfl⟩
 ·intro D C ys nx H tk9 k u zp1 hne hlt hDC hC hL hC0 hCn F4 N4;apply byc; intro O;obtain ⟨rfl, ws, hws, hw⟩ := zp1;apply O; clear O;refine lc_fin hDC hC hL hC0 hCn F4 N4 fun h5 F5 N5 => ?_;rw [kL1, List.take_length] at hw;subst hw;clear F9 N9;have hwl := StrsAre.length hws;rw [List.length_map] at hwl;have lt5 : ∀ p ∈ [(D, W.listOf ys.toArray k), (ln, W.listOf #[Value.none] 0), (l, W.listOf vs.toArray nn), (l2, W.listOf vs2.toArray nn2)], p.1 < h5.objs.size := fun p hp => Heap.lt_size (N5 p hp).1;k_steps;unfold Halt;rename Fr g' L' _ _ => F9;rename News g' L' _ _ => N9;rename IsRange _ _ _ _ _ _ _ _ => hr;dsimp only at F9 N9 hr ⊢;generalize hgt : h5.objs.size = tl at F9 N9 lt5 ⊢;rename StrsAre _ _ => hws;revert F9 N9;rename Fr g' L' _ _ => Fo;rename News g' L' _ _ => No;clear Fo No;intro F9 N9;have N9 : News g' L' _ [(tl, W.listOf (Value.none :: ys).toArray 0), (D, W.listOf ys.toArray k), (ln, W.listOf #[Value.none] 0), (l, W.listOf vs.toArray nn), (l2, W.listOf vs2.toArray nn2)] := N9
  with_unfolding_all refine' st_range2 (σ := List Value × List Str × Nat) (n := q) (fun c => [(tl, W.listOf (Value.none :: c.1).toArray c.2.2), (D, W.listOf ys.toArray k), (ln, W.listOf #[Value.none] 0), (l, W.listOf vs.toArray nn), (l2, W.listOf vs2.toArray nn2)]) (fun _ => []) (fun c => StrsAre c.1 c.2.1) [] (fun i c => c.2.1 = os.map decS ++ waysTo rs bs i) (ys, os.map decS, 0) (by rfl) hr (by omega) (by omega) F9 N9 hws (fun _ h => nomatch h) (by simp [waysTo]) ?_ ?_
  ·refine unc3 ?_;intro us ss kk i t u1 h1 tk1 own hi hoff hfa hP F1 N1;dsimp only [kstB] at F1 N1 hfa hP hoff;simp only [List.nil_append, List.cons_append, List.append_nil] at N1;simp only [List.map_cons, List.map_nil] at hoff;have kMark : KstMark := kstMark;have kLen := StrsAre.length hfa;have kS : us.length <= 20 := by rw [kLen, hP, List.length_append, List.length_map, waysTo_length]; omega
   clear F9 N9 hr;have rb : ∀ j, j < 2 * q -> 0 <= rs.getD j 0 /\ rs.getD j 0 < 256 := fun j hj => by
    rw [List.getD_eq_getElem?_getD, List.getElem?_eq_getElem (by omega)];exact hrs _ (List.getElem_mem _)
   have rb1 := rb ((2 * i : Nat) : Int).toNat (by omega);have rb2 := rb (((2 * i : Nat) : Int) + 1).toNat (by omega);have bb1 : (bs.getD ((2 * i : Nat) : Int).toNat 0).toNat < 256 := UInt8.toNat_lt _;have bb2 : (bs.getD (((2 * i : Nat) : Int) + 1).toNat 0).toNat < 256 := UInt8.toNat_lt _;k_steps;unfold Halt;rename Fr .. => F8;rename News .. => N8;have apart : ∀ p ∈ (D, W.listOf ys.toArray k) :: (ln, W.listOf #[Value.none] 0) :: (l, W.listOf vs.toArray nn) :: (l2, W.listOf vs2.toArray nn2) :: own, p.1 ≠ tl := by
    intro p hp;rcases qA (show p ∈ [(D, W.listOf ys.toArray k), (ln, W.listOf #[Value.none] 0), (l, W.listOf vs.toArray nn), (l2, W.listOf vs2.toArray nn2)] ++ own from hp) with hp | hp
    ·exact Nat.ne_of_lt (lt5 p hp)
    ·exact hoff p hp _ (.head _)
   refine append_head F8 (fun p hp => N8 p hp) apart (fun h9 F9 N9 => ?_) ?_
   ·clear F8 N8;simp only [List.push_toArray] at N9;k_steps;unfold Halt;rename Fr .. => F8;rename News .. => N8;refine append_head F8 (fun p hp => N8 p hp) apart (fun h9 F9 N9 => ?_) ?_
    ·clear F8 N8;simp only [List.push_toArray] at N9;k_steps;unfold Halt;rename Fr .. => F8;rename News .. => N8;refine st_end (_, _, _) F8 (show News _ _ _ ((tl, W.listOf (Value.none :: (us ++ [_] ++ [_])).toArray _) :: _) from N8) (by kst_in) (by intro p hp; kst_mem) (by rfl) (StrsAre.append' (StrsAre.append' hfa (.cons _ _ .nil)) (.cons _ _ .nil)) (by kst_all) (by kst_same) ?_;dsimp only;rw [waysTo_succ, <- List.append_assoc, <- hP, List.append_assoc];have e1 : ((2 * i : Nat) : Int).toNat = 2 * i := Int.toNat_natCast _;have e2 : (((2 * i : Nat) : Int) + 1).toNat = 2 * i + 1 := by omega
     rw [e1, e2];rfl
    ·show (Value.none :: us ++ [_]).length <= _;rw [sizeLine_eq];simp only [List.length_append, List.length_cons, List.length_nil];omega
   ·show (Value.none :: us).length <= _;rw [sizeLine_eq];simp only [List.length_cons];omega
  ·refine unc3 ?_;intro us ss kk u1 h1 tk1 hfa hP F1 N1;dsimp only [kstB] at F1 N1 hfa hP;clear F9 N9 hr;k_steps;unfold Halt;rename Fr .. => F9;rename News .. => N9;rename tl < _ /\ _ => lts;rename_i rl hA FA NA hB _ _;clear FA NA;have kS : us.length <= 20 := by rw [StrsAre.length hfa, hP, List.length_append, List.length_map, waysTo_length]; omega
   with_unfolding_all refine' st_growList (σ := List Value × List (Addr × Obj) × Nat) (l := tl) (vs := Value.none :: us) (nn := kk) (fun c => (rl, W.listOf c.1.toArray c.2.2) :: (tl, W.listOf (Value.none :: us).toArray kk) :: (D, W.listOf ys.toArray k) :: (ln, W.listOf #[Value.none] 0) :: (l, W.listOf vs.toArray nn) :: (l2, W.listOf vs2.toArray nn2) :: c.2.1) (fun _ => []) (fun _ => True) [Str.ofString "thing"] (fun i c => Things w c.2.1 c.1 ((Value.none :: us).take i) /\ ∀ p ∈ c.2.1, rl < p.1) ([], [], 0) (by rfl) (fun c => .tail _ (.head _)) F9 N9 trivial (fun _ h => nomatch h) ⟨Things.nil, fun _ h => nomatch h⟩ ?_ ?_
   ·refine unc3 ?_;intro vals objs kc i v u2 h2 tk2 own hi hv hoff zp1 zp2 F2 N2;clear zp1;apply byc; intro O;obtain ⟨hP2, hP3⟩ := zp2;apply O; clear O;dsimp only [kstB] at F2 N2 hP2 hP3 hoff;simp only [List.cons_append] at N2;have kMark : KstMark := kstMark;clear F9 N9;apply byc; intro O;obtain ⟨tg, htg⟩ : ∃ tg, tg = v := ⟨v, rfl⟩;apply O; clear O
    all_goals (
     k_steps;unfold Halt
     k_here
     rename Fr .. => F8;rename News .. => N8;refine mk_K rfl F8 X' N8 T' rfl (qB rfl) (qB rfl) fun x dx t1 h9 tk9 F9 N9 lall ltx frd frx => ?_;clear F8 N8;unfold rootDict at N9;k_steps;unfold Halt
     k_here
     k_dflt (refine' set_dict ?k1 ?k2 ?k3 ?k4 ?k5 ?k6 ?k7 ?k8 ?k9 ?k10 ?k11 ?k12 ?k13 ?_)
     case k1 => k_asm
     case k2 => k_asm
     case k3 => k_asm
     case k4 => k_inst
     case k5 => exact rfl
     case k6 => k_is
     case k7 => k_is
     case k8 => k_is
     case k9 => k_is
     case k10 => k_get
     case k11 => k_put
     case k12 => exact Upd.tail (Nat.ne_of_gt ltx) (Upd.head fun p hp => Nat.ne_of_lt (lall p hp))
     case k13 => exact qB rfl
     intro h10 F10 N10
     try dsimp only
     clear F9 N9;k_steps;unfold Halt;rename Fr .. => F8;rename News .. => N8;have ltd : rl < dx := lall _ (.head _);have N11 := news_rot N8;clear N8;refine append_head F8 (fun p hp => N11 p hp) ?_ (fun h11 F11 N11 => ?_) ?_
     ·refine List.forall_mem_cons.mpr ⟨Nat.ne_of_gt (Nat.lt_trans ltd ltx), List.forall_mem_cons.mpr ⟨Nat.ne_of_gt ltd, fun p hp => ?_⟩⟩;rcases qA (show p ∈ [(tl, W.listOf (Value.none :: us).toArray kk), (D, W.listOf ys.toArray k), (ln, W.listOf #[Value.none] 0), (l, W.listOf vs.toArray nn), (l2, W.listOf vs2.toArray nn2)] ++ (objs ++ own) from hp) with hp | hp
      ·rcases qC hp with rfl | hp
       ·exact Nat.ne_of_lt lts.1
       rcases qC hp with rfl | hp
       ·exact Nat.ne_of_lt lts.2.1
       rcases qC hp with rfl | hp
       ·exact Nat.ne_of_lt lts.2.2.1
       rcases qC hp with rfl | hp
       ·exact Nat.ne_of_lt lts.2.2.2.1
       ·rw [qS hp]; exact Nat.ne_of_lt lts.2.2.2.2
      rcases qA hp with hp | hp
      ·exact Nat.ne_of_gt (hP3 p hp)
      ·exact hoff p hp _ (.head _)
     ·clear F8;simp only [List.push_toArray] at N11;k_steps;unfold Halt;rename Fr .. => F8;rename News .. => N8;apply byc; intro O;obtain ⟨t2, N8⟩ : ∃ t2, News _ _ _ ((rl, W.listOf (vals ++ [Value.ref x]).toArray (kc + 1)) :: (x, instObj 55 dx) :: (dx, thDict w t1 t2 tg) :: (tl, W.listOf (Value.none :: us).toArray kk) :: (D, W.listOf ys.toArray k) :: (ln, W.listOf #[Value.none] 0) :: (l, W.listOf vs.toArray nn) :: (l2, W.listOf vs2.toArray nn2) :: (objs ++ own)) := by subst htg; exact ⟨_, N8⟩
      apply O; clear O;show GrowEnd _ _ _ _ _ _ _;refine gr_end (vals ++ [Value.ref x], (x, instObj 55 dx) :: (dx, thDict w t1 t2 tg) :: objs, kc + 1) F8 N8 ?_ ?_ ?_ trivial (fun _ h => nomatch h) (by kst_same) ⟨?_, ?_⟩
      ·exact List.forall_mem_cons.mpr ⟨(by repeat first | exact List.Mem.head _ | apply List.Mem.tail), List.forall_mem_cons.mpr ⟨(by repeat first | exact List.Mem.head _ | apply List.Mem.tail), List.forall_mem_cons.mpr ⟨(by repeat first | exact List.Mem.head _ | apply List.Mem.tail), List.forall_mem_cons.mpr ⟨(by repeat first | exact List.Mem.head _ | apply List.Mem.tail), List.forall_mem_cons.mpr ⟨(by repeat first | exact List.Mem.head _ | apply List.Mem.tail), List.forall_mem_cons.mpr ⟨(by repeat first | exact List.Mem.head _ | apply List.Mem.tail), List.forall_mem_cons.mpr ⟨(by repeat first | exact List.Mem.head _ | apply List.Mem.tail), List.forall_mem_cons.mpr ⟨(by repeat first | exact List.Mem.head _ | apply List.Mem.tail), fun p hp => (by repeat first | exact qL _ hp | apply List.Mem.tail)⟩⟩⟩⟩⟩⟩⟩⟩
      ·exact fun p hp => (by repeat first | exact qR _ hp | apply List.Mem.tail)
      ·exact List.forall_mem_cons.mpr ⟨.inl (.head _), List.forall_mem_cons.mpr ⟨.inl (.tail _ (.head _)), List.forall_mem_cons.mpr ⟨.inl (.tail _ (.tail _ (.head _))), List.forall_mem_cons.mpr ⟨.inl (.tail _ (.tail _ (.tail _ (.head _)))), List.forall_mem_cons.mpr ⟨.inl (.tail _ (.tail _ (.tail _ (.tail _ (.head _))))), List.forall_mem_cons.mpr ⟨.inl (.tail _ (.tail _ (.tail _ (.tail _ (.tail _ (.head _)))))), List.forall_mem_cons.mpr ⟨.inr frx, List.forall_mem_cons.mpr ⟨.inr frd, fun p h => .inl (.tail _ (.tail _ (.tail _ (.tail _ (.tail _ (.tail _ (qM h)))))))⟩⟩⟩⟩⟩⟩⟩⟩
      ·rw [take_snoc (hv.trans (congrArg some htg.symm))];exact hP2.snoc
      ·refine List.forall_mem_cons.mpr ⟨Nat.lt_trans ltd ltx, List.forall_mem_cons.mpr ⟨ltd, fun p hp => ?_⟩⟩
       ·exact hP3 p hp
     ·rw [List.size_toArray, hP2.len, List.length_take, sizeLine_eq];simp only [List.length_cons];omega)
   ·refine unc3 ?_;intro vals objs kc u2 h2 tk2 zp1 zp2 F2 N2;clear zp1;apply byc; intro O;obtain ⟨hP2, hP3⟩ := zp2;apply O; clear O;dsimp only [kstB] at F2 N2 hP2 hP3;clear F9 N9;rw [List.take_of_length_le (Nat.le_refl _)] at hP2;k_steps
    try unfold Halt
    try dsimp only
    rename Fr .. => F6;rename News .. => N6;subst hP;refine hR.out F6 N6 (fun p hp => ?_) fun ext fresh => ?_
    ·rcases qC hp with rfl | hp
     ·exact .tail _ (.tail _ (.tail _ (.tail _ (.head _))))
     ·rw [qS hp]; exact .tail _ (.tail _ (.tail _ (.tail _ (.tail _ (.head _)))))
    ·have fr2 : ∀ p ∈ (rl, listOf vals.toArray kc) :: objs, s.heap.get? p.1 = none := fun p hp => by
      have hlt : rl <= p.1 := by
       rcases qC hp with rfl | hp
       ·exact Nat.le_refl _
       ·exact Nat.le_of_lt (hP3 p hp)
      refine fresh p ?_ fun hm => ?_
      ·rcases qC hp with rfl | hp
       ·exact .head _
       ·exact .tail _ (.tail _ (.tail _ (.tail _ (.tail _ (.tail _ hp)))))
      ·rcases qC hm with rfl | hm
       ·exact absurd (Nat.lt_of_lt_of_le lts.2.2.2.1 hlt) (Nat.lt_irrefl _)
       ·rw [qS hm] at hlt;exact absurd (Nat.lt_of_lt_of_le lts.2.2.2.2 hlt) (Nat.lt_irrefl _)
     refine ret rl _ _ vals kc objs us (F.keeps ext) (backN F N ext (new := (rl, listOf vals.toArray kc) :: objs) fun p hp => ⟨(N6 p ?_).1, fr2 p hp⟩) fr2 ext hP2 hfa;rcases qC hp with rfl | hp
     ·exact .head _
     ·exact .tail _ (.tail _ (.tail _ (.tail _ (.tail _ (.tail _ hp)))))
 ·rintro i ys nx hi ⟨_, ws, hws, hw⟩;rw [StrsAre.length hws, hw, List.length_map];have : (os.take i).length <= i := by rw [List.length_take]; omega
  rw [sizeLine_eq];omega
end
end
section
theorem frOver {h! h : Heap} {L : Addr} {m : Str -> Option Value} {a x : Str} {u v : Value} (hm : m x = some v) (F : Fr h! L h (fun y => if y = a then some u else if y = x then some v else m y)) : Fr h! L h (fun y => if y = a then some u else m y) := by
 have e : (fun y => if y = a then some u else if y = x then some v else m y) = fun y => if y = a then some u else m y := by
  funext y;by_cases h1 : y = a
  ·rw [if_pos h1, if_pos h1]
  ·rw [if_neg h1, if_neg h1];by_cases h2 : y = x
   ·rw [if_pos h2, h2, hm]
   ·rw [if_neg h2]
 rw [<- e]; exact F
section
local macro_rules | `(tactic| walk_at $s) => hz s ["call ref"]
variable {Q : Flow -> Shared -> Prop}
local macro_rules | `(tactic| walk_at "z") => `(tactic| skip)
theorem law_8 {rw' : Addr} {od : Obj} {kvs : List (Str × Value)} {sp : List (Str × Str)} {ab : List (Nat × Nat)} (F : Fr h! L s.heap m) (X : (Kq w.params).In h!) (T : Top p loose mean mg mb h!) (N : News h! L s.heap (C ++ rest))
  (hh : A.handled = none) (hd : A.depth <= 320) (hu : A.units <= 200) (hm : m (Str.ofString "words") = some (.ref rw')) (hrw : (rw', od) ∈ rest) (hod : od.IsDictOf (strKind PR w) kvs) (hkv : KvIs kvs sp) (hlo : (rw' == sysModules) = false)
  (hlen : ab.length = sp.length) (h6 : sp.length <= 6) (hw : ∀ (i : Nat) (k x : Str), sp[i]? = some (k, x) -> ∃ pre a b, ab[i]? = some (a, b) /\ WordOk x pre a b)
  (ret : ∀ h' tk' r ys k, Fr h! L h' (fun y => if y = Str.ofString "row" then some (.ref r) else m y) -> News h! L h' (C ++ (r, listOf ys.toArray k) :: rest) -> (∀ p ∈ C ++ rest, p.1 ≠ r) -> IntsAre ys (rowOf ab) -> Q .next { s with heap := h', toks := tk' }) :
  wpAny (model PR w) A (exec (lst 8) (lenv L)) Q E s := by
 refine weakL hh hd hu ?_;have F1 := frSet F hm;have N1 : News h! L s.heap ((rw', od) :: (C ++ rest)) := nC (N _ (qR _ hrw)) (N);clear N F;refine cvS (by conv => lhs; whnf) ?_;k_steps;unfold Halt;rename_i vw hb F2 N2 lv;refine row_K F2 X N2 T rfl (qB rfl) (qB rfl) (d := rw') (.head _) (.tail _ (.head _)) hod hkv hlen h6 hw fun r h3 tk3 ys k F3 N3 hr ext3 hi => ?_;clear F2 N2;k_steps
 try unfold Halt
 rename News .. => N4;rename Fr .. => F4;have N5 : News h! L _ ((r, listOf ys.toArray k) :: (C ++ rest)) := fun q hq => N4 q (by
  rcases qC hq with rfl | hq
  ·exact .head _
  ·exact .tail _ (.tail _ (.tail _ hq)))
 exact ret _ _ r ys k (frOver hm F4) (newsMid N5) (fun p hp => hr p (.tail _ (.tail _ hp))) hi
end
section
local macro_rules | `(tactic| walk_at $s) => hz s ["call type:bytes"]
variable {Q : Flow -> Shared -> Prop}
set_option linter.unusedVariables false in
theorem law_9 {rr : Addr} {ys : List Value} {k : Nat} {rs : List Int} {x : List UInt8} (F : Fr h! L s.heap m) (X : (Kq w.params).In h!) (T : Top p loose mean mg mb h!) (N : News h! L s.heap (C ++ rest))
  (hh : A.handled = none) (hd : A.depth <= 320) (hu : A.units <= 200) (hm : m (Str.ofString "row") = some (.ref rr)) (hrr : (rr, listOf ys.toArray k) ∈ rest) (hi : IntsAre ys rs) (hb : rs.length <= 12) (he : rs.length % 2 = 0) (hr : ∀ r ∈ rs, 0 <= r /\ r < 256) (hx : x = rs.map fun r => r.toNat.toUInt8)
  (ret : ∀ h' tk' t b', Fr h! L h' (fun y => if y = Str.ofString "turned" then some (.bytes b' t) else m y) -> News h! L h' (C ++ rest) -> b'.size = x.length -> (∀ i, i < x.length / 2 -> b'[2 * i]? = x.toArray[2 * i + 1]? /\ b'[2 * i + 1]? = x.toArray[2 * i]?) -> Q .next { s with heap := h', toks := tk' }) :
  wpS (model PR w) A (exec (lst 9) (lenv L)) Q E s := by
 refine S_weak (A' := { handled := none, depth := 320, frames := none, guards := none, units := 200 }) hh hd hu rfl rfl ?_;have F1 := frSet F hm;clear F
 conv in (lst _) => whnf
 refine S_Assign_Name ?_ rfl;refine S_Call ?_ rfl;k_steps;refine S_callWith_K (K := Kq w.params) (by k_is) ?_ rfl rfl;k_steps;unfold Halt;rename News h! L _ _ => N2;rename Fr h! L _ _ => F2;refine bytes_K F2 N2 ⟨_, (N2 _ (qR _ hrr)).1, rfl, k, rfl⟩ hi hr (by rw [sizeLine_eq]; have := IntsAre.length hi; omega) rfl fun h3 t3 k3 F3 N3 _ => ?_;clear F2 N2;k_steps;subst hx;refine swap_S F3 X N3 T rfl (qB rfl) (qB rfl) (by rw [List.length_map]; omega) (by rw [List.length_map]; exact he) fun h5 tk5 t5 b' F5 N5 _ hsz hsw => ?_;clear F3 N3;k_steps;rename News h! L _ _ => N6;rename Fr h! L _ _ => F6;exact ret _ _ t5 b' (frOver hm F6) N6 hsz hsw
end
section
local macro_rules | `(tactic| walk_at $s) => hz s ["call ref", "storeName"]
variable {Q : Flow -> Shared -> Prop}
local macro_rules | `(tactic| walk_at "z") => `(tactic| skip)
theorem law_10 {b : Array UInt8} {tb : Tok} (F : Fr h! L s.heap m) (X : (Kq w.params).In h!) (T : Top p loose mean mg mb h!) (N : News h! L s.heap (C ++ rest))
  (hh : A.handled = none) (hd : A.depth <= 320) (hu : A.units <= 200) (hm : m (Str.ofString "turned") = some (.bytes b tb))
  (ret : ∀ h' tk', Fr h! L h' m -> News h! L h' (C ++ rest) -> Q .next { s with heap := h', toks := tk' }) :
  wpAny (model PR w) A (exec (lst 10) (lenv L)) Q E s := by
 refine weakL hh hd hu ?_;have F1 := frSet F hm;clear F;refine cvS (by conv => lhs; whnf) ?_;k_steps;rename News h! L _ _ => N4;rename Fr h! L _ _ => F4;exact ret _ _ (frBack hm F4) N4
theorem law_11 {r1 rr : Addr} {ys1 ys : List Value} {k1 k : Nat} {os rs : List Int} {q : Nat} {bs : List UInt8} {tb : Tok} (F : Fr h! L s.heap m) (X : (Kq w.params).In h!) (T : Top p loose mean mg mb h!) (hC : Cells L cv C) (N : News h! L s.heap (C ++ rest)) (hA : Apart L rest)
  (hh : A.handled = none) (hd : A.depth <= 320) (hu : A.units <= 200) (h1 : cv 1 = some (.ref r1)) (hr1 : (r1, listOf ys1.toArray k1) ∈ rest) (hi1 : IntsAre ys1 os)
  (hm : m (Str.ofString "row") = some (.ref rr)) (hrr : (rr, listOf ys.toArray k) ∈ rest) (hi : IntsAre ys rs) (hm2 : m (Str.ofString "turned") = some (.bytes bs.toArray tb))
  (hos : os.length = 6 /\ ∀ o ∈ os, 0 <= o /\ o < 256) (hrs : ∀ r ∈ rs, 0 <= r /\ r < 256) (hq : rs.length = 2 * q) (hq6 : q <= 6) (hbs : bs.length = 2 * q)
  (ret : ∀ h' tk' r vals k objs us C', Fr h! L h' m -> News h! L h' (C' ++ (r, listOf vals.toArray k) :: (objs ++ rest)) -> Cells L (setC cv 3 (.ref r)) C' -> (∀ q ∈ (r, listOf vals.toArray k) :: objs, ∀ p ∈ C ++ rest, p.1 ≠ q.1) -> Things w objs vals (.none :: us) -> StrsAre us (os.map decS ++ waysTo rs bs q) -> Q .next { s with heap := h', toks := tk' }) :
  wpAny (model PR w) A (exec (lst 11) (lenv L)) Q E s := by
 refine weakL hh hd hu ?_;apply byc; intro O;obtain ⟨o1, m1, d1⟩ := cell_at hC 1 (by decide) h1;apply O; clear O;have F1 := frSet (frSet F hm) (x := Str.ofString "turned") (v := .bytes bs.toArray tb) (by show (if Str.ofString "turned" = Str.ofString "row" then _ else _) = _; rw [if_neg (by decide)]; exact hm2);have N1 : News h! L s.heap ((L + 1 + 1, o1) :: (r1, listOf ys1.toArray k1) :: (rr, listOf ys.toArray k) :: (C ++ rest)) := nC (N _ (qL _ m1)) (nC (N _ (qR _ hr1)) (nC (N _ (qR _ hrr)) (N)));clear F;refine cvS (by conv => lhs; whnf) ?_;k_steps;unfold Halt;rename Fr h! L _ _ => F2;rename News h! L _ ((_, o1) :: _) => N2;refine things_K F2 X N2 T rfl (qB rfl) (qB rfl) (.tail _ (.head _)) (.tail _ (.tail _ (.head _))) hi1 hi hos hrs hq hq6 hbs fun r h3 tk3 vals k3 objs us F3 N3 hnew ext3 hth hus => ?_;clear F2 N2;k_steps;unfold Halt;rename Fr h! L _ _ => F4;rename News h! L _ _ => N4;have hr : ∀ q ∈ (r, listOf vals.toArray k3) :: objs, ∀ p ∈ C ++ rest, p.1 ≠ q.1 := fun q hq p hp e => by
  have e1 := (N p hp).1;rw [e, hnew q hq] at e1; cases e1
 have N5 : News h! L h3 (C ++ (r, listOf vals.toArray k3) :: (objs ++ rest)) := fun q hq => N4 q (by
  rcases qA hq with h | h
  ·exact .tail _ (qR _ (.tail _ (.tail _ (.tail _ (qL _ h)))))
  rcases qC h with rfl | h
  ·exact .head _
  rcases qA h with h | h
  ·exact .tail _ (qL _ h)
  ·exact .tail _ (qR _ (.tail _ (.tail _ (.tail _ (qR _ h))))))
 have hA2 : Apart L ((r, listOf vals.toArray k3) :: (objs ++ rest)) := by
  refine Apart.cons (Apart.app hA fun q hq => hC.off fun p hp => hr q (.tail _ hq) p (qL _ hp)) (hC.off fun p hp => hr _ (.head _) p (qL _ hp))
 exact store_C F4 N5 hC hA2 (i := 3) (by decide) rfl rfl fun h8 C' F8 N8 hC8 => ret h8 _ r vals k3 objs us C' (frBack hm (frBack (by show (if Str.ofString "turned" = Str.ofString "row" then _ else _) = _; rw [if_neg (by decide)]; exact hm2) F8)) N8 hC8 hr hth hus
end
end
section
section
open PySem.Builtin PySem.Builtin.Slice
theorem mro_slice : mroOf (.type "slice") = pure [.type "slice", .type "object"] := by rw [mroOf_type]; kernel_rfl
theorem lookup_slice_new : typeLookup (.type "slice") "__new__" = pure (some (.builtin "slice.__new__")) := by rw [typeLookup_type, builtinLookup_eq_fast]; kernel_rfl
theorem sub_slice_self : isSubtype (.type "slice") (.type "slice") = pure true := by rw [isSubtype_type]; kernel_rfl
theorem slot_slice_init : Slot "slice" "__init__" "object.__init__" :=
 .of (owner := "object") (n := "__init__") (by rw [typeLookup_type, builtinLookup_eq_fast]; kernel_rfl) (by decide +kernel) (by decide +kernel) (by decide +kernel)
  (by first | exact .inl (by decide +kernel) | exact .inr (by decide +kernel)) (by rw [isSubtype_type]; kernel_rfl)
theorem called_slice : TypeCalled "slice" "slice.__new__" "object.__init__" :=
 ⟨by decide +kernel, by decide +kernel, ⟨_, _, mro_slice⟩, madeBy_type mro_slice lookup_slice_new (by decide +kernel), by decide +kernel, sub_slice_self, slot_slice_init⟩
theorem typeCall_slice_2 (a b : Value) : checkTypeCall "slice" ⟨[a, b], []⟩ = pure () := by kernel_rfl
theorem newCall_slice_2 (a b : Value) : checkBuiltinCall "slice.__new__" ⟨[.type "slice", a, b], []⟩ = pure () := by kernel_rfl
theorem entry_slice_new : entryFor table "slice.__new__" = some Builtin.«slice.__new__» := entryFor_of_tree (by kernel_rfl)
theorem boot_slice : bootBuiltins "slice" = some (.type "slice") := by decide +kernel
noncomputable def sliceObj (a b : Value) : Obj := { cls := .type "slice", data := .fields #[a, b, .none] }
section
variable {prog : Program} {w : World} {A : Around} {E : Value -> Shared -> Prop} {s : Shared}
theorem slice_new_in (a b : Value) :
  MeetsIn prog w (Builtin.«slice.__new__» ⟨[.type "slice", a, b], []⟩) (fun _ R s => R (.ok (.ret (Value.ref s.heap.objs.size))) { s with heap := s.heap.push (sliceObj a b), toks := s.toks }) :=
 .of_wp fun A R s h => by
  have hsub := sub_slice_self;apply byc; intro O;obtain ⟨hp, g, d, tk, os⟩ := s;apply O; clear O
  wp_walk
  exact ⟨_, rfl, h⟩
theorem call_slice {a b : Value} {Q : Value -> Shared -> Prop} (h : Q (.ref s.heap.objs.size) { s with heap := s.heap.push (sliceObj a b), toks := s.toks }) :
  wpAny (model prog w) A (call (.type "slice") [a, b]) Q E s :=
 callType_newIn called_slice (by decide) (typeCall_slice_2 _ _) (newCall_slice_2 _ _) (fun obj => F.initArgs_range_2 obj _ _) entry_slice_new
  (slice_new_in a b) ⟨⟨_, Heap.get?_push_size _ rfl, rfl⟩, h⟩
end
section
variable {prog : Program} {w : World} {A : Around} {E : Value -> Shared -> Prop} {s : Shared} {h! : Heap} {L : Addr} {m : Str -> Option Value} {news : List (Addr × Obj)} {x : Str} {t : Tok} {value sl : PySem.Expr} {Q : Value -> Shared -> Prop} {c : Addr}
theorem slice_made {a b : Value} (F : Fr h! L s.heap m) (N : News h! L s.heap news)
  (h : ∀ (c : Addr) h' tk, Fr h! L h' m -> News h! L h' ((c, sliceObj a b) :: news) -> (∀ q ∈ news, q.1 < c) -> Q (.ref c) { s with heap := h', toks := tk }) :
  wpAny (model prog w) A (call (.type "slice") [a, b]) Q E s :=
 call_slice (h _ _ _ (F.push _) (News.push F N _) (fun q hq => Heap.lt_size (N q hq).1))
theorem cut_str (F : Fr h! L s.heap m) (N : News h! L s.heap news) {l u : Option (Int × Tok)} (hm : (c, sliceObj (partValue l) (partValue u)) ∈ news) (hsz : x.length <= 16777216)
  (h : ∀ h' t' k, Fr h! L h' m -> News h! L h' news -> Q (.str (Txt.slice x (l.map (·.1)) (u.map (·.1))) t') { s with heap := h', toks := k })
  (hs : subscripted sl false (.str x t) (.ref c) = operate [.str x t, .ref c] (getItem (.str x t) (.ref c)) := by with_unfolding_all rfl)
  (ht : ∀ r, letTemporaryGo value (.str x t) r = pure () := by intro _; with_unfolding_all rfl) :
  wpAny (model prog w) A (subscriptTail value sl (.str x t) (.ref c)) Q E s :=
 tail_of_ItemOn ⟨"str", _, PySem.F.slot_str_getitem.lookup, typeIs_str _ _ _, wpAny_getItem_str_slice (l := l) (u := u) (st := none) ⟨_, (N _ hm).1, rfl, rfl⟩ rfl
  (post_val_or_str ⟨Nat.le_trans (Txt.slice_le x _ _) (by rw [sizeLine_eq]; exact hsz), fun t' k => h _ t' k F N⟩)⟩ hs ht
theorem cut_ns (F : Fr h! L s.heap m) (N : News h! L s.heap news) {j : Int} {uj : Tok} (hm : (c, sliceObj .none (.int j uj)) ∈ news) (hsz : x.length <= 16777216)
  (h : ∀ h' t' k, Fr h! L h' m -> News h! L h' news -> (Txt.slice x none (some j)).length <= x.length -> Q (.str (Txt.slice x none (some j)) t') { s with heap := h', toks := k })
  (hs : subscripted sl false (.str x t) (.ref c) = operate [.str x t, .ref c] (getItem (.str x t) (.ref c)) := by with_unfolding_all rfl)
  (ht : ∀ r, letTemporaryGo value (.str x t) r = pure () := by intro _; with_unfolding_all rfl) :
  wpAny (model prog w) A (subscriptTail value sl (.str x t) (.ref c)) Q E s :=
 cut_str F N (l := none) (u := some (j, uj)) hm hsz (fun h' t' k F N => h h' t' k F N (Txt.slice_le _ _ _)) hs ht
theorem cut_sn (F : Fr h! L s.heap m) (N : News h! L s.heap news) {j : Int} {uj : Tok} (hm : (c, sliceObj (.int j uj) .none) ∈ news) (hsz : x.length <= 16777216)
  (h : ∀ h' t' k, Fr h! L h' m -> News h! L h' news -> (Txt.slice x (some j) none).length <= x.length -> Q (.str (Txt.slice x (some j) none) t') { s with heap := h', toks := k })
  (hs : subscripted sl false (.str x t) (.ref c) = operate [.str x t, .ref c] (getItem (.str x t) (.ref c)) := by with_unfolding_all rfl)
  (ht : ∀ r, letTemporaryGo value (.str x t) r = pure () := by intro _; with_unfolding_all rfl) :
  wpAny (model prog w) A (subscriptTail value sl (.str x t) (.ref c)) Q E s :=
 cut_str F N (l := some (j, uj)) (u := none) hm hsz (fun h' t' k F N => h h' t' k F N (Txt.slice_le _ _ _)) hs ht
end
end
end
section
local macro_rules | `(tactic| walk_at "eval Name") => `(tactic| (k_here; rename News .. => kN; k_dflt (refine' nameX_F kN ?c ?m ?d ?_ ?a ?b; (case a => rfl); (case b => rfl); (case c => rfl); (case m => k_mem); (case d => assumption); k_whole)))
local macro_rules | `(tactic| walk_at "eval Name") => `(tactic| ((with_reducible show wpAny _ _ (eval (Expr.Name (Str.ofString "slice") _) _) _ _ _); k_dflt (refine' nameX_B ?F ?X ?T ?e boot_slice ?n ?_ ?a ?b; (case F => k_asm); (case X => k_asm); (case T => k_asm); (case a => rfl); (case b => rfl); (case e => k_is); (case n => decide); k_whole)))
local macro_rules | `(tactic| walk_at "call type:slice") => `(tactic| (k_here; rename Fr .. => kF; rename News .. => kN; refine slice_made (s := ⟨_, _, _, _, _⟩) kF kN ?_; intro c' h' tk' F' N' l1; try k_lt l1; try k_sweep))
local macro_rules | `(tactic| walk_at "subscriptTail") => `(tactic| (k_here; (with_reducible show wpAny _ _ (subscriptTail _ (Expr.Name _ _) (Value.str _ _) (Value.ref _)) _ _ _); rename Fr .. => kF; rename News .. => kN; (first | refine cut_sn (s := ⟨_, _, _, _, _⟩) kF kN (by k_mem) (by omega) ?_ | refine cut_ns (s := ⟨_, _, _, _, _⟩) kF kN (by k_mem) (by omega) ?_); intro _ _ _ F' N' _; try k_sweep))
section
theorem cells_inv {cm : Str -> Option Value} {n : Str} {c : Addr} {cs : List (Str × Addr)} {cells : List (Addr × Obj)} (x : CellsAre cm ((n, c) :: cs) cells) : ∃ o r, cells = (c, o) :: r /\ o.data = .cell (cm n) /\ CellsAre cm cs r := by
 cases x with
 | cons h1 x => exact ⟨_, _, rfl, h1, x⟩
theorem cells7 {cm : Str -> Option Value} {n1 n2 n3 n4 n5 n6 n7 : Str} {c1 c2 c3 c4 c5 c6 c7 : Addr} {cells : List (Addr × Obj)} (x : CellsAre cm [(n1, c1), (n2, c2), (n3, c3), (n4, c4), (n5, c5), (n6, c6), (n7, c7)] cells) :
  ∃ o1 o2 o3 o4 o5 o6 o7, cells = [(c1, o1), (c2, o2), (c3, o3), (c4, o4), (c5, o5), (c6, o6), (c7, o7)] /\ o1.data = .cell (cm n1) /\ o2.data = .cell (cm n2) /\ o3.data = .cell (cm n3) /\ o4.data = .cell (cm n4) /\ o5.data = .cell (cm n5) /\ o6.data = .cell (cm n6) /\ o7.data = .cell (cm n7) := by
 apply byc; intro O;obtain ⟨o1, r1, rfl, d1, x⟩ := cells_inv x;obtain ⟨o2, r2, rfl, d2, x⟩ := cells_inv x;obtain ⟨o3, r3, rfl, d3, x⟩ := cells_inv x;obtain ⟨o4, r4, rfl, d4, x⟩ := cells_inv x;obtain ⟨o5, r5, rfl, d5, x⟩ := cells_inv x;obtain ⟨o6, r6, rfl, d6, x⟩ := cells_inv x;obtain ⟨o7, r7, rfl, d7, x⟩ := cells_inv x;cases x;exact O ⟨_, _, _, _, _, _, _, rfl, d1, d2, d3, d4, d5, d6, d7⟩
theorem two_of {α : Type} : ∀ {l : List α}, l.length = 2 -> ∃ a b, l = [a, b]
 | [a, b], _ => ⟨a, b, rfl⟩
noncomputable def selQual : Str := Str.ofString "_prepare_tag.<locals>.select"
noncomputable def selPos : List Pos := [⟨7, 8, 10, 30⟩, ⟨13, 8, 17, 30⟩, ⟨23, 8, 27, 30⟩, ⟨32, 8, 36, 30⟩]
structure TabH (P : Addr -> Prop) (ps : Array Value) (h : Heap) : Prop where
 tri : TriplesOk ps.toList
 codes : ∀ pos ∈ selPos, codeAmong pos ps.toList = none \/ ∃ c', codeAmong pos ps.toList = some (.ref c') /\ c' ≠ 33 /\ P c' /\ h.CodeRec (.ref c') selQual
theorem codeAmong_other {pos : Pos} {a b : Int} {c : Value} (hne : (a == (pos.line : Int) && b == (pos.col : Int)) = false) (l : List Value) (h : TriplesOk l) : codeAmong pos (l ++ [rawInt a, rawInt b, c]) = codeAmong pos l := by
 fun_induction TriplesOk l with
 | case1 =>
  show (if (a == (pos.line : Int) && b == (pos.col : Int)) = true then _ else _) = _;rw [hne]; rfl
 | case2 a t b u x rest ih =>
  simp only [List.cons_append, codeAmong];split
  ·rfl
  ·exact ih h
 | case3 l h1 h2 => exact h.elim
section
variable {Q : Value -> Shared -> Prop}
theorem TabH.snoc {P : Addr -> Prop} {ps : Array Value} {h h' : Heap} {pos : Pos} {c' : Addr} (x : TabH P ps h) (hk : ∀ b o, b ≠ 33 -> h.get? b = some o -> h'.get? b = some o) (hp : pos ∈ selPos) (hn : codeAmong pos ps.toList = none) (hc : c' ≠ 33) (hPc : P c') (hr : h'.CodeRec (.ref c') selQual) :
  TabH P (ps ++ #[rawInt pos.line, rawInt pos.col, .ref c']) h' where
 tri := by rw [Array.toList_append]; exact TriplesOk_snoc _ _ _ _ x.tri
 codes := fun q hq => by
  rw [Array.toList_append];by_cases e : q = pos
  ·subst e;exact .inr ⟨c', codeAmong_snoc _ x.tri hn, hc, hPc, hr⟩
  ·have hne : (((pos.line : Int)) == (q.line : Int) && ((pos.col : Int)) == (q.col : Int)) = false := by
    simp only [selPos, List.mem_cons, List.not_mem_nil, or_false] at hp hq;rcases hp with rfl | rfl | rfl | rfl <;> rcases hq with rfl | rfl | rfl | rfl <;> first | exact absurd rfl e | decide
   rw [show (#[rawInt pos.line, rawInt pos.col, Value.ref c'] : Array Value).toList = [rawInt pos.line, rawInt pos.col, .ref c'] from rfl, codeAmong_other hne _ x.tri];rcases x.codes q hq with h1 | ⟨c, h1, h2, hp1, d, od, vs, t, e1, h3, h4⟩
   ·exact .inl h1
   ·cases e1;exact .inr ⟨c, h1, h2, hp1, c, od, vs, t, rfl, hk _ _ h2 h3, h4⟩
theorem TabH.keeps {P : Addr -> Prop} {ps : Array Value} {h h' : Heap} (x : TabH P ps h) (hk : ∀ b o, b ≠ 33 -> h.get? b = some o -> h'.get? b = some o) : TabH P ps h' where
 tri := x.tri
 codes := fun q hq => by
  rcases x.codes q hq with h1 | ⟨c, h1, h2, hp1, d, od, vs, t, e1, h3, h4⟩
  ·exact .inl h1
  ·cases e1;exact .inr ⟨c, h1, h2, hp1, c, od, vs, t, rfl, hk _ _ h2 h3, h4⟩
theorem nest_any {M : Model} {a : Addr} {cn : Str} {cs : Scope} {ccd : Value} {cl clos : List (Str × Addr)} {g : Obj -> List (Addr × Obj)} {params : Arguments} {body : List Stmt} {scope : Scope} {ps : Array Value} {pos : Pos} {firstLine : Nat}
  (F : Fr h! L s.heap m) (N : News h! L s.heap news) (T : Top p loose mean mg mb h!) (C : CodeHd h! 37 33) (hcd : ccd = .ref 37) (U : UpdF 33 (tabObj ps) news g) {P : Addr -> Prop} (hPn : ∀ c, c ≠ 33 -> h!.get? c = none -> P c) (hT : TabH P ps h!) (hp : pos ∈ selPos) (h33 : 33 < L) (hcl : closureFor scope (envX cn cs L a ccd cl) = pure clos)
  (h : ∀ f c' ctv doc ps' cd h' tk, Fr h! L h' m -> News h! L h' ((f, fnMade (Str.ofString "select") selQual params body scope clos doc ((mg "__name__").getD .none) c' ctv) :: (cd ++ g (tabObj ps'))) -> (∀ h'' : Heap, (∀ b o, h!.get? b = some o -> h''.get? b = some o) -> (∀ p ∈ cd, h''.get? p.1 = some p.2) -> TabH P ps' h'' /\ h''.CodeRec (.ref c') selQual) -> (∀ q ∈ news, q.1 < f) -> Q (.ref f) { s with heap := h', toks := tk }) :
  wpAny M A (makeFunction (Str.ofString "select") selQual params (.stmts body) scope (envX cn cs L a ccd cl) [] [] [] pos firstLine) Q E s := by
 rcases hT.codes pos hp with h1 | ⟨c, h1, h2, hp1, h3⟩
 ·refine nest_K F N T C hcd U hT.tri h1 hcl fun f c' oc vs t ctv doc h' tk F' N' hd hv l1 l2 => ?_;have F'' := N';apply byc; intro O;obtain ⟨own, rest, rfl, hgr, -, -⟩ := U.split;apply O; clear O;have hc33 : c' ≠ 33 := Nat.ne_of_gt (l1 (33, tabObj ps) (qR _ (.head _)));exact h f c' ctv doc _ [(c', oc)] h' tk F' N' (fun h'' k1 k2 => have hr : h''.CodeRec (.ref c') selQual := ⟨c', oc, vs, t, rfl, k2 _ (.head _), hd, hv⟩; ⟨hT.snoc (fun b o _ e => k1 b o e) hp h1 hc33 (hPn _ hc33 (F'' (c', oc) (.tail _ (.head _))).2.2) hr, hr⟩) fun q hq => Nat.lt_trans (l1 q hq) l2
 ·obtain ⟨own, rest, rfl, hgr, -, -⟩ := U.split;refine nestHit_K F N T C hcd (ps := ps) (qR _ (.head _)) hT.tri h1 hcl fun f ctv doc h' tk F' N' l1 => ?_;apply byc; intro O;obtain ⟨d, od, vs, t, e1, h4, h5⟩ := h3;apply O; clear O;cases e1;exact h f c ctv doc ps [] h' tk F' (by rw [List.nil_append, hgr]; exact N') (fun h'' k1 _ => ⟨hT.keeps fun b o _ e => k1 b o e, ⟨c, od, vs, t, rfl, k1 _ _ h4, h5⟩⟩) l1
def TestEnd (gE : Heap) (C : Addr) (v : Value) (led : List (Addr × Obj)) (s : Shared) (b ok : Bool) (s₄ : Shared) : Prop :=
 ok = b /\ ∃ h' tk m' news', s₄ = { s with heap := h', toks := tk } /\ Fr gE C h' m' /\ m' (Str.ofString "elem") = some v /\ News gE C h' news' /\ ∀ p ∈ led, p ∈ news'
theorem TestEnd.intro {gE : Heap} {C : Addr} {v : Value} {led news' : List (Addr × Obj)} {s : Shared} {b ok : Bool} {h' : Heap} {tk : Nat} {m' : Str -> Option Value} (e : ok = b) (F : Fr gE C h' m') (N : News gE C h' news') (hm : m' (Str.ofString "elem") = some v) (hl : ∀ p ∈ led, p ∈ news') : TestEnd gE C v led s b ok { s with heap := h', toks := tk } :=
 ⟨e, h', tk, m', news', rfl, F, hm, N, hl⟩
def TestOk (w : World) (scope : Scope) (nms : List Str) (vals : List Value) (own : List (Addr × Obj)) (pz : Value -> Bool) (pre : List Stmt) (test : PySem.Expr) : Prop :=
 ∀ (gE : Heap) (C f c' : Addr) (as : List Addr) (os : List Obj) (p : Program) (loose : List Str) (mean : ExcName -> Option Value) (mg mb : Str -> Option Value) (A : Around) (t d : Addr) (t1 t2 : Tok) (tag : Value) (m : Str -> Option Value) (rest : List (Addr × Obj)) (s : Shared),
  (Kq w.params).In gE -> Top p loose mean mg mb gE -> A.handled = none -> A.depth <= 420 -> A.units <= 1200 -> as.length = nms.length -> os.length = nms.length -> (∀ i, i < nms.length -> (os.getD i default).data = .cell (some (vals.getD i .none))) -> (tag = .none \/ ∃ x tx, tag = .str x tx /\ 0 < x.length /\ x.length <= 20) ->
  Fr gE C s.heap (fun y => if y = Str.ofString "elem" then some (.ref t) else m y) -> News gE C s.heap (as.zip os ++ (own ++ (t, instObj 55 d) :: (d, thDict w t1 t2 tag) :: rest)) ->
  wpAny (model PR w) A (execs pre (envX selQual scope C f (.ref c') (nms.zip as))) (fun fl s₃ => fl = .next /\ wpAny (model PR w) A (isTrue test (envX selQual scope C f (.ref c') (nms.zip as)) (eval test (envX selQual scope C f (.ref c') (nms.zip as)))) (TestEnd gE C (.ref t) (as.zip os ++ (own ++ (t, instObj 55 d) :: (d, thDict w t1 t2 tag) :: rest)) s (pz tag)) NoE s₃) NoE s
structure SelOk (w : World) (params : Arguments) (body : List Stmt) (scope : Scope) (nms : List Str) (vals : List Value) (own : List (Addr × Obj)) (pz : Value -> Bool) : Prop where
 ex : ∃ px pr px2 yp ep ip fp pre test, body = [selFor (Str.ofString "elem") (Str.ofString "result") px pr px2 yp ep ip fp pre test] /\ TestOk w scope nms vals own pz pre test
 hk : scope.kind = .function
 gen : scope.isGenerator = true
 co : scope.isCoroutine = false
 l1 : scope.names.lookup (Str.ofString "elem") = some .local
 l2 : scope.names.lookup (Str.ofString "result") = some .local
 l3 : scope.names.lookup (Str.ofString "context") = some .local
 nc : ∀ x ∈ scope.names, x.2 ≠ .cell
 bind : ∀ (s : Shared) (clos : List (Str × Addr)) (doc pm : Value) (c' : Addr) (ctv : Value) (a b : Value), BindsTo s (fnX (Str.ofString "select") selQual params body scope clos .none .none doc pm none (.ref c') ctv) ⟨[a, b], []⟩ [(Str.ofString "context", a), (Str.ofString "result", b)]
noncomputable def isS (v : Value) : Bool := match v with | .str _ _ => true | _ => false
theorem prep1_K {P : Addr -> Prop} {ps : Array Value} {x : Str} {tk : Tok} (hx : x = Str.ofString "{*}*") (F : Fr h! L s.heap m) (X : (Kq w.params).In h!) (N : News h! L s.heap news) (T : Top p loose mean mg mb h!)
  (hh : A.handled = none) (hd : A.depth <= 350) (hu : A.units <= 500) (hP : (33, tabObj ps) ∈ news) (hPs : ∀ c, s.heap.get? c = none -> P c) (hT : TabH P ps s.heap)
  (ret : ∀ f params body scope (as : List Addr) (os : List Obj) (c' : Addr) (ctv doc pm : Value) ps' h' tk', SelOk w params body scope [Str.ofString "_str", Str.ofString "_isinstance"] [.type "str", .builtin "isinstance"] [] isS -> as.length = 2 -> os.length = 2 -> (∀ i, i < 2 -> (os.getD i default).data = .cell (some ([Value.type "str", .builtin "isinstance"].getD i .none))) ->
   (∀ b o, b ≠ 33 -> s.heap.get? b = some o -> h'.get? b = some o) -> h'.get? 33 = some (tabObj ps') -> TabH P ps' h' -> h'.CodeRec (.ref c') selQual -> h'.get? f = some (fnMade (Str.ofString "select") selQual params body scope ([Str.ofString "_str", Str.ofString "_isinstance"].zip as) doc pm c' ctv) ->
   (∀ q ∈ as.zip os, h'.get? q.1 = some q.2 /\ s.heap.get? q.1 = none) -> s.heap.get? f = none -> Q (.ref f) { s with heap := h', toks := tk' }) :
  wpAny (model PR w) A (call (.ref 38) [.str x tk]) Q E s := by
 subst hx;refine weak (A' := AL 2) hh hd hu rfl rfl ?_
 k_dflt (refine' enterCP (P := 33) (news := [(33, tabObj ps)]) (binds := [(Str.ofString "tag", Value.str (Str.ofString "{*}*") tk)]) F.keep (fun p h => by rw [qS h]; exact ⟨(N _ hP).1, (N _ hP).2.2⟩) X T ?k6 ?k7 ?k8 ?k9 ?kB ?kD ?_ ?c2 ?c3 ?c4)
 case k6 => k_is
 case k7 => k_is
 case k8 => decide
 case k9 => exact BindsTo.of_eq rfl
 case kB => exact rfl
 case kD => decide +kernel
 case c2 => exact rfl
 case c3 => exact rfl
 case c4 => exact rfl
 clear X T;intro g' L' h' gz dz tk' oz Rz hR cells X' T' F' N' Y' l1 hst;apply byc; intro O;obtain ⟨o1, o2, o3, o4, o5, o6, o7, rfl, d1, d2, d3, d4, d5, d6, d7⟩ := cells7 Y';apply O; clear O;clear Y';have l2 : @LT.lt Nat instLTNat 33 L' := l1 _ (.head _);simp only [List.cons_append, List.nil_append] at N'
 try dsimp only
 have hT' : TabH P ps g' := hT.keeps fun b o hb e => hst b o (fun hm => hb (qS hm)) e;have hPn : ∀ c, c ≠ 33 -> g'.get? c = none -> P c := fun c h33 e => hPs c (by
  cases q : s.heap.get? c with
  | none => rfl
  | some o => have := hst c o (fun hm => h33 (qS hm)) q; rw [e] at this; cases this)
 have C' : CodeHd g' 37 33 := codeHd_of_K X' (by kernel_rfl);k_steps;unfold Halt
 k_here
 k_dflt (refine' nestDef_K ?d0 ?k0 ?a0 ?_; (case d0 => exact rfl); (case k0 => exact rfl); (case a0 => exact rfl))
 rename Fr .. => F8;rename News .. => N8;refine nest_any F8 N8 T' C' rfl (UpdF.tail (p := (_, _)) ?_ (UpdF.tail ?_ (UpdF.tail ?_ (UpdF.tail ?_ (UpdF.tail ?_ (UpdF.tail ?_ (UpdF.tail ?_ (UpdF.tail ?_ (UpdF.head (fun _ h => nomatch h)))))))))) hPn hT' (.head _) l2 rfl ?_
 any_goals (show @Ne Nat _ _; dsimp only; omega)
 intro f c' ctv doc ps' cd h9 tk9 F9 N9 hT9 l9;clear F8 N8;k_steps
 try unfold Halt
 try dsimp only
 rename Fr g' _ _ _ => F6;rename News g' _ _ _ => N6;refine hR.out F6 N6 (fun p hp hne => absurd (by rw [qS hp]) hne) fun ext fresh => ?_;have m33 := N6 (33, tabObj ps') (by simp only [List.mem_cons, List.mem_append, true_or, or_true]);rename (_ : Obj).data = Data.cell (some (Value.builtin "isinstance")) => dI;rename (_ : Obj).data = Data.cell (some (Value.type "str")) => dS;have mS := N6 _ (.tail _ (qR _ (.tail _ (.tail _ (.tail _ (.tail _ (.tail _ (.head _))))))));have mI := N6 _ (.tail _ (qR _ (.tail _ (.tail _ (.tail _ (.tail _ (.tail _ (.tail _ (.head _)))))))));have fS : s.heap.get? (L' + 1 + 1 + 1) = none := fresh _ (.tail _ (qR _ (.tail _ (.tail _ (.tail _ (.tail _ (.tail _ (.head _)))))))) fun hm => absurd (qS hm) (by show ¬ (@Eq Nat (L' + 1 + 1 + 1) 33); omega);have fI : s.heap.get? (L' + 1 + 1) = none := fresh _ (.tail _ (qR _ (.tail _ (.tail _ (.tail _ (.tail _ (.tail _ (.tail _ (.head _))))))))) fun hm => absurd (qS hm) (by show ¬ (@Eq Nat (L' + 1 + 1) 33); omega);have fF : s.heap.get? f = none := fresh _ (.head _) fun hm => by
  have h1 : @LT.lt Nat instLTNat 33 f := l9 _ (.tail _ (.tail _ (.tail _ (.tail _ (.tail _ (.tail _ (.tail _ (.tail _ (.head _)))))))));have h2 : f = 33 := qS hm;exact absurd h2 (Nat.ne_of_gt h1)
 apply byc; intro O;obtain ⟨hT6, hcr⟩ := hT9 _ F6.keep fun p hp => (N6 p (.tail _ (qL _ hp))).1;obtain ⟨oS, eS, dS⟩ : ∃ oS, Heap.get? _ (L' + 1 + 1 + 1) = some oS /\ oS.data = Data.cell (some (Value.type "str")) := ⟨_, mS.1, dS⟩;obtain ⟨oI, eI, dI⟩ : ∃ oI, Heap.get? _ (L' + 1 + 1) = some oI /\ oI.data = Data.cell (some (Value.builtin "isinstance")) := ⟨_, mI.1, dI⟩;apply O; clear O;refine ret f _ _ _ [L' + 1 + 1 + 1, L' + 1 + 1] [oS, oI] c' ctv doc _ ps' _ _ ⟨⟨_, _, _, _, _, _, _, [], _, rfl, ?_⟩, rfl, rfl, rfl, rfl, rfl, rfl, by decide, fun _ _ _ _ _ _ _ _ => BindsTo.of_eq rfl⟩ rfl rfl ?_ ext m33.1 hT6 hcr (N6 _ (.head _)).1 ?_ fF
 ·intro gE C f1 c1 as os p1 loose1 mean1 mg1 mb1 A1 t d t1 t2 tag m1 rest s1 Xg Tg hh1 hd1 hu1 h1 h2 hcell htag Fg Ng;apply byc; intro O;obtain ⟨a1, a2, rfl⟩ := two_of (show as.length = 2 from h1);obtain ⟨o1, o2, rfl⟩ := two_of (show os.length = 2 from h2);apply O; clear O;have e1 : o1.data = .cell (some (.type "str")) := hcell 0 (by decide);have e2 : o2.data = .cell (some (.builtin "isinstance")) := hcell 1 (by decide);have Ng : News gE C s1.heap ((a1, o1) :: (a2, o2) :: (t, instObj 55 d) :: (d, thDict w t1 t2 tag) :: rest) := Ng;clear hPn hPs hcell h1 h2 ret F6 N6 ext fresh m33 mS mI fS fI fF eS eI dS dI hT6 hcr hT9 l9 F N hst hT' C' d1 d2 d3 d4 d5 d6 d7 hP hT;refine weak (A' := AL 6) hh1 (by show A1.depth <= 430; omega) (by show A1.units <= 1300; omega) rfl rfl ?_;refine wpAny_execs_nil ⟨rfl, ?_⟩;unfold thDict at Ng;rcases htag with rfl | ⟨xt, tt, rfl, hx0, hx1⟩
  all_goals (
   k_steps;unfold Halt;rename Fr gE _ _ _ => F6;rename News gE _ _ _ => N6;exact TestEnd.intro rfl F6 N6 rfl (fun p hp => hp))
 ·intro i hi
  match i, hi with
  | 0, _ => exact dS
  | 1, _ => exact dI
 ·intro q hq;rcases qC hq with rfl | hq
  ·exact ⟨eS, fS⟩
  ·rw [qS hq]; exact ⟨eI, fI⟩
end
end
section
section
variable {Q : Value -> Shared -> Prop}
noncomputable def bareT (v : Value) : Bool := match v with | .str x _ => Txt.item x 0 != Str.ofString "{" | _ => false
theorem prep2_K {P : Addr -> Prop} {ps : Array Value} {x : Str} {tk : Tok} (hx : x = Str.ofString "{}*") (F : Fr h! L s.heap m) (X : (Kq w.params).In h!) (N : News h! L s.heap news) (T : Top p loose mean mg mb h!)
  (hh : A.handled = none) (hd : A.depth <= 350) (hu : A.units <= 500) (hP : (33, tabObj ps) ∈ news) (hPs : ∀ c, s.heap.get? c = none -> P c) (hT : TabH P ps s.heap)
  (ret : ∀ f params body scope (as : List Addr) (os : List Obj) (c' : Addr) (ctv doc pm : Value) ps' h' tk', SelOk w params body scope [Str.ofString "_str", Str.ofString "_isinstance"] [.type "str", .builtin "isinstance"] [] bareT -> as.length = 2 -> os.length = 2 -> (∀ i, i < 2 -> (os.getD i default).data = .cell (some ([Value.type "str", .builtin "isinstance"].getD i .none))) ->
   (∀ b o, b ≠ 33 -> s.heap.get? b = some o -> h'.get? b = some o) -> h'.get? 33 = some (tabObj ps') -> TabH P ps' h' -> h'.CodeRec (.ref c') selQual -> h'.get? f = some (fnMade (Str.ofString "select") selQual params body scope ([Str.ofString "_str", Str.ofString "_isinstance"].zip as) doc pm c' ctv) ->
   (∀ q ∈ as.zip os, h'.get? q.1 = some q.2 /\ s.heap.get? q.1 = none) -> s.heap.get? f = none -> Q (.ref f) { s with heap := h', toks := tk' }) :
  wpAny (model PR w) A (call (.ref 38) [.str x tk]) Q E s := by
 subst hx;refine weak (A' := AL 2) hh hd hu rfl rfl ?_
 k_dflt (refine' enterCP (P := 33) (news := [(33, tabObj ps)]) (binds := [(Str.ofString "tag", Value.str (Str.ofString "{}*") tk)]) F.keep (fun p h => by rw [qS h]; exact ⟨(N _ hP).1, (N _ hP).2.2⟩) X T ?k6 ?k7 ?k8 ?k9 ?kB ?kD ?_ ?c2 ?c3 ?c4)
 case k6 => k_is
 case k7 => k_is
 case k8 => decide
 case k9 => exact BindsTo.of_eq rfl
 case kB => exact rfl
 case kD => decide +kernel
 case c2 => exact rfl
 case c3 => exact rfl
 case c4 => exact rfl
 clear X T;intro g' L' h' gz dz tk' oz Rz hR cells X' T' F' N' Y' l1 hst;apply byc; intro O;obtain ⟨o1, o2, o3, o4, o5, o6, o7, rfl, d1, d2, d3, d4, d5, d6, d7⟩ := cells7 Y';apply O; clear O;clear Y';have l2 : @LT.lt Nat instLTNat 33 L' := l1 _ (.head _);simp only [List.cons_append, List.nil_append] at N'
 try dsimp only
 have hT' : TabH P ps g' := hT.keeps fun b o hb e => hst b o (fun hm => hb (qS hm)) e;have hPn : ∀ c, c ≠ 33 -> g'.get? c = none -> P c := fun c h33 e => hPs c (by
  cases q : s.heap.get? c with
  | none => rfl
  | some o => have := hst c o (fun hm => h33 (qS hm)) q; rw [e] at this; cases this)
 have C' : CodeHd g' 37 33 := codeHd_of_K X' (by kernel_rfl);k_steps;unfold Halt
 k_here
 k_dflt (refine' nestDef_K ?d0 ?k0 ?a0 ?_; (case d0 => exact rfl); (case k0 => exact rfl); (case a0 => exact rfl))
 rename Fr .. => F8;rename News .. => N8;refine nest_any F8 N8 T' C' rfl (UpdF.tail (p := (_, _)) ?_ (UpdF.tail ?_ (UpdF.tail ?_ (UpdF.tail ?_ (UpdF.tail ?_ (UpdF.tail ?_ (UpdF.tail ?_ (UpdF.tail ?_ (UpdF.head (fun _ h => nomatch h)))))))))) hPn hT' (.tail _ (.head _)) l2 rfl ?_
 any_goals (show @Ne Nat _ _; dsimp only; omega)
 intro f c' ctv doc ps' cd h9 tk9 F9 N9 hT9 l9;clear F8 N8;k_steps
 try unfold Halt
 try dsimp only
 rename Fr g' _ _ _ => F6;rename News g' _ _ _ => N6;refine hR.out F6 N6 (fun p hp hne => absurd (by rw [qS hp]) hne) fun ext fresh => ?_;have m33 := N6 (33, tabObj ps') (by simp only [List.mem_cons, List.mem_append, true_or, or_true]);rename (_ : Obj).data = Data.cell (some (Value.builtin "isinstance")) => dI;rename (_ : Obj).data = Data.cell (some (Value.type "str")) => dS;have mS := N6 _ (.tail _ (qR _ (.tail _ (.tail _ (.tail _ (.tail _ (.tail _ (.head _))))))));have mI := N6 _ (.tail _ (qR _ (.tail _ (.tail _ (.tail _ (.tail _ (.tail _ (.tail _ (.head _)))))))));have fS : s.heap.get? (L' + 1 + 1 + 1) = none := fresh _ (.tail _ (qR _ (.tail _ (.tail _ (.tail _ (.tail _ (.tail _ (.head _)))))))) fun hm => absurd (qS hm) (by show ¬ (@Eq Nat (L' + 1 + 1 + 1) 33); omega);have fI : s.heap.get? (L' + 1 + 1) = none := fresh _ (.tail _ (qR _ (.tail _ (.tail _ (.tail _ (.tail _ (.tail _ (.tail _ (.head _))))))))) fun hm => absurd (qS hm) (by show ¬ (@Eq Nat (L' + 1 + 1) 33); omega);have fF : s.heap.get? f = none := fresh _ (.head _) fun hm => by
  have h1 : @LT.lt Nat instLTNat 33 f := l9 _ (.tail _ (.tail _ (.tail _ (.tail _ (.tail _ (.tail _ (.tail _ (.tail _ (.head _)))))))));have h2 : f = 33 := qS hm;exact absurd h2 (Nat.ne_of_gt h1)
 apply byc; intro O;obtain ⟨hT6, hcr⟩ := hT9 _ F6.keep fun p hp => (N6 p (.tail _ (qL _ hp))).1;obtain ⟨oS, eS, dS⟩ : ∃ oS, Heap.get? _ (L' + 1 + 1 + 1) = some oS /\ oS.data = Data.cell (some (Value.type "str")) := ⟨_, mS.1, dS⟩;obtain ⟨oI, eI, dI⟩ : ∃ oI, Heap.get? _ (L' + 1 + 1) = some oI /\ oI.data = Data.cell (some (Value.builtin "isinstance")) := ⟨_, mI.1, dI⟩;apply O; clear O;refine ret f _ _ _ [L' + 1 + 1 + 1, L' + 1 + 1] [oS, oI] c' ctv doc _ ps' _ _ ⟨⟨_, _, _, _, _, _, _, [_], _, rfl, ?_⟩, rfl, rfl, rfl, rfl, rfl, rfl, by decide, fun _ _ _ _ _ _ _ _ => BindsTo.of_eq rfl⟩ rfl rfl ?_ ext m33.1 hT6 hcr (N6 _ (.head _)).1 ?_ fF
 ·intro gE C f1 c1 as os p1 loose1 mean1 mg1 mb1 A1 t d t1 t2 tag m1 rest s1 Xg Tg hh1 hd1 hu1 h1 h2 hcell htag Fg Ng;apply byc; intro O;obtain ⟨a1, a2, rfl⟩ := two_of (show as.length = 2 from h1);obtain ⟨o1, o2, rfl⟩ := two_of (show os.length = 2 from h2);apply O; clear O;have e1 : o1.data = .cell (some (.type "str")) := hcell 0 (by decide);have e2 : o2.data = .cell (some (.builtin "isinstance")) := hcell 1 (by decide);have Ng : News gE C s1.heap ((a1, o1) :: (a2, o2) :: (t, instObj 55 d) :: (d, thDict w t1 t2 tag) :: rest) := Ng;clear hPn hPs hcell h1 h2 ret F6 N6 ext fresh m33 mS mI fS fI fF eS eI dS dI hT6 hcr hT9 l9 F N hst hT' C' d1 d2 d3 d4 d5 d6 d7 hP hT;refine weak (A' := AL 6) hh1 (by show A1.depth <= 430; omega) (by show A1.units <= 1300; omega) rfl rfl ?_;unfold thDict at Ng;rcases htag with rfl | ⟨xt, tt, rfl, hx0, hx1⟩
  all_goals k_steps
  all_goals (
   unfold Halt;rename Fr gE _ _ _ => F6;rename News gE _ _ _ => N6;exact TestEnd.intro (by first | (rename (Txt.item xt 0 != _) = _ => hq; exact hq.symm) | rfl) F6 N6 (by rfl) (fun p hp => hp))
 ·intro i hi
  match i, hi with
  | 0, _ => exact dS
  | 1, _ => exact dI
 ·intro q hq;rcases qC hq with rfl | hq
  ·exact ⟨eS, fS⟩
  ·rw [qS hq]; exact ⟨eI, fI⟩
end
end
section
section
variable {Q : Value -> Shared -> Prop}
noncomputable def sfT (x : Str) (v : Value) : Bool := match v with | .str y _ => y == Txt.slice x (some 3) none || Txt.slice y (some (-((Txt.slice x (some 2) none).length : Int))) none == Txt.slice x (some 2) none | _ => false
theorem five_of {α : Type} : ∀ {l : List α}, l.length = 5 -> ∃ a b c d e, l = [a, b, c, d, e]
 | [a, b, c, d, e], _ => ⟨a, b, c, d, e, rfl⟩
theorem prep3_K {P : Addr -> Prop} {ps : Array Value} {x : Str} {tk : Tok} (hx1 : (x == Str.ofString "{*}*") = false) (hx2 : (x == Str.ofString "{}*") = false) (hx3 : (Txt.slice x none (some 3) == Str.ofString "{*}") = true) (hxl : x.length <= 10) (hxm : 4 <= x.length) (F : Fr h! L s.heap m) (X : (Kq w.params).In h!) (N : News h! L s.heap news) (T : Top p loose mean mg mb h!)
  (hh : A.handled = none) (hd : A.depth <= 350) (hu : A.units <= 500) (hP : (33, tabObj ps) ∈ news) (hPs : ∀ c, s.heap.get? c = none -> P c) (hT : TabH P ps s.heap)
  (ret : ∀ nms vals own f params body scope (as : List Addr) (os : List Obj) (c' : Addr) (ctv doc pm : Value) ps' h' tk', SelOk w params body scope nms vals own (sfT x) -> as.length = nms.length -> os.length = nms.length -> (∀ i, i < nms.length -> (os.getD i default).data = .cell (some (vals.getD i .none))) ->
   (∀ b o, b ≠ 33 -> s.heap.get? b = some o -> h'.get? b = some o) -> h'.get? 33 = some (tabObj ps') -> TabH P ps' h' -> h'.CodeRec (.ref c') selQual -> h'.get? f = some (fnMade (Str.ofString "select") selQual params body scope (nms.zip as) doc pm c' ctv) ->
   (∀ q ∈ as.zip os, h'.get? q.1 = some q.2 /\ s.heap.get? q.1 = none) -> (∀ q ∈ own, h'.get? q.1 = some q.2 /\ s.heap.get? q.1 = none) -> s.heap.get? f = none -> Q (.ref f) { s with heap := h', toks := tk' }) :
  wpAny (model PR w) A (call (.ref 38) [.str x tk]) Q E s := by
 refine weak (A' := AL 2) hh hd hu rfl rfl ?_
 k_dflt (refine' enterCP (P := 33) (news := [(33, tabObj ps)]) (binds := [(Str.ofString "tag", Value.str x tk)]) F.keep (fun p h => by rw [qS h]; exact ⟨(N _ hP).1, (N _ hP).2.2⟩) X T ?k6 ?k7 ?k8 ?k9 ?kB ?kD ?_ ?c2 ?c3 ?c4)
 case k6 => k_is
 case k7 => k_is
 case k8 => decide
 case k9 => exact BindsTo.of_eq rfl
 case kB => exact rfl
 case kD => decide +kernel
 case c2 => exact rfl
 case c3 => exact rfl
 case c4 => exact rfl
 clear X T;intro g' L' h' gz dz tk' oz Rz hR cells X' T' F' N' Y' l1 hst;apply byc; intro O;obtain ⟨o1, o2, o3, o4, o5, o6, o7, rfl, d1, d2, d3, d4, d5, d6, d7⟩ := cells7 Y';apply O; clear O;clear Y';have l2 : @LT.lt Nat instLTNat 33 L' := l1 _ (.head _);simp only [List.cons_append, List.nil_append] at N'
 try dsimp only
 have hT' : TabH P ps g' := hT.keeps fun b o hb e => hst b o (fun hm => hb (qS hm)) e;have hPn : ∀ c, c ≠ 33 -> g'.get? c = none -> P c := fun c h33 e => hPs c (by
  cases q : s.heap.get? c with
  | none => rfl
  | some o => have := hst c o (fun hm => h33 (qS hm)) q; rw [e] at this; cases this)
 have C' : CodeHd g' 37 33 := codeHd_of_K X' (by kernel_rfl);k_steps;unfold Halt
 k_here
 k_dflt (refine' nestDef_K ?d0 ?k0 ?a0 ?_; (case d0 => exact rfl); (case k0 => exact rfl); (case a0 => exact rfl))
 rename Fr .. => F8;rename News .. => N8;refine nest_any F8 N8 T' C' rfl (UpdF.tail (p := (_, _)) ?_ (UpdF.tail ?_ (UpdF.tail ?_ (UpdF.tail ?_ (UpdF.tail ?_ (UpdF.tail ?_ (UpdF.tail ?_ (UpdF.tail ?_ (UpdF.tail ?_ (UpdF.head (fun _ h => nomatch h))))))))))) hPn hT' (.tail _ (.tail _ (.head _))) l2 rfl ?_
 any_goals (show @Ne Nat _ _; dsimp only; omega)
 intro f c' ctv doc ps' cd h9 tk9 F9 N9 hT9 l9;clear F8 N8;k_steps
 try unfold Halt
 try dsimp only
 rename Fr g' _ _ _ => F6;rename News g' _ _ _ => N6;refine hR.out F6 N6 (fun p hp hne => absurd (by rw [qS hp]) hne) fun ext fresh => ?_;have m33 := N6 (33, tabObj ps') (by simp only [List.mem_cons, List.mem_append, true_or, or_true]);rename (_ : Obj).data = Data.cell (some (Value.builtin "isinstance")) => dI;rename (_ : Obj).data = Data.cell (some (Value.type "str")) => dS;rename (_ : Obj).data = Data.cell (some (Value.str (Txt.slice x (some 3) none) _)) => dG;rename (_ : Obj).data = Data.cell (some (Value.str (Txt.slice x (some 2) none) _)) => dN;rename (_ : Obj).data = Data.cell (some (Value.ref _)) => dO;have mC := N6 _ (.tail _ (qR _ (qG (i := 0) rfl)));have mN := N6 _ (.tail _ (qR _ (qG (i := 2) rfl)));have mO := N6 _ (.tail _ (qR _ (qG (i := 5) rfl)));have mS := N6 _ (.tail _ (qR _ (qG (i := 6) rfl)));have mI := N6 _ (.tail _ (qR _ (qG (i := 7) rfl)));have mG := N6 _ (.tail _ (qR _ (qG (i := 8) rfl)));have fC := fresh _ (.tail _ (qR _ (qG (i := 0) rfl))) fun hm => by
  have h2 := qS hm;dsimp only at h2;rename _ /\ _ /\ _ /\ _ /\ _ /\ _ /\ _ /\ _ /\ _ => lc;have h4 := lc.2.2.2.2.2.2.2.2;rw [h2] at h4;exact absurd h4 (Nat.lt_irrefl _)
 have fN : s.heap.get? (L' + 1 + 1 + 1 + 1 + 1 + 1 + 1) = none := fresh _ (.tail _ (qR _ (qG (i := 2) rfl))) fun hm => absurd (qS hm) (by show ¬ (@Eq Nat (L' + 1 + 1 + 1 + 1 + 1 + 1 + 1) 33); omega);have fO : s.heap.get? (L' + 1 + 1 + 1 + 1) = none := fresh _ (.tail _ (qR _ (qG (i := 5) rfl))) fun hm => absurd (qS hm) (by show ¬ (@Eq Nat (L' + 1 + 1 + 1 + 1) 33); omega);have fS : s.heap.get? (L' + 1 + 1 + 1) = none := fresh _ (.tail _ (qR _ (qG (i := 6) rfl))) fun hm => absurd (qS hm) (by show ¬ (@Eq Nat (L' + 1 + 1 + 1) 33); omega);have fI : s.heap.get? (L' + 1 + 1) = none := fresh _ (.tail _ (qR _ (qG (i := 7) rfl))) fun hm => absurd (qS hm) (by show ¬ (@Eq Nat (L' + 1 + 1) 33); omega);have fG : s.heap.get? (L' + 1) = none := fresh _ (.tail _ (qR _ (qG (i := 8) rfl))) fun hm => absurd (qS hm) (by show ¬ (@Eq Nat (L' + 1) 33); omega);have fF : s.heap.get? f = none := fresh _ (.head _) fun hm => by
  have h1 : @LT.lt Nat instLTNat 33 f := l9 _ (qG (i := 9) rfl);have h2 : f = 33 := qS hm;exact absurd h2 (Nat.ne_of_gt h1)
 apply byc; intro O;obtain ⟨hT6, hcr⟩ := hT9 _ F6.keep fun p hp => (N6 p (.tail _ (qL _ hp))).1;obtain ⟨oS, eS, dS⟩ : ∃ oS, Heap.get? _ (L' + 1 + 1 + 1) = some oS /\ oS.data = Data.cell (some (Value.type "str")) := ⟨_, mS.1, dS⟩;obtain ⟨oI, eI, dI⟩ : ∃ oI, Heap.get? _ (L' + 1 + 1) = some oI /\ oI.data = Data.cell (some (Value.builtin "isinstance")) := ⟨_, mI.1, dI⟩;obtain ⟨oN, tN, eN, dN⟩ : ∃ oN tN, Heap.get? _ (L' + 1 + 1 + 1 + 1 + 1 + 1 + 1) = some oN /\ oN.data = Data.cell (some (Value.str (Txt.slice x (some 2) none) tN)) := ⟨_, _, mN.1, dN⟩;obtain ⟨oG, tG, eG, dG⟩ : ∃ oG tG, Heap.get? _ (L' + 1) = some oG /\ oG.data = Data.cell (some (Value.str (Txt.slice x (some 3) none) tG)) := ⟨_, _, mG.1, dG⟩;obtain ⟨oO, cS, tC, eO, dO, eC, fC⟩ : ∃ oO cS tC, Heap.get? _ (L' + 1 + 1 + 1 + 1) = some oO /\ oO.data = Data.cell (some (Value.ref cS)) /\ Heap.get? _ cS = some (sliceObj (.int (-((Txt.slice x (some 2) none).length : Int)) tC) .none) /\ s.heap.get? cS = none := ⟨_, _, _, mO.1, dO, mC.1, fC⟩;apply O; clear O;refine ret [Str.ofString "tag", Str.ofString "suffix", Str.ofString "no_ns", Str.ofString "_str", Str.ofString "_isinstance"] [.str (Txt.slice x (some 3) none) tG, .str (Txt.slice x (some 2) none) tN, .ref cS, .type "str", .builtin "isinstance"] [(cS, sliceObj (.int (-((Txt.slice x (some 2) none).length : Int)) tC) .none)] f _ _ _ [L' + 1, L' + 1 + 1 + 1 + 1 + 1 + 1 + 1, L' + 1 + 1 + 1 + 1, L' + 1 + 1 + 1, L' + 1 + 1] [oG, oN, oO, oS, oI] c' ctv doc _ ps' _ _ ⟨⟨_, _, _, _, _, _, _, [_], _, rfl, ?_⟩, rfl, rfl, rfl, rfl, rfl, rfl, by decide, fun _ _ _ _ _ _ _ _ => BindsTo.of_eq rfl⟩ rfl rfl ?_ ext m33.1 hT6 hcr (N6 _ (.head _)).1 ?_ ?_ fF
 ·intro gE C f1 c1 as os p1 loose1 mean1 mg1 mb1 A1 t d t1 t2 tag m1 rest s1 Xg Tg hh1 hd1 hu1 h1 h2 hcell htag Fg Ng;apply byc; intro O;obtain ⟨a1, a2, a3, a4, a5, rfl⟩ := five_of (show as.length = 5 from h1);obtain ⟨o1, o2, o3, o4, o5, rfl⟩ := five_of (show os.length = 5 from h2);apply O; clear O;have e1 : o1.data = .cell (some (.str (Txt.slice x (some 3) none) tG)) := hcell 0 (by decide);have e2 : o2.data = .cell (some (.str (Txt.slice x (some 2) none) tN)) := hcell 1 (by decide);have e3 : o3.data = .cell (some (.ref cS)) := hcell 2 (by decide);have e4 : o4.data = .cell (some (.type "str")) := hcell 3 (by decide);have e5 : o5.data = .cell (some (.builtin "isinstance")) := hcell 4 (by decide);have Ng : News gE C s1.heap ((a1, o1) :: (a2, o2) :: (a3, o3) :: (a4, o4) :: (a5, o5) :: (cS, sliceObj (.int (-((Txt.slice x (some 2) none).length : Int)) tC) .none) :: (t, instObj 55 d) :: (d, thDict w t1 t2 tag) :: rest) := Ng;have hln : (Txt.slice x (some 2) none).length <= 10 := Nat.le_trans (Txt.slice_le _ _ _) hxl;have hlg : (Txt.slice x (some 3) none).length <= 10 := Nat.le_trans (Txt.slice_le _ _ _) hxl;clear hPn hPs hcell h1 h2 ret F6 N6 ext fresh m33 mS mI mN mO mC mG fC fO fN fS fI fF fG eS eI eN eO eC eG dS dI dN dO dG hT6 hcr hT9 l9 F N hst hT' C' d2 d3 hP hT;refine weak (A' := AL 6) hh1 (by show A1.depth <= 430; omega) (by show A1.units <= 1300; omega) rfl rfl ?_;unfold thDict at Ng;generalize hn : Txt.slice x (some 2) none = nn at *;generalize hg : Txt.slice x (some 3) none = gg at *;rcases htag with rfl | ⟨xt, tt, rfl, hx0, hx1⟩
  all_goals k_steps
  all_goals (
   unfold Halt;rename Fr gE _ _ _ => F6;rename News gE _ _ _ => N6;exact TestEnd.intro (by first
    | (rename (xt == gg) = true => hq; show _ = (xt == Txt.slice x (some 3) none || Txt.slice xt (some (-((Txt.slice x (some 2) none).length : Int))) none == Txt.slice x (some 2) none); rw [hg, hq]; rfl)
    | (rename (xt == gg) = false => hq; rename (Txt.slice xt _ none == _) = _ => hr; show _ = (xt == Txt.slice x (some 3) none || Txt.slice xt (some (-((Txt.slice x (some 2) none).length : Int))) none == Txt.slice x (some 2) none); rw [hg, hn, hq, Bool.false_or]; exact hr.symm)
    | rfl) F6 N6 (by rfl) (fun p hp => hp))
 ·intro i hi
  match i, hi with
  | 0, _ => exact dG
  | 1, _ => exact dN
  | 2, _ => exact dO
  | 3, _ => exact dS
  | 4, _ => exact dI
 ·intro q hq;simp only [List.zip_cons_cons, List.zip_nil_right, List.mem_cons, List.not_mem_nil, or_false] at hq;rcases hq with rfl | rfl | rfl | rfl | rfl
  ·exact ⟨eG, fG⟩
  ·exact ⟨eN, fN⟩
  ·exact ⟨eO, fO⟩
  ·exact ⟨eS, fS⟩
  ·exact ⟨eI, fI⟩
 ·intro q hq;rw [qS hq]; exact ⟨eC, fC⟩
end
end
section
section
variable {Q : Value -> Shared -> Prop}
noncomputable def nsT (x : Str) (v : Value) : Bool := match v with | .str y _ => Txt.slice y none (some ((Txt.slice x none (some (-1))).length : Int)) == Txt.slice x none (some (-1)) | _ => false
theorem four_of {α : Type} : ∀ {l : List α}, l.length = 4 -> ∃ a b c d, l = [a, b, c, d]
 | [a, b, c, d], _ => ⟨a, b, c, d, rfl⟩
theorem prep4_K {P : Addr -> Prop} {ps : Array Value} {x : Str} {tk : Tok} (hx1 : (x == Str.ofString "{*}*") = false) (hx2 : (x == Str.ofString "{}*") = false) (hx3 : (Txt.slice x none (some 3) == Str.ofString "{*}") = false) (hx4 : (Txt.slice x (some (-2)) none == Str.ofString "}*") = true) (hxl : x.length <= 10) (hxm : 4 <= x.length) (F : Fr h! L s.heap m) (X : (Kq w.params).In h!) (N : News h! L s.heap news) (T : Top p loose mean mg mb h!)
  (hh : A.handled = none) (hd : A.depth <= 350) (hu : A.units <= 500) (hP : (33, tabObj ps) ∈ news) (hPs : ∀ c, s.heap.get? c = none -> P c) (hT : TabH P ps s.heap)
  (ret : ∀ nms vals own f params body scope (as : List Addr) (os : List Obj) (c' : Addr) (ctv doc pm : Value) ps' h' tk', SelOk w params body scope nms vals own (nsT x) -> as.length = nms.length -> os.length = nms.length -> (∀ i, i < nms.length -> (os.getD i default).data = .cell (some (vals.getD i .none))) ->
   (∀ b o, b ≠ 33 -> s.heap.get? b = some o -> h'.get? b = some o) -> h'.get? 33 = some (tabObj ps') -> TabH P ps' h' -> h'.CodeRec (.ref c') selQual -> h'.get? f = some (fnMade (Str.ofString "select") selQual params body scope (nms.zip as) doc pm c' ctv) ->
   (∀ q ∈ as.zip os, h'.get? q.1 = some q.2 /\ s.heap.get? q.1 = none) -> (∀ q ∈ own, h'.get? q.1 = some q.2 /\ s.heap.get? q.1 = none) -> s.heap.get? f = none -> Q (.ref f) { s with heap := h', toks := tk' }) :
  wpAny (model PR w) A (call (.ref 38) [.str x tk]) Q E s := by
 refine weak (A' := AL 2) hh hd hu rfl rfl ?_
 k_dflt (refine' enterCP (P := 33) (news := [(33, tabObj ps)]) (binds := [(Str.ofString "tag", Value.str x tk)]) F.keep (fun p h => by rw [qS h]; exact ⟨(N _ hP).1, (N _ hP).2.2⟩) X T ?k6 ?k7 ?k8 ?k9 ?kB ?kD ?_ ?c2 ?c3 ?c4)
 case k6 => k_is
 case k7 => k_is
 case k8 => decide
 case k9 => exact BindsTo.of_eq rfl
 case kB => exact rfl
 case kD => decide +kernel
 case c2 => exact rfl
 case c3 => exact rfl
 case c4 => exact rfl
 clear X T;intro g' L' h' gz dz tk' oz Rz hR cells X' T' F' N' Y' l1 hst;apply byc; intro O;obtain ⟨o1, o2, o3, o4, o5, o6, o7, rfl, d1, d2, d3, d4, d5, d6, d7⟩ := cells7 Y';apply O; clear O;clear Y';have l2 : @LT.lt Nat instLTNat 33 L' := l1 _ (.head _);simp only [List.cons_append, List.nil_append] at N'
 try dsimp only
 have hT' : TabH P ps g' := hT.keeps fun b o hb e => hst b o (fun hm => hb (qS hm)) e;have hPn : ∀ c, c ≠ 33 -> g'.get? c = none -> P c := fun c h33 e => hPs c (by
  cases q : s.heap.get? c with
  | none => rfl
  | some o => have := hst c o (fun hm => h33 (qS hm)) q; rw [e] at this; cases this)
 have C' : CodeHd g' 37 33 := codeHd_of_K X' (by kernel_rfl);k_steps;unfold Halt
 k_here
 k_dflt (refine' nestDef_K ?d0 ?k0 ?a0 ?_; (case d0 => exact rfl); (case k0 => exact rfl); (case a0 => exact rfl))
 rename Fr .. => F8;rename News .. => N8;refine nest_any F8 N8 T' C' rfl (UpdF.tail (p := (_, _)) ?_ (UpdF.tail ?_ (UpdF.tail ?_ (UpdF.tail ?_ (UpdF.tail ?_ (UpdF.tail ?_ (UpdF.tail ?_ (UpdF.tail ?_ (UpdF.tail ?_ (UpdF.head (fun _ h => nomatch h))))))))))) hPn hT' (.tail _ (.tail _ (.tail _ (.head _)))) l2 rfl ?_
 any_goals (show @Ne Nat _ _; dsimp only; omega)
 intro f c' ctv doc ps' cd h9 tk9 F9 N9 hT9 l9;clear F8 N8;k_steps
 try unfold Halt
 try dsimp only
 rename Fr g' _ _ _ => F6;rename News g' _ _ _ => N6;refine hR.out F6 N6 (fun p hp hne => absurd (by rw [qS hp]) hne) fun ext fresh => ?_;have m33 := N6 (33, tabObj ps') (by simp only [List.mem_cons, List.mem_append, true_or, or_true]);rename (_ : Obj).data = Data.cell (some (Value.builtin "isinstance")) => dI;rename (_ : Obj).data = Data.cell (some (Value.type "str")) => dS;rename (_ : Obj).data = Data.cell (some (Value.str (Txt.slice x none (some (-1))) _)) => dN;rename (_ : Obj).data = Data.cell (some (Value.ref _)) => dO;have mC := N6 _ (.tail _ (qR _ (qG (i := 0) rfl)));have mO := N6 _ (.tail _ (qR _ (qG (i := 3) rfl)));have mN := N6 _ (.tail _ (qR _ (qG (i := 4) rfl)));have mS := N6 _ (.tail _ (qR _ (qG (i := 6) rfl)));have mI := N6 _ (.tail _ (qR _ (qG (i := 7) rfl)));have fC := fresh _ (.tail _ (qR _ (qG (i := 0) rfl))) fun hm => by
  have h2 := qS hm;have h1 := l9 _ (qG (i := 9) rfl);have h3 := (N6 _ (.tail _ (qR _ (qG (i := 0) rfl))));dsimp only at h2 h1 h3;rename _ /\ _ /\ _ /\ _ /\ _ /\ _ /\ _ /\ _ /\ _ => lc;have h4 := lc.2.2.2.2.2.2.2.2;rw [h2] at h4;exact absurd h4 (Nat.lt_irrefl _)
 have fO : s.heap.get? (L' + 1 + 1 + 1 + 1 + 1 + 1) = none := fresh _ (.tail _ (qR _ (qG (i := 3) rfl))) fun hm => absurd (qS hm) (by show ¬ (@Eq Nat (L' + 1 + 1 + 1 + 1 + 1 + 1) 33); omega);have fN : s.heap.get? (L' + 1 + 1 + 1 + 1 + 1) = none := fresh _ (.tail _ (qR _ (qG (i := 4) rfl))) fun hm => absurd (qS hm) (by show ¬ (@Eq Nat (L' + 1 + 1 + 1 + 1 + 1) 33); omega);have fS : s.heap.get? (L' + 1 + 1 + 1) = none := fresh _ (.tail _ (qR _ (qG (i := 6) rfl))) fun hm => absurd (qS hm) (by show ¬ (@Eq Nat (L' + 1 + 1 + 1) 33); omega);have fI : s.heap.get? (L' + 1 + 1) = none := fresh _ (.tail _ (qR _ (qG (i := 7) rfl))) fun hm => absurd (qS hm) (by show ¬ (@Eq Nat (L' + 1 + 1) 33); omega);have fF : s.heap.get? f = none := fresh _ (.head _) fun hm => by
  have h1 : @LT.lt Nat instLTNat 33 f := l9 _ (qG (i := 9) rfl);have h2 : f = 33 := qS hm;exact absurd h2 (Nat.ne_of_gt h1)
 apply byc; intro O;obtain ⟨hT6, hcr⟩ := hT9 _ F6.keep fun p hp => (N6 p (.tail _ (qL _ hp))).1;obtain ⟨oS, eS, dS⟩ : ∃ oS, Heap.get? _ (L' + 1 + 1 + 1) = some oS /\ oS.data = Data.cell (some (Value.type "str")) := ⟨_, mS.1, dS⟩;obtain ⟨oI, eI, dI⟩ : ∃ oI, Heap.get? _ (L' + 1 + 1) = some oI /\ oI.data = Data.cell (some (Value.builtin "isinstance")) := ⟨_, mI.1, dI⟩;obtain ⟨oN, tN, eN, dN⟩ : ∃ oN tN, Heap.get? _ (L' + 1 + 1 + 1 + 1 + 1) = some oN /\ oN.data = Data.cell (some (Value.str (Txt.slice x none (some (-1))) tN)) := ⟨_, _, mN.1, dN⟩;obtain ⟨oO, cS, tC, eO, dO, eC, fC⟩ : ∃ oO cS tC, Heap.get? _ (L' + 1 + 1 + 1 + 1 + 1 + 1) = some oO /\ oO.data = Data.cell (some (Value.ref cS)) /\ Heap.get? _ cS = some (sliceObj .none (.int ((Txt.slice x none (some (-1))).length : Int) tC)) /\ s.heap.get? cS = none := ⟨_, _, _, mO.1, dO, mC.1, fC⟩;apply O; clear O;refine ret [Str.ofString "ns_only", Str.ofString "ns", Str.ofString "_str", Str.ofString "_isinstance"] [.ref cS, .str (Txt.slice x none (some (-1))) tN, .type "str", .builtin "isinstance"] [(cS, sliceObj .none (.int ((Txt.slice x none (some (-1))).length : Int) tC))] f _ _ _ [L' + 1 + 1 + 1 + 1 + 1 + 1, L' + 1 + 1 + 1 + 1 + 1, L' + 1 + 1 + 1, L' + 1 + 1] [oO, oN, oS, oI] c' ctv doc _ ps' _ _ ⟨⟨_, _, _, _, _, _, _, [_], _, rfl, ?_⟩, rfl, rfl, rfl, rfl, rfl, rfl, by decide, fun _ _ _ _ _ _ _ _ => BindsTo.of_eq rfl⟩ rfl rfl ?_ ext m33.1 hT6 hcr (N6 _ (.head _)).1 ?_ ?_ fF
 ·intro gE C f1 c1 as os p1 loose1 mean1 mg1 mb1 A1 t d t1 t2 tag m1 rest s1 Xg Tg hh1 hd1 hu1 h1 h2 hcell htag Fg Ng;apply byc; intro O;obtain ⟨a1, a2, a3, a4, rfl⟩ := four_of (show as.length = 4 from h1);obtain ⟨o1, o2, o3, o4, rfl⟩ := four_of (show os.length = 4 from h2);apply O; clear O;have e1 : o1.data = .cell (some (.ref cS)) := hcell 0 (by decide);have e2 : o2.data = .cell (some (.str (Txt.slice x none (some (-1))) tN)) := hcell 1 (by decide);have e3 : o3.data = .cell (some (.type "str")) := hcell 2 (by decide);have e4 : o4.data = .cell (some (.builtin "isinstance")) := hcell 3 (by decide);have Ng : News gE C s1.heap ((a1, o1) :: (a2, o2) :: (a3, o3) :: (a4, o4) :: (cS, sliceObj .none (.int ((Txt.slice x none (some (-1))).length : Int) tC)) :: (t, instObj 55 d) :: (d, thDict w t1 t2 tag) :: rest) := Ng;have hln : (Txt.slice x none (some (-1))).length <= 10 := Nat.le_trans (Txt.slice_le _ _ _) hxl;clear hPn hPs hcell h1 h2 ret F6 N6 ext fresh m33 mS mI mN mO mC fC fO fN fS fI fF eS eI eN eO eC dS dI dN dO hT6 hcr hT9 l9 F N hst hT' C' d1 d7 hP hT;refine weak (A' := AL 6) hh1 (by show A1.depth <= 430; omega) (by show A1.units <= 1300; omega) rfl rfl ?_;unfold thDict at Ng;generalize hn : Txt.slice x none (some (-1)) = nn at *;rcases htag with rfl | ⟨xt, tt, rfl, hx0, hx1⟩
  all_goals k_steps
  all_goals (
   unfold Halt;rename Fr gE _ _ _ => F6;rename News gE _ _ _ => N6;exact TestEnd.intro (by first | (rename (Txt.slice xt none _ == _) = _ => hq; show _ = (Txt.slice xt none (some ((Txt.slice x none (some (-1))).length : Int)) == Txt.slice x none (some (-1))); rw [hn]; exact hq.symm) | rfl) F6 N6 (by rfl) (fun p hp => hp))
 ·intro i hi
  match i, hi with
  | 0, _ => exact dO
  | 1, _ => exact dN
  | 2, _ => exact dS
  | 3, _ => exact dI
 ·intro q hq;simp only [List.zip_cons_cons, List.zip_nil_right, List.mem_cons, List.not_mem_nil, or_false] at hq;rcases hq with rfl | rfl | rfl | rfl
  ·exact ⟨eO, fO⟩
  ·exact ⟨eN, fN⟩
  ·exact ⟨eS, fS⟩
  ·exact ⟨eI, fI⟩
 ·intro q hq;rw [qS hq]; exact ⟨eC, fC⟩
end
end
end
section
local macro_rules | `(tactic| walk_at "callWith ref") => `(tactic| (k_here; (with_reducible rename News .. => kN); k_dflt (refine' callWith_F ?k1 ?_; (case k1 => exact FnAt.of kN (by k_mem)); k_whole)))
local macro_rules | `(tactic| walk_at $s) => hz s ["call ref"]
def CodeAt (c : Addr) (o : Obj) : Prop := ∀ h : Heap, h.get? c = some o -> h.CodeRec (.ref c) selQual
structure TabL (ps : Array Value) (nx : List (Addr × Obj)) : Prop where
 tri : TriplesOk ps.toList
 codes : ∀ pos ∈ selPos, codeAmong pos ps.toList = none \/ ∃ c' oc, codeAmong pos ps.toList = some (.ref c') /\ c' ≠ 33 /\ (c', oc) ∈ nx /\ CodeAt c' oc
theorem TabL.mono {ps : Array Value} {nx nx' : List (Addr × Obj)} (x : TabL ps nx) (h : ∀ p ∈ nx, p ∈ nx') : TabL ps nx' := ⟨x.tri, fun pos hp => by
 rcases x.codes pos hp with h1 | ⟨c', oc, h1, h2, h3, h4⟩
 ·exact .inl h1
 ·exact .inr ⟨c', oc, h1, h2, h _ h3, h4⟩⟩
theorem TabL.empty {nx : List (Addr × Obj)} : TabL #[] nx := ⟨trivial, fun _ _ => .inl rfl⟩
def PrepOk (w : World) (x : Str) (pz : Value -> Bool) : Prop :=
 ∀ {A : Around} {h! : Heap} {L : Addr} {m : Str -> Option Value} {news : List (Addr × Obj)} {s : Shared} {p : Program} {loose : List Str} {mean : ExcName -> Option Value} {mg mb : Str -> Option Value} {Q E : Value -> Shared -> Prop} {P : Addr -> Prop} {ps : Array Value} {tk : Tok},
  Fr h! L s.heap m -> (Kq w.params).In h! -> News h! L s.heap news -> Top p loose mean mg mb h! -> A.handled = none -> A.depth <= 350 -> A.units <= 500 -> (33, tabObj ps) ∈ news -> (∀ c, s.heap.get? c = none -> P c) -> TabH P ps s.heap ->
  (∀ nms vals own f params body scope (as : List Addr) (os : List Obj) (c' : Addr) (ctv doc pm : Value) ps' h' tk', SelOk w params body scope nms vals own pz -> as.length = nms.length -> os.length = nms.length -> (∀ i, i < nms.length -> (os.getD i default).data = .cell (some (vals.getD i .none))) ->
   (∀ b o, b ≠ 33 -> s.heap.get? b = some o -> h'.get? b = some o) -> h'.get? 33 = some (tabObj ps') -> TabH P ps' h' -> h'.CodeRec (.ref c') selQual -> h'.get? f = some (fnMade (Str.ofString "select") selQual params body scope (nms.zip as) doc pm c' ctv) ->
   (∀ q ∈ as.zip os, h'.get? q.1 = some q.2 /\ s.heap.get? q.1 = none) -> (∀ q ∈ own, h'.get? q.1 = some q.2 /\ s.heap.get? q.1 = none) -> s.heap.get? f = none -> Q (.ref f) { s with heap := h', toks := tk' }) ->
  wpAny (model PR w) A (call (.ref 38) [.str x tk]) Q E s
theorem prep1_ok {w : World} : PrepOk w (Str.ofString "{*}*") isS := by
 intro A h! L m news s p loose mean mg mb Q E P ps tk F X N T hh hd hu hP hPs hT ret;exact prep1_K rfl F X N T hh hd hu hP hPs hT fun f params body scope as os c' ctv doc pm ps' h' tk' a1 a2 a3 a4 a5 a6 a7 a8 a9 a10 a11 => ret _ _ _ f params body scope as os c' ctv doc pm ps' h' tk' a1 a2 a3 a4 a5 a6 a7 a8 a9 a10 (fun _ h => nomatch h) a11
theorem prep2_ok {w : World} : PrepOk w (Str.ofString "{}*") bareT := by
 intro A h! L m news s p loose mean mg mb Q E P ps tk F X N T hh hd hu hP hPs hT ret;exact prep2_K rfl F X N T hh hd hu hP hPs hT fun f params body scope as os c' ctv doc pm ps' h' tk' a1 a2 a3 a4 a5 a6 a7 a8 a9 a10 a11 => ret _ _ _ f params body scope as os c' ctv doc pm ps' h' tk' a1 a2 a3 a4 a5 a6 a7 a8 a9 a10 (fun _ h => nomatch h) a11
theorem prep3_ok {w : World} {x : Str} (hx1 : (x == Str.ofString "{*}*") = false) (hx2 : (x == Str.ofString "{}*") = false) (hx3 : (Txt.slice x none (some 3) == Str.ofString "{*}") = true) (hxl : x.length <= 10) (hxm : 4 <= x.length) : PrepOk w x (sfT x) := by
 intro A h! L m news s p loose mean mg mb Q E P ps tk F X N T hh hd hu hP hPs hT ret;exact prep3_K hx1 hx2 hx3 hxl hxm F X N T hh hd hu hP hPs hT ret
theorem prep4_ok {w : World} {x : Str} (hx1 : (x == Str.ofString "{*}*") = false) (hx2 : (x == Str.ofString "{}*") = false) (hx3 : (Txt.slice x none (some 3) == Str.ofString "{*}") = false) (hx4 : (Txt.slice x (some (-2)) none == Str.ofString "}*") = true) (hxl : x.length <= 10) (hxm : 4 <= x.length) : PrepOk w x (nsT x) := by
 intro A h! L m news s p loose mean mg mb Q E P ps tk F X N T hh hd hu hP hPs hT ret;exact prep4_K hx1 hx2 hx3 hx4 hxl hxm F X N T hh hd hu hP hPs hT ret
section
variable {prog : Program} {w : World} {A : Around} {s : Shared} {h! : Heap} {news : List (Addr × Obj)} {K : Frag} {p : Program} {loose : List Str} {mean : ExcName -> Option Value} {mg mb : Str -> Option Value} {Q E : Value -> Shared -> Prop}
 {name qual : Str} {params : Arguments} {body : List Stmt} {scope : Scope} {dV kV doc pm cdv ct oc : Value} {an od : Option Addr} {osl : Array (Option Value)} {f P : Addr} {pos : List Value}
theorem enterPH (keep : h!.StaysIn s.heap) (hN : ∀ p ∈ news, s.heap.get? p.1 = some p.2 /\ h!.get? p.1 = none) (X₀ : K.In h!) (T : Top p loose mean mg mb h!) {binds : List (Str × Value)}
  (ho : K.lookup f = some ⟨oc, od, .func (fnOf name qual params body scope dV kV doc pm an cdv ct), osl⟩) (hcd : codeIn K cdv qual = true) (hroom : A.depth < recursionLimit)
  (hbind : BindsTo s (fnOf name qual params body scope dV kV doc pm an cdv ct) ⟨pos, []⟩ binds) (hloc : ∀ y ∈ binds, scope.names.lookup y.1 = some .local)
  (h : ∀ g L' h? tk, K.In g -> Top p loose mean mg mb g -> Fr g L' h? (fun y => binds.reverse.lookup y) -> News g L' h? news -> (∀ p ∈ news, p.1 < L') -> (∀ b o, b ∉ news.map (·.1) -> s.heap.get? b = some o -> g.get? b = some o) ->
   wpAny (model prog w) (A.deeper (envOf qual scope L' f cdv)) (execs body (envOf qual scope L' f cdv))
    (exitQ fun v s' => OutP P g news s Q v s') (fun _ _ => False) { s with heap := h?, toks := tk })
  (hco : scope.isCoroutine = false) (hgen : scope.isGenerator = false) (hk : scope.kind = .function)
  (hcell : ∀ x ∈ scope.names, x.2 ≠ .cell) : wpAny (model prog w) A (call (.ref f) pos) Q E s := by
 have st := hide_stays keep hN;refine wpAny_call (codeAny_call_def (fd := fnOf name qual params body scope dV kV doc pm an cdv ct) (body := body) (binds := binds) hroom ((X₀.keeps keep) _ _ ho) rfl (T.nolimit.keeps keep) (codeRec_of (X₀.keeps keep) hcd) rfl hbind hcell hloc (fun h? hns hk₁ => ?_) hco hgen hk);refine wpAny_mono (h (hideAll s.heap (news.map (·.1))) s.heap.objs.size h? _ (X₀.keeps fun b o e => st b o e) (T.keeps fun b o e => st b o e) ⟨hns, fun b o e => hk₁ b o (of_hideAll _ e), Nat.le_of_eq (hideAll_size _ _)⟩
  (fun p hp => ⟨hk₁ _ _ (hN p hp).1, Nat.ne_of_lt (Heap.lt_size (hN p hp).1), hideAll_none _ (qM hp)⟩) (fun p hp => Heap.lt_size (hN p hp).1) fun b o hb e => hideAll_get _ e hb) (fun fl s' hl => ?_) fun _ _ y => y.elim
 exact out_useP (fun p hp => (hN p hp).1) hl
end
noncomputable def newCodes (h : Heap) (ps : Array Value) : List Addr := selPos.filterMap fun pos => match codeAmong pos ps.toList with
 | some (.ref c) => if (h.get? c).isNone then some c else none
 | _ => none
theorem newCodes_mem {h : Heap} {ps : Array Value} {pos : Pos} {c : Addr} (hp : pos ∈ selPos) (hc : codeAmong pos ps.toList = some (.ref c)) (hn : h.get? c = none) : c ∈ newCodes h ps :=
 List.mem_filterMap.mpr ⟨pos, hp, by simp only [hc, hn]; rfl⟩
theorem newCodes_new {h : Heap} {ps : Array Value} {c : Addr} (hc : c ∈ newCodes h ps) : h.get? c = none := by
 apply byc; intro O;obtain ⟨pos, _, h2⟩ := List.mem_filterMap.mp hc;apply O; clear O;split at h2
 ·split at h2
  ·cases h2;rename_i hn
   simpa using hn
  ·cases h2
 ·cases h2
def fndP (rest : List (Addr × Obj)) (h : Heap) (c : Addr) : Prop := h.get? c = none \/ ∃ oc, (c, oc) ∈ rest /\ CodeAt c oc
def GEl (gB : Heap) (C' : Addr) (G : Array GenState) (s : Shared) (nx : List (Addr × Obj)) (J : Value -> Prop) (y : Value) (s₂ : Shared) : Prop :=
 ∃ h' tk' m' news', s₂ = { s with heap := h', toks := tk', gens := G } /\ Fr gB C' h' m' /\ News gB C' h' news' /\ (∀ p ∈ nx, p ∈ news') /\ J y
theorem filter_range {α : Type} (p : α -> Bool) (d : α) (l : List α) : ((List.range l.length).filter fun i => p (l.getD i d)).map (fun i => l.getD i d) = l.filter p := by
 have h : (List.range l.length).map (fun i => l.getD i d) = l := by
  refine List.ext_getElem (by simp) fun i h1 h2 => ?_;simp [h2]
 have h2 := List.filter_map (f := fun i => l.getD i d) (p := p) (l := List.range l.length);rw [h] at h2;exact h2.symm
section
variable {w : World} {A : Around} {h! : Heap} {L : Addr} {m : Str -> Option Value} {rest : List (Addr × Obj)} {s : Shared}
  {p : Program} {loose : List Str} {mean : ExcName -> Option Value} {mg mb : Str -> Option Value} {Q E : Value -> Shared -> Prop}
noncomputable def foundOf (pz : Value -> Bool) (tags : List Value) : List Value := tags.filter pz
set_option linter.unusedVariables false in
theorem found_G {x : Str} {pz : Value -> Bool} {l : Addr} {vals tags : List Value} {nn : Nat} {objs : List (Addr × Obj)} {ps : Array Value} {tk : Tok} {cod : List (Addr × Obj)} (hprep : PrepOk w x pz)
  (F : Fr h! L s.heap m) (X : (Kq w.params).In h!) (N : News h! L s.heap ((33, tabObj ps) :: rest)) (T : Top p loose mean mg mb h!)
  (hh : A.handled = none) (hd : A.depth <= 330) (hu : A.units <= 300) (hT : TabL ps cod) (hcod : ∀ q ∈ cod, q ∈ rest) (h33 : ∀ q ∈ rest, q.1 ≠ 33)
  (hl : (l, listOf vals.toArray nn) ∈ rest) (hth : Things w objs vals tags) (hob : ∀ q ∈ objs, q ∈ rest) (hvl : vals.length <= 100) (htg : ∀ tag ∈ tags, tag = .none \/ ∃ x tx, tag = .str x tx /\ 0 < x.length /\ x.length <= 20)
  (ret : ∀ r h' tk' G ys k ps' cds, Fr h! L h' m -> News h! L h' ((r, listOf ys.toArray k) :: (33, tabObj ps') :: (cds ++ rest)) -> TabL ps' (cds ++ cod) -> (∀ b o, b ≠ 33 -> s.heap.get? b = some o -> h'.get? b = some o) -> (∀ p ∈ (r, listOf ys.toArray k) :: cds, s.heap.get? p.1 = none) ->
   (AllBare s.gens -> AllBare G) -> ys = tags.filter pz -> Q (.ref r) { s with heap := h', toks := tk', gens := G }) :
  wpAny (model PR w) A (call (.ref 185) [.ref l, .str x tk]) Q E s := by
 refine weak (A' := AL 1) hh hd hu rfl rfl ?_;have m33 := N _ (.head _);have hlm := N _ (.tail _ hl)
 k_dflt (refine' enterPH (P := 33) (news := (33, tabObj ps) :: (l, listOf vals.toArray nn) :: objs) (binds := [(Str.ofString "things", Value.ref l), (Str.ofString "wildcard", Value.str x tk)]) F.keep (fun p h => ?N) X T ?k6 ?k7 ?k8 ?k9 ?kB ?_ ?c2 ?c3 ?c4 ?c5)
 case N =>
  rcases qC h with rfl | h
  ·exact ⟨m33.1, m33.2.2⟩
  rcases qC h with rfl | h
  ·exact ⟨hlm.1, hlm.2.2⟩
  ·have z := N _ (.tail _ (hob _ h)); exact ⟨z.1, z.2.2⟩
 walk_at "ENTERED";intro g' L' h' tz X' T' F' N' l1 hst
 try dsimp only
 k_steps;unfold Halt;have ext1 : ∀ b o, s.heap.get? b = some o -> h'.get? b = some o := fun b o e => by
  by_cases hb : b ∈ ((33, tabObj ps) :: (l, listOf vals.toArray nn) :: objs).map (·.1)
  ·obtain ⟨q, hq, rfl⟩ := List.mem_map.mp hb;have e1 : s.heap.get? q.1 = some q.2 := by
    rcases qC hq with rfl | hq
    ·exact m33.1
    rcases qC hq with rfl | hq
    ·exact hlm.1
    ·exact (N _ (.tail _ (hob _ hq))).1
   rw [e] at e1; cases e1;exact (N' q hq).1
  ·exact F'.keep _ _ (hst b o hb e)
 have nx1 : ∀ c, h'.get? c = none -> s.heap.get? c = none := fun c e => by
  cases q : s.heap.get? c with
  | none => rfl
  | some o => rw [ext1 _ _ q] at e; cases e
 have l33 : @LT.lt Nat instLTNat 33 L' := l1 _ (.head _);have hT1 : TabH (fndP cod h') ps h' := ⟨hT.tri, fun pos hp => by
  rcases hT.codes pos hp with h1 | ⟨c', oc, h1, h2, h3, h4⟩
  ·exact .inl h1
  ·exact .inr ⟨c', h1, h2, .inr ⟨oc, h3, h4⟩, h4 _ (ext1 _ _ (N _ (.tail _ (hcod _ h3))).1)⟩⟩
 refine hprep F' X' N' T' rfl (qB rfl) (qB rfl) (.head _) (fun c e => .inl e) hT1 ?_;intro nms vals' own f params body scope as os c' ctv doc pm ps' h2 tk2 SO la lo hcell ext2 e33 hT2 hcr hf hz hown ffr;dsimp only at ext2 hz hown ffr;have g33 : g'.get? 33 = none := (N' _ (.head _)).2.2;have F2 := backP F' (Nat.ne_of_lt l33) g33 ext2;have new2 : ∀ q : Addr × Obj, h2.get? q.1 = some q.2 -> h'.get? q.1 = none -> h2.get? q.1 = some q.2 /\ q.1 ≠ L' /\ g'.get? q.1 = none := fun q e1 e2 => by
  refine ⟨e1, fun e => ?_, ?_⟩
  ·obtain ⟨oL, _, _, hL, _⟩ := F'.ns;rw [<- e, e2] at hL; cases hL
  ·cases z : g'.get? q.1 with
   | none => rfl
   | some o => rw [F'.keep _ _ z] at e2; cases e2
 have lC0 : L' ∉ newCodes h' ps' := fun hm => by
  have e1 := newCodes_new hm;apply byc; intro O;obtain ⟨oL, _, _, hL, _⟩ := F'.ns;apply O; clear O;rw [hL] at e1; cases e1
 have Ncd := news_ownOf (h₀ := g') (h := h2) lC0;apply byc; intro O;obtain ⟨cds, hcds⟩ : ∃ cds, cds = ownOf g' (newCodes h' ps') h2 := ⟨_, rfl⟩;apply O; clear O;have cin : ∀ q ∈ cds, q.1 ∈ newCodes h' ps' := fun q hq => ownOf_sub q (hcds ▸ hq);have hTL : TabL ps' (cds ++ cod) := ⟨hT2.tri, fun pos hp => by
  rcases hT2.codes pos hp with h1 | ⟨c9, h1, h2', hp1, h3⟩
  ·exact .inl h1
  ·rcases hp1 with hp1 | ⟨oc, h4, h5⟩
   ·obtain ⟨d9, o9, vs9, t9, e9, h6, h7, h8⟩ := h3;cases e9;refine .inr ⟨c9, o9, h1, h2', qL _ (hcds ▸ mem_ownOf (newCodes_mem hp h1 hp1) ?_ h6), fun h hh => ⟨c9, o9, vs9, t9, rfl, hh, h7, h8⟩⟩;cases z : g'.get? c9 with
    | none => rfl
    | some o => rw [F'.keep _ _ z] at hp1; cases hp1
   ·exact .inr ⟨c9, oc, h1, h2', qR _ h4, h5⟩⟩
 rw [<- hcds] at Ncd;clear hcds;have N2 : News g' L' h2 ((f, fnMade (Str.ofString "select") selQual params body scope (nms.zip as) doc pm c' ctv) :: (33, tabObj ps') :: (l, listOf vals.toArray nn) :: (as.zip os ++ (own ++ (objs ++ cds)))) := fun q hq => by
  rcases qC hq with rfl | hq
  ·exact new2 _ hf ffr
  rcases qC hq with rfl | hq
  ·exact ⟨e33, (N' _ (.head _)).2⟩
  have old : ∀ q ∈ (l, listOf vals.toArray nn) :: objs, h2.get? q.1 = some q.2 /\ q.1 ≠ L' /\ g'.get? q.1 = none := fun q hq => by
   have z := N' q (.tail _ hq);refine ⟨ext2 _ _ ?_ z.1, z.2⟩;rcases qC hq with rfl | hq
   ·exact h33 _ hl
   ·exact h33 _ (hob _ hq)
  rcases qC hq with rfl | hq
  ·exact old _ (.head _)
  rcases qA hq with hq | hq
  ·exact new2 _ (hz q hq).1 (hz q hq).2
  rcases qA hq with hq | hq
  ·exact new2 _ (hown q hq).1 (hown q hq).2
  rcases qA hq with hq | hq
  ·exact old _ (.tail _ hq)
  ·exact Ncd q hq
 k_steps;unfold Halt;rename News g' _ h2 _ => N2;rename Fr g' _ h2 _ => F2;refine wpAny_call (codeAny_call_generator (fd := fnX (Str.ofString "select") selQual params body scope (nms.zip as) .none .none doc pm none (.ref c') ctv) (body := body) (qB rfl) hf rfl SO.co SO.gen rfl hcr (SO.bind _ _ _ _ _ _ _ _ _ _ _ _ ?_));refine wpAny_newFunctionEnv SO.nc (by
  intro y hy;rcases qC hy with rfl | hy
  ·exact SO.l3
  ·rw [qS hy]; exact SO.l2) (fun h3 hns3 hsb3 => ?_) SO.hk
 dsimp only at hns3 hsb3 ⊢;generalize hC : h2.objs.size = C at hns3 hsb3 ⊢;have ext3 : ∀ b o, h2.get? b = some o -> h3.get? b = some o := fun b o e => hsb3.extBut b o (Nat.ne_of_lt (hC ▸ Heap.lt_size e)) (qP _ e);have hz3 : h3.objs.size = C + 1 := hsb3.1.trans (by rw [Heap.size_push, hC]);refine ⟨T'.nolimit.keeps fun b o e => ext3 _ _ (F2.keep b o e), ?_⟩
 try dsimp only
 have F4 : Fr g' L' (h3.push { cls := .type "generator", data := .fields #[.int s.gens.size 0, .str (Str.ofString "select") (tk2 + 2), .str selQual (tk2 + 2 + 1)] }) _ := (F2.keeps ext3).push _;generalize hog : ({ cls := .type "generator", data := .fields #[.int s.gens.size 0, .str (Str.ofString "select") (tk2 + 2), .str selQual (tk2 + 2 + 1)] } : Obj) = og at F4;apply byc; intro O;obtain ⟨px, pr, px2, yp, ep, ip, fp, pre, test, hbody, hTest⟩ := SO.ex;apply O; clear O;subst hbody;have e4 : ∀ b o, h2.get? b = some o -> (h3.push og).get? b = some o := fun b o e => qP _ (ext3 b o e);have N4 : News g' L' (h3.push og) _ := fun q hq => ⟨e4 _ _ (N2 q hq).1, (N2 q hq).2⟩;have gen4 : (h3.push og).IsGen h3.objs.size s.gens.size := ⟨og, _, _, Heap.get?_push_size _ (by rw [<- hog]; rfl), by rw [<- hog], by rw [<- hog], by rw [<- hog]⟩;refine wpAny_pyIter_gen (g := s.gens.size) gen4 ?_
 let newsG : List (Addr × Obj) := as.zip os ++ (own ++ ((l, listOf vals.toArray nn) :: objs))
 have sG : ∀ q ∈ newsG, q ∈ (33, tabObj ps') :: (l, listOf vals.toArray nn) :: (as.zip os ++ (own ++ (objs ++ cds))) := fun q hq => by
  rcases qA hq with hq | hq
  ·exact .tail _ (.tail _ (qL _ hq))
  rcases qA hq with hq | hq
  ·exact .tail _ (.tail _ (qR _ (qL _ hq)))
  rcases qC hq with rfl | hq
  ·exact .tail _ (.head _)
  ·exact .tail _ (.tail _ (qR _ (qR _ (qL _ hq))))
 have NG : ∀ q ∈ newsG, h2.get? q.1 = some q.2 /\ q.1 ≠ L' /\ g'.get? q.1 = none := fun q hq => N2 q (.tail _ (sG q hq))
 let gE : Heap := hideAll h2 (newsG.map (·.1))
 have hgE : gE.objs.size = C := (hideAll_size _ _).trans hC;have gin : ∀ b o, g'.get? b = some o -> gE.get? b = some o := fun b o e => hideAll_get _ (F2.keep b o e) fun hm => by
  apply byc; intro O;obtain ⟨q, hq, rfl⟩ := List.mem_map.mp hm;apply O; clear O;rw [(NG q hq).2.2] at e; cases e
 have XG : (Kq w.params).In gE := X'.keeps gin;have TG : Top p loose mean mg mb gE := T'.keeps gin;have gi4 : GInv gE newsG (h3.push og) := ⟨fun b o e => e4 b o (of_hideAll _ e), fun q hq => e4 _ _ (NG q hq).1⟩;have lowC : ∀ b o, h2.get? b = some o -> b < C := fun b o e => hC ▸ Heap.lt_size e;have gC : h2.get? C = none := Heap.get?_none_of_le (Nat.le_of_eq hC);have nsC : (h3.push og).Ns C _ := hns3.push og;have hTurn : TurnOk PR w (envX selQual scope C f (.ref c') (nms.zip as)) gE newsG (Str.ofString "elem") vals (fun i => pz (tags.getD i .none)) 420 1200 pre test := by
  intro A' i v m' own' s₂ hh' hd' hu' hi hm' F5 N5;have hlt : i < tags.length := by
   have := (List.getElem?_eq_some_iff.mp hi).1;rw [hth.len] at this; exact this
  apply byc; intro O;obtain ⟨tag, htag⟩ : ∃ tag, tags[i]? = some tag := ⟨_, List.getElem?_eq_getElem hlt⟩;obtain ⟨t, d, t1, t2, hv, m1, m2⟩ := hth.at' i tag htag;apply O; clear O;have ev : v = .ref t := Option.some.inj (hi.symm.trans hv);subst ev;have eg : tags.getD i .none = tag := by rw [List.getD_eq_getElem?_getD, htag]; rfl
  have em : (fun y => if y = Str.ofString "elem" then some (.ref t) else m' y) = m' := by
   funext y;by_cases hy : y = Str.ofString "elem"
   ·rw [if_pos hy, hy, hm']
   ·rw [if_neg hy]
  have inG : ∀ q ∈ newsG, q ∈ newsG ++ own' := fun q hq => qL _ hq;have inO : ∀ q ∈ objs, q ∈ newsG ++ own' := fun q hq => inG _ (qR _ (qR _ (.tail _ hq)));refine wpAny_mono (hTest gE C f c' as os p loose mean mg mb A' t d t1 t2 tag m' (newsG ++ own') s₂ XG TG hh' hd' hu' la lo hcell (htg tag (qG htag)) (by rw [em]; exact F5) (fun q hq => ?_)) (fun fl s₃ h₃ => ⟨h₃.1, wpAny_mono h₃.2 (fun ok s₄ h₄ => ?_) fun _ _ e => e⟩) fun _ _ e => e
  ·rcases qA hq with hq | hq
   ·exact N5 q (inG _ (qL _ hq))
   rcases qA hq with hq | hq
   ·exact N5 q (inG _ (qR _ (qL _ hq)))
   rcases qC hq with rfl | hq
   ·exact N5 _ (inO _ m1)
   rcases qC hq with rfl | hq
   ·exact N5 _ (inO _ m2)
   ·exact N5 q hq
  ·obtain ⟨e1, h6, tk6, m6, news6, rfl, F6, e6, N6, s6⟩ := h₄;exact ⟨by rw [e1]; exact congrArg pz eg.symm, h6, tk6, m6, news6, rfl, F6, e6, N6, fun q hq => s6 q (qR _ (qR _ (.tail _ (.tail _ hq))))⟩
 have hn := hth.len;refine lc_gen (C := C) (gE := gE) (newsG := newsG) (items := vals) (pz := fun i => pz (tags.getD i .none)) (fun j ys => ys = ((passing (fun i => pz (tags.getD i .none)) vals.length 0).take j).map fun i => tags.getD i .none) rfl (qB rfl) (by decide) rfl rfl F4 X' T' N4 ?_ ?_ ?_ ?_ ⟨_, (nsC).choose_spec.choose_spec.choose_spec.1⟩ (Nat.le_of_eq hgE) ?_ ?_ gen4 (Array.getElem?_push_size) gi4 ?_ rfl ?_ ?_ ?_
 ·intro q hq;exact Nat.ne_of_lt (lowC _ _ (N2 q hq).1)
 ·cases z : g'.get? C with
  | none => rfl
  | some o => rw [F2.keep _ _ z] at gC; cases gC
 ·obtain ⟨oL, _, _, hL, _⟩ := F2.ns;exact lowC _ _ hL
 ·rw [hz3]; exact Nat.lt_succ_self _
 ·intro q hq;exact lowC _ _ (NG q hq).1
 ·intro b o hb e;rcases Nat.lt_trichotomy b C with h | h | h
  ·right;rw [Heap.get?_push_ne _ _ _ (by rw [hz3]; exact Nat.ne_of_lt (Nat.lt_succ_of_lt h)), hsb3.2 b hb, Heap.get?_push_ne _ _ _ (by rw [hC]; exact hb)] at e;by_cases hm : b ∈ newsG.map (·.1)
   ·obtain ⟨q, hq, rfl⟩ := List.mem_map.mp hm;have e1 := (NG q hq).1;rw [e] at e1;have e2 : q = (q.1, o) := Prod.ext rfl (Option.some.inj e1).symm;exact .inr (e2 ▸ hq)
   ·exact .inl (hideAll_get _ e hm)
  ·exact absurd h hb
  ·exact .inl h
 ·intro B s'' hCB gi hz'' hC0;refine seg_sel (cenv := envX selQual scope C f (.ref c') (nms.zip as)) (D := 420) (U := 1200) rfl (qB rfl) (qB rfl) hTurn SO.hk SO.l1 (by decide) SO.l2 (by decide) SO.co ?_ hCB ⟨_, nn, qR _ (qR _ (.head _)), rfl⟩ (fun q hq => ⟨lowC _ _ (NG q hq).1, hideAll_none _ (qM hq)⟩) (Nat.le_of_eq hgE) s'' s'' _ ?_ (nsC.at hC0) gi (GSince.refl _ _ _) hz''
  ·show interactive (envX selQual scope C f (.ref c') (nms.zip as)) = false;unfold interactive;rw [show (envX selQual scope C f (.ref c') (nms.zip as)).scope.kind = .function from SO.hk];rfl
  ·rfl
 ·rintro j ys hj rfl;have h1 : (passing (fun i => pz (tags.getD i .none)) vals.length 0).length <= vals.length := by
   unfold passing;refine Nat.le_trans (List.length_filter_le _ _) ?_;simp
  rw [List.length_map, List.length_take, sizeLine_eq];omega
 ·intro gB C' E' j v ys own9 H tk9 G u Xg Tg lC zp1 hJ hoff F5 N5;apply byc; intro O;obtain ⟨i, hpi, hvi⟩ := zp1;apply O; clear O;have hlt : i < tags.length := by
   have := (List.getElem?_eq_some_iff.mp hvi).1;rw [hth.len] at this; exact this
  apply byc; intro O;obtain ⟨tag, htag⟩ : ∃ tag, tags[i]? = some tag := ⟨_, List.getElem?_eq_getElem hlt⟩;obtain ⟨t, d, t1, t2, hv, m1, m2⟩ := hth.at' i tag htag;apply O; clear O;have ev : v = .ref t := Option.some.inj (hvi.symm.trans hv);subst ev;have eg : tags.getD i .none = tag := by rw [List.getD_eq_getElem?_getD, htag]; rfl
  have inO : ∀ q ∈ objs, q ∈ ((f, fnMade (Str.ofString "select") selQual params [selFor (Str.ofString "elem") (Str.ofString "result") px pr px2 yp ep ip fp pre test] scope (nms.zip as) doc pm c' ctv) :: (33, tabObj ps') :: (l, listOf vals.toArray nn) :: (as.zip os ++ (own ++ (objs ++ cds)))) ++ own9 := fun q hq =>
   qL _ (.tail _ (.tail _ (.tail _ (qR _ (qR _ (qL _ hq))))))
  refine (show wpAny _ _ _ (GEl gB C' G s (((f, fnMade (Str.ofString "select") selQual params [selFor (Str.ofString "elem") (Str.ofString "result") px pr px2 yp ep ip fp pre test] scope (nms.zip as) doc pm c' ctv) :: (33, tabObj ps') :: (l, listOf vals.toArray nn) :: (as.zip os ++ (own ++ (objs ++ cds)))) ++ own9) (fun y => ys ++ [y] = ((passing (fun i => pz (tags.getD i .none)) vals.length 0).take (j + 1)).map fun i => tags.getD i .none)) _ _ from ?_);generalize ((f, fnMade (Str.ofString "select") selQual params [selFor (Str.ofString "elem") (Str.ofString "result") px pr px2 yp ep ip fp pre test] scope (nms.zip as) doc pm c' ctv) :: (33, tabObj ps') :: (l, listOf vals.toArray nn) :: (as.zip os ++ (own ++ (objs ++ cds)))) ++ own9 = nx at N5 inO ⊢;have N6 : News gB C' H ((t, instObj 55 d) :: (d, thDict w t1 t2 tag) :: nx) := nC (N5 _ (inO _ m1)) (nC (N5 _ (inO _ m2)) (N5));have hjs : ys ++ [tag] = ((passing (fun i => pz (tags.getD i .none)) vals.length 0).take (j + 1)).map fun i => tags.getD i .none := by
   rw [take_snoc hpi, List.map_append, <- hJ, List.map_singleton, eg]
  clear N5 N4 F4 N2 F2 hTurn gi4 hT2 hTL Ncd hT1 hT N' F' ret N F hJ inO NG sG;unfold thDict at N6;rcases htg tag (qG htag) with e9 | ⟨x9, tx9, e9, -, -⟩
  all_goals (
   subst e9;k_steps;unfold Halt;rename Fr gB _ _ _ => F7;rename News gB _ _ _ => N7;exact ⟨_, _, _, _, rfl, F7, N7, fun q hq => .tail _ (.tail _ hq), hjs⟩)
 ·rintro D C' ys H tk9 G kk u hJ hne hlt hDC hnsC' hLD hC'0 hnC' F5 N5 hgo hfin;refine lc_fin (s := { s with gens := G }) hDC hnsC' hLD hC'0 hnC' F5 N5 fun h6 F6 N6 => ?_;rename NextK _ _ _ _ _ _ _ => kR9;refine kR9.out ?_;change OutP _ _ _ _ _ _ _;refine OutP.intro F6 N6 (fun q hq hne => ?_) fun ext fresh => ?_
  ·rcases qC hq with rfl | hq
   ·exact absurd rfl hne
   rcases qC hq with rfl | hq
   ·exact .tail _ (.tail _ (.tail _ (.head _)))
   ·exact .tail _ (.tail _ (.tail _ (.tail _ (qR _ (qR _ (qL _ hq))))))
  ·have hDn : D ∉ ((33, tabObj ps) :: (l, listOf vals.toArray nn) :: objs).map (·.1) := fun hm => by
    apply byc; intro O;obtain ⟨q, hq, e⟩ := List.mem_map.mp hm;apply O; clear O;refine Nat.lt_irrefl D ?_;rcases qC hq with rfl | hq
    ·exact Nat.lt_of_le_of_lt (Nat.le_of_eq e.symm) (hlt (33, tabObj ps') (.tail _ (.head _)))
    rcases qC hq with rfl | hq
    ·exact Nat.lt_of_le_of_lt (Nat.le_of_eq e.symm) (hlt _ (.tail _ (.tail _ (.head _))))
    ·exact Nat.lt_of_le_of_lt (Nat.le_of_eq e.symm) (hlt _ (.tail _ (.tail _ (.tail _ (qR _ (qR _ (qL _ hq)))))))
   have hD : s.heap.get? D = none := fresh _ (.head _) hDn;have hC9 : ∀ q ∈ cds, s.heap.get? q.1 = none := fun q hq => nx1 _ (newCodes_new (cin q hq));have m6 : ∀ q ∈ cds, h6.get? q.1 = some q.2 := fun q hq => (N6 q (.tail _ (.tail _ (.tail _ (.tail _ (qR _ (qR _ (qR _ hq)))))))).1;have Fz : Fr h! L h6 m := backP F m33.2.1 m33.2.2 ext;have new6 : ∀ q : Addr × Obj, h6.get? q.1 = some q.2 -> s.heap.get? q.1 = none -> h6.get? q.1 = some q.2 /\ q.1 ≠ L /\ h!.get? q.1 = none := fun q e1 e2 => by
    refine ⟨e1, fun e => ?_, ?_⟩
    ·obtain ⟨oL, _, _, hL, _⟩ := F.ns;rw [<- e, e2] at hL; cases hL
    ·cases z : h!.get? q.1 with
     | none => rfl
     | some o => rw [F.keep _ _ z] at e2; cases e2
   refine ret D h6 _ G ys kk ps' cds Fz (fun q hq => ?_) hTL ext (fun q hq => ?_) (fun hb => ?_) ?_
   ·rcases qC hq with rfl | hq
    ·exact new6 _ (N6 _ (.head _)).1 hD
    rcases qC hq with rfl | hq
    ·exact ⟨(N6 _ (.tail _ (.tail _ (.head _)))).1, m33.2⟩
    rcases qA hq with hq | hq
    ·exact new6 _ (m6 q hq) (hC9 q hq)
    ·have z := N q (.tail _ hq);exact ⟨ext _ _ (h33 q hq) z.1, z.2⟩
   ·rcases qC hq with rfl | hq
    ·exact hD
    ·exact hC9 q hq
   ·exact AllBare.moved (AllBare.push hb rfl) (GenOnlyQ.of hgo hfin rfl)
   ·rw [hJ, List.take_length];unfold passing;rw [List.drop_zero, hn];exact filter_range pz .none tags
end
end
section
section
local macro_rules | `(tactic| walk_at "exec Assign cons ListComp") => `(tactic| (k_here; k_dflt (refine lc_assign ?hsw rfl rfl (by decide) ?_; (case hsw => rfl))))
local macro_rules | `(tactic| walk_at $s) => hz s ["call ref"]
variable {Q : Flow -> Shared -> Prop}
local macro_rules | `(tactic| walk_at "z") => `(tactic| skip)
theorem law_12 {r1 : Addr} {ys1 : List Value} {k1 : Nat} {os : List Int} (F : Fr h! L s.heap m) (X : (Kq w.params).In h!) (T : Top p loose mean mg mb h!) (hC : Cells L cv C) (N : News h! L s.heap (C ++ rest))
  (hh : A.handled = none) (hd : A.depth <= 320) (hu : A.units <= 200) (h1 : cv 1 = some (.ref r1)) (hr1 : (r1, listOf ys1.toArray k1) ∈ rest) (hi1 : IntsAre ys1 os) (hos : os.length = 6 /\ ∀ o ∈ os, 0 <= o /\ o < 256)
  (ret : ∀ h' tk' r zs k, Fr h! L h' (fun y => if y = Str.ofString "bare" then some (.ref r) else m y) -> News h! L h' (C ++ (r, listOf zs.toArray k) :: rest) -> (∀ p ∈ C ++ rest, p.1 ≠ r) -> StrsAre zs (os.map decS) -> Q .next { s with heap := h', toks := tk' }) :
  wpAny (model PR w) A (exec (lst 12) (lenv L)) Q E s := by
 refine weakL hh hd hu ?_;apply byc; intro O;obtain ⟨o1, m1, d1⟩ := cell_at hC 1 (by decide) h1;apply O; clear O;have N1 : News h! L s.heap ((L + 1 + 1, o1) :: (r1, listOf ys1.toArray k1) :: (C ++ rest)) := nC (N _ (qL _ m1)) (nC (N _ (qR _ hr1)) (N));have kL := IntsAre.length hi1;clear N;refine cvS (by conv => lhs; whnf) ?_;k_steps;unfold Halt;rename Fr h! L _ _ => F2;rename News h! L _ _ => N2;refine lc_list (items := ys1) rfl (fun i us nx => nx = (L + 1 + 1, o1) :: (r1, listOf ys1.toArray k1) :: (C ++ rest) /\ ∃ as, StrsAre us as /\ as = (os.take i).map decS) (fun i us nx h => by rw [h.1]; exact .tail _ (.head _)) (by decide) rfl rfl F2 X T N2 ⟨rfl, [], .nil, rfl⟩ ?_ ?_ ?_
 ·intro g C9 E' i v us nx own H tk9 u Xg Tg lC hi3 hv zp1 hoff F3 N3;apply byc; intro O;obtain ⟨rfl, as, hz, ha⟩ := zp1;apply O; clear O;refine lc_nil ?_;apply byc; intro O;obtain ⟨c, tc, rfl, hc⟩ := ints_at hi1 hv;apply O; clear O;have hcb := hos.2 c (qG hc);clear F2 N2;k_steps;unfold Halt;rename News g C9 _ _ => N4;rename Fr g C9 _ _ => F4;refine LcEnd.intro ((L + 1 + 1, o1) :: (r1, listOf ys1.toArray k1) :: (C ++ rest)) F4 N4 ?_ ?_ hoff ⟨rfl, ?_⟩
  ·exact fun p hp => qL _ hp
  ·exact fun p hp => qR _ hp
  ·exact ⟨_, StrsAre.append' hz (.cons _ _ .nil), by rw [take_snoc hc, List.map_append, ha]; rfl⟩
 ·intro D C9 us nx H tk9 k u zp1 hne hlt hDC hC9 hLD hC0 hCn F4 N4;apply byc; intro O;obtain ⟨rfl, as, hz, ha⟩ := zp1;apply O; clear O;refine lc_finA hDC hC9 hLD hC0 hCn rfl F4 N4 rfl rfl fun h5 tk5 F5 N5 => ?_;have N6 : News h! L h5 ((D, listOf us.toArray k) :: (C ++ rest)) := fun q hq => N5 q (by
   rcases qC hq with rfl | hq
   ·exact .head _
   ·exact .tail _ (.tail _ (.tail _ hq)))
  exact ret h5 tk5 D us k F5 (newsMid N6) (fun p hp => hne p (.tail _ (.tail _ hp))) (by rw [ha, kL, List.take_length] at hz; exact hz)
 ·rintro i us nx hi3 ⟨_, as, hz, rfl⟩;rw [sizeLine_eq];have := StrsAre.length hz;rw [List.length_map, List.length_take] at this;omega
end
theorem ne_strs0 {prog : Program} {w : World} {A : Around} {E : Value -> Shared -> Prop} {s : Shared} {a b : Addr} {xs ys : List Value} {ns : List Str} {Q : Value -> Shared -> Prop} (ha : s.heap.IsList a xs.toArray) (hb : s.heap.IsList b ys.toArray) (hi : StrsAre xs ns) (hj : StrsAre ys ns) (hu : A.units < cLine) (h : Q (.bool false) s) :
  wpAny (model prog w) A (compareOp .NotEq (.ref a) (.ref b)) Q E s := ne_strs ha hb hi hj hu (by rw [decide_eq_true rfl, Bool.not_true]; exact h)
theorem strs_filter {pz : Value -> Bool} {pr : Str -> Bool} (hp : ∀ x t, pz (.str x t) = pr x) {us : List Value} {ss : List Str} (h : StrsAre us ss) : StrsAre (us.filter pz) (ss.filter pr) := by
 induction h with
 | nil => exact .nil
 | cons x t _ ih =>
  rw [List.filter_cons, List.filter_cons, hp];split
  ·exact .cons x t ih
  ·exact ih
structure StT (w : World) (cv : Nat -> Option Value) (rest : List (Addr × Obj)) (rt : Addr) (vals : List Value) (kt : Nat) (objs : List (Addr × Obj)) (us : List Value) (ss : List Str) : Prop where
 c3 : cv 3 = some (.ref rt)
 m3 : (rt, listOf vals.toArray kt) ∈ rest
 th : Things w objs vals (.none :: us)
 ob : ∀ q ∈ objs, q ∈ rest
 ln : vals.length <= 100
 st : StrsAre us ss
 tg : ∀ x ∈ ss, 0 < x.length /\ x.length <= 20
theorem StT.tags {w : World} {cv : Nat -> Option Value} {rest objs : List (Addr × Obj)} {rt : Addr} {vals us : List Value} {kt : Nat} {ss : List Str} (S : StT w cv rest rt vals kt objs us ss) : ∀ tag ∈ Value.none :: us, tag = .none \/ ∃ x tx, tag = .str x tx /\ 0 < x.length /\ x.length <= 20 := fun tag ht => by
 rcases qC ht with rfl | ht
 ·exact .inl rfl
 ·obtain ⟨i, hi, e⟩ := List.mem_iff_getElem.mp ht;apply byc; intro O;obtain ⟨x, tx, e2, hx⟩ := strs_at S.st (List.getElem?_eq_getElem hi);apply O; clear O;rw [e] at e2;exact .inr ⟨x, tx, e2, S.tg x (qG hx)⟩
section
local macro_rules | `(tactic| walk_at $s) => hz s ["call ref"]
variable {Q : Flow -> Shared -> Prop}
theorem law_13 {ps : Array Value} {rt rb : Addr} {vals us zs : List Value} {kt kb : Nat} {objs : List (Addr × Obj)} {ss : List Str} (F : Fr h! L s.heap m) (X : (Kq w.params).In h!) (T : Top p loose mean mg mb h!) (hC : Cells L cv C) (N : News h! L s.heap ((33, tabObj ps) :: (C ++ rest))) (hT : TabL ps rest) (h33 : ∀ q ∈ C ++ rest, q.1 ≠ 33)
  (hh : A.handled = none) (hd : A.depth <= 320) (hu : A.units <= 200) (S : StT w cv rest rt vals kt objs us ss) (hm : m (Str.ofString "bare") = some (.ref rb)) (hrb : (rb, listOf zs.toArray kb) ∈ rest) (hz : StrsAre zs (ss.filter fun x => Txt.item x 0 != Str.ofString "{"))
  (ret : ∀ h' tk' G ps' cds, Fr h! L h' m -> News h! L h' ((33, tabObj ps') :: (C ++ (cds ++ rest))) -> TabL ps' (cds ++ rest) -> (∀ q ∈ cds, q.1 ≠ 33) -> (∀ q ∈ cds, ∀ p ∈ C ++ rest, p.1 ≠ q.1) -> (AllBare s.gens -> AllBare G) -> Q .next { s with heap := h', toks := tk', gens := G }) :
  wpAny (model PR w) A (exec (lst 13) (lenv L)) Q E s := by
 refine weakL hh hd hu ?_;apply byc; intro O;obtain ⟨o3, m3, d3⟩ := cell_at hC 3 (by decide) S.c3;apply O; clear O;have F1 := frSet F hm;have N1 : News h! L s.heap ((33, tabObj ps) :: ((L + 1 + 1 + 1 + 1, o3) :: (rt, listOf vals.toArray kt) :: (rb, listOf zs.toArray kb) :: (C ++ rest))) := nC (N _ (.head _)) (nC (N _ (.tail _ (qL _ m3))) (nC (N _ (.tail _ (qR _ S.m3))) (nC (N _ (.tail _ (qR _ hrb))) (fun q hq => N q (.tail _ hq)))));have sub1 : ∀ q ∈ (L + 1 + 1 + 1 + 1, o3) :: (rt, listOf vals.toArray kt) :: (rb, listOf zs.toArray kb) :: (C ++ rest), q ∈ C ++ rest := by
  refine List.forall_mem_cons.mpr ⟨qL _ m3, List.forall_mem_cons.mpr ⟨qR _ S.m3, List.forall_mem_cons.mpr ⟨qR _ hrb, fun q hq => ?_⟩⟩⟩
  ·exact hq
 clear F;refine cvS (by conv => lhs; whnf) ?_;k_steps;unfold Halt;rename Fr h! L _ _ => F2;rename News h! L _ _ => N2;refine found_G prep2_ok F2 X N2 T rfl (qB rfl) (qB rfl) hT (fun q hq => .tail _ (.tail _ (.tail _ (qR _ hq)))) (fun q hq => h33 q (sub1 q hq)) (.tail _ (.head _)) S.th (fun q hq => .tail _ (.tail _ (.tail _ (qR _ (S.ob q hq))))) S.ln S.tags fun r h3 tk3 G3 ys k3 ps3 cds3 F3 N3 hT3 ext3 hnew3 hg3 hys => ?_;clear F2 N2;k_steps;unfold Halt;rename Fr h! L _ _ => F4;rename News h! L _ _ => N4;dsimp only at hnew3 ext3 hg3;have hys : StrsAre ys (ss.filter fun x => Txt.item x 0 != Str.ofString "{") := by
  rw [hys, List.filter_cons_of_neg (by decide)];exact strs_filter (fun _ _ => rfl) S.st
 refine ne_strs0 (isL N4 (.head _)) (isL N4 (.tail _ (.tail _ (qR _ (.tail _ (.tail _ (.head _))))))) hys hz (Nat.lt_of_lt_of_le (Nat.lt_succ_self _) (qB rfl)) ?_;have a33 : s.heap.get? 33 = some (tabObj ps) := (N _ (.head _)).1;have c33 : ∀ q ∈ cds3, q.1 ≠ 33 := fun q hq e => by
  have := hnew3 q (.tail _ hq);rw [e, a33] at this; cases this
 have N5 : News h! L h3 ((33, tabObj ps3) :: ((L + 1 + 1 + 1 + 1, o3) :: (rt, listOf vals.toArray kt) :: (C ++ (cds3 ++ rest)))) := fun q hq => N4 q (by
  rcases qC hq with rfl | hq
  ·exact .tail _ (.head _)
  rcases qC hq with rfl | hq
  ·exact .tail _ (.tail _ (qR _ (.head _)))
  rcases qC hq with rfl | hq
  ·exact .tail _ (.tail _ (qR _ (.tail _ (.head _))))
  rcases qA hq with hq | hq
  ·exact .tail _ (.tail _ (qR _ (.tail _ (.tail _ (.tail _ (qL _ hq))))))
  rcases qA hq with hq | hq
  ·exact .tail _ (.tail _ (qL _ hq))
  ·exact .tail _ (.tail _ (qR _ (.tail _ (.tail _ (.tail _ (qR _ hq)))))))
 have h335 : ∀ q ∈ (L + 1 + 1 + 1 + 1, o3) :: (rt, listOf vals.toArray kt) :: (C ++ (cds3 ++ rest)), q.1 ≠ 33 := by
  refine List.forall_mem_cons.mpr ⟨h33 (_, o3) (qL _ m3), List.forall_mem_cons.mpr ⟨h33 (rt, listOf vals.toArray kt) (qR _ S.m3), fun q hq => ?_⟩⟩;rcases qA hq with hq | hq
  ·exact h33 q (qL _ hq)
  rcases qA hq with hq | hq
  ·exact c33 q hq
  ·exact h33 q (qR _ hq)
 have a335 : h3.get? 33 = some (tabObj ps3) := (N5 _ (.head _)).1;clear N4;k_steps;unfold Halt;rename Fr h! L _ _ => F2;rename News h! L _ _ => N2;refine found_G prep1_ok F2 X N2 T rfl (qB rfl) (qB rfl) hT3 (fun q hq => .tail _ (.tail _ (qR _ hq))) h335 (.tail _ (.head _)) S.th (fun q hq => .tail _ (.tail _ (qR _ (qR _ (S.ob q hq))))) S.ln S.tags fun r2 h4 tk4 G4 ys4 k4 ps4 cds4 F5 N6 hT6 ext4 hnew4 hg4 hys4 => ?_;dsimp only at hnew4 ext4 hg4;have c334 : ∀ q ∈ cds4, q.1 ≠ 33 := fun q hq e => by
  have := hnew4 q (.tail _ hq);rw [e, a335] at this; cases this
 clear F2 N2;have N7 : News h! L h4 ((r2, listOf ys4.toArray k4) :: (33, tabObj ps4) :: (L + 1 + 1 + 1 + 1, o3) :: (rt, listOf vals.toArray kt) :: (C ++ (cds4 ++ (cds3 ++ rest)))) := fun q hq => N6 q (by
  rcases qC hq with rfl | hq
  ·exact .head _
  rcases qC hq with rfl | hq
  ·exact .tail _ (.head _)
  rcases qC hq with rfl | hq
  ·exact .tail _ (.tail _ (qR _ (.head _)))
  rcases qC hq with rfl | hq
  ·exact .tail _ (.tail _ (qR _ (.tail _ (.head _))))
  rcases qA hq with hq | hq
  ·exact .tail _ (.tail _ (qR _ (.tail _ (.tail _ (qL _ hq)))))
  rcases qA hq with hq | hq
  ·exact .tail _ (.tail _ (qL _ hq))
  ·exact .tail _ (.tail _ (qR _ (.tail _ (.tail _ (qR _ hq))))))
 clear N6;have kV := S.ln;k_steps;unfold Halt;rename Fr h! L _ _ => F2;rename News h! L _ _ => N2;dsimp only at N2 F2;have esl : slicePick vals.toArray (some 1) none none = (vals.drop 1).toArray := slicePick_from' vals.toArray 1;rw [esl] at N2;apply byc; intro O;obtain ⟨dl, hdl⟩ : ∃ dl, dl = h4.objs.size + 1 := ⟨_, rfl⟩;apply O; clear O;have N3 : News h! L _ ((dl, listOf (vals.drop 1).toArray 0) :: (r2, listOf ys4.toArray k4) :: (33, tabObj ps4) :: (C ++ (cds4 ++ (cds3 ++ rest)))) := fun q hq => N2 q (by
  rcases qC hq with rfl | hq
  ·rw [hdl]; exact .head _
  rcases qC hq with rfl | hq
  ·exact .tail _ (.head _)
  rcases qC hq with rfl | hq
  ·exact .tail _ (.tail _ (.head _))
  ·exact .tail _ (.tail _ (.tail _ (.tail _ (.tail _ hq)))))
 have hlen := S.th.len;rw [List.length_cons] at hlen;rw [<- hdl];clear N2;refine lc_list (items := vals.drop 1) rfl (fun i zs' nx => nx = (dl, listOf (vals.drop 1).toArray 0) :: (r2, listOf ys4.toArray k4) :: (33, tabObj ps4) :: (C ++ (cds4 ++ (cds3 ++ rest))) /\ zs' = us.take i) (fun i us nx h => by rw [h.1]; exact .head _) (by decide) rfl rfl F2 X T N3 ⟨rfl, rfl⟩ ?_ ?_ ?_
 ·intro g C9 E' i v zs' nx own H tk9 u Xg Tg lC hi3 hv zp1 hoff F5 N5;apply byc; intro O;obtain ⟨rfl, ha⟩ := zp1;apply O; clear O;refine lc_nil ?_;rw [List.getElem?_drop] at hv;rw [List.length_drop] at hi3;apply byc; intro O;obtain ⟨tag, htag⟩ : ∃ tag, us[i]? = some tag := ⟨_, List.getElem?_eq_getElem (by omega)⟩;obtain ⟨x9, tx9, etag, hx9⟩ := strs_at S.st htag;apply O; clear O;have htag' : (Value.none :: us)[1 + i]? = some tag := by rw [Nat.add_comm]; simpa using htag
  apply byc; intro O;obtain ⟨t, d, t1, t2, hv2, m1, m2⟩ := S.th.at' (1 + i) tag htag';apply O; clear O;have ev : v = .ref t := Option.some.inj (hv.symm.trans hv2);subst ev;have inO : ∀ q ∈ objs, q ∈ ((dl, listOf (vals.drop 1).toArray 0) :: (r2, listOf ys4.toArray k4) :: (33, tabObj ps4) :: (C ++ (cds4 ++ (cds3 ++ rest)))) ++ own := fun q hq =>
   qL _ (.tail _ (.tail _ (.tail _ (qR _ (qR _ (qR _ (S.ob q hq)))))))
  have N6 : News g C9 H ((t, instObj 55 d) :: (d, thDict w t1 t2 tag) :: (((dl, listOf (vals.drop 1).toArray 0) :: (r2, listOf ys4.toArray k4) :: (33, tabObj ps4) :: (C ++ (cds4 ++ (cds3 ++ rest)))) ++ own)) := nC (N5 _ (inO _ m1)) (nC (N5 _ (inO _ m2)) (N5));have hjs : zs' ++ [tag] = us.take (i + 1) := by rw [take_snoc htag, ha]
  clear F2 N3 N5 inO;subst etag;unfold thDict at N6;k_steps;unfold Halt;rename News g C9 _ _ => N4;rename Fr g C9 _ _ => F4;refine LcEnd.intro ((dl, listOf (vals.drop 1).toArray 0) :: (r2, listOf ys4.toArray k4) :: (33, tabObj ps4) :: (C ++ (cds4 ++ (cds3 ++ rest)))) F4 N4 ?_ ?_ hoff ⟨rfl, hjs⟩
  ·exact fun p hp => .tail _ (.tail _ (qL _ hp))
  ·exact fun p hp => .tail _ (.tail _ (qR _ hp))
 ·intro D C9 zs' nx H tk9 k u zp1 hne hlt hDC hC9 hLD hC0 hCn F4 N4;apply byc; intro O;obtain ⟨rfl, ha⟩ := zp1;apply O; clear O;refine lc_fin hDC hC9 hLD hC0 hCn F4 N4 fun h5 F5 N5 => ?_;have ez : zs' = us := by rw [ha, List.length_drop, List.take_of_length_le (by omega)]
  subst ez;clear F2 N3;k_steps;unfold Halt;rename News h! L _ _ => N6;rename Fr h! L _ _ => F6;have hys5 : StrsAre ys4 ss := by
   rw [hys4, List.filter_cons_of_neg (by decide)];have := strs_filter (pz := isS) (pr := fun _ => true) (fun _ _ => rfl) S.st
   rwa [List.filter_eq_self.mpr (fun _ _ => rfl)] at this
  refine ne_strs0 (isL N6 (.tail _ (.tail _ (.head _)))) (isL N6 (.head _)) hys5 S.st (Nat.lt_of_lt_of_le (Nat.lt_succ_self _) (qB rfl)) ?_;k_steps
  try unfold Halt
  rename News h! L _ _ => N7;rename Fr h! L _ _ => F7;refine ret _ _ G4 ps4 (cds4 ++ cds3) (frBack hm F7) (fun q hq => N7 q ?_) (by rw [List.append_assoc]; exact hT6) (fun q hq => ?_) (fun q hq p hp e => ?_) (fun hb => hg4 (hg3 hb))
  ·rcases qC hq with rfl | hq
   ·exact .tail _ (.tail _ (.tail _ (.head _)))
   ·exact .tail _ (.tail _ (.tail _ (.tail _ (show q ∈ C ++ (cds4 ++ (cds3 ++ rest)) from by simpa using hq))))
  ·rcases qA hq with hq | hq
   ·exact c334 q hq
   ·exact c33 q hq
  ·have hp1 := (N p (.tail _ hp)).1;rcases qA hq with hq | hq
   ·have := hnew4 q (.tail _ hq);rw [<- e, ext3 _ _ (h33 p hp) hp1] at this; cases this
   ·have := hnew3 q (.tail _ hq);rw [<- e, hp1] at this; cases this
 ·rintro i zs' nx hi3 ⟨_, rfl⟩;rw [sizeLine_eq, List.length_take];rw [List.length_drop] at hi3;omega
end
end
section
section
open PySem.Builtin PySem.Builtin.Str
theorem cut_unique {c : Nat} : ∀ {p key q val : List Nat}, c ∉ p -> c ∉ key -> p ++ c :: q = key ++ c :: val -> p = key /\ q = val
 | [], [], q, val, _, _, h => ⟨rfl, by simpa using h⟩
 | [], k :: key, q, val, _, hk, h => by
  simp at h;exact absurd (h.1 ▸ List.Mem.head _) hk
 | a :: p, [], q, val, hp, _, h => by
  simp at h;exact absurd (h.1 ▸ List.Mem.head _) hp
 | a :: p, k :: key, q, val, hp, hk, h => by
  simp at h;obtain ⟨h1, h2⟩ := cut_unique (fun hm => hp (.tail _ hm)) (fun hm => hk (.tail _ hm)) h.2;exact ⟨by rw [h.1, h1], h2⟩
theorem split_one (c : Nat) (key val : PySem.Str) (hk : c ∉ toL key) (hv : c ∉ toL val) : Txt.split (key ++ ⟨#[c]⟩ ++ val) ⟨#[c]⟩ = [key, val] := by
 have hj := StrLaws.join_split (key ++ ⟨#[c]⟩ ++ val) ⟨#[c]⟩;have hf := StrLaws.split_free (key ++ ⟨#[c]⟩ ++ val) c;have hL : toL (key ++ ⟨#[c]⟩ ++ val) = toL key ++ c :: toL val := by rw [toL_app, toL_app]; simp [toL]
 generalize Txt.split (key ++ ⟨#[c]⟩ ++ val) ⟨#[c]⟩ = l at hj hf ⊢;have hjl := congrArg toL hj;rw [hL] at hjl
 match l, hf, hjl with
 | [], _, h =>
  have h : ([] : List Nat) = toL key ++ c :: toL val := h;simp at h
 | [p], hf, h =>
  have h : toL p = toL key ++ c :: toL val := h;exact absurd (show c ∈ toL p from h ▸ qR _ (.head _)) (hf p (.head _))
 | p :: q :: r, hf, h =>
  have h : toL (p ++ ⟨#[c]⟩ ++ PySem.Str.join ⟨#[c]⟩ (q :: r)) = toL key ++ c :: toL val := h;rw [toL_app, toL_app] at h;have h' : toL p ++ c :: toL (PySem.Str.join ⟨#[c]⟩ (q :: r)) = toL key ++ c :: toL val := by simpa [toL] using h
  obtain ⟨h1, h2⟩ := cut_unique (hf p (.head _)) hk h'
  match r, h2 with
  | [], h2 =>
   have h2 : toL q = toL val := h2;rw [str_ext h1, str_ext h2]
  | b :: r, h2 =>
   have h2 : toL (q ++ ⟨#[c]⟩ ++ PySem.Str.join ⟨#[c]⟩ (b :: r)) = toL val := h2;rw [toL_app, toL_app] at h2;exact absurd (show c ∈ toL val from h2 ▸ qL _ (qR _ (.head _))) hv
theorem dec_all : ∀ n : Nat, n < 256 -> (toL (decS (n : Int))).all (fun c => decide (48 <= c /\ c <= 57)) = true /\ 0 < (toL (decS (n : Int))).length /\ (toL (decS (n : Int))).length <= 3 := by decide +kernel
theorem decS_free {n : Int} (h : 0 <= n /\ n < 256) {c : Nat} (hc : c < 48 \/ 57 < c) : c ∉ toL (decS n) := by
 obtain ⟨k, rfl⟩ : ∃ k : Nat, n = (k : Int) := ⟨n.toNat, by omega⟩;intro hm;have := of_decide_eq_true (List.all_eq_true.mp (dec_all k (by omega)).1 c hm);omega
theorem decS_len {n : Int} (h : 0 <= n /\ n < 256) : 0 < (decS n).length /\ (decS n).length <= 3 := by
 obtain ⟨k, rfl⟩ : ∃ k : Nat, n = (k : Int) := ⟨n.toNat, by omega⟩;exact (dec_all k (by omega)).2
theorem decS_inj {a b : Int} (ha : 0 <= a /\ a < 256) (hb : 0 <= b /\ b < 256) (e : decS a = decS b) : a = b := by
 have h1 := KIN.num_reads (n := a) ha.1 (by omega);have h2 := KIN.num_reads (n := b) hb.1 (by omega);have e : Str.ofString (toString a) = Str.ofString (toString b) := e;rw [e, h2] at h1;exact (Option.some.inj h1).symm
end
end
section
local macro_rules | `(tactic| walk_at $s) => hz s ["call builtin:list.append", "subscriptTail Name Subscript ref int"]
section
variable {prog : Program} {w : World} {A : Around} {h! : Heap} {L : Addr} {m : Str -> Option Value} {news : List (Addr × Obj)} {s : Shared}
  {p : Program} {loose : List Str} {mean : ExcName -> Option Value} {mg mb : Str -> Option Value} {Q E : Value -> Shared -> Prop}
theorem ints_any {vs : List Value} {ns : List Int} (h : IntsAre vs ns) (k : Int) : kf_ints vs = true /\ vs.any (isInt k) = decide (k ∈ ns) := by
 induction h with
 | nil => exact ⟨rfl, rfl⟩
 | cons n t _ ih =>
  refine ⟨?_, ?_⟩
  ·have := ih.1;unfold kf_ints at this ⊢
   simp_all
  ·rw [List.any_cons, ih.2];unfold isInt;by_cases e : n = k
   ·subst e; simp
   ·have e' : k ≠ n := fun h => e h.symm;simp [e, e']
theorem in_I {D : Addr} {k : Int} {t : Tok} {vs : List Value} {ns : List Int} {n : Nat} (N : News h! L s.heap news) (hm : (D, listOf vs.toArray n) ∈ news) (hi : IntsAre vs ns) (h : Q (.bool (decide (k ∈ ns))) s) :
  wpAny (model prog w) A (compareOp .In (.int k t) (.ref D)) Q E s :=
 kf_in N hm (by simpa using (ints_any hi k).1) (by simpa using (ints_any hi k).2) h
theorem notin_I {D : Addr} {k : Int} {t : Tok} {vs : List Value} {ns : List Int} {n : Nat} (N : News h! L s.heap news) (hm : (D, listOf vs.toArray n) ∈ news) (hi : IntsAre vs ns) (h : Q (.bool (!decide (k ∈ ns))) s) :
  wpAny (model prog w) A (compareOp .NotIn (.int k t) (.ref D)) Q E s :=
 kf_notin N hm (by simpa using (ints_any hi k).1) (by simpa using congrArg (!·) (ints_any hi k).2) h
inductive RcI (succ : Int -> List Int) : Int -> Int -> Prop
 | refl (a : Int) : RcI succ a a
 | step {a b c : Int} : RcI succ a b -> c ∈ succ b -> RcI succ a c
def StepsIn (objs : List (Addr × Obj)) (kvs : List (Int × Value)) (os : List Int) (succ : Int -> List Int) : Prop :=
 ∀ o ∈ os, ∃ l vs n, valueAt kvs o = some (.ref l) /\ (l, listOf vs.toArray n) ∈ objs /\ IntsAre vs (succ o)
structure ReP (os : List Int) (succ : Int -> List Int) (start : Int) (ns : List Int) (k : Nat) : Prop where
 kle : k <= ns.length
 st : start ∈ ns
 nd : ns.Nodup
 sub : ∀ x ∈ ns, x ∈ os
 rc : ∀ x ∈ ns, RcI succ start x
 done : ∀ i, i < k -> ∀ x, ns[i]? = some x -> ∀ y ∈ succ x, y ∈ ns
theorem nodup_len {os : List Int} : ∀ {ns : List Int}, ns.Nodup -> (∀ x ∈ ns, x ∈ os) -> ns.length <= os.length := by
 induction os with
 | nil => intro ns _ h; cases ns with
  | nil => exact Nat.le_refl _
  | cons a r => exact absurd (h a (.head _)) (fun h => nomatch h)
 | cons o r ih =>
  intro ns hn h;have h1 : (ns.erase o).length <= r.length := ih (hn.erase o) fun x hx => by
   have h2 := (List.Nodup.mem_erase_iff hn).mp hx;rcases qC (h x h2.2) with h3 | h3
   ·exact absurd h3 h2.1
   ·exact h3
  by_cases ho : o ∈ ns
  ·have := List.length_erase_of_mem ho;have hp := List.length_pos_of_mem ho;simp only [List.length_cons]; omega
  ·rw [List.erase_of_not_mem ho] at h1;simp only [List.length_cons]; omega
theorem ReP.fin {os : List Int} {succ : Int -> List Int} {start : Int} {ns : List Int} (h : ReP os succ start ns ns.length) (y : Int) : y ∈ ns ↔ RcI succ start y := by
 refine ⟨h.rc y, fun hr => ?_⟩
 induction hr with
 | refl => exact h.st
 | step _ hs ih =>
  apply byc; intro O;obtain ⟨i, hi, e⟩ := List.mem_iff_getElem.mp ih;apply O; clear O;exact h.done i hi _ (by rw [List.getElem?_eq_getElem hi, e]) _ hs
structure ReQ (os : List Int) (succ : Int -> List Int) (start : Int) (ns0 ns : List Int) (k : Nat) (o : Int) (i : Nat) : Prop where
 pre : ∃ t, ns = ns0 ++ t
 nd : ns.Nodup
 sub : ∀ x ∈ ns, x ∈ os
 rc : ∀ x ∈ ns, RcI succ start x
 got : ∀ y ∈ (succ o).take i, y ∈ ns
theorem ReQ.zero {os : List Int} {succ : Int -> List Int} {start : Int} {ns : List Int} {k : Nat} {o : Int} (h : ReP os succ start ns k) : ReQ os succ start ns ns k o 0 :=
 ⟨⟨[], by simp⟩, h.nd, h.sub, h.rc, fun y hy => by simp at hy⟩
theorem ReQ.skip {os : List Int} {succ : Int -> List Int} {start : Int} {ns0 ns : List Int} {k : Nat} {o y : Int} {i : Nat} (h : ReQ os succ start ns0 ns k o i) (hy : (succ o)[i]? = some y) (hm : y ∈ ns) : ReQ os succ start ns0 ns k o (i + 1) :=
 ⟨h.pre, h.nd, h.sub, h.rc, fun z hz => by
  rw [take_snoc hy] at hz;rcases qA hz with hz | hz
  ·exact h.got z hz
  ·rw [qS hz]; exact hm⟩
theorem ReQ.add {os : List Int} {succ : Int -> List Int} {start : Int} {ns0 ns : List Int} {k : Nat} {o y : Int} {i : Nat} (h : ReQ os succ start ns0 ns k o i) (hy : (succ o)[i]? = some y) (hm : ¬ y ∈ ns) (ho : RcI succ start o) (hos : o ∈ os) (hcl : ∀ o ∈ os, ∀ x ∈ succ o, x ∈ os) : ReQ os succ start ns0 (ns ++ [y]) k o (i + 1) := by
 have hyo : y ∈ succ o := qG hy;refine ⟨?_, ?_, ?_, ?_, ?_⟩
 ·obtain ⟨t, e⟩ := h.pre;exact ⟨t ++ [y], by rw [e, List.append_assoc]⟩
 ·rw [List.nodup_append];refine ⟨h.nd, by simp, fun a ha b hb => ?_⟩;rw [qS hb];intro e; exact hm (e ▸ ha)
 ·intro x hx;rcases qA hx with hx | hx
  ·exact h.sub x hx
  ·rw [qS hx]; exact hcl o hos y hyo
 ·intro x hx;rcases qA hx with hx | hx
  ·exact h.rc x hx
  ·rw [qS hx]; exact .step ho hyo
 ·intro z hz;rw [take_snoc hy] at hz;rcases qA hz with hz | hz
  ·exact qL _ (h.got z hz)
  ·rw [qS hz]; simp
theorem ReQ.end {os : List Int} {succ : Int -> List Int} {start : Int} {ns0 ns : List Int} {k : Nat} {o : Int} (hP : ReP os succ start ns0 k) (hk : ns0[k]? = some o) (h : ReQ os succ start ns0 ns k o (succ o).length) : ReP os succ start ns (k + 1) := by
 have hk' : k < ns0.length := (List.getElem?_eq_some_iff.mp hk).1;obtain ⟨t, e⟩ := h.pre;refine ⟨by rw [e, List.length_append]; omega, by rw [e]; exact qL _ hP.st, h.nd, h.sub, h.rc, fun i hi x hx y hy => ?_⟩;have hx0 : ns0[i]? = some x := by
  rw [e, List.getElem?_append_left (by omega)] at hx; exact hx
 rcases Nat.lt_or_ge i k with h1 | h1
 ·have := hP.done i h1 x hx0 y hy;rw [e]; exact qL _ this
 ·have : i = k := by omega
  subst this;rw [hk] at hx0;cases hx0;have := h.got y (by rw [List.take_length]; exact hy);exact this
end
section
variable {Q : Value -> Shared -> Prop}
local macro_rules | `(tactic| walk_at "z") => `(tactic| skip)
theorem reach_K {d : Addr} {od : Obj} {kvs : List (Int × Value)} {objs : List (Addr × Obj)} {os : List Int} {succ : Int -> List Int} {start : Int} {tk : Tok} (F : Fr h! L s.heap m) (X : (Kq w.params).In h!) (N : News h! L s.heap news) (T : Top p loose mean mg mb h!)
  (hh : A.handled = none) (hd : A.depth <= 330) (hu : A.units <= 300)
  (hdm : (d, od) ∈ news) (hod : od.IsDictOf (intKind PR w) kvs) (hob : ∀ q ∈ objs, q ∈ news) (hst : StepsIn objs kvs os succ) (hcl : ∀ o ∈ os, ∀ x ∈ succ o, x ∈ os) (h6 : os.length <= 6) (hsl : ∀ o ∈ os, (succ o).length <= 20) (h0 : start ∈ os)
  (ret : ∀ r h' tk' ys k ns, Fr h! L h' m -> News h! L h' ((r, listOf ys.toArray k) :: news) -> (∀ p ∈ news, p.1 ≠ r) -> (∀ b o, s.heap.get? b = some o -> h'.get? b = some o) -> IntsAre ys ns -> ns.length <= 6 -> (∀ y, y ∈ ns ↔ RcI succ start y) -> Q (.ref r) { s with heap := h', toks := tk' }) :
  wpAny (model PR w) A (call (.ref 192) [.int start tk, .ref d]) Q E s := by
 refine weak (A' := AL 1) hh hd hu rfl rfl ?_
 k_dflt (refine' enter (news := (d, od) :: objs) (binds := [(Str.ofString "start", Value.int start tk), (Str.ofString "steps", Value.ref d)]) F.keep (fun p h => ?N) X T ?k6 ?k7 ?k8 ?k9 ?kB ?_ ?c2 ?c3 ?c4 ?c5)
 case N =>
  rcases qC h with rfl | h
  ·exact ⟨(N _ hdm).1, (N _ hdm).2.2⟩
  ·exact ⟨(N _ (hob _ h)).1, (N _ (hob _ h)).2.2⟩
 walk_at "ENTERED";clear X T;intro g' L' h' gz dz tz oz Rz hR hz0 X' T' F' N' l1
 try dsimp only
 k_steps;unfold Halt;rename_i stt lr x3 ltr x5 _ x6 F9 N9 _ _
 with_unfolding_all refine' ksw_while (σ := List Value × List Int × Nat × Nat × Tok) (fun c => (lr, listOf c.1.toArray c.2.2.1) :: (d, od) :: objs) (fun c => [(Str.ofString "k", Value.int (c.2.2.2.1 : Int) c.2.2.2.2)]) (fun c => IntsAre c.1 c.2.1) [Str.ofString "further"] (fun c => ReP os succ start c.2.1 c.2.2.2.1) (fun c => 7 - c.2.2.2.1) ([_], [start], 0, 0, _) F9 N9 (.cons _ _ .nil) ?K ?P ?_ ?E
 case K => intro p hp; rw [qS hp]; rfl
 case P => exact ⟨Nat.zero_le _, .head _, by simp, fun x hx => by rw [qS hx]; exact h0, fun x hx => by rw [qS hx]; exact .refl _, fun i hi => absurd hi (Nat.not_lt_zero i)⟩
 case E => passes_own
 refine unc5 ?_;intro vs ns nn k tkk u h1 tk1 hfa hP F1 N1;dsimp only [kstB] at F1 N1 hfa hP;have kLen := IntsAre.length hfa;have hn6 : ns.length <= 6 := Nat.le_trans (nodup_len hP.nd hP.sub) h6;have hk6 : k <= 6 := Nat.le_trans hP.kle hn6;have hv6 : vs.length <= 6 := by omega
 have kMark : KstMark := kstMark;clear F9 N9;k_steps
 ·unfold Halt;rename (k : Int) < _ => hkl;rename Fr .. => F2;rename News .. => N2;have hk : k < ns.length := by omega
  have hko : ns[k]? = some (ns.getD k 0) := by rw [List.getD_eq_getElem?_getD, List.getElem?_eq_getElem hk]; rfl
  rw [Int.toNat_natCast];generalize ns.getD k 0 = o at hko ⊢;have hos : o ∈ os := hP.sub o (qG hko);apply byc; intro O;obtain ⟨l, lvs, ln, hval, hmem, hints⟩ := hst o hos;apply O; clear O;refine kda_item (knd := intKind PR w) N2 (.tail _ (.head _)) hod (intKind_is _ _ _ _) hval ?_;k_steps;unfold Halt;rename Fr .. => F9;rename News .. => N9;have hrc : RcI succ start o := hP.rc o (qG hko);have hsl' := hsl o hos;have kLl := IntsAre.length hints
  with_unfolding_all refine' st_list (σ := List Value × List Int × Nat) (l := l) (vs := lvs) (nn := ln) (fun c => (lr, listOf c.1.toArray c.2.2) :: (d, od) :: objs) (fun _ => []) (fun c => IntsAre c.1 c.2.1) [] (fun i c => ReQ os succ start ns c.2.1 k o i) (vs, ns, nn) (by rfl) (fun c => .tail _ (.tail _ hmem)) F9 N9 hfa (fun _ h => nomatch h) (ReQ.zero hP) ?_ ?_
  ·refine unc3 ?_;intro us ms kk i v u2 h2 tk2 own hi hv hoff hfa2 hP2 F2 N2;dsimp only [kstB] at F2 N2 hfa2 hP2 hoff;simp only [List.nil_append, List.cons_append, List.append_nil] at N2;apply byc; intro O;obtain ⟨y, ty, rfl, hy⟩ := ints_at hints hv;apply O; clear O;have hm6 : ms.length <= 6 := Nat.le_trans (nodup_len hP2.nd hP2.sub) h6;have kLen2 := IntsAre.length hfa2;clear F9 N9;k_steps;unfold Halt;rename Fr .. => F8;rename News .. => N8;refine notin_I N8 (.head _) hfa2 ?_;by_cases hm : y ∈ ms
   ·rw [decide_eq_true hm, Bool.not_true];k_steps;unfold Halt;rename Fr .. => F8;rename News .. => N8;exact st_end (_, _, _) F8 N8 (by kst_in) (by intro p hp; kst_mem) (by rfl) hfa2 (by kst_all) (by kst_same) (ReQ.skip hP2 hy hm)
   ·rw [decide_eq_false hm, Bool.not_false];k_steps;unfold Halt;rename Fr .. => F8;rename News .. => N8;refine append_head F8 N8 (fun p hp => ?_) (fun h9 F9 N9 => ?_) ?_
    ·rcases qC hp with rfl | hp
     ·exact Nat.ne_of_lt ltr.1
     rcases qA hp with hp | hp
     ·exact Nat.ne_of_lt (kst_ltOf ltr.2 p hp)
     ·exact hoff p hp _ (.head _)
    ·clear F8 N8;simp only [List.push_toArray] at N9;k_steps;unfold Halt;rename Fr .. => F8;rename News .. => N8;exact st_end (_, _, _) F8 N8 (by kst_in) (by intro p hp; kst_mem) (by rfl) (IntsAre.append hfa2 (.cons _ _ .nil)) (by kst_all) (by kst_same) (ReQ.add hP2 hy hm hrc hos hcl)
    ·rw [sizeLine_eq];simp;omega
  ·refine unc3 ?_;intro us ms kk u2 h2 tk2 hfa2 hP2 F2 N2;dsimp only [kstB] at F2 N2 hfa2 hP2;rw [kLl] at hP2;have hP3 := ReQ.end hP hko hP2;clear F9 N9;k_steps;unfold Halt;rename Fr .. => F8;rename News .. => N8;exact ksw_end (us, ms, kk, k + 1, _) F8 N8 (fun p hp => hp) hfa2 (fun p hp => by rw [qS hp]; rfl) (by ksw_same) hP3 (by dsimp only; omega)
 ·have hkn : k = ns.length := by have := hP.kle; omega
  subst hkn
  try dsimp only
  rename Fr .. => F6;rename News .. => N6;refine hR.out F6 N6 (fun p hp => .tail _ hp) fun ext fresh => ?_;have hfr : s.heap.get? lr = none := fresh _ (.head _) (fun h => by
   rcases qC h with h | h
   ·exact absurd (congrArg Prod.fst h) (Nat.ne_of_gt ltr.1)
   ·exact absurd rfl (Nat.ne_of_lt (kst_ltOf ltr.2 _ h)))
  apply byc; intro O;obtain ⟨Fz, Nz, nz⟩ := back F N ext (N6 _ (.head _)).1 hfr;apply O; clear O;exact ret _ _ _ _ _ _ Fz Nz nz ext hfa hn6 hP.fin
end
end
section
theorem stored_new {kvs : List (Int × Value)} {k : Int} {v : Value} (h : k ∉ kvs.map (·.1)) : stored kvs k v = kvs ++ [(k, v)] := by
 unfold stored;rw [if_neg];intro e;apply byc; intro O;obtain ⟨q, hq, e2⟩ := List.any_eq_true.mp e;apply O; clear O;exact h (List.mem_map.mpr ⟨q, hq, of_decide_eq_true e2⟩)
theorem valueAt_app {kvs : List (Int × Value)} {k o : Int} {v : Value} (h : o ∈ kvs.map (·.1)) : valueAt (kvs ++ [(k, v)]) o = valueAt kvs o := by
 unfold valueAt;rw [List.find?_append];apply byc; intro O;obtain ⟨q, hq, e⟩ := List.mem_map.mp h;apply O; clear O;cases hf : kvs.find? (fun kv => decide (kv.1 = o)) with
 | some z => rfl
 | none => exact absurd (List.find?_eq_none.mp hf q hq) (by simp [e])
theorem valueAt_last {kvs : List (Int × Value)} {k : Int} {v : Value} (h : k ∉ kvs.map (·.1)) : valueAt (kvs ++ [(k, v)]) k = some v := by
 unfold valueAt;rw [List.find?_append, List.find?_eq_none.mpr (fun q hq => by
  intro e;exact h (List.mem_map.mpr ⟨q, hq, of_decide_eq_true e⟩))]
 simp
structure DictIn {β : Type} (R : List Value -> β -> Prop) (ex : List (Addr × Obj)) (kvs : List (Int × Value)) (os : List Int) (f : Int -> β) : Prop where
 keys : kvs.map (·.1) = os
 at' : ∀ o ∈ os, ∃ l vs n, valueAt kvs o = some (.ref l) /\ (l, listOf vs.toArray n) ∈ ex /\ R vs (f o)
theorem DictIn.nil {β : Type} {R : List Value -> β -> Prop} {f : Int -> β} : DictIn R [] [] [] f := ⟨rfl, fun _ h => nomatch h⟩
theorem DictIn.snoc {β : Type} {R : List Value -> β -> Prop} {f : Int -> β} {ex ex' : List (Addr × Obj)} {kvs : List (Int × Value)} {os : List Int} {o : Int} {l : Addr} {vs : List Value} {n : Nat} (h : DictIn R ex kvs os f) (ho : o ∉ os) (hx : ∀ q ∈ ex, q ∈ ex') (hl : (l, listOf vs.toArray n) ∈ ex') (hv : R vs (f o)) :
  DictIn R ex' (stored kvs o (.ref l)) (os ++ [o]) f := by
 have hk : o ∉ kvs.map (·.1) := by rw [h.keys]; exact ho
 rw [stored_new hk];refine ⟨by rw [List.map_append, h.keys]; rfl, fun b hb => ?_⟩;rcases qA hb with hb | hb
 ·obtain ⟨l2, vs2, n2, e1, e2, e3⟩ := h.at' b hb;exact ⟨l2, vs2, n2, by rw [valueAt_app (by rw [h.keys]; exact hb)]; exact e1, hx _ e2, e3⟩
 ·rw [qS hb];exact ⟨l, vs, n, valueAt_last hk, hl, hv⟩
theorem DictIn.mono {β : Type} {R : List Value -> β -> Prop} {f : Int -> β} {ex ex' : List (Addr × Obj)} {kvs : List (Int × Value)} {os : List Int} (h : DictIn R ex kvs os f) (hx : ∀ q ∈ ex, q ∈ ex') : DictIn R ex' kvs os f :=
 ⟨h.keys, fun o ho => by
  apply byc; intro O;obtain ⟨l, vs, n, e1, e2, e3⟩ := h.at' o ho;apply O; clear O;exact ⟨l, vs, n, e1, hx _ e2, e3⟩⟩
noncomputable def nsX (o : Int) : Str := Str.ofString "{" ++ decS o ++ Str.ofString "}*"
noncomputable def sfX (o : Int) : Str := Str.ofString "{*}" ++ decS o
noncomputable def nsP (X : Str) (y : Str) : Bool := Txt.slice y none (some ((Txt.slice X none (some (-1))).length : Int)) == Txt.slice X none (some (-1))
noncomputable def sfP (X : Str) (y : Str) : Bool := y == Txt.slice X (some 3) none || Txt.slice y (some (-((Txt.slice X (some 2) none).length : Int))) none == Txt.slice X (some 2) none
theorem nsX_ok : ∀ n : Nat, n < 256 -> (nsX (n : Int) == Str.ofString "{*}*") = false /\ (nsX (n : Int) == Str.ofString "{}*") = false /\ (Txt.slice (nsX (n : Int)) none (some 3) == Str.ofString "{*}") = false /\ (Txt.slice (nsX (n : Int)) (some (-2)) none == Str.ofString "}*") = true /\ (nsX (n : Int)).length <= 10 /\ 4 <= (nsX (n : Int)).length := by decide +kernel
theorem sfX_ok : ∀ n : Nat, n < 256 -> (sfX (n : Int) == Str.ofString "{*}*") = false /\ (sfX (n : Int) == Str.ofString "{}*") = false /\ (Txt.slice (sfX (n : Int)) none (some 3) == Str.ofString "{*}") = true /\ (sfX (n : Int)).length <= 10 /\ 4 <= (sfX (n : Int)).length := by decide +kernel
theorem ns_ok {w : World} {o : Int} (h : 0 <= o /\ o < 256) : PrepOk w (nsX o) (nsT (nsX o)) := by
 apply byc; intro O;obtain ⟨k, rfl⟩ : ∃ k : Nat, o = (k : Int) := ⟨o.toNat, by omega⟩;obtain ⟨a, b, c, d, e, f⟩ := nsX_ok k (by omega);apply O; clear O;exact prep4_ok a b c d e f
theorem sf_ok {w : World} {o : Int} (h : 0 <= o /\ o < 256) : PrepOk w (sfX o) (sfT (sfX o)) := by
 apply byc; intro O;obtain ⟨k, rfl⟩ : ∃ k : Nat, o = (k : Int) := ⟨o.toNat, by omega⟩;obtain ⟨a, b, c, e, f⟩ := sfX_ok k (by omega);apply O; clear O;exact prep3_ok a b c e f
theorem strs_snd {vs : List Value} {a b : Str} (h : StrsAre vs [a, b]) : ∃ t, vs[1]? = some (.str b t) := by
 cases h with
 | cons _ _ h => cases h with
  | cons _ t _ => exact ⟨t, rfl⟩
theorem item_L {prog : Program} {w : World} {A : Around} {E : Value -> Shared -> Prop} {s : Shared} {value slice : PySem.Expr} {l : Addr} {vs : List Value} {k : Int} {u : Tok} {v : Value} {Q : Value -> Shared -> Prop}
  (hl : s.heap.IsList l vs.toArray) (h0 : 0 <= k) (hhi : k < 2 ^ 63) (hx : vs[k.toNat]? = some v) (h : Q v s)
  (hs : subscripted slice false (.ref l) (.int k u) = operate [.ref l, .int k u] (getItem (.ref l) (.int k u)) := by with_unfolding_all rfl) :
  wpAny (model prog w) A (subscriptTail value slice (.ref l) (.int k u)) Q E s :=
 tail_any hl.typeIs slot_list_getitem.lookup (wpAny_getItem_list hl h0 hhi (by simpa using hx) h) hs
section
local macro_rules | `(tactic| walk_at "eval Constant int") => `(tactic| (refine wpAny_Constant_int ?_; refine halt ?_))
local macro_rules | `(tactic| walk_at $s) => hz s ["call ref", "storeName", "call type:int"]
variable {Q : Flow -> Shared -> Prop}
structure DcJ {β : Type} (R : List Value -> β -> Prop) (f : Int -> β) (os : List Int) (s : Shared) (C rest fix : List (Addr × Obj)) (i : Nat) (kvs : List (Int × Value)) (nx : List (Addr × Obj)) (G : Array GenState) : Prop where
 ex : ∃ ps ex, nx = (33, tabObj ps) :: (fix ++ (ex ++ (C ++ rest))) /\ TabL ps (ex ++ rest) /\ (∀ q ∈ ex, q.1 ≠ 33) /\ (∀ q ∈ ex, ∀ p ∈ C ++ rest, p.1 ≠ q.1) /\ DictIn R ex kvs (os.take i) f
 bare : AllBare s.gens -> AllBare G
local macro_rules | `(tactic| walk_at "z") => `(tactic| skip)
theorem law_14 {ps : Array Value} {rt r1 : Addr} {vals us ys1 : List Value} {kt k1 : Nat} {objs : List (Addr × Obj)} {ss : List Str} {os : List Int} {onw : Int -> List (Int × Int)} (F : Fr h! L s.heap m) (X : (Kq w.params).In h!) (T : Top p loose mean mg mb h!) (hC : Cells L cv C) (N : News h! L s.heap ((33, tabObj ps) :: (C ++ rest))) (hA : Apart L rest) (hT : TabL ps rest) (h33 : ∀ q ∈ C ++ rest, q.1 ≠ 33)
  (hh : A.handled = none) (hd : A.depth <= 320) (hu : A.units <= 200) (S : StT w cv rest rt vals kt objs us ss) (h1 : cv 1 = some (.ref r1)) (hr1 : (r1, listOf ys1.toArray k1) ∈ rest) (hi1 : IntsAre ys1 os) (hos : os.length = 6 /\ ∀ o ∈ os, 0 <= o /\ o < 256) (hnd : os.Nodup)
  (hon : ∀ o ∈ os, ss.filter (nsP (nsX o)) = (onw o).map fun p => way p.1 p.2) (hob : ∀ o ∈ os, ∀ p ∈ onw o, (0 <= p.1 /\ p.1 < 256) /\ (0 <= p.2 /\ p.2 < 256)) (hol : ∀ o ∈ os, (onw o).length <= 20)
  (ret : ∀ h' tk' G ps' ex d od kvs C', Fr h! L h' m -> News h! L h' ((33, tabObj ps') :: (C' ++ ((d, od) :: (ex ++ rest)))) -> Cells L (setC cv 4 (.ref d)) C' -> TabL ps' ((d, od) :: (ex ++ rest)) -> (∀ q ∈ (d, od) :: ex, q.1 ≠ 33) -> (∀ q ∈ (d, od) :: ex, ∀ p ∈ C ++ rest, p.1 ≠ q.1) -> od.IsDictOf (intKind PR w) kvs -> DictIn IntsAre ex kvs os (fun o => (onw o).map (·.2)) -> (AllBare s.gens -> AllBare G) -> Q .next { s with heap := h', toks := tk', gens := G }) :
  wpAny (model PR w) A (exec (lst 14) (lenv L)) Q E s := by
 refine weakL hh hd hu ?_;apply byc; intro O;obtain ⟨o3, m3, d3⟩ := cell_at hC 3 (by decide) S.c3;obtain ⟨o1, m1, d1⟩ := cell_at hC 1 (by decide) h1;apply O; clear O;have kL1 := IntsAre.length hi1;apply byc; intro O;obtain ⟨fix, hfix⟩ : ∃ fix, fix = [(L + 1 + 1 + 1 + 1, o3), (L + 1 + 1, o1), (rt, listOf vals.toArray kt), (r1, listOf ys1.toArray k1)] := ⟨_, rfl⟩;apply O; clear O;have sub1 : ∀ q ∈ fix, q ∈ C ++ rest := fun q hq => by
  rw [hfix] at hq;rcases qC hq with rfl | hq
  ·exact qL _ m3
  rcases qC hq with rfl | hq
  ·exact qL _ m1
  rcases qC hq with rfl | hq
  ·exact qR _ S.m3
  rw [qS hq];exact qR _ hr1
 have N1 : News h! L s.heap ((33, tabObj ps) :: ([(L + 1 + 1 + 1 + 1, o3), (L + 1 + 1, o1), (rt, listOf vals.toArray kt), (r1, listOf ys1.toArray k1)] ++ ([] ++ (C ++ rest)))) := fun q hq => by
  rcases qC hq with rfl | hq
  ·exact N _ (.head _)
  rcases qA hq with hq | hq
  ·exact N q (.tail _ (sub1 q (hfix ▸ hq)))
  ·exact N q (.tail _ hq)
 simp only [List.cons_append, List.nil_append] at N1;refine cvS (by conv => lhs; whnf) ?_;k_steps;unfold Halt;rename Fr h! L _ _ => F2;rename News h! L _ ((33, tabObj ps) :: (_, o3) :: _) => N2;refine dc_list (items := ys1) rfl (DcJ IntsAre (fun o => (onw o).map (·.2)) os s C rest [(L + 1 + 1 + 1 + 1, o3), (L + 1 + 1, o1), (rt, listOf vals.toArray kt), (r1, listOf ys1.toArray k1)]) (fun i ys nx G h => by
  apply byc; intro O;obtain ⟨ps9, ex9, e, -⟩ := h.ex;apply O; clear O;rw [e]; exact .tail _ (.tail _ (.tail _ (.tail _ (.head _))))) (by decide) rfl rfl F2 X T N2 ⟨⟨ps, [], rfl, hT, fun _ h => (nomatch h), fun _ h => (nomatch h), .nil⟩, fun h => h⟩ ?_ ?_ ?_
 ·intro g C9 E' i v kvs nx own H tk9 G u Xg Tg lC hi3 hv zp1 hoff F3 N3;apply byc; intro O;obtain ⟨⟨ps9, ex9, rfl, hT9, h339, hap9, hD9⟩, hb9⟩ := zp1;apply O; clear O;apply byc; intro O;obtain ⟨c, tc, rfl, hc⟩ := ints_at hi1 hv;apply O; clear O;have hcm := qG hc;have hcb := hos.2 c hcm;have hdl := decS_len hcb;simp only [List.cons_append, List.nil_append] at N3;k_steps
  rotate_right 1
  ·exact c
  ·exact intKind_is _ _ _ _
  unfold Halt;rename Fr g C9 _ _ => F4;rename News g C9 _ _ => N4;apply byc; intro O;obtain ⟨rst, hrst⟩ : ∃ rst, rst = (L + 1 + 1 + 1 + 1, o3) :: (L + 1 + 1, o1) :: (rt, listOf vals.toArray kt) :: (r1, listOf ys1.toArray k1) :: (ex9 ++ (C ++ rest)) ++ own := ⟨_, rfl⟩;apply O; clear O;have N5 : News g C9 H ((33, tabObj ps9) :: rst) := fun q hq => N4 q (by
   rw [hrst] at hq;exact hq)
  have inB : ∀ q ∈ C ++ rest, q ∈ rst := fun q hq => hrst ▸ qL _ (.tail _ (.tail _ (.tail _ (.tail _ (qR _ hq)))));have inE : ∀ q ∈ ex9, q ∈ rst := fun q hq => hrst ▸ qL _ (.tail _ (.tail _ (.tail _ (.tail _ (qL _ hq)))));have inO : ∀ q ∈ own, q ∈ rst := fun q hq => hrst ▸ qR _ hq;have h33r : ∀ q ∈ rst, q.1 ≠ 33 := fun q hq => by
   rw [hrst] at hq;rcases qA hq with hq | hq
   ·rcases qA (show q ∈ [(L + 1 + 1 + 1 + 1, o3), (L + 1 + 1, o1), (rt, listOf vals.toArray kt), (r1, listOf ys1.toArray k1)] ++ (ex9 ++ (C ++ rest)) from by simpa using hq) with hq | hq
    ·exact h33 q (sub1 q (hfix ▸ hq))
    rcases qA hq with hq | hq
    ·exact h339 q hq
    ·exact h33 q hq
   ·exact hoff q hq 33 (.head _)
  refine (show wpAny _ _ (call (.ref 185) [.ref rt, .str (nsX c) _]) _ _ _ from ?_);refine found_G (ns_ok hcb) F4 Xg N5 Tg rfl (qB rfl) (qB rfl) hT9 (fun q hq => (qA hq).elim (inE q) fun h => inB q (qR _ h)) h33r (inB _ (qR _ S.m3)) S.th (fun q hq => inB q (qR _ (S.ob q hq))) S.ln S.tags fun r h5 tk5 G5 ys5 k5 ps5 cds5 F6 N6 hT6 ext6 hnew6 hg6 hys6 => ?_;dsimp only at ext6 hnew6 hg6;clear F4 N4;have hys : StrsAre ys5 ((onw c).map fun p => way p.1 p.2) := by
   rw [hys6, List.filter_cons_of_neg (show ¬ (false = true) from Bool.false_ne_true), <- hon c hcm];exact strs_filter (fun _ _ => rfl) S.st
  k_steps;unfold Halt
  with_unfolding_all show wpAny _ _ (pyIter (.ref r)) _ _ _
  rename_i ce1 tt1 kk1 ha1 tt2 kk2 ha2;clear ha1 ha2 ce1;rename Fr g C9 _ _ => F7;rename News g C9 _ _ => N7;refine lc_list (items := ys5) rfl (fun j zs nx2 => nx2 = (r, listOf ys5.toArray k5) :: (33, tabObj ps5) :: (cds5 ++ rst) /\ ∃ as, IntsAre zs as /\ as = ((onw c).take j).map (·.2)) (fun i us nx h => by rw [h.1]; exact .head _) (by decide) rfl rfl F7 Xg Tg N7 ⟨rfl, [], .nil, rfl⟩ ?_ ?_ ?_
  ·intro g2 C2 E2 j v2 zs2 nx2 own2 H2 tk6 u6 Xg2 Tg2 lC2 hj2 hv2 zp1 hoff2 F8 N8;apply byc; intro O;obtain ⟨rfl, as, hz2, ha2⟩ := zp1;apply O; clear O;refine lc_nil ?_;apply byc; intro O;obtain ⟨x2, tx2, rfl, hx2⟩ := strs_at hys hv2;apply O; clear O;rw [List.getElem?_map] at hx2;apply byc; intro O;obtain ⟨⟨a, b⟩, hab, hxe⟩ := Option.map_eq_some_iff.mp hx2;obtain ⟨hba, hbb⟩ := hob c hcm _ (qG hab);apply O; clear O;dsimp only at hba hbb hxe;have hla := decS_len hba;have hlb := decS_len hbb;have hwl : x2.length <= 8 := by
    rw [<- hxe];show (Str.ofString "{" ++ decS a ++ Str.ofString "}" ++ decS b).length <= 8;rw [Str.length_append, Str.length_append, Str.length_append];show 1 + _ + 1 + _ <= 8;omega
   have hwl' := hwl;have hsp : Txt.split x2 (Str.ofString "}") = [Str.ofString "{" ++ decS a, decS b] := by
    rw [<- hxe];have e1 : Str.ofString "}" = ⟨#[125]⟩ := by decide +kernel
    show Txt.split (Str.ofString "{" ++ decS a ++ Str.ofString "}" ++ decS b) _ = _;rw [e1];refine split_one 125 _ _ (fun hm => ?_) (decS_free hbb (.inr (by decide)));rw [toL_app] at hm;rcases qA hm with hm | hm
    ·exact absurd hm (by decide +kernel)
    ·exact decS_free hba (.inr (by decide)) hm
   clear hxe hx2 F7 N7 hon hob hol hys6 hT9 hT6 hD9 hap9 h339 N hA hT h33 hC ret S hwl hla hlb hdl;have hwl : x2.length <= 8 := hwl';k_steps;unfold Halt;rename_i hl9 hS9 hle9 hL9 F9 N9;rw [hl9, hsp] at hS9;dsimp only at hL9 F9 N9;obtain ⟨t8, ht8⟩ := strs_snd hS9;refine item_L hL9 (by decide) (by decide) ht8 ?_;k_steps;unfold Halt;refine (show wpAny _ _ (call (.type "int") [.str (Str.ofString (toString b)) t8]) _ _ _ from KIN.call_num hbb.1 (by omega) ?_);k_steps;unfold Halt;rename Fr g2 C2 _ _ => F10;rename News g2 C2 _ _ => N10;refine LcEnd.intro ((r, listOf ys5.toArray k5) :: (33, tabObj ps5) :: (cds5 ++ rst)) F10 N10 ?_ ?_ hoff2 ⟨rfl, ?_⟩
   ·exact fun p hp => .tail _ (qL _ hp)
   ·exact fun p hp => .tail _ (qR _ hp)
   ·exact ⟨_, IntsAre.append hz2 (.cons _ _ .nil), by rw [take_snoc hab, List.map_append, ha2]; rfl⟩
  ·intro D2 C2 zs2 nx2 H2 tk6 k6 u6 zp1 hne2 hlt2 hDC2 hC2 hL2 hC02 hCn2 F8 N8;apply byc; intro O;obtain ⟨rfl, as, hz2, ha2⟩ := zp1;apply O; clear O;refine lc_fin hDC2 hC2 hL2 hC02 hCn2 F8 N8 fun h9 F9 N9 => ?_;have hl5 : ys5.length = (onw c).length := by rw [StrsAre.length hys, List.length_map]
   rw [hl5, List.take_length] at ha2;have oldH : ∀ p ∈ rst, H.get? p.1 = some p.2 := fun p hp => (N5 p (.tail _ hp)).1;clear F7 N7;k_steps;unfold Halt;rename Fr g C9 _ _ => F10;rename News g C9 _ _ => N10;refine DcEnd.intro ((33, tabObj ps5) :: ([(L + 1 + 1 + 1 + 1, o3), (L + 1 + 1, o1), (rt, listOf vals.toArray kt), (r1, listOf ys1.toArray k1)] ++ (((D2, listOf zs2.toArray k6) :: (cds5 ++ ex9)) ++ (C ++ rest)))) F10 N10 ?_ ?_ ?_ ⟨⟨ps5, (D2, listOf zs2.toArray k6) :: (cds5 ++ ex9), rfl, ?_, ?_, ?_, ?_⟩, fun h => hg6 (hb9 h)⟩
   ·intro q hq;rcases qC hq with rfl | hq
    ·exact .tail _ (.tail _ (.head _))
    rcases qA hq with hq | hq
    ·refine .tail _ (.tail _ (.tail _ (qR _ ?_)));rw [hrst];exact qL _ (show q ∈ [(L + 1 + 1 + 1 + 1, o3), (L + 1 + 1, o1), (rt, listOf vals.toArray kt), (r1, listOf ys1.toArray k1)] ++ (ex9 ++ (C ++ rest)) from qL _ hq)
    rcases qA hq with hq | hq
    ·rcases qC hq with rfl | hq
     ·exact .head _
     rcases qA hq with hq | hq
     ·exact .tail _ (.tail _ (.tail _ (qL _ hq)))
     ·exact .tail _ (.tail _ (.tail _ (qR _ (inE q hq))))
    ·exact .tail _ (.tail _ (.tail _ (qR _ (inB q hq))))
   ·intro q hq;exact .tail _ (.tail _ (.tail _ (qR _ (inO q hq))))
   ·intro q hq b hb e;apply byc; intro O;obtain ⟨z, hz, rfl⟩ := List.mem_map.mp hb;apply O; clear O;rcases qC hz with rfl | hz
    ·exact hoff q hq 33 (.head _) e
    rcases qA hz with hz | hz
    ·exact hoff q hq z.1 (qM (f := (·.1)) (show z ∈ (33, tabObj ps9) :: (_ ++ (ex9 ++ (C ++ rest))) from .tail _ (qL _ hz))) e
    rcases qA hz with hz | hz
    ·rcases qC hz with rfl | hz
     ·exact hne2 q (.tail _ (.tail _ (qR _ (inO q hq)))) e
     rcases qA hz with hz | hz
     ·have h1 := oldH q (inO q hq);rw [e, hnew6 z (.tail _ hz)] at h1; cases h1
     ·exact hoff q hq z.1 (qM (f := (·.1)) (show z ∈ (33, tabObj ps9) :: ([(L + 1 + 1 + 1 + 1, o3), (L + 1 + 1, o1), (rt, listOf vals.toArray kt), (r1, listOf ys1.toArray k1)] ++ (ex9 ++ (C ++ rest))) from .tail _ (qR _ (qL _ hz)))) e
    ·exact hoff q hq z.1 (qM (f := (·.1)) (show z ∈ (33, tabObj ps9) :: ([(L + 1 + 1 + 1 + 1, o3), (L + 1 + 1, o1), (rt, listOf vals.toArray kt), (r1, listOf ys1.toArray k1)] ++ (ex9 ++ (C ++ rest))) from .tail _ (qR _ (qR _ hz)))) e
   ·refine hT6.mono fun q hq => ?_;rcases qA hq with hq | hq
    ·exact qL _ (.tail _ (qL _ hq))
    rcases qA hq with hq | hq
    ·exact qL _ (.tail _ (qR _ hq))
    ·exact qR _ hq
   ·intro q hq;rcases qC hq with rfl | hq
    ·exact fun e => hne2 (33, tabObj ps5) (.tail _ (.head _)) e.symm
    rcases qA hq with hq | hq
    ·intro e;have h1 := hnew6 q (.tail _ hq);rw [e, (N5 _ (.head _)).1] at h1; cases h1
    ·exact h339 q hq
   ·intro q hq p hp e;rcases qC hq with rfl | hq
    ·exact hne2 p (.tail _ (.tail _ (qR _ (inB p hp)))) e
    rcases qA hq with hq | hq
    ·have h1 := oldH p (inB p hp);rw [e, hnew6 q (.tail _ hq)] at h1; cases h1
    ·exact hap9 q hq p hp e
   ·rw [take_snoc hc];exact hD9.snoc (fun hm => by
     have h1 : c ∈ os.take i := hm;apply byc; intro O;obtain ⟨k9, hk9, e9⟩ := List.mem_iff_getElem.mp h1;apply O; clear O;rw [List.length_take] at hk9;have e10 : os[k9]? = some c := by
      rw [<- e9, List.getElem_take];exact List.getElem?_eq_getElem _
     have h11 := (List.getElem?_inj (List.getElem?_eq_some_iff.mp e10).1 hnd).mp (e10.trans hc.symm);omega) (fun q hq => .tail _ (qR _ hq)) (.head _) (ha2 ▸ hz2)
  ·rintro j zs nx2 hj2 ⟨_, as, hz2, rfl⟩;rw [sizeLine_eq];have h1 := IntsAre.length hz2;rw [List.length_map, List.length_take] at h1;have := hol c hcm;omega
 ·intro D C9 kvs oD nx H tk9 G u zp1 hoD hne hlt hDC hC9 hLD hC0 hCn F4 N4;apply byc; intro O;obtain ⟨⟨ps9, ex9, rfl, hT9, h339, hap9, hD9⟩, hb9⟩ := zp1;apply O; clear O;refine lc_fin (s := { s with gens := G }) hDC hC9 hLD hC0 hCn F4 N4 fun h5 F5 N5 => ?_;rw [kL1, hos.1, List.take_of_length_le (by rw [hos.1]; exact Nat.le_refl _)] at hD9;clear F2 N2;k_steps;unfold Halt;rename News h! L _ _ => N6;rename Fr h! L _ _ => F6;have hr : ∀ q ∈ (D, oD) :: ex9, ∀ p ∈ C ++ rest, p.1 ≠ q.1 := fun q hq p hp => by
   rcases qC hq with rfl | hq
   ·exact hne p (.tail _ (qR _ (qR _ hp)))
   ·exact hap9 q hq p hp
  have N7 : News h! L _ (C ++ ((33, tabObj ps9) :: (D, oD) :: (ex9 ++ rest))) := fun q hq => N6 q (by
   rcases qA hq with h | h
   ·exact .tail _ (.tail _ (qR _ (qR _ (qL _ h))))
   rcases qC h with rfl | h
   ·exact .tail _ (.head _)
   rcases qC h with rfl | h
   ·exact .head _
   rcases qA h with h | h
   ·exact .tail _ (.tail _ (qR _ (qL _ h)))
   ·exact .tail _ (.tail _ (qR _ (qR _ (qR _ h)))))
  have hA2 : Apart L ((33, tabObj ps9) :: (D, oD) :: (ex9 ++ rest)) :=
   Apart.cons (Apart.cons (Apart.app hA fun q hq => hC.off fun p hp => hr q (.tail _ hq) p (qL _ hp)) (hC.off fun p hp => hr _ (.head _) p (qL _ hp))) (hC.off fun p hp => h33 p (qL _ hp))
  refine store_C F6 N7 hC hA2 (i := 4) (by decide) rfl rfl fun h8 C' F8 N8 hC8 => ret h8 _ G ps9 ex9 D oD kvs C' F8 (fun q hq => N8 q ?_) hC8 ?_ ?_ hr hoD hD9 hb9
  ·rcases qC hq with rfl | hq
   ·exact qR _ (.head _)
   rcases qA hq with hq | hq
   ·exact qL _ hq
   ·exact qR _ (.tail _ hq)
  ·exact hT9.mono fun q hq => .tail _ hq
  ·intro q hq;rcases qC hq with rfl | hq
   ·exact fun e => hne (33, tabObj ps9) (.head _) e.symm
   ·exact h339 q hq
 ·intro i kvs nx G hi3 zp1;apply byc; intro O;obtain ⟨⟨ps9, ex9, rfl, hT9, h339, hap9, hD9⟩, hb9⟩ := zp1;apply O; clear O;rw [sizeLine_eq];have h1 := congrArg List.length hD9.keys;rw [List.length_map, List.length_take] at h1;omega
end
end
section
section
local macro_rules | `(tactic| walk_at $s) => hz s ["call ref", "storeName"]
variable {Q : Flow -> Shared -> Prop}
theorem law_15 {ps : Array Value} {rt r1 : Addr} {vals us ys1 : List Value} {kt k1 : Nat} {objs : List (Addr × Obj)} {ss : List Str} {os : List Int} {fo : Int -> List Str} (F : Fr h! L s.heap m) (X : (Kq w.params).In h!) (T : Top p loose mean mg mb h!) (hC : Cells L cv C) (N : News h! L s.heap ((33, tabObj ps) :: (C ++ rest))) (hA : Apart L rest) (hT : TabL ps rest) (h33 : ∀ q ∈ C ++ rest, q.1 ≠ 33)
  (hh : A.handled = none) (hd : A.depth <= 320) (hu : A.units <= 200) (S : StT w cv rest rt vals kt objs us ss) (h1 : cv 1 = some (.ref r1)) (hr1 : (r1, listOf ys1.toArray k1) ∈ rest) (hi1 : IntsAre ys1 os) (hos : os.length = 6 /\ ∀ o ∈ os, 0 <= o /\ o < 256) (hnd : os.Nodup)
  (hon : ∀ o ∈ os, ss.filter (sfP (sfX o)) = fo o)
  (ret : ∀ h' tk' G ps' ex d od kvs C', Fr h! L h' m -> News h! L h' ((33, tabObj ps') :: (C' ++ ((d, od) :: (ex ++ rest)))) -> Cells L (setC cv 5 (.ref d)) C' -> TabL ps' ((d, od) :: (ex ++ rest)) -> (∀ q ∈ (d, od) :: ex, q.1 ≠ 33) -> (∀ q ∈ (d, od) :: ex, ∀ p ∈ C ++ rest, p.1 ≠ q.1) -> od.IsDictOf (intKind PR w) kvs -> DictIn StrsAre ex kvs os fo -> (AllBare s.gens -> AllBare G) -> Q .next { s with heap := h', toks := tk', gens := G }) :
  wpAny (model PR w) A (exec (lst 15) (lenv L)) Q E s := by
 refine weakL hh hd hu ?_;apply byc; intro O;obtain ⟨o3, m3, d3⟩ := cell_at hC 3 (by decide) S.c3;obtain ⟨o1, m1, d1⟩ := cell_at hC 1 (by decide) h1;apply O; clear O;have kL1 := IntsAre.length hi1;apply byc; intro O;obtain ⟨fix, hfix⟩ : ∃ fix, fix = [(L + 1 + 1 + 1 + 1, o3), (L + 1 + 1, o1), (rt, listOf vals.toArray kt), (r1, listOf ys1.toArray k1)] := ⟨_, rfl⟩;apply O; clear O;have sub1 : ∀ q ∈ fix, q ∈ C ++ rest := fun q hq => by
  rw [hfix] at hq;rcases qC hq with rfl | hq
  ·exact qL _ m3
  rcases qC hq with rfl | hq
  ·exact qL _ m1
  rcases qC hq with rfl | hq
  ·exact qR _ S.m3
  rw [qS hq];exact qR _ hr1
 have N1 : News h! L s.heap ((33, tabObj ps) :: ([(L + 1 + 1 + 1 + 1, o3), (L + 1 + 1, o1), (rt, listOf vals.toArray kt), (r1, listOf ys1.toArray k1)] ++ ([] ++ (C ++ rest)))) := fun q hq => by
  rcases qC hq with rfl | hq
  ·exact N _ (.head _)
  rcases qA hq with hq | hq
  ·exact N q (.tail _ (sub1 q (hfix ▸ hq)))
  ·exact N q (.tail _ hq)
 simp only [List.cons_append, List.nil_append] at N1;refine cvS (by conv => lhs; whnf) ?_;k_steps;unfold Halt;rename Fr h! L _ _ => F2;rename News h! L _ ((33, tabObj ps) :: (_, o3) :: _) => N2;refine dc_list (items := ys1) rfl (DcJ StrsAre fo os s C rest [(L + 1 + 1 + 1 + 1, o3), (L + 1 + 1, o1), (rt, listOf vals.toArray kt), (r1, listOf ys1.toArray k1)]) (fun i ys nx G h => by
  apply byc; intro O;obtain ⟨ps9, ex9, e, -⟩ := h.ex;apply O; clear O;rw [e]; exact .tail _ (.tail _ (.tail _ (.tail _ (.head _))))) (by decide) rfl rfl F2 X T N2 ⟨⟨ps, [], rfl, hT, fun _ h => (nomatch h), fun _ h => (nomatch h), .nil⟩, fun h => h⟩ ?_ ?_ ?_
 ·intro g C9 E' i v kvs nx own H tk9 G u Xg Tg lC hi3 hv zp1 hoff F3 N3;apply byc; intro O;obtain ⟨⟨ps9, ex9, rfl, hT9, h339, hap9, hD9⟩, hb9⟩ := zp1;apply O; clear O;apply byc; intro O;obtain ⟨c, tc, rfl, hc⟩ := ints_at hi1 hv;apply O; clear O;have hcm := qG hc;have hcb := hos.2 c hcm;have hdl := decS_len hcb;simp only [List.cons_append, List.nil_append] at N3;k_steps
  rotate_right 1
  ·exact c
  ·exact intKind_is _ _ _ _
  unfold Halt;rename Fr g C9 _ _ => F4;rename News g C9 _ _ => N4;apply byc; intro O;obtain ⟨rst, hrst⟩ : ∃ rst, rst = (L + 1 + 1 + 1 + 1, o3) :: (L + 1 + 1, o1) :: (rt, listOf vals.toArray kt) :: (r1, listOf ys1.toArray k1) :: (ex9 ++ (C ++ rest)) ++ own := ⟨_, rfl⟩;apply O; clear O;have N5 : News g C9 H ((33, tabObj ps9) :: rst) := fun q hq => N4 q (by
   rw [hrst] at hq;exact hq)
  have inB : ∀ q ∈ C ++ rest, q ∈ rst := fun q hq => hrst ▸ qL _ (.tail _ (.tail _ (.tail _ (.tail _ (qR _ hq)))));have inE : ∀ q ∈ ex9, q ∈ rst := fun q hq => hrst ▸ qL _ (.tail _ (.tail _ (.tail _ (.tail _ (qL _ hq)))));have inO : ∀ q ∈ own, q ∈ rst := fun q hq => hrst ▸ qR _ hq;have h33r : ∀ q ∈ rst, q.1 ≠ 33 := fun q hq => by
   rw [hrst] at hq;rcases qA hq with hq | hq
   ·rcases qA (show q ∈ [(L + 1 + 1 + 1 + 1, o3), (L + 1 + 1, o1), (rt, listOf vals.toArray kt), (r1, listOf ys1.toArray k1)] ++ (ex9 ++ (C ++ rest)) from by simpa using hq) with hq | hq
    ·exact h33 q (sub1 q (hfix ▸ hq))
    rcases qA hq with hq | hq
    ·exact h339 q hq
    ·exact h33 q hq
   ·exact hoff q hq 33 (.head _)
  refine (show wpAny _ _ (call (.ref 185) [.ref rt, .str (sfX c) _]) _ _ _ from ?_);refine found_G (sf_ok hcb) F4 Xg N5 Tg rfl (qB rfl) (qB rfl) hT9 (fun q hq => (qA hq).elim (inE q) fun h => inB q (qR _ h)) h33r (inB _ (qR _ S.m3)) S.th (fun q hq => inB q (qR _ (S.ob q hq))) S.ln S.tags fun r h5 tk5 G5 ys5 k5 ps5 cds5 F6 N6 hT6 ext6 hnew6 hg6 hys6 => ?_;dsimp only at ext6 hnew6 hg6;clear F4 N4;have hys : StrsAre ys5 (fo c) := by
   rw [hys6, List.filter_cons_of_neg (show ¬ (false = true) from Bool.false_ne_true), <- hon c hcm];exact strs_filter (fun _ _ => rfl) S.st
  have oldH : ∀ p ∈ rst, H.get? p.1 = some p.2 := fun p hp => (N5 p (.tail _ hp)).1;k_steps;unfold Halt;rename Fr g C9 _ _ => F10;rename News g C9 _ _ => N10;refine DcEnd.intro ((33, tabObj ps5) :: ([(L + 1 + 1 + 1 + 1, o3), (L + 1 + 1, o1), (rt, listOf vals.toArray kt), (r1, listOf ys1.toArray k1)] ++ (((r, listOf ys5.toArray k5) :: (cds5 ++ ex9)) ++ (C ++ rest)))) F10 N10 ?_ ?_ ?_ ⟨⟨ps5, (r, listOf ys5.toArray k5) :: (cds5 ++ ex9), rfl, ?_, ?_, ?_, ?_⟩, fun h => hg6 (hb9 h)⟩
  ·intro q hq;rcases qC hq with rfl | hq
   ·exact .tail _ (.head _)
   rcases qA hq with hq | hq
   ·refine .tail _ (.tail _ (qR _ ?_));rw [hrst];exact qL _ (show q ∈ [(L + 1 + 1 + 1 + 1, o3), (L + 1 + 1, o1), (rt, listOf vals.toArray kt), (r1, listOf ys1.toArray k1)] ++ (ex9 ++ (C ++ rest)) from qL _ hq)
   rcases qA hq with hq | hq
   ·rcases qC hq with rfl | hq
    ·exact .head _
    rcases qA hq with hq | hq
    ·exact .tail _ (.tail _ (qL _ hq))
    ·exact .tail _ (.tail _ (qR _ (inE q hq)))
   ·exact .tail _ (.tail _ (qR _ (inB q hq)))
  ·intro q hq;exact .tail _ (.tail _ (qR _ (inO q hq)))
  ·intro q hq b hb e;apply byc; intro O;obtain ⟨z, hz, rfl⟩ := List.mem_map.mp hb;apply O; clear O;rcases qC hz with rfl | hz
   ·exact hoff q hq 33 (.head _) e
   rcases qA hz with hz | hz
   ·exact hoff q hq z.1 (qM (f := (·.1)) (show z ∈ (33, tabObj ps9) :: (_ ++ (ex9 ++ (C ++ rest))) from .tail _ (qL _ hz))) e
   rcases qA hz with hz | hz
   ·rcases qC hz with rfl | hz
    ·have h1 := oldH q (inO q hq);rw [e, hnew6 _ (.head _)] at h1; cases h1
    rcases qA hz with hz | hz
    ·have h1 := oldH q (inO q hq);rw [e, hnew6 z (.tail _ hz)] at h1; cases h1
    ·exact hoff q hq z.1 (qM (f := (·.1)) (show z ∈ (33, tabObj ps9) :: ([(L + 1 + 1 + 1 + 1, o3), (L + 1 + 1, o1), (rt, listOf vals.toArray kt), (r1, listOf ys1.toArray k1)] ++ (ex9 ++ (C ++ rest))) from .tail _ (qR _ (qL _ hz)))) e
   ·exact hoff q hq z.1 (qM (f := (·.1)) (show z ∈ (33, tabObj ps9) :: ([(L + 1 + 1 + 1 + 1, o3), (L + 1 + 1, o1), (rt, listOf vals.toArray kt), (r1, listOf ys1.toArray k1)] ++ (ex9 ++ (C ++ rest))) from .tail _ (qR _ (qR _ hz)))) e
  ·refine hT6.mono fun q hq => ?_;rcases qA hq with hq | hq
   ·exact qL _ (.tail _ (qL _ hq))
   rcases qA hq with hq | hq
   ·exact qL _ (.tail _ (qR _ hq))
   ·exact qR _ hq
  ·intro q hq;rcases qC hq with rfl | hq
   ·intro e;have h1 := hnew6 _ (.head _);rw [e, (N5 _ (.head _)).1] at h1; cases h1
   rcases qA hq with hq | hq
   ·intro e;have h1 := hnew6 q (.tail _ hq);rw [e, (N5 _ (.head _)).1] at h1; cases h1
   ·exact h339 q hq
  ·intro q hq p hp e;rcases qC hq with rfl | hq
   ·have h1 := oldH p (inB p hp);rw [e, hnew6 _ (.head _)] at h1; cases h1
   rcases qA hq with hq | hq
   ·have h1 := oldH p (inB p hp);rw [e, hnew6 q (.tail _ hq)] at h1; cases h1
   ·exact hap9 q hq p hp e
  ·rw [take_snoc hc];exact hD9.snoc (fun hm => by
    have h1 : c ∈ os.take i := hm;apply byc; intro O;obtain ⟨k9, hk9, e9⟩ := List.mem_iff_getElem.mp h1;apply O; clear O;rw [List.length_take] at hk9;have e10 : os[k9]? = some c := by
     rw [<- e9, List.getElem_take];exact List.getElem?_eq_getElem _
    have h11 := (List.getElem?_inj (List.getElem?_eq_some_iff.mp e10).1 hnd).mp (e10.trans hc.symm);omega) (fun q hq => .tail _ (qR _ hq)) (.head _) hys
 ·intro D C9 kvs oD nx H tk9 G u zp1 hoD hne hlt hDC hC9 hLD hC0 hCn F4 N4;apply byc; intro O;obtain ⟨⟨ps9, ex9, rfl, hT9, h339, hap9, hD9⟩, hb9⟩ := zp1;apply O; clear O;refine lc_fin (s := { s with gens := G }) hDC hC9 hLD hC0 hCn F4 N4 fun h5 F5 N5 => ?_;rw [kL1, hos.1, List.take_of_length_le (by rw [hos.1]; exact Nat.le_refl _)] at hD9;clear F2 N2;k_steps;unfold Halt;rename News h! L _ _ => N6;rename Fr h! L _ _ => F6;have hr : ∀ q ∈ (D, oD) :: ex9, ∀ p ∈ C ++ rest, p.1 ≠ q.1 := fun q hq p hp => by
   rcases qC hq with rfl | hq
   ·exact hne p (.tail _ (qR _ (qR _ hp)))
   ·exact hap9 q hq p hp
  have N7 : News h! L _ (C ++ ((33, tabObj ps9) :: (D, oD) :: (ex9 ++ rest))) := fun q hq => N6 q (by
   rcases qA hq with h | h
   ·exact .tail _ (.tail _ (qR _ (qR _ (qL _ h))))
   rcases qC h with rfl | h
   ·exact .tail _ (.head _)
   rcases qC h with rfl | h
   ·exact .head _
   rcases qA h with h | h
   ·exact .tail _ (.tail _ (qR _ (qL _ h)))
   ·exact .tail _ (.tail _ (qR _ (qR _ (qR _ h)))))
  have hA2 : Apart L ((33, tabObj ps9) :: (D, oD) :: (ex9 ++ rest)) :=
   Apart.cons (Apart.cons (Apart.app hA fun q hq => hC.off fun p hp => hr q (.tail _ hq) p (qL _ hp)) (hC.off fun p hp => hr _ (.head _) p (qL _ hp))) (hC.off fun p hp => h33 p (qL _ hp))
  refine store_C F6 N7 hC hA2 (i := 5) (by decide) rfl rfl fun h8 C' F8 N8 hC8 => ret h8 _ G ps9 ex9 D oD kvs C' F8 (fun q hq => N8 q ?_) hC8 ?_ ?_ hr hoD hD9 hb9
  ·rcases qC hq with rfl | hq
   ·exact qR _ (.head _)
   rcases qA hq with hq | hq
   ·exact qL _ hq
   ·exact qR _ (.tail _ hq)
  ·exact hT9.mono fun q hq => .tail _ hq
  ·intro q hq;rcases qC hq with rfl | hq
   ·exact fun e => hne (33, tabObj ps9) (.head _) e.symm
   ·exact h339 q hq
 ·intro i kvs nx G hi3 zp1;apply byc; intro O;obtain ⟨⟨ps9, ex9, rfl, hT9, h339, hap9, hD9⟩, hb9⟩ := zp1;apply O; clear O;rw [sizeLine_eq];have h1 := congrArg List.length hD9.keys;rw [List.length_map, List.length_take] at h1;omega
end
end
section
section
local macro_rules | `(tactic| walk_at "eval Constant int") => `(tactic| (refine wpAny_Constant_int ?_; refine halt ?_))
local macro_rules | `(tactic| walk_at $s) => hz s ["storeName", "call type:int", "subscriptTail Name Name ref int"]
variable {Q : Flow -> Shared -> Prop}
structure DcI {β : Type} (R : List Value -> β -> Prop) (f : Int -> β) (os : List Int) (gens : Array GenState) (C rest fix : List (Addr × Obj)) (i : Nat) (kvs : List (Int × Value)) (nx : List (Addr × Obj)) (G : Array GenState) : Prop where
 ex : ∃ ex, nx = fix ++ (ex ++ (C ++ rest)) /\ (∀ q ∈ ex, ∀ p ∈ C ++ rest, p.1 ≠ q.1) /\ DictIn R ex kvs (os.take i) f
 gens : G = gens
theorem strs_drop {vs : List Value} {ns : List Str} (h : StrsAre vs ns) : ∀ k : Nat, StrsAre (vs.drop k) (ns.drop k) := by
 induction h with
 | nil => intro k; rw [List.drop_nil, List.drop_nil]; exact .nil
 | cons x t h ih =>
  intro k;cases k with
  | zero => exact .cons x t h
  | succ k => exact ih k
theorem slice_one (x y z : Str) : Txt.slice (Str.ofString "{" ++ x ++ y ++ z) (some 1) none = x ++ y ++ z := by
 have hl : (Str.ofString "{" ++ x ++ y ++ z).length = 1 + x.length + y.length + z.length := by
  rw [Str.length_append, Str.length_append, Str.length_append]; rfl
 rw [slice_at _ _ _ 1 _ ?_ rfl (by rw [hl]; omega) (Nat.le_refl _)]
 ·apply str_ext;rw [toL_mk, List.take_of_length_le, toL_app, toL_app, toL_app, toL_app, toL_app]
  ·rfl
  ·rw [List.length_drop, toL_len]; exact Nat.le_refl _
 ·show max (0 : Int) (min (if (1 : Int) < 0 then _ else 1) _) = _;rw [hl];omega
theorem strs_fst {vs : List Value} {a : Str} {l : List Str} (h : StrsAre vs (a :: l)) : ∃ t, vs[0]? = some (.str a t) := by
 cases h with
 | cons _ t _ => exact ⟨t, rfl⟩
theorem law_16 {r1 d5 : Addr} {ys1 : List Value} {k1 : Nat} {od5 : Obj} {ex5 : List (Addr × Obj)} {kvs5 : List (Int × Value)} {os : List Int} {bw : Int -> List (Int × Int)} (F : Fr h! L s.heap m) (X : (Kq w.params).In h!) (T : Top p loose mean mg mb h!) (hC : Cells L cv C) (N : News h! L s.heap (C ++ rest)) (hA : Apart L rest)
  (hh : A.handled = none) (hd : A.depth <= 320) (hu : A.units <= 200) (h1 : cv 1 = some (.ref r1)) (hr1 : (r1, listOf ys1.toArray k1) ∈ rest) (hi1 : IntsAre ys1 os) (hos : os.length = 6 /\ ∀ o ∈ os, 0 <= o /\ o < 256) (hnd : os.Nodup)
  (h5 : cv 5 = some (.ref d5)) (hd5 : (d5, od5) ∈ rest) (hod5 : od5.IsDictOf (intKind PR w) kvs5) (hex5 : ∀ q ∈ ex5, q ∈ rest) (hD5 : DictIn StrsAre ex5 kvs5 os (fun o => decS o :: (bw o).map fun p => way p.1 p.2))
  (hob : ∀ o ∈ os, ∀ p ∈ bw o, (0 <= p.1 /\ p.1 < 256) /\ (0 <= p.2 /\ p.2 < 256)) (hol : ∀ o ∈ os, (bw o).length <= 20)
  (ret : ∀ h' tk' ex d od kvs C', Fr h! L h' m -> News h! L h' (C' ++ ((d, od) :: (ex ++ rest))) -> Cells L (setC cv 6 (.ref d)) C' -> (∀ q ∈ (d, od) :: ex, ∀ p ∈ C ++ rest, p.1 ≠ q.1) -> od.IsDictOf (intKind PR w) kvs -> DictIn IntsAre ex kvs os (fun o => (bw o).map (·.1)) -> Q .next { s with heap := h', toks := tk' }) :
  wpAny (model PR w) A (exec (lst 16) (lenv L)) Q E s := by
 refine weakL hh hd hu ?_;apply byc; intro O;obtain ⟨o5, m5, d5c⟩ := cell_at hC 5 (by decide) h5;obtain ⟨o1, m1, d1⟩ := cell_at hC 1 (by decide) h1;apply O; clear O;have kL1 := IntsAre.length hi1;apply byc; intro O;obtain ⟨fix, hfix⟩ : ∃ fix, fix = [(L + 1 + 5, o5), (d5, od5), (L + 1 + 1, o1), (r1, listOf ys1.toArray k1)] := ⟨_, rfl⟩;apply O; clear O;have sub1 : ∀ q ∈ fix, q ∈ C ++ rest := fun q hq => by
  rw [hfix] at hq;rcases qC hq with rfl | hq
  ·exact qL _ m5
  rcases qC hq with rfl | hq
  ·exact qR _ hd5
  rcases qC hq with rfl | hq
  ·exact qL _ m1
  rw [qS hq];exact qR _ hr1
 have N1 : News h! L s.heap ([(L + 1 + 5, o5), (d5, od5), (L + 1 + 1, o1), (r1, listOf ys1.toArray k1)] ++ ([] ++ (C ++ rest))) := fun q hq => by
  rcases qA hq with hq | hq
  ·exact N q (sub1 q (hfix ▸ hq))
  ·exact N q hq
 simp only [List.cons_append, List.nil_append] at N1;refine cvS (by conv => lhs; whnf) ?_;k_steps;unfold Halt;rename Fr h! L _ _ => F2;rename News h! L _ ((_, o5) :: _) => N2;refine dc_list (items := ys1) rfl (DcI IntsAre (fun o => (bw o).map (·.1)) os s.gens C rest [(L + 1 + 5, o5), (d5, od5), (L + 1 + 1, o1), (r1, listOf ys1.toArray k1)]) (fun i ys nx G h => by
  apply byc; intro O;obtain ⟨ex9, e, -⟩ := h.ex;apply O; clear O;rw [e]; exact .tail _ (.tail _ (.tail _ (.head _)))) (by decide) rfl rfl F2 X T N2 ⟨⟨[], rfl, fun _ h => (nomatch h), .nil⟩, rfl⟩ ?_ ?_ ?_
 ·intro g C9 E' i v kvs nx own H tk9 G u Xg Tg lC hi3 hv zp1 hoff F3 N3;apply byc; intro O;obtain ⟨⟨ex9, rfl, hap9, hD9⟩, rfl⟩ := zp1;apply O; clear O;apply byc; intro O;obtain ⟨c, tc, rfl, hc⟩ := ints_at hi1 hv;apply O; clear O;have hcm := qG hc;have hcb := hos.2 c hcm;apply byc; intro O;obtain ⟨l, lvs, ln, hval, hmem, hstr⟩ := hD5.at' c hcm;apply O; clear O;have hll : lvs.length <= 21 := by
   have h9 := StrsAre.length hstr;rw [List.length_cons, List.length_map] at h9;have := hol c hcm;omega
  simp only [List.cons_append, List.nil_append] at N3;have N4 : News g C9 H ((l, listOf lvs.toArray ln) :: (L + 1 + 5, o5) :: (d5, od5) :: (L + 1 + 1, o1) :: (r1, listOf ys1.toArray k1) :: (ex9 ++ (C ++ rest) ++ own)) := nC (N3 _ (.tail _ (.tail _ (.tail _ (.tail _ (qL _ (qR _ (qR _ (hex5 _ hmem))))))))) (fun q hq => N3 q (by simpa using hq));clear N3;k_steps
  rotate_right 1
  ·exact c
  ·exact intKind_is _ _ _ _
  unfold Halt;rename News g C9 _ _ => N5;refine kda_item (knd := intKind PR w) N5 (.tail _ (.tail _ (.head _))) hod5 (intKind_is _ _ _ _) hval ?_;k_steps;unfold Halt;k_steps;unfold Halt;show wpAny _ _ (pyIter (.ref (H.objs.size + 1))) _ _ _;rename Fr g C9 _ _ => F6;rename News g C9 _ _ => N6;dsimp only at N6 F6;have esl : slicePick lvs.toArray (some 1) none none = (lvs.drop 1).toArray := slicePick_from' lvs.toArray 1;rw [esl] at N6;apply byc; intro O;obtain ⟨dl, hdl⟩ : ∃ dl, dl = H.objs.size + 1 := ⟨_, rfl⟩;obtain ⟨rst, hrst⟩ : ∃ rst, rst = (L + 1 + 5, o5) :: (d5, od5) :: (L + 1 + 1, o1) :: (r1, listOf ys1.toArray k1) :: (ex9 ++ (C ++ rest) ++ own) := ⟨_, rfl⟩;apply O; clear O;have N7 : News g C9 _ ((dl, listOf (lvs.drop 1).toArray 0) :: rst) := fun q hq => N6 q (by
   rcases qC hq with rfl | hq
   ·rw [hdl]; exact .head _
   ·rw [hrst] at hq;exact .tail _ (.tail _ hq))
  rw [<- hdl];clear N6 N5;have hway : StrsAre (lvs.drop 1) ((bw c).map fun p => way p.1 p.2) := strs_drop hstr 1;refine lc_list (items := lvs.drop 1) rfl (fun j zs nx2 => nx2 = (dl, listOf (lvs.drop 1).toArray 0) :: rst /\ ∃ as, IntsAre zs as /\ as = ((bw c).take j).map (·.1)) (fun i us nx h => by rw [h.1]; exact .head _) (by decide) rfl rfl F6 Xg Tg N7 ⟨rfl, [], .nil, rfl⟩ ?_ ?_ ?_
  ·intro g2 C2 E2 j v2 zs2 nx2 own2 H2 tk6 u6 Xg2 Tg2 lC2 hj2 hv2 zp1 hoff2 F8 N8;apply byc; intro O;obtain ⟨rfl, as, hz2, ha2⟩ := zp1;apply O; clear O;refine lc_nil ?_;apply byc; intro O;obtain ⟨x2, tx2, rfl, hx2⟩ := strs_at hway hv2;apply O; clear O;rw [List.getElem?_map] at hx2;apply byc; intro O;obtain ⟨⟨a, b⟩, hab, hxe⟩ := Option.map_eq_some_iff.mp hx2;obtain ⟨hba, hbb⟩ := hob c hcm _ (qG hab);apply O; clear O;dsimp only at hba hbb hxe;have hla := decS_len hba;have hlb := decS_len hbb;have hwl : x2.length <= 8 := by
    rw [<- hxe];show (Str.ofString "{" ++ decS a ++ Str.ofString "}" ++ decS b).length <= 8;rw [Str.length_append, Str.length_append, Str.length_append];show 1 + _ + 1 + _ <= 8;omega
   have hwl' := hwl;have hsp : Txt.split (Txt.slice x2 (some 1) none) (Str.ofString "}") = [decS a, decS b] := by
    rw [<- hxe];have e1 : Str.ofString "}" = ⟨#[125]⟩ := by decide +kernel
    have e2 : Txt.slice (way a b) (some 1) none = decS a ++ ⟨#[125]⟩ ++ decS b := by
     show Txt.slice (Str.ofString "{" ++ decS a ++ Str.ofString "}" ++ decS b) _ _ = _;rw [e1];exact slice_one _ _ _
    rw [e1, e2];exact split_one 125 _ _ (decS_free hba (.inr (by decide))) (decS_free hbb (.inr (by decide)))
   have hsl' : (Txt.slice x2 (some 1) none).length <= 8 := Nat.le_trans (Txt.slice_le _ _ _) hwl;clear hxe hx2 F6 N7 hob hol hD5 hD9 hap9 N hA hC ret hwl hla hlb;have hwl : x2.length <= 8 := hwl';k_steps;unfold Halt;k_steps;unfold Halt;rename_i hl9 hS9 hle9 hL9 F9 N9;rw [hl9, hsp] at hS9;dsimp only at hL9 F9 N9;obtain ⟨t8, ht8⟩ := strs_fst hS9;refine item_L hL9 (by decide) (by decide) ht8 ?_;k_steps;unfold Halt;refine (show wpAny _ _ (call (.type "int") [.str (Str.ofString (toString a)) t8]) _ _ _ from KIN.call_num hba.1 (by omega) ?_);k_steps;unfold Halt;rename Fr g2 C2 _ _ => F10;rename News g2 C2 _ _ => N10;refine LcEnd.intro ((dl, listOf (lvs.drop 1).toArray 0) :: rst) F10 N10 ?_ ?_ hoff2 ⟨rfl, ?_⟩
   ·exact fun p hp => .tail _ (qL _ hp)
   ·exact fun p hp => .tail _ (qR _ hp)
   ·exact ⟨_, IntsAre.append hz2 (.cons _ _ .nil), by rw [take_snoc hab, List.map_append, ha2]; rfl⟩
  ·intro D2 C2 zs2 nx2 H2 tk6 k6 u6 zp1 hne2 hlt2 hDC2 hC2 hL2 hC02 hCn2 F8 N8;apply byc; intro O;obtain ⟨rfl, as, hz2, ha2⟩ := zp1;apply O; clear O;refine lc_fin hDC2 hC2 hL2 hC02 hCn2 F8 N8 fun h9 F9 N9 => ?_;have hl5 : (lvs.drop 1).length = (bw c).length := by rw [StrsAre.length hway, List.length_map]
   rw [hl5, List.take_length] at ha2;clear F6 N7;k_steps;unfold Halt;rename Fr g C9 _ _ => F10;rename News g C9 _ _ => N10;have inR : ∀ q ∈ [(L + 1 + 5, o5), (d5, od5), (L + 1 + 1, o1), (r1, listOf ys1.toArray k1)] ++ (ex9 ++ (C ++ rest)) ++ own, q ∈ rst := fun q hq => by
    rw [hrst]
    simpa using hq
   refine DcEnd.intro ([(L + 1 + 5, o5), (d5, od5), (L + 1 + 1, o1), (r1, listOf ys1.toArray k1)] ++ (((D2, listOf zs2.toArray k6) :: ex9) ++ (C ++ rest))) F10 N10 ?_ ?_ ?_ ⟨⟨(D2, listOf zs2.toArray k6) :: ex9, rfl, ?_, ?_⟩, rfl⟩
   ·intro q hq;rcases qA hq with hq | hq
    ·exact .tail _ (.tail _ (inR q (qL _ (qL _ hq))))
    rcases qA hq with hq | hq
    ·rcases qC hq with rfl | hq
     ·exact .head _
     ·exact .tail _ (.tail _ (inR q (qL _ (qR _ (qL _ hq)))))
    ·exact .tail _ (.tail _ (inR q (qL _ (qR _ (qR _ hq)))))
   ·intro q hq;exact .tail _ (.tail _ (inR q (qR _ hq)))
   ·intro q hq b hb e;apply byc; intro O;obtain ⟨z, hz, rfl⟩ := List.mem_map.mp hb;apply O; clear O;rcases qA hz with hz | hz
    ·exact hoff q hq z.1 (qM (f := (·.1)) (qL _ hz)) e
    rcases qA hz with hz | hz
    ·rcases qC hz with rfl | hz
     ·exact hne2 q (.tail _ (inR q (qR _ hq))) e
     ·exact hoff q hq z.1 (qM (f := (·.1)) (qR _ (qL _ hz))) e
    ·exact hoff q hq z.1 (qM (f := (·.1)) (qR _ (qR _ hz))) e
   ·intro q hq p hp e;rcases qC hq with rfl | hq
    ·exact hne2 p (.tail _ (inR p (qL _ (qR _ (qR _ hp))))) e
    ·exact hap9 q hq p hp e
   ·rw [take_snoc hc];exact hD9.snoc (fun hm => by
     have h1 : c ∈ os.take i := hm;apply byc; intro O;obtain ⟨k9, hk9, e9⟩ := List.mem_iff_getElem.mp h1;apply O; clear O;rw [List.length_take] at hk9;have e10 : os[k9]? = some c := by
      rw [<- e9, List.getElem_take];exact List.getElem?_eq_getElem _
     have h11 := (List.getElem?_inj (List.getElem?_eq_some_iff.mp e10).1 hnd).mp (e10.trans hc.symm);omega) (fun q hq => .tail _ hq) (.head _) (ha2 ▸ hz2)
  ·rintro j zs nx2 hj2 ⟨_, as, hz2, rfl⟩;rw [sizeLine_eq];have h1 := IntsAre.length hz2;rw [List.length_map, List.length_take] at h1;have := hol c hcm;omega
 ·intro D C9 kvs oD nx H tk9 G u zp1 hoD hne hlt hDC hC9 hLD hC0 hCn F4 N4;apply byc; intro O;obtain ⟨⟨ex9, rfl, hap9, hD9⟩, rfl⟩ := zp1;apply O; clear O;refine lc_fin hDC hC9 hLD hC0 hCn F4 N4 fun h5 F5 N5 => ?_;rw [kL1, hos.1, List.take_of_length_le (by rw [hos.1]; exact Nat.le_refl _)] at hD9;clear F2 N2;k_steps;unfold Halt;rename News h! L _ _ => N6;rename Fr h! L _ _ => F6;have hr : ∀ q ∈ (D, oD) :: ex9, ∀ p ∈ C ++ rest, p.1 ≠ q.1 := fun q hq p hp => by
   rcases qC hq with rfl | hq
   ·exact hne p (qR _ (qR _ hp))
   ·exact hap9 q hq p hp
  have N7 : News h! L _ (C ++ ((D, oD) :: (ex9 ++ rest))) := fun q hq => N6 q (by
   rcases qA hq with h | h
   ·exact .tail _ (qR _ (qR _ (qL _ h)))
   rcases qC h with rfl | h
   ·exact .head _
   rcases qA h with h | h
   ·exact .tail _ (qR _ (qL _ h))
   ·exact .tail _ (qR _ (qR _ (qR _ h))))
  have hA2 : Apart L ((D, oD) :: (ex9 ++ rest)) :=
   Apart.cons (Apart.app hA fun q hq => hC.off fun p hp => hr q (.tail _ hq) p (qL _ hp)) (hC.off fun p hp => hr _ (.head _) p (qL _ hp))
  refine store_C F6 N7 hC hA2 (i := 6) (by decide) rfl rfl fun h8 C' F8 N8 hC8 => ret h8 _ ex9 D oD kvs C' F8 N8 hC8 hr hoD hD9
 ·intro i kvs nx G hi3 zp1;apply byc; intro O;obtain ⟨⟨ex9, rfl, hap9, hD9⟩, rfl⟩ := zp1;apply O; clear O;rw [sizeLine_eq];have h1 := congrArg List.length hD9.keys;rw [List.length_map, List.length_take] at h1;omega
end
end
section
section
local macro_rules | `(tactic| walk_at "subscriptTail") => `(tactic| (k_here; (with_reducible show wpAny _ _ (subscriptTail _ _ (Value.ref _) (Value.int _ _)) _ _ _); refine halt ?_))
variable {Q : Flow -> Shared -> Prop}
theorem law_17 {r1 d4 d5 d6 : Addr} {ys1 : List Value} {k1 : Nat} {od4 od5 od6 : Obj} {ex4 ex5 ex6 : List (Addr × Obj)} {kvs4 kvs5 kvs6 : List (Int × Value)} {os : List Int} {onw bw : Int -> List (Int × Int)} (F : Fr h! L s.heap m) (X : (Kq w.params).In h!) (T : Top p loose mean mg mb h!) (hC : Cells L cv C) (N : News h! L s.heap (C ++ rest))
  (hh : A.handled = none) (hd : A.depth <= 320) (hu : A.units <= 200) (h1 : cv 1 = some (.ref r1)) (hr1 : (r1, listOf ys1.toArray k1) ∈ rest) (hi1 : IntsAre ys1 os) (hos : os.length = 6 /\ ∀ o ∈ os, 0 <= o /\ o < 256)
  (h4 : cv 4 = some (.ref d4)) (hd4 : (d4, od4) ∈ rest) (hod4 : od4.IsDictOf (intKind PR w) kvs4) (hex4 : ∀ q ∈ ex4, q ∈ rest) (hD4 : DictIn IntsAre ex4 kvs4 os (fun o => (onw o).map (·.2)))
  (h5 : cv 5 = some (.ref d5)) (hd5 : (d5, od5) ∈ rest) (hod5 : od5.IsDictOf (intKind PR w) kvs5) (hex5 : ∀ q ∈ ex5, q ∈ rest) (hD5 : DictIn StrsAre ex5 kvs5 os (fun o => decS o :: (bw o).map fun p => way p.1 p.2))
  (h6 : cv 6 = some (.ref d6)) (hd6 : (d6, od6) ∈ rest) (hod6 : od6.IsDictOf (intKind PR w) kvs6) (hex6 : ∀ q ∈ ex6, q ∈ rest) (hD6 : DictIn IntsAre ex6 kvs6 os (fun o => (bw o).map (·.1)))
  (hcl : ∀ o ∈ os, 255 - o ∈ os) (hpm : ∀ o ∈ os, ((bw o).map (·.1)).Perm (((onw (255 - o)).map (·.2)).map fun x => 255 - x)) (hol : ∀ o ∈ os, (onw o).length <= 20) (hbl : ∀ o ∈ os, (bw o).length <= 20)
  (ret : ∀ h' tk' (u : Str -> Option Value), Fr h! L h' (fun y => if y = Str.ofString "octet" then u y else m y) -> News h! L h' (C ++ rest) -> Q .next { s with heap := h', toks := tk' }) :
  wpAny (model PR w) A (exec (lst 17) (lenv L)) Q (fun _ _ => False) s := by
 refine weakL hh hd hu ?_;apply byc; intro O;obtain ⟨o1, m1, d1⟩ := cell_at hC 1 (by decide) h1;obtain ⟨o4, m4, d4c⟩ := cell_at hC 4 (by decide) h4;obtain ⟨o5, m5, d5c⟩ := cell_at hC 5 (by decide) h5;obtain ⟨o6, m6, d6c⟩ := cell_at hC 6 (by decide) h6;apply O; clear O;have kL1 := IntsAre.length hi1;apply byc; intro O;obtain ⟨fix, hfix⟩ : ∃ fix, fix = [(L + 1 + 1, o1), (r1, listOf ys1.toArray k1), (L + 1 + 5, o5), (d5, od5), (L + 1 + 6, o6), (d6, od6), (L + 1 + 4, o4), (d4, od4)] := ⟨_, rfl⟩;apply O; clear O;have sub1 : ∀ q ∈ fix, q ∈ C ++ rest := fun q hq => by
  rw [hfix] at hq;rcases qC hq with rfl | hq
  ·exact qL _ m1
  rcases qC hq with rfl | hq
  ·exact qR _ hr1
  rcases qC hq with rfl | hq
  ·exact qL _ m5
  rcases qC hq with rfl | hq
  ·exact qR _ hd5
  rcases qC hq with rfl | hq
  ·exact qL _ m6
  rcases qC hq with rfl | hq
  ·exact qR _ hd6
  rcases qC hq with rfl | hq
  ·exact qL _ m4
  rw [qS hq];exact qR _ hd4
 have N1 : News h! L s.heap ([(L + 1 + 1, o1), (r1, listOf ys1.toArray k1), (L + 1 + 5, o5), (d5, od5), (L + 1 + 6, o6), (d6, od6), (L + 1 + 4, o4), (d4, od4)] ++ (C ++ rest)) := fun q hq => by
  rcases qA hq with hq | hq
  ·exact N q (sub1 q (hfix ▸ hq))
  ·exact N q hq
 simp only [List.cons_append, List.nil_append] at N1;refine cvS (by conv => lhs; whnf) ?_;k_steps;unfold Halt;rename Fr h! L _ _ => F2;rename News h! L _ ((_, o1) :: _) => N2
 with_unfolding_all refine' st_list (σ := Unit) (l := r1) (vs := ys1) (nn := k1) (fun _ => [(L + 1 + 1, o1), (r1, listOf ys1.toArray k1), (L + 1 + 5, o5), (d5, od5), (L + 1 + 6, o6), (d6, od6), (L + 1 + 4, o4), (d4, od4)] ++ (C ++ rest)) (fun _ => []) (fun _ => True) [] (fun _ _ => True) () (by rfl) (fun _ => .tail _ (.head _)) F2 N2 trivial (fun _ h => nomatch h) trivial ?_ ?_
 ·rintro ⟨⟩ i v u h2 tk2 own hi hv hoff - - F3 N3;dsimp only [kstB] at F3 N3 hoff;simp only [List.nil_append, List.cons_append] at N3;apply byc; intro O;obtain ⟨c, tc, rfl, hc⟩ := ints_at hi1 hv;apply O; clear O;have hcm := qG hc;have hcb := hos.2 c hcm;apply byc; intro O;obtain ⟨l5, vs5, n5, hv5, hm5, hs5⟩ := hD5.at' c hcm;obtain ⟨l6, vs6, n6, hv6, hm6, hs6⟩ := hD6.at' c hcm;obtain ⟨l4, vs4, n4, hv4, hm4, hs4⟩ := hD4.at' (255 - c) (hcl c hcm);apply O; clear O;have N4 : News h! L h2 ((l5, listOf vs5.toArray n5) :: (l6, listOf vs6.toArray n6) :: (l4, listOf vs4.toArray n4) :: ([(L + 1 + 1, o1), (r1, listOf ys1.toArray k1), (L + 1 + 5, o5), (d5, od5), (L + 1 + 6, o6), (d6, od6), (L + 1 + 4, o4), (d4, od4)] ++ (C ++ rest) ++ own)) := nC (N3 _ (qL _ (qR [(L + 1 + 1, o1), (r1, listOf ys1.toArray k1), (L + 1 + 5, o5), (d5, od5), (L + 1 + 6, o6), (d6, od6), (L + 1 + 4, o4), (d4, od4)] (qR _ (hex5 _ hm5))))) (nC (N3 _ (qL _ (qR [(L + 1 + 1, o1), (r1, listOf ys1.toArray k1), (L + 1 + 5, o5), (d5, od5), (L + 1 + 6, o6), (d6, od6), (L + 1 + 4, o4), (d4, od4)] (qR _ (hex6 _ hm6))))) (nC (N3 _ (qL _ (qR [(L + 1 + 1, o1), (r1, listOf ys1.toArray k1), (L + 1 + 5, o5), (d5, od5), (L + 1 + 6, o6), (d6, od6), (L + 1 + 4, o4), (d4, od4)] (qR _ (hex4 _ hm4))))) (N3)));have hll5 : vs5.length <= 21 := by
   have h9 := StrsAre.length hs5;rw [List.length_cons, List.length_map] at h9;have := hbl c hcm;omega
  have hll6 : vs6.length <= 20 := by
   have h9 := IntsAre.length hs6;rw [List.length_map] at h9;have := hbl c hcm;omega
  have hll4 : vs4.length <= 20 := by
   have h9 := IntsAre.length hs4;rw [List.length_map] at h9;have := hol _ (hcl c hcm);omega
  simp only [List.nil_append, List.cons_append] at N4;clear N3 N2 F2 hol hbl;k_steps;unfold Halt;rename News h! L _ _ => N5;refine kda_item (knd := intKind PR w) N5 (by repeat first | exact List.Mem.head _ | apply List.Mem.tail) hod5 (intKind_is _ _ _ _) hv5 ?_;k_steps;unfold Halt;rename Fr h! L _ _ => F6;rename News h! L _ _ => N6;dsimp only at N6 F6;have esl : slicePick vs5.toArray none (some 1) none = (vs5.take 1).toArray := slicePick_upto' vs5.toArray 1;rw [esl] at N6;have e1 : StrsAre (vs5.take 1) [decS c] := strs_take hs5 1;refine ne_strs0 (ns := [decS c]) (isL (n := 0) N6 (.tail _ (.head _))) (isL (n := 0) N6 (.head _)) e1 (.cons _ _ .nil) (by decide) ?_;clear N5;k_steps;unfold Halt;rename News h! L _ _ => N7;refine kda_item (knd := intKind PR w) N7 (by repeat first | exact List.Mem.head _ | apply List.Mem.tail) hod6 (intKind_is _ _ _ _) hv6 ?_;k_steps;unfold Halt;rename Fr h! L _ _ => F8;rename News h! L _ _ => N8;refine kso_sorted F8 N8 (isL N8 (by repeat first | exact List.Mem.head _ | apply List.Mem.tail)) hs6 (by rw [<- IntsAre.length hs6]; omega) fun D6 us6 ns6 c6 h9 F9 N9 lt9 is9 le9 pm9 or9 _ => ?_;clear N8 F8;k_steps;unfold Halt;rename News h! L _ _ => N10;refine kda_item (knd := intKind PR w) N10 (by repeat first | exact List.Mem.head _ | apply List.Mem.tail) hod4 (intKind_is _ _ _ _) hv4 ?_;k_steps;unfold Halt;rename Fr h! L _ _ => F11;rename News h! L _ _ => N11;apply byc; intro O;obtain ⟨big, hbig⟩ : ∃ big, big = [(L + 1 + 1, o1), (r1, listOf ys1.toArray k1), (L + 1 + 5, o5), (d5, od5), (L + 1 + 6, o6), (d6, od6), (L + 1 + 4, o4), (d4, od4)] ++ (C ++ rest) ++ own := ⟨_, rfl⟩;apply O; clear O;have N12 : News h! L _ ((l4, listOf vs4.toArray n4) :: (D6, listOf us6.toArray c6) :: big) := fun q hq => N11 q (by
   rcases qC hq with rfl | hq
   ·exact .tail _ (.tail _ (.tail _ (.tail _ (.tail _ (.head _)))))
   rcases qC hq with rfl | hq
   ·exact .head _
   ·rw [hbig] at hq;exact .tail _ (.tail _ (.tail _ (.tail _ (.tail _ (.tail _ hq))))))
  clear N11;refine lc_list (items := vs4) rfl (fun j zs nx2 => nx2 = (l4, listOf vs4.toArray n4) :: (D6, listOf us6.toArray c6) :: big /\ ∃ as, IntsAre zs as /\ as = (((onw (255 - c)).map (·.2)).take j).map fun x => 255 - x) (fun i us nx h => by rw [h.1]; exact .head _) (by decide) rfl rfl F11 X T N12 ⟨rfl, [], .nil, rfl⟩ ?_ ?_ ?_
  ·intro g2 C2 E2 j v2 zs2 nx2 own2 H2 tk6 u6 Xg2 Tg2 lC2 hj2 hv2 zp1 hoff2 F8 N8;apply byc; intro O;obtain ⟨rfl, as, hz2, ha2⟩ := zp1;apply O; clear O;refine lc_nil ?_;apply byc; intro O;obtain ⟨b, tb, rfl, hb⟩ := ints_at hs4 hv2;apply O; clear O;k_steps;unfold Halt;rename Fr g2 C2 _ _ => F10;rename News g2 C2 _ _ => N10;refine LcEnd.intro ((l4, listOf vs4.toArray n4) :: (D6, listOf us6.toArray c6) :: big) F10 N10 ?_ ?_ hoff2 ⟨rfl, ?_⟩
   ·exact fun p hp => qL _ hp
   ·exact fun p hp => qR _ hp
   ·exact ⟨_, IntsAre.append hz2 (.cons _ _ .nil), by rw [take_snoc hb, List.map_append, ha2]; rfl⟩
  ·intro D2 C2 zs2 nx2 H2 tk6 k6 u6 zp1 hne2 hlt2 hDC2 hC2 hL2 hC02 hCn2 F8 N8;apply byc; intro O;obtain ⟨rfl, as, hz2, ha2⟩ := zp1;apply O; clear O;refine lc_fin hDC2 hC2 hL2 hC02 hCn2 F8 N8 fun h9 F9 N9 => ?_;rw [IntsAre.length hs4, List.take_length] at ha2;clear F11 N12 F8 N8;k_steps;rename Fr h! L _ _ => F13;rename News h! L _ _ => N13;have hal : as.length < 64 := by
    have h9 := IntsAre.length hs4;rw [ha2, List.length_map];omega
   refine kso_sorted F13 N13 (isL N13 (.head _)) hz2 hal fun D7 us7 ns7 c7 h9 F14 N14 lt7 is7 le7 pm7 or7 _ => ?_;have hee : ns6 = ns7 := List.Perm.eq_of_pairwise (fun _ _ _ _ a b => Int.le_antisymm a b) or9 or7 ((pm9.trans (hpm c hcm)).trans (ha2 ▸ pm7.symm));subst hee;clear F13 N13;k_steps;unfold Halt;rename Fr h! L _ _ => F15;rename News h! L _ _ => N15;refine ne_intsK (isL N15 (.tail _ (.tail _ (.tail _ (.head _))))) is9 (isL N15 (.head _)) is7 (by decide) ?_;rw [decide_eq_true rfl, Bool.not_true];k_steps;unfold Halt;rename Fr h! L _ _ => F16;rename News h! L _ _ => N16;exact st_end () F16 N16 (fun q hq => .tail _ (.tail _ (.tail _ (.tail _ (by rw [hbig]; exact qL _ hq))))) (fun q hq => .tail _ (.tail _ (.tail _ (.tail _ (by rw [hbig]; exact qR _ hq))))) rfl trivial (fun _ h => nomatch h) (by kst_same) trivial
  ·rintro j zs nx2 hj2 ⟨_, as, hz2, rfl⟩;rw [sizeLine_eq];have h1 := IntsAre.length hz2;rw [List.length_map, List.length_take] at h1;have h2 := IntsAre.length hs4;omega
 ·rintro ⟨⟩ u h2 tk2 - - F3 N3;dsimp only [kstB] at F3;exact ret h2 tk2 u F3 fun q hq => N3 q (qR _ hq)
end
end
section
section
local macro_rules | `(tactic| walk_at $s) => hz s ["call ref", "storeName"]
variable {Q : Flow -> Shared -> Prop}
structure FarIs (ex : List (Addr × Obj)) (zs : List Value) (as : List Int) (succ : Int -> List Int) : Prop where
 len : zs.length = as.length
 at' : ∀ (i : Nat) (o : Int), as[i]? = some o -> ∃ l vs n ns, zs[i]? = some (Value.ref l) /\ (l, listOf vs.toArray n) ∈ ex /\ IntsAre vs ns /\ ns.length <= 6 /\ ∀ y, y ∈ ns ↔ RcI succ o y
theorem FarIs.nil {succ : Int -> List Int} : FarIs [] [] [] succ := ⟨rfl, fun i o h => by simp at h⟩
theorem FarIs.mono {ex ex' : List (Addr × Obj)} {zs : List Value} {as : List Int} {succ : Int -> List Int} (h : FarIs ex zs as succ) (hx : ∀ q ∈ ex, q ∈ ex') : FarIs ex' zs as succ :=
 ⟨h.len, fun i o ho => by
  apply byc; intro O;obtain ⟨l, vs, n, ns, a, b, c⟩ := h.at' i o ho;apply O; clear O;exact ⟨l, vs, n, ns, a, hx _ b, c⟩⟩
theorem FarIs.snoc {ex ex' : List (Addr × Obj)} {zs : List Value} {as : List Int} {succ : Int -> List Int} {o : Int} {l : Addr} {vs : List Value} {n : Nat} {ns : List Int} (h : FarIs ex zs as succ) (hx : ∀ q ∈ ex, q ∈ ex') (hl : (l, listOf vs.toArray n) ∈ ex') (hv : IntsAre vs ns) (hn : ns.length <= 6) (hy : ∀ y, y ∈ ns ↔ RcI succ o y) :
  FarIs ex' (zs ++ [.ref l]) (as ++ [o]) succ := by
 refine ⟨by rw [List.length_append, List.length_append, h.len]; rfl, fun i b hb => ?_⟩;by_cases hi : i < as.length
 ·rw [List.getElem?_append_left hi] at hb;apply byc; intro O;obtain ⟨l2, vs2, n2, ns2, a, b, c⟩ := h.at' i _ hb;apply O; clear O;exact ⟨l2, vs2, n2, ns2, by rw [List.getElem?_append_left (by rw [h.len]; exact hi)]; exact a, hx _ b, c⟩
 ·rw [List.getElem?_append_right (by omega)] at hb;have e : i - as.length = 0 := by
   have := (List.getElem?_eq_some_iff.mp hb).1;simp at this;omega
  rw [e] at hb;have hb : some o = some b := hb;obtain rfl := Option.some.inj hb;refine ⟨l, vs, n, ns, ?_, hl, hv, hn, hy⟩;rw [List.getElem?_append_right (by rw [h.len]; omega), h.len, e];rfl
local macro_rules | `(tactic| walk_at "z") => `(tactic| skip)
theorem law_18 {r1 d4 : Addr} {ys1 : List Value} {k1 : Nat} {od4 : Obj} {ex4 : List (Addr × Obj)} {kvs4 : List (Int × Value)} {os : List Int} {succ : Int -> List Int} (F : Fr h! L s.heap m) (X : (Kq w.params).In h!) (T : Top p loose mean mg mb h!) (hC : Cells L cv C) (N : News h! L s.heap (C ++ rest)) (hA : Apart L rest)
  (hh : A.handled = none) (hd : A.depth <= 320) (hu : A.units <= 200) (h1 : cv 1 = some (.ref r1)) (hr1 : (r1, listOf ys1.toArray k1) ∈ rest) (hi1 : IntsAre ys1 os) (hos : os.length = 6)
  (h4 : cv 4 = some (.ref d4)) (hd4 : (d4, od4) ∈ rest) (hod4 : od4.IsDictOf (intKind PR w) kvs4) (hex4 : ∀ q ∈ ex4, q ∈ rest) (hD4 : DictIn IntsAre ex4 kvs4 os succ)
  (hcl : ∀ o ∈ os, ∀ x ∈ succ o, x ∈ os) (hol : ∀ o ∈ os, (succ o).length <= 20)
  (ret : ∀ h' tk' ex r zs k C', Fr h! L h' m -> News h! L h' (C' ++ ((r, listOf zs.toArray k) :: (ex ++ rest))) -> Cells L (setC cv 7 (.ref r)) C' -> (∀ q ∈ (r, listOf zs.toArray k) :: ex, ∀ p ∈ C ++ rest, p.1 ≠ q.1) -> FarIs ex zs os succ -> Q .next { s with heap := h', toks := tk' }) :
  wpAny (model PR w) A (exec (lst 18) (lenv L)) Q E s := by
 refine weakL hh hd hu ?_;apply byc; intro O;obtain ⟨o4, m4, d4c⟩ := cell_at hC 4 (by decide) h4;obtain ⟨o1, m1, d1⟩ := cell_at hC 1 (by decide) h1;apply O; clear O;have kL1 := IntsAre.length hi1;apply byc; intro O;obtain ⟨fix, hfix⟩ : ∃ fix, fix = [(L + 1 + 4, o4), (d4, od4), (L + 1 + 1, o1), (r1, listOf ys1.toArray k1)] := ⟨_, rfl⟩;apply O; clear O;have sub1 : ∀ q ∈ fix, q ∈ C ++ rest := fun q hq => by
  rw [hfix] at hq;rcases qC hq with rfl | hq
  ·exact qL _ m4
  rcases qC hq with rfl | hq
  ·exact qR _ hd4
  rcases qC hq with rfl | hq
  ·exact qL _ m1
  rw [qS hq];exact qR _ hr1
 have N1 : News h! L s.heap ([(L + 1 + 4, o4), (d4, od4), (L + 1 + 1, o1), (r1, listOf ys1.toArray k1)] ++ ([] ++ (C ++ rest))) := fun q hq => by
  rcases qA hq with hq | hq
  ·exact N q (sub1 q (hfix ▸ hq))
  ·exact N q hq
 simp only [List.cons_append, List.nil_append] at N1;refine cvS (by conv => lhs; whnf) ?_;k_steps;unfold Halt;rename Fr h! L _ _ => F2;rename News h! L _ ((_, o4) :: _) => N2;refine lc_list (items := ys1) rfl (fun i zs nx => ∃ ex, nx = [(L + 1 + 4, o4), (d4, od4), (L + 1 + 1, o1), (r1, listOf ys1.toArray k1)] ++ (ex ++ (C ++ rest)) /\ (∀ q ∈ ex, ∀ p ∈ C ++ rest, p.1 ≠ q.1) /\ FarIs ex zs (os.take i) succ) (fun i ys nx h => by
  apply byc; intro O;obtain ⟨ex9, e, -⟩ := h;apply O; clear O;rw [e]; exact .tail _ (.tail _ (.tail _ (.head _)))) (by decide) rfl rfl F2 X T N2 ⟨[], rfl, fun _ h => (nomatch h), .nil⟩ ?_ ?_ ?_
 ·intro g C9 E' i v zs nx own H tk9 u Xg Tg lC hi3 hv zp1 hoff F3 N3;apply byc; intro O;obtain ⟨ex9, rfl, hap9, hD9⟩ := zp1;apply O; clear O;refine lc_nil ?_;apply byc; intro O;obtain ⟨c, tc, rfl, hc⟩ := ints_at hi1 hv;apply O; clear O;have hcm := qG hc;simp only [List.cons_append, List.nil_append] at N3;clear F2 N2;k_steps;unfold Halt;rename Fr g C9 _ _ => F4;rename News g C9 _ _ => N4;refine (show wpAny _ _ (call (.ref 192) [.int c _, .ref d4]) _ _ _ from ?_);refine reach_K (objs := ex4) F4 Xg N4 Tg rfl (qB rfl) (qB rfl) (.tail _ (.head _)) hod4 (fun q hq => .tail _ (.tail _ (.tail _ (.tail _ (qL _ (qR _ (qR _ (hex4 q hq)))))))) hD4.at' hcl (Nat.le_of_eq hos) hol hcm fun r h5 tk5 ys5 k5 ns5 F5 N5 hne5 ext5 hi5 hl5 hy5 => ?_;clear F4 N4;k_steps;unfold Halt;rename Fr g C9 _ _ => F6;rename News g C9 _ _ => N6;have inR : ∀ q ∈ [(L + 1 + 4, o4), (d4, od4), (L + 1 + 1, o1), (r1, listOf ys1.toArray k1)] ++ (ex9 ++ (C ++ rest)) ++ own, q ∈ (L + 1 + 4, o4) :: (d4, od4) :: (L + 1 + 1, o1) :: (r1, listOf ys1.toArray k1) :: (ex9 ++ (C ++ rest) ++ own) := fun q hq => by simpa using hq
  refine LcEnd.intro ([(L + 1 + 4, o4), (d4, od4), (L + 1 + 1, o1), (r1, listOf ys1.toArray k1)] ++ (((r, listOf ys5.toArray k5) :: ex9) ++ (C ++ rest))) F6 N6 ?_ ?_ ?_ ⟨(r, listOf ys5.toArray k5) :: ex9, rfl, ?_, ?_⟩
  ·intro q hq;rcases qA hq with hq | hq
   ·exact .tail _ (inR q (qL _ (qL _ hq)))
   rcases qA hq with hq | hq
   ·rcases qC hq with rfl | hq
    ·exact .head _
    ·exact .tail _ (inR q (qL _ (qR _ (qL _ hq))))
   ·exact .tail _ (inR q (qL _ (qR _ (qR _ hq))))
  ·intro q hq;exact .tail _ (inR q (qR _ hq))
  ·intro q hq b hb e;apply byc; intro O;obtain ⟨z, hz, rfl⟩ := List.mem_map.mp hb;apply O; clear O;rcases qA hz with hz | hz
   ·exact hoff q hq z.1 (qM (f := (·.1)) (qL _ hz)) e
   rcases qA hz with hz | hz
   ·rcases qC hz with rfl | hz
    ·exact hne5 q (inR q (qR _ hq)) e
    ·exact hoff q hq z.1 (qM (f := (·.1)) (qR _ (qL _ hz))) e
   ·exact hoff q hq z.1 (qM (f := (·.1)) (qR _ (qR _ hz))) e
  ·intro q hq p hp e;rcases qC hq with rfl | hq
   ·exact hne5 p (inR p (qL _ (qR _ (qR _ hp)))) e
   ·exact hap9 q hq p hp e
  ·rw [take_snoc hc];exact hD9.snoc (fun q hq => .tail _ hq) (.head _) hi5 hl5 hy5
 ·intro D C9 zs nx H tk9 k u zp1 hne hlt hDC hC9 hLD hC0 hCn F4 N4;apply byc; intro O;obtain ⟨ex9, rfl, hap9, hD9⟩ := zp1;apply O; clear O;refine lc_fin hDC hC9 hLD hC0 hCn F4 N4 fun h5 F5 N5 => ?_;rw [kL1, List.take_of_length_le (Nat.le_refl _)] at hD9;clear F2 N2;k_steps;unfold Halt;rename News h! L _ _ => N6;rename Fr h! L _ _ => F6;have hr : ∀ q ∈ (D, listOf zs.toArray k) :: ex9, ∀ p ∈ C ++ rest, p.1 ≠ q.1 := fun q hq p hp => by
   rcases qC hq with rfl | hq
   ·exact hne p (qR _ (qR _ hp))
   ·exact hap9 q hq p hp
  have N7 : News h! L _ (C ++ ((D, listOf zs.toArray k) :: (ex9 ++ rest))) := fun q hq => N6 q (by
   rcases qA hq with h | h
   ·exact .tail _ (qR _ (qR _ (qL _ h)))
   rcases qC h with rfl | h
   ·exact .head _
   rcases qA h with h | h
   ·exact .tail _ (qR _ (qL _ h))
   ·exact .tail _ (qR _ (qR _ (qR _ h))))
  have hA2 : Apart L ((D, listOf zs.toArray k) :: (ex9 ++ rest)) :=
   Apart.cons (Apart.app hA fun q hq => hC.off fun p hp => hr q (.tail _ hq) p (qL _ hp)) (hC.off fun p hp => hr _ (.head _) p (qL _ hp))
  refine store_C F6 N7 hC hA2 (i := 7) (by decide) rfl rfl fun h8 C' F8 N8 hC8 => ret h8 _ ex9 D zs k C' F8 N8 hC8 hr hD9
 ·rintro i zs nx hi3 ⟨ex9, rfl, hap9, hD9⟩;rw [sizeLine_eq, hD9.len, List.length_take];omega
end
end
section
section
local macro_rules | `(tactic| walk_at $s) => hz s ["call ref", "storeName"]
variable {Q : Flow -> Shared -> Prop}
theorem law_19 {r1 d4 : Addr} {ys1 : List Value} {k1 : Nat} {od4 : Obj} {ex4 : List (Addr × Obj)} {kvs4 : List (Int × Value)} {os : List Int} {succ : Int -> List Int} (F : Fr h! L s.heap m) (X : (Kq w.params).In h!) (T : Top p loose mean mg mb h!) (hC : Cells L cv C) (N : News h! L s.heap (C ++ rest)) (hA : Apart L rest)
  (hh : A.handled = none) (hd : A.depth <= 320) (hu : A.units <= 200) (h1 : cv 1 = some (.ref r1)) (hr1 : (r1, listOf ys1.toArray k1) ∈ rest) (hi1 : IntsAre ys1 os) (hos : os.length = 6)
  (h4 : cv 6 = some (.ref d4)) (hd4 : (d4, od4) ∈ rest) (hod4 : od4.IsDictOf (intKind PR w) kvs4) (hex4 : ∀ q ∈ ex4, q ∈ rest) (hD4 : DictIn IntsAre ex4 kvs4 os succ)
  (hcl : ∀ o ∈ os, ∀ x ∈ succ o, x ∈ os) (hol : ∀ o ∈ os, (succ o).length <= 20)
  (ret : ∀ h' tk' ex r zs k C', Fr h! L h' m -> News h! L h' (C' ++ ((r, listOf zs.toArray k) :: (ex ++ rest))) -> Cells L (setC cv 8 (.ref r)) C' -> (∀ q ∈ (r, listOf zs.toArray k) :: ex, ∀ p ∈ C ++ rest, p.1 ≠ q.1) -> FarIs ex zs os succ -> Q .next { s with heap := h', toks := tk' }) :
  wpAny (model PR w) A (exec (lst 19) (lenv L)) Q E s := by
 refine weakL hh hd hu ?_;apply byc; intro O;obtain ⟨o4, m4, d4c⟩ := cell_at hC 6 (by decide) h4;obtain ⟨o1, m1, d1⟩ := cell_at hC 1 (by decide) h1;apply O; clear O;have kL1 := IntsAre.length hi1;apply byc; intro O;obtain ⟨fix, hfix⟩ : ∃ fix, fix = [(L + 1 + 6, o4), (d4, od4), (L + 1 + 1, o1), (r1, listOf ys1.toArray k1)] := ⟨_, rfl⟩;apply O; clear O;have sub1 : ∀ q ∈ fix, q ∈ C ++ rest := fun q hq => by
  rw [hfix] at hq;rcases qC hq with rfl | hq
  ·exact qL _ m4
  rcases qC hq with rfl | hq
  ·exact qR _ hd4
  rcases qC hq with rfl | hq
  ·exact qL _ m1
  rw [qS hq];exact qR _ hr1
 have N1 : News h! L s.heap ([(L + 1 + 6, o4), (d4, od4), (L + 1 + 1, o1), (r1, listOf ys1.toArray k1)] ++ ([] ++ (C ++ rest))) := fun q hq => by
  rcases qA hq with hq | hq
  ·exact N q (sub1 q (hfix ▸ hq))
  ·exact N q hq
 simp only [List.cons_append, List.nil_append] at N1;refine cvS (by conv => lhs; whnf) ?_;k_steps;unfold Halt;rename Fr h! L _ _ => F2;rename News h! L _ ((_, o4) :: _) => N2;refine lc_list (items := ys1) rfl (fun i zs nx => ∃ ex, nx = [(L + 1 + 6, o4), (d4, od4), (L + 1 + 1, o1), (r1, listOf ys1.toArray k1)] ++ (ex ++ (C ++ rest)) /\ (∀ q ∈ ex, ∀ p ∈ C ++ rest, p.1 ≠ q.1) /\ FarIs ex zs (os.take i) succ) (fun i ys nx h => by
  apply byc; intro O;obtain ⟨ex9, e, -⟩ := h;apply O; clear O;rw [e]; exact .tail _ (.tail _ (.tail _ (.head _)))) (by decide) rfl rfl F2 X T N2 ⟨[], rfl, fun _ h => (nomatch h), .nil⟩ ?_ ?_ ?_
 ·intro g C9 E' i v zs nx own H tk9 u Xg Tg lC hi3 hv zp1 hoff F3 N3;apply byc; intro O;obtain ⟨ex9, rfl, hap9, hD9⟩ := zp1;apply O; clear O;refine lc_nil ?_;apply byc; intro O;obtain ⟨c, tc, rfl, hc⟩ := ints_at hi1 hv;apply O; clear O;have hcm := qG hc;simp only [List.cons_append, List.nil_append] at N3;clear F2 N2;k_steps;unfold Halt;rename Fr g C9 _ _ => F4;rename News g C9 _ _ => N4;refine (show wpAny _ _ (call (.ref 192) [.int c _, .ref d4]) _ _ _ from ?_);refine reach_K (objs := ex4) F4 Xg N4 Tg rfl (qB rfl) (qB rfl) (.tail _ (.head _)) hod4 (fun q hq => .tail _ (.tail _ (.tail _ (.tail _ (qL _ (qR _ (qR _ (hex4 q hq)))))))) hD4.at' hcl (Nat.le_of_eq hos) hol hcm fun r h5 tk5 ys5 k5 ns5 F5 N5 hne5 ext5 hi5 hl5 hy5 => ?_;clear F4 N4;k_steps;unfold Halt;rename Fr g C9 _ _ => F6;rename News g C9 _ _ => N6;have inR : ∀ q ∈ [(L + 1 + 6, o4), (d4, od4), (L + 1 + 1, o1), (r1, listOf ys1.toArray k1)] ++ (ex9 ++ (C ++ rest)) ++ own, q ∈ (L + 1 + 6, o4) :: (d4, od4) :: (L + 1 + 1, o1) :: (r1, listOf ys1.toArray k1) :: (ex9 ++ (C ++ rest) ++ own) := fun q hq => by simpa using hq
  refine LcEnd.intro ([(L + 1 + 6, o4), (d4, od4), (L + 1 + 1, o1), (r1, listOf ys1.toArray k1)] ++ (((r, listOf ys5.toArray k5) :: ex9) ++ (C ++ rest))) F6 N6 ?_ ?_ ?_ ⟨(r, listOf ys5.toArray k5) :: ex9, rfl, ?_, ?_⟩
  ·intro q hq;rcases qA hq with hq | hq
   ·exact .tail _ (inR q (qL _ (qL _ hq)))
   rcases qA hq with hq | hq
   ·rcases qC hq with rfl | hq
    ·exact .head _
    ·exact .tail _ (inR q (qL _ (qR _ (qL _ hq))))
   ·exact .tail _ (inR q (qL _ (qR _ (qR _ hq))))
  ·intro q hq;exact .tail _ (inR q (qR _ hq))
  ·intro q hq b hb e;apply byc; intro O;obtain ⟨z, hz, rfl⟩ := List.mem_map.mp hb;apply O; clear O;rcases qA hz with hz | hz
   ·exact hoff q hq z.1 (qM (f := (·.1)) (qL _ hz)) e
   rcases qA hz with hz | hz
   ·rcases qC hz with rfl | hz
    ·exact hne5 q (inR q (qR _ hq)) e
    ·exact hoff q hq z.1 (qM (f := (·.1)) (qR _ (qL _ hz))) e
   ·exact hoff q hq z.1 (qM (f := (·.1)) (qR _ (qR _ hz))) e
  ·intro q hq p hp e;rcases qC hq with rfl | hq
   ·exact hne5 p (inR p (qL _ (qR _ (qR _ hp)))) e
   ·exact hap9 q hq p hp e
  ·rw [take_snoc hc];exact hD9.snoc (fun q hq => .tail _ hq) (.head _) hi5 hl5 hy5
 ·intro D C9 zs nx H tk9 k u zp1 hne hlt hDC hC9 hLD hC0 hCn F4 N4;apply byc; intro O;obtain ⟨ex9, rfl, hap9, hD9⟩ := zp1;apply O; clear O;refine lc_fin hDC hC9 hLD hC0 hCn F4 N4 fun h5 F5 N5 => ?_;rw [kL1, List.take_of_length_le (Nat.le_refl _)] at hD9;clear F2 N2;k_steps;unfold Halt;rename News h! L _ _ => N6;rename Fr h! L _ _ => F6;have hr : ∀ q ∈ (D, listOf zs.toArray k) :: ex9, ∀ p ∈ C ++ rest, p.1 ≠ q.1 := fun q hq p hp => by
   rcases qC hq with rfl | hq
   ·exact hne p (qR _ (qR _ hp))
   ·exact hap9 q hq p hp
  have N7 : News h! L _ (C ++ ((D, listOf zs.toArray k) :: (ex9 ++ rest))) := fun q hq => N6 q (by
   rcases qA hq with h | h
   ·exact .tail _ (qR _ (qR _ (qL _ h)))
   rcases qC h with rfl | h
   ·exact .head _
   rcases qA h with h | h
   ·exact .tail _ (qR _ (qL _ h))
   ·exact .tail _ (qR _ (qR _ (qR _ h))))
  have hA2 : Apart L ((D, listOf zs.toArray k) :: (ex9 ++ rest)) :=
   Apart.cons (Apart.app hA fun q hq => hC.off fun p hp => hr q (.tail _ hq) p (qL _ hp)) (hC.off fun p hp => hr _ (.head _) p (qL _ hp))
  refine store_C F6 N7 hC hA2 (i := 8) (by decide) rfl rfl fun h8 C' F8 N8 hC8 => ret h8 _ ex9 D zs k C' F8 N8 hC8 hr hD9
 ·rintro i zs nx hi3 ⟨ex9, rfl, hap9, hD9⟩;rw [sizeLine_eq, hD9.len, List.length_take];omega
end
end
section
section
local macro_rules | `(tactic| walk_at $s) => hz s ["subscriptTail"]
variable {Q : Flow -> Shared -> Prop}
theorem in_T {prog : Program} {news : List (Addr × Obj)} {Q : Value -> Shared -> Prop} {D : Addr} {k : Int} {t : Tok} {vs : List Value} {ns : List Int} {n : Nat} (N : News h! L s.heap news) (hm : (D, listOf vs.toArray n) ∈ news) (hi : IntsAre vs ns) (hk : k ∈ ns) (h : Q (.bool true) s) :
  wpAny (model prog w) A (compareOp .In (.int k t) (.ref D)) Q E s := in_I N hm hi (by rw [decide_eq_true hk]; exact h)
theorem in_F {prog : Program} {news : List (Addr × Obj)} {Q : Value -> Shared -> Prop} {D : Addr} {k : Int} {t : Tok} {vs : List Value} {ns : List Int} {n : Nat} (N : News h! L s.heap news) (hm : (D, listOf vs.toArray n) ∈ news) (hi : IntsAre vs ns) (hk : ¬ k ∈ ns) (h : Q (.bool false) s) :
  wpAny (model prog w) A (compareOp .In (.int k t) (.ref D)) Q E s := in_I N hm hi (by rw [decide_eq_false hk]; exact h)
theorem ne_nilT {prog : Program} {Q : Value -> Shared -> Prop} {a b : Addr} {xs : List Value} (ha : s.heap.IsList a xs.toArray) (hb : s.heap.IsList b #[]) (hu : A.units < cLine) {b' : Bool} (hx : b' = decide (0 < xs.length)) (h : Q (.bool b') s) :
  wpAny (model prog w) A (compareOp .NotEq (.ref a) (.ref b)) Q E s := ne_nilL ha hb hu (by
 have e : (!decide (xs.length = 0)) = b' := by
  rw [hx];by_cases h0 : xs.length = 0
  ·rw [h0]; rfl
  ·rw [decide_eq_false h0, decide_eq_true (by omega)]; rfl
 rw [e]; exact h)
theorem octAt {os ms : List Int} {i : Nat} {c : Int} (hc : os[i]? = some c) (h : 255 - c ∈ ms) : 255 - os.getD ((i : Int)).toNat 0 ∈ ms := by
 have e : os.getD ((i : Int)).toNat 0 = c := by
  show os.getD i 0 = c;rw [List.getD_eq_getElem?_getD, hc]; rfl
 rw [e]; exact h
theorem octAt' {os ms : List Int} {i : Nat} {c : Int} (hc : os[i]? = some c) (h : 255 - os.getD ((i : Int)).toNat 0 ∈ ms) : 255 - c ∈ ms := by
 have e : os.getD ((i : Int)).toNat 0 = c := by
  show os.getD i 0 = c;rw [List.getD_eq_getElem?_getD, hc]; rfl
 rw [e] at h; exact h
local macro_rules | `(tactic| walk_at "z") => `(tactic| skip)
theorem law_20 {r1 rf rn : Addr} {ys1 zf zn : List Value} {k1 kf kn : Nat} {exf exn : List (Addr × Obj)} {os : List Int} {sf sn : Int -> List Int} (F : Fr h! L s.heap m) (X : (Kq w.params).In h!) (T : Top p loose mean mg mb h!) (hC : Cells L cv C) (N : News h! L s.heap (C ++ rest))
  (hh : A.handled = none) (hd : A.depth <= 320) (hu : A.units <= 200) (h1 : cv 1 = some (.ref r1)) (hr1 : (r1, listOf ys1.toArray k1) ∈ rest) (hi1 : IntsAre ys1 os) (hos : os.length = 6)
  (h7 : cv 7 = some (.ref rf)) (hrf : (rf, listOf zf.toArray kf) ∈ rest) (hxf : ∀ q ∈ exf, q ∈ rest) (hF : FarIs exf zf os sf)
  (h8 : cv 8 = some (.ref rn)) (hrn : (rn, listOf zn.toArray kn) ∈ rest) (hxn : ∀ q ∈ exn, q ∈ rest) (hG : FarIs exn zn os sn)
  (ret : ∀ h' tk' b, Fr h! L h' (fun y => if y = Str.ofString "broken" then some (.bool b) else m y) -> News h! L h' (C ++ rest) -> (b = true ↔ ∃ c ∈ os, RcI sf c (255 - c) /\ RcI sn c (255 - c)) -> Q .next { s with heap := h', toks := tk' }) :
  wpAny (model PR w) A (exec (lst 20) (lenv L)) Q E s := by
 refine weakL hh hd hu ?_;apply byc; intro O;obtain ⟨o1, m1, d1⟩ := cell_at hC 1 (by decide) h1;obtain ⟨o7, m7, d7⟩ := cell_at hC 7 (by decide) h7;obtain ⟨o8, m8, d8⟩ := cell_at hC 8 (by decide) h8;apply O; clear O;have kL1 := IntsAre.length hi1;have N1 : News h! L s.heap ([(L + 1 + 1, o1), (r1, listOf ys1.toArray k1), (L + 1 + 7, o7), (rf, listOf zf.toArray kf), (L + 1 + 8, o8), (rn, listOf zn.toArray kn)] ++ (C ++ rest)) := fun q hq => by
  rcases qA hq with hq | hq
  ·rcases qC hq with rfl | hq
   ·exact N _ (qL _ m1)
   rcases qC hq with rfl | hq
   ·exact N _ (qR _ hr1)
   rcases qC hq with rfl | hq
   ·exact N _ (qL _ m7)
   rcases qC hq with rfl | hq
   ·exact N _ (qR _ hrf)
   rcases qC hq with rfl | hq
   ·exact N _ (qL _ m8)
   rw [qS hq];exact N _ (qR _ hrn)
  ·exact N q hq
 simp only [List.cons_append, List.nil_append] at N1;refine cvS (by conv => lhs; whnf) ?_;k_steps;unfold Halt;rename IsRange _ _ _ _ _ _ _ _ => hr;rename Fr h! L _ _ => F2;rename News h! L _ ((_, o1) :: _) => N2;dsimp only at hr;refine lc_range (n := 6) rfl (fun i zs nx => nx = [(L + 1 + 1, o1), (r1, listOf ys1.toArray k1), (L + 1 + 7, o7), (rf, listOf zf.toArray kf), (L + 1 + 8, o8), (rn, listOf zn.toArray kn)] ++ (C ++ rest) /\ ∃ b : Bool, b = decide (0 < zs.length) /\ (b = true ↔ ∃ c ∈ os.take i, RcI sf c (255 - c) /\ RcI sn c (255 - c)) /\ zs.length <= i) hr rfl rfl (by decide) rfl rfl F2 X T N2 ⟨rfl, false, rfl, by simp, Nat.le_refl _⟩ ?_ ?_ ?_
 ·intro g C9 E' i t zs nx own H tk9 u Xg Tg lC hi6 zp1 hoff F4 N4;apply byc; intro O;obtain ⟨rfl, b, hb, hbb, hzl⟩ := zp1;apply O; clear O;refine lc_one ?_;have e0 : (0 : Int) + (i : Int) = (i : Int) := by omega
  rw [e0] at F4;apply byc; intro O;obtain ⟨v, hv⟩ : ∃ v, ys1[i]? = some v := ⟨_, List.getElem?_eq_getElem (by omega)⟩;obtain ⟨c, tc, rfl, hc⟩ := ints_at hi1 hv;obtain ⟨lf, vf, nf, msf, hvf, hmf, hif, hlf, hyf⟩ := hF.at' i c hc;obtain ⟨lg, vg, ng, msg, hvg, hmg, hig, hlg, hyg⟩ := hG.at' i c hc;apply O; clear O;have hib : (0 : Int) <= (i : Int) /\ (i : Int) < 6 := by omega
  have N5 : News g C9 H ((lf, listOf vf.toArray nf) :: (lg, listOf vg.toArray ng) :: ([(L + 1 + 1, o1), (r1, listOf ys1.toArray k1), (L + 1 + 7, o7), (rf, listOf zf.toArray kf), (L + 1 + 8, o8), (rn, listOf zn.toArray kn)] ++ (C ++ rest) ++ own)) := nC (N4 _ (qL _ (qR [(L + 1 + 1, o1), (r1, listOf ys1.toArray k1), (L + 1 + 7, o7), (rf, listOf zf.toArray kf), (L + 1 + 8, o8), (rn, listOf zn.toArray kn)] (qR _ (hxf _ hmf))))) (nC (N4 _ (qL _ (qR [(L + 1 + 1, o1), (r1, listOf ys1.toArray k1), (L + 1 + 7, o7), (rf, listOf zf.toArray kf), (L + 1 + 8, o8), (rn, listOf zn.toArray kn)] (qR _ (hxn _ hmg))))) (N4));simp only [List.cons_append, List.nil_append] at N5;clear F2 N2 hr N4;k_steps;unfold Halt;rename News g C9 _ _ => N7;refine item_L (isL N7 (by repeat first | exact List.Mem.head _ | apply List.Mem.tail)) hib.1 (by omega) (show zf[((i : Nat) : Int).toNat]? = _ from hvf) ?_;k_steps;unfold Halt;rename News g C9 _ _ => N8;by_cases hma : 255 - c ∈ msf
  ·refine in_T N8 (.head _) hif (octAt hc hma) ?_;have hRf := (hyf _).mp hma;clear hma;k_steps;unfold Halt;rename News g C9 _ _ => N9;refine item_L (isL N9 (by repeat first | exact List.Mem.head _ | apply List.Mem.tail)) hib.1 (by omega) (show zn[((i : Nat) : Int).toNat]? = _ from hvg) ?_;k_steps;unfold Halt;rename News g C9 _ _ => N11;by_cases hmb : 255 - c ∈ msg
   ·refine in_T N11 (.tail _ (.head _)) hig (octAt hc hmb) ?_;have hRg := (hyg _).mp hmb;clear hmb;k_steps;unfold Halt;rename News g C9 _ _ => N10;rename Fr g C9 _ _ => F10;refine LcEnd.intro ([(L + 1 + 1, o1), (r1, listOf ys1.toArray k1), (L + 1 + 7, o7), (rf, listOf zf.toArray kf), (L + 1 + 8, o8), (rn, listOf zn.toArray kn)] ++ (C ++ rest)) F10 N10 ?_ ?_ hoff ⟨rfl, true, ?_, ?_, ?_⟩
    ·exact fun q hq => .tail _ (.tail _ (qL _ hq))
    ·exact fun q hq => .tail _ (.tail _ (qR ([(L + 1 + 1, o1), (r1, listOf ys1.toArray k1), (L + 1 + 7, o7), (rf, listOf zf.toArray kf), (L + 1 + 8, o8), (rn, listOf zn.toArray kn)] ++ (C ++ rest)) hq))
    ·rw [decide_eq_true];rw [List.length_append];exact Nat.lt_of_lt_of_le (Nat.zero_lt_succ _) (Nat.le_add_left 1 _)
    ·rw [take_snoc hc];exact ⟨fun _ => ⟨c, qR _ (.head _), hRf, hRg⟩, fun _ => rfl⟩
    ·rw [List.length_append];exact Nat.succ_le_succ hzl
   ·refine in_F N11 (.tail _ (.head _)) hig (fun h => hmb (octAt' hc h)) ?_;have hRg : ¬ RcI sn c (255 - c) := fun h => hmb ((hyg _).mpr h);clear hmb;k_steps;unfold Halt;rename News g C9 _ _ => N10;rename Fr g C9 _ _ => F10;refine LcSkip.intro ([(L + 1 + 1, o1), (r1, listOf ys1.toArray k1), (L + 1 + 7, o7), (rf, listOf zf.toArray kf), (L + 1 + 8, o8), (rn, listOf zn.toArray kn)] ++ (C ++ rest)) F10 N10 ?_ ?_ hoff ⟨rfl, b, hb, ?_, Nat.le_succ_of_le hzl⟩
    ·exact fun q hq => .tail _ (.tail _ (qL _ hq))
    ·exact fun q hq => .tail _ (.tail _ (qR ([(L + 1 + 1, o1), (r1, listOf ys1.toArray k1), (L + 1 + 7, o7), (rf, listOf zf.toArray kf), (L + 1 + 8, o8), (rn, listOf zn.toArray kn)] ++ (C ++ rest)) hq))
    ·rw [take_snoc hc, hbb];constructor
     ·rintro ⟨x, hx, hr⟩;exact ⟨x, qL _ hx, hr⟩
     ·rintro ⟨x, hx, hr⟩;rcases qA hx with hx | hx
      ·exact ⟨x, hx, hr⟩
      ·rw [qS hx] at hr;exact absurd hr.2 hRg
  ·refine in_F N8 (.head _) hif (fun h => hma (octAt' hc h)) ?_;have hRf : ¬ RcI sf c (255 - c) := fun h => hma ((hyf _).mpr h);clear hma;k_steps;unfold Halt;rename News g C9 _ _ => N10;rename Fr g C9 _ _ => F10;refine LcSkip.intro ([(L + 1 + 1, o1), (r1, listOf ys1.toArray k1), (L + 1 + 7, o7), (rf, listOf zf.toArray kf), (L + 1 + 8, o8), (rn, listOf zn.toArray kn)] ++ (C ++ rest)) F10 N10 ?_ ?_ hoff ⟨rfl, b, hb, ?_, Nat.le_succ_of_le hzl⟩
   ·exact fun q hq => .tail _ (.tail _ (qL _ hq))
   ·exact fun q hq => .tail _ (.tail _ (qR ([(L + 1 + 1, o1), (r1, listOf ys1.toArray k1), (L + 1 + 7, o7), (rf, listOf zf.toArray kf), (L + 1 + 8, o8), (rn, listOf zn.toArray kn)] ++ (C ++ rest)) hq))
   ·rw [take_snoc hc, hbb];constructor
    ·rintro ⟨x, hx, hr⟩;exact ⟨x, qL _ hx, hr⟩
    ·rintro ⟨x, hx, hr⟩;rcases qA hx with hx | hx
     ·exact ⟨x, hx, hr⟩
     ·rw [qS hx] at hr;exact absurd hr.1 hRf
 ·intro D C9 zs nx H tk9 k u zp1 hne hlt hDC hC9 hLD hC0 hCn F4 N4;apply byc; intro O;obtain ⟨rfl, b, hb, hbb, hzl⟩ := zp1;apply O; clear O;refine lc_fin hDC hC9 hLD hC0 hCn F4 N4 fun h5 F5 N5 => ?_;clear F2 N2;rw [List.take_of_length_le (Nat.le_of_eq hos)] at hbb;k_steps;unfold Halt;rename News h! L _ _ => N6;refine ne_nilT (isL N6 (.tail _ (.head _))) (isL (n := 0) N6 (.head _)) (by decide) hb ?_;k_steps
  try unfold Halt
  rename News h! L _ _ => N7;rename Fr h! L _ _ => F7;exact ret _ _ b F7 (fun q hq => N7 q (.tail _ (.tail _ (qR _ hq)))) hbb
 ·rintro i zs nx hi3 ⟨_, b, hb, hbb, hzl⟩;rw [sizeLine_eq];omega
end
end
section
local macro_rules | `(tactic| walk_at $s) => hz s ["call ref", "call builtin:list.append"]
local macro_rules | `(tactic| walk_at "exec For Name Call cons nil") => `(tactic| (k_here; (with_reducible rename Fr .. => lF'); (with_unfolding_all refine' For_invTF lF' ?_ ?k2 ?k3; (case k2 => intro _; rfl); (case k3 => passes_own); k_whole)))
section
variable {Q : Value -> Shared -> Prop}
noncomputable def putG {β : Type} (sp : List (Str × β)) (k : Str) (v : β) : List (Str × β) := if sp.any (fun kv => kv.1 = k) then sp.map (fun kv => if kv.1 = k then (kv.1, v) else kv) else sp ++ [(k, v)]
noncomputable def lastOf (cs : List Int) : List (Str × Int) := cs.foldl (fun sp c => putG sp (cName c) c) []
theorem lastOf_snoc {cs : List Int} {i : Nat} {c : Int} (h : cs[i]? = some c) : lastOf (cs.take (i + 1)) = putG (lastOf (cs.take i)) (cName c) c := by
 rw [take_snoc h];simp [lastOf, List.foldl_append]
inductive KvR {β : Type} (R : Value -> β -> Prop) : List (Str × Value) -> List (Str × β) -> Prop
 | nil : KvR R [] []
 | cons {k : Str} {v : Value} {b : β} {kvs : List (Str × Value)} {sp : List (Str × β)} : R v b -> KvR R kvs sp -> KvR R ((k, v) :: kvs) ((k, b) :: sp)
theorem KvR.mono {β : Type} {R R' : Value -> β -> Prop} {kvs : List (Str × Value)} {sp : List (Str × β)} (h : KvR R kvs sp) (hr : ∀ v b, R v b -> R' v b) : KvR R' kvs sp := by
 induction h with
 | nil => exact .nil
 | cons h1 _ ih => exact .cons (hr _ _ h1) ih
theorem KvR.length {β : Type} {R : Value -> β -> Prop} {kvs : List (Str × Value)} {sp : List (Str × β)} (h : KvR R kvs sp) : kvs.length = sp.length := by
 induction h with
 | nil => rfl
 | cons _ _ ih => simp [ih]
theorem KvR.snoc {β : Type} {R : Value -> β -> Prop} {kvs : List (Str × Value)} {sp : List (Str × β)} {k : Str} {v : Value} {b : β} (h : KvR R kvs sp) (hv : R v b) : KvR R (kvs ++ [(k, v)]) (sp ++ [(k, b)]) := by
 induction h with
 | nil => exact .cons hv .nil
 | cons h1 _ ih => exact .cons h1 ih
theorem KvR.any {β : Type} {R : Value -> β -> Prop} {kvs : List (Str × Value)} {sp : List (Str × β)} (h : KvR R kvs sp) (k : Str) : kvs.any (fun kv => decide (kv.1 = k)) = sp.any (fun kv => decide (kv.1 = k)) := by
 induction h with
 | nil => rfl
 | cons _ _ ih => simp only [List.any_cons, ih]
theorem KvR.put {β : Type} {R : Value -> β -> Prop} {kvs : List (Str × Value)} {sp : List (Str × β)} {k : Str} {v : Value} {b : β} (h : KvR R kvs sp) (hv : R v b) : KvR R (stored kvs k v) (putG sp k b) := by
 unfold stored putG;rw [h.any k];by_cases hc : sp.any (fun kv => decide (kv.1 = k)) = true
 ·rw [if_pos hc, if_pos hc];clear hc
  induction h with
  | nil => exact .nil
  | @cons k' _ _ _ _ h1 _ ih =>
   simp only [List.map_cons];by_cases hk : k' = k
   ·rw [if_pos hk, if_pos hk]; exact .cons hv ih
   ·rw [if_neg hk, if_neg hk]; exact .cons h1 ih
 ·rw [if_neg hc, if_neg hc];exact h.snoc hv
theorem KvR.at' {β : Type} {R : Value -> β -> Prop} {kvs : List (Str × Value)} {sp : List (Str × β)} (h : KvR R kvs sp) {i : Nat} {k : Str} {v : Value} (e : kvs[i]? = some (k, v)) : ∃ b, sp[i]? = some (k, b) /\ R v b := by
 induction h generalizing i with
 | nil => simp at e
 | cons h1 _ ih =>
  cases i with
  | zero => simp at e; obtain ⟨rfl, rfl⟩ := e; exact ⟨_, rfl, h1⟩
  | succ i => simp at e; simpa using ih e
theorem stored_le {kvs : List (Str × Value)} {k : Str} {v : Value} : (stored kvs k v).length <= kvs.length + 1 := by
 unfold stored;split <;> simp
theorem cells2 {cm : Str -> Option Value} {n1 n2 : Str} {c1 c2 : Addr} {cells : List (Addr × Obj)} (x : CellsAre cm [(n1, c1), (n2, c2)] cells) :
  ∃ o1 o2, cells = [(c1, o1), (c2, o2)] /\ o1.data = .cell (cm n1) /\ o2.data = .cell (cm n2) := by
 cases x with
 | cons h1 x => cases x with
  | cons h2 x => cases x with
   | nil => exact ⟨_, _, rfl, h1, h2⟩
theorem valueAt_nodup {kvs : List (Str × Value)} (hn : (kvs.map (·.1)).Nodup) {j : Nat} {k : Str} {v : Value} (h : kvs[j]? = some (k, v)) : valueAt kvs k = some v := by
 induction kvs generalizing j with
 | nil => simp at h
 | cons a r ih =>
  obtain ⟨a1, a2⟩ := a;simp only [List.map_cons, List.nodup_cons] at hn;unfold valueAt;cases j with
  | zero =>
   simp at h;obtain ⟨rfl, rfl⟩ := h;simp
  | succ j =>
   simp at h;have hne : a1 ≠ k := fun e => hn.1 (e ▸ qM (f := (·.1)) (qG h));rw [List.find?_cons_of_neg (by simpa using hne)];exact ih hn.2 h
theorem litB_side (i : Nat) (c : Int) : (c / 5 % 6).toNat < 6 /\ ((c / 5 % 6).toNat : Int) = c / 5 % 6 /\ (c / 30 % 6).toNat < 6 /\ ((c / 30 % 6).toNat : Int) = c / 30 % 6 := by
 have h1 := Int.emod_nonneg (c / 5) (show (6 : Int) ≠ 0 by decide);have h2 := Int.emod_lt_of_pos (c / 5) (show (0 : Int) < 6 by decide);have h3 := Int.emod_nonneg (c / 30) (show (6 : Int) ≠ 0 by decide);have h4 := Int.emod_lt_of_pos (c / 30) (show (0 : Int) < 6 by decide);exact ⟨(Int.toNat_lt h1).mpr h2, Int.toNat_of_nonneg h1, (Int.toNat_lt h3).mpr h4, Int.toNat_of_nonneg h3⟩
theorem all_news {h : Heap} (F : Fr h! L h m) (ex : List Addr) : ∃ ow, News h! L h ow /\ (∀ p ∈ ow, p.1 ∉ ex) /\ ∀ b o, b ≠ L -> b ∉ ex -> h!.get? b = none -> h.get? b = some o -> (b, o) ∈ ow := by
 have hLo : L ∉ (List.range h.objs.size).filter fun b => decide (b ≠ L /\ b ∉ ex) := fun hm => by
  have := (List.mem_filter.mp hm).2;simp at this
 refine ⟨_, news_ownOf (h₀ := h!) (h := h) hLo, fun p hp => ?_, fun b o hb hx h0 e => mem_ownOf (List.mem_filter.mpr ⟨List.mem_range.mpr (Heap.lt_size e), decide_eq_true ⟨hb, hx⟩⟩) h0 e⟩;have := (List.mem_filter.mp (ownOf_sub p hp)).2;exact (of_decide_eq_true this).2
theorem all_fresh {h : Heap} {ow : List (Addr × Obj)} {r : Addr} {ex : List Addr} (hin : ∀ b o, b ≠ L -> b ∉ ex -> h!.get? b = none -> h.get? b = some o -> (b, o) ∈ ow) (l1 : ∀ p ∈ ow, p.1 < r) (hx : r ∉ ex) (hr : r ≠ L /\ h!.get? r = none) : h.get? r = none := by
 cases z : h.get? r with
 | none => rfl
 | some o => exact absurd (l1 _ (hin r o hr.1 hx hr.2 z)) (Nat.lt_irrefl _)
def SideR (objs : List (Addr × Obj)) (v : Value) (c : Int) : Prop := ∃ l t1 t2 n, v = .ref l /\ (l, listOf #[.int (c / 5 % 6) t1, .int (c / 30 % 6) t2] n) ∈ objs
noncomputable def sidesOf (c : Int) : Nat × Nat := ((c / 5 % 6).toNat, (c / 30 % 6).toNat)
noncomputable def clausesOf (cs : List Int) : List (Nat × Nat) := (lastOf (cs.take 6)).map fun q => sidesOf q.2
noncomputable def rightB (cl : List (Nat × Nat)) (c : Nat) : Bool := cl.all fun q => litB c q.1 || litB c q.2
noncomputable def rightL (cl : List (Nat × Nat)) : List Nat := (List.range 8).filter (rightB cl)
local macro_rules | `(tactic| walk_at "z") => `(tactic| skip)
theorem right_K {l : Addr} {vs : List Value} {cs : List Int} {nn : Nat} (F : Fr h! L s.heap m) (X : (Kq w.params).In h!) (N : News h! L s.heap news) (T : Top p loose mean mg mb h!)
  (hh : A.handled = none) (hd : A.depth <= 330) (hu : A.units <= 300)
  (hl : (l, listOf vs.toArray nn) ∈ news) (hvs : IntsAre vs cs) (hcs : cs.length = 7) (hcb : ∀ c ∈ cs, 0 <= c /\ c < 2 ^ 40)
  (ret : ∀ r h' tk' ys k, Fr h! L h' m -> News h! L h' ((r, listOf ys.toArray k) :: news) -> (∀ p ∈ news, p.1 ≠ r) -> (∀ b o, s.heap.get? b = some o -> h'.get? b = some o) -> IntsAre ys ((rightL (clausesOf cs)).map fun (c : Nat) => (c : Int)) -> Q (.ref r) { s with heap := h', toks := tk' }) :
  wpAny (model PR w) A (call (.ref 204) [.ref l]) Q E s := by
 refine weak (A' := AL 1) hh hd hu rfl rfl ?_
 k_dflt (refine' enterC (news := [(l, listOf vs.toArray nn)]) (binds := [(Str.ofString "cells", Value.ref l)]) F.keep (fun p h => by rw [qS h]; exact ⟨(N _ hl).1, (N _ hl).2.2⟩) X T ?k6 ?k7 ?k8 ?k9 ?kB ?kD ?_ ?c2 ?c3 ?c4)
 case k6 => k_is
 case k7 => k_is
 case k8 => decide
 case k9 => exact BindsTo.of_eq rfl
 case kB => exact rfl
 case kD => decide +kernel
 case c2 => exact rfl
 case c3 => exact rfl
 case c4 => exact rfl
 clear X T;intro g' L' h' gz dz tk' oz Rz hR cells X' T' F' N' Y' l1;apply byc; intro O;obtain ⟨o1, o2, rfl, d1, d2⟩ := cells2 Y';apply O; clear O;clear Y';have l2 : @LT.lt Nat instLTNat l L' := l1 _ (.head _);simp only [List.cons_append, List.nil_append] at N';have kL1 := IntsAre.length hvs
 try dsimp only
 k_steps;unfold Halt;rename_i dd ha od hlo hs1 f1 f2 f3 ltd hb oc1 dcl _ _ D1 ws hc F9 N9 hsl hsn hsl2 ltD;clear f1 f2 f3;have kL2 := IntsAre.length hsl
 with_unfolding_all refine' st_growList (σ := Obj × List (Str × Value) × List (Addr × Obj)) (l := D1) (vs := ws) (nn := 0) (fun c => (D1, listOf ws.toArray 0) :: (dd, c.1) :: (L' + 1 + 1, o1) :: (L' + 1, oc1) :: (l, listOf vs.toArray nn) :: c.2.2) (fun _ => []) (fun c => c.1.IsDictOf (strKind PR w) c.2.1) [Str.ofString "name", Str.ofString "first", Str.ofString "second"] (fun i c => KvR (SideR c.2.2) c.2.1 (lastOf ((cs.take 6).take i)) /\ c.2.1.length <= i /\ ∀ p ∈ c.2.2, D1 < p.1) (od, [], []) (by rfl) (fun c => .head _) F9 N9 hs1 (fun _ h => nomatch h) ⟨.nil, Nat.zero_le _, fun _ h => nomatch h⟩ ?_ ?_
 ·refine unc3 ?_;intro od2 kvs objs i v u h2 tk2 own hi hv hoff hfa zp1 F2 N2;apply byc; intro O;obtain ⟨hP, hP2, hP3⟩ := zp1;apply O; clear O;dsimp only [kstB] at F2 N2 hfa hP hP2 hP3 hoff;simp only [List.cons_append] at N2;apply byc; intro O;obtain ⟨c, tc, rfl, hc⟩ := ints_at hsl hv;apply O; clear O;have hcm : c ∈ cs := List.mem_of_mem_take (qG hc);obtain ⟨hc0, hc1⟩ := hcb c hcm;have kMark : KstMark := kstMark;clear F9 N9;apply byc; intro O;obtain ⟨ow, No, hox, hino⟩ := all_news F2 [dd];apply O; clear O;have hm6 : (cs.take 6).length <= 6 := by rw [List.length_take]; omega
  have N3 : News g' L' h2 ((D1, listOf ws.toArray 0) :: (dd, od2) :: (L' + 1 + 1, o1) :: (L' + 1, oc1) :: (l, listOf vs.toArray nn) :: (objs ++ (own ++ ow))) := fun q hq => by
   rcases qA (show q ∈ ((D1, listOf ws.toArray 0) :: (dd, od2) :: (L' + 1 + 1, o1) :: (L' + 1, oc1) :: (l, listOf vs.toArray nn) :: (objs ++ own)) ++ ow from by simpa using hq) with h | h
   ·exact N2 q h
   ·exact No q h
  clear N2;k_steps;unfold Halt
  k_here
  rename Fr .. => F8;rename News .. => N8;refine clause_K F8 X' N8 T' rfl (qB rfl) (qB rfl) hc0 hc1 fun r h9 tk9 t1 t2 t3 F9 N9 hr9 ext9 => ?_;clear F8 N8;k_steps;unfold Halt;rename_i nl hn8 F8 N8 ltn;refine kda_set (knd := PySem.strKind _ _) F8 N8 (UpdF.tail (Nat.ne_of_gt ltn.2.2.1) (UpdF.tail ?Ur (UpdF.tail (Nat.ne_of_gt ltD.1) (UpdF.head ?Ut)))) hfa (strKind_is _ _ _ _) ?Uz fun h7 o7 F7 N7 hd7 => ?_
  case Ur => exact Ne.symm (hr9 (dd, od2) (.tail _ (.head _)))
  case Uz => rw [sizeLine_eq]; have := hsn; omega
  case Ut =>
   refine List.forall_mem_cons.mpr ⟨Nat.ne_of_lt ltd.1, List.forall_mem_cons.mpr ⟨Nat.ne_of_lt ltd.2.1, List.forall_mem_cons.mpr ⟨Nat.ne_of_lt ltd.2.2, fun p hp => ?_⟩⟩⟩;rcases qA hp with hp | hp
   ·exact Nat.ne_of_gt (Nat.lt_trans ltD.1 (hP3 p hp))
   rcases qA hp with hp | hp
   ·exact hoff p hp _ (.tail _ (.head _))
   ·exact fun e => hox p hp (e ▸ .head _)
  try dsimp only at N7
  have fn : h2.get? nl = none := all_fresh hino (fun p hp => kst_ltOf ltn.2.2.2.2.2.2 p (qR _ (qR _ hp))) (fun hm => Nat.ne_of_gt ltn.2.2.1 (qS hm)) (N7 _ (.head _)).2;k_steps;unfold Halt;rename Fr .. => F6;rename News .. => N6;show GrowEnd _ _ _ _ _ _ _;refine gr_end (o7, stored kvs (cName c) (.ref nl), (nl, listOf #[.int (c / 5 % 6) t2, .int (c / 30 % 6) t3] 0) :: objs) F6 N6 (fun p hp => ?_) (fun p hp => ?_) (fun p hp => ?_) hd7 (fun _ h => nomatch h) (by kst_same) ⟨?_, ?_, ?_⟩
  ·rcases qC hp with rfl | hp
   ·exact .tail _ (.tail _ (.head _))
   rcases qC hp with rfl | hp
   ·exact .tail _ (.tail _ (.tail _ (.head _)))
   rcases qC hp with rfl | hp
   ·exact .tail _ (.tail _ (.tail _ (.tail _ (.head _))))
   rcases qC hp with rfl | hp
   ·exact .tail _ (.tail _ (.tail _ (.tail _ (.tail _ (.head _)))))
   rcases qC hp with rfl | hp
   ·exact .tail _ (.tail _ (.tail _ (.tail _ (.tail _ (.tail _ (.head _))))))
   rcases qC hp with rfl | hp
   ·exact .head _
   ·exact .tail _ (.tail _ (.tail _ (.tail _ (.tail _ (.tail _ (.tail _ (qL _ hp)))))))
  ·exact .tail _ (.tail _ (.tail _ (.tail _ (.tail _ (.tail _ (.tail _ (qR _ (qL _ hp))))))))
  ·rcases qC hp with rfl | hp
   ·exact .inl (.head _)
   rcases qC hp with rfl | hp
   ·exact .inl (.tail _ (.head _))
   rcases qC hp with rfl | hp
   ·exact .inl (.tail _ (.tail _ (.head _)))
   rcases qC hp with rfl | hp
   ·exact .inl (.tail _ (.tail _ (.tail _ (.head _))))
   rcases qC hp with rfl | hp
   ·exact .inl (.tail _ (.tail _ (.tail _ (.tail _ (.head _)))))
   rcases qC hp with rfl | hp
   ·exact .inr fn
   ·exact .inl (qM (f := (·.1)) (.tail _ (.tail _ (.tail _ (.tail _ (.tail _ hp))))))
  ·rw [lastOf_snoc hc];exact (hP.mono fun v b ⟨l9, a1, a2, n9, e1, e2⟩ => ⟨l9, a1, a2, n9, e1, .tail _ e2⟩).put ⟨nl, _, _, _, rfl, .head _⟩
  ·exact Nat.le_trans stored_le (Nat.succ_le_succ hP2)
  ·intro p hp;rcases qC hp with rfl | hp
   ·exact ltn.2.1
   ·exact hP3 p hp
 ·refine unc3 ?_;intro od2 kvs objs u h2 tk2 hfa zp1 F2 N2;apply byc; intro O;obtain ⟨hP, hP2, hP3⟩ := zp1;apply O; clear O;dsimp only [kstB] at F2 N2 hfa hP hP2 hP3;rw [kL2, List.take_length] at hP;have hk6 : kvs.length <= 6 := by rw [kL2, List.length_take] at hP2; omega
  clear F9 N9;k_steps;unfold Halt;rename_i rr hA1 FA NA ltr hA2 FB NB _ _ hA3 tk3 rt1 rt2 rt3 hr F9 N9 hext;clear FA NA FB NB hext;dsimp only at hr F9 N9;have N9 : News g' L' _ ((rr, listOf ([] : List Value).toArray 0) :: (L' + 1 + 1, o1) :: (D1, listOf ws.toArray 0) :: (dd, od2) :: (L' + 1, oc1) :: (l, listOf vs.toArray nn) :: objs) := nC (N9 _ (by repeat first | exact List.Mem.head _ | apply List.Mem.tail)) (nC (N9 _ (by repeat first | exact List.Mem.head _ | apply List.Mem.tail)) (nC (N9 _ (by repeat first | exact List.Mem.head _ | apply List.Mem.tail)) (nC (N9 _ (by repeat first | exact List.Mem.head _ | apply List.Mem.tail)) (nC (N9 _ (by repeat first | exact List.Mem.head _ | apply List.Mem.tail)) (nC (N9 _ (by repeat first | exact List.Mem.head _ | apply List.Mem.tail)) (fun q hq => N9 q (by repeat first | exact hq | apply List.Mem.tail)))))));have c2n : ∀ p ∈ (D1, listOf ws.toArray 0) :: (dd, od2) :: (L' + 1, oc1) :: (l, listOf vs.toArray nn) :: objs, p.1 ≠ L' + 1 + 1 := by
   refine List.forall_mem_cons.mpr ⟨Nat.ne_of_gt ltD.2.1, List.forall_mem_cons.mpr ⟨Nat.ne_of_gt ltd.1, List.forall_mem_cons.mpr ⟨Nat.ne_of_lt (Nat.lt_succ_self _), List.forall_mem_cons.mpr ⟨Nat.ne_of_lt (Nat.lt_succ_of_lt (Nat.lt_succ_of_lt l2)), fun p hp => ?_⟩⟩⟩⟩
   ·exact Nat.ne_of_gt (Nat.lt_trans ltD.2.1 (hP3 p hp))
  apply byc; intro O;obtain ⟨cl, hcl⟩ : ∃ cl, cl = clausesOf cs := ⟨_, rfl⟩;apply O; clear O;rw [<- hcl] at ret;refine st_rangeT (x := Str.ofString "choice") (σ := List Value × Nat × Obj) (n := 8) (fun c => (rr, listOf c.1.toArray c.2.1) :: (L' + 1 + 1, c.2.2) :: (D1, listOf ws.toArray 0) :: (dd, od2) :: (L' + 1, oc1) :: (l, listOf vs.toArray nn) :: objs) (fun _ => []) (fun c => ∃ v0, c.2.2.data = .cell v0) [] (fun i c => IntsAre c.1 (((List.range i).filter (rightB cl)).map fun (n : Nat) => (n : Int))) ([], 0, o1) rfl hr rfl (by decide) F9 N9 ⟨_, d1⟩ (fun _ h => nomatch h) .nil ?_ ?_
  ·refine unc3 ?_;intro ys kk oc i t u3;refine uncS ?_;intro h3 G3 dr3 tk4 os3 own hi hoff zp1 hP4 F2 N2;apply byc; intro O;obtain ⟨v0, hv0⟩ := zp1;apply O; clear O;dsimp only [kstB] at F2 N2 hP4 hv0 hoff;simp only [List.cons_append] at N2;clear F9 N9 hr;k_steps;rename Fr _ _ h3 _ => F3;rename News _ _ h3 _ => N3
   with_unfolding_all refine' storeX_C F3 N3 ?kc (UpdF.tail ?kr (UpdF.head ?kt)) hv0 (fun h5 oc5 F5 N5 hv5 => ?_) ?ka ?kb
   case ka => rfl
   case kb => rfl
   case kc => rfl
   case kr => exact Nat.ne_of_gt ltr.2.2.1
   case kt =>
    intro p hp;rcases qA (show p ∈ ((D1, listOf ws.toArray 0) :: (dd, od2) :: (L' + 1, oc1) :: (l, listOf vs.toArray nn) :: objs) ++ own from by simpa using hp) with hp | hp
    ·exact c2n p hp
    ·exact hoff p hp _ (.tail _ (.head _))
   try dsimp only at N5
   clear F3 N3;k_steps;unfold Halt;rename Fr _ _ h5 _ => F5;rename News _ _ h5 _ => N5;refine lc_keys (knd := strKind PR w) rfl (fun j zs nx => nx = ((rr, listOf ys.toArray kk) :: (L' + 1 + 1, oc5) :: (D1, listOf ws.toArray 0) :: (dd, od2) :: (L' + 1, oc1) :: (l, listOf vs.toArray nn) :: (objs ++ own)) /\ (decide (zs.length = 0) = ((lastOf (cs.take 6)).take j).all fun q => litB i (sidesOf q.2).1 || litB i (sidesOf q.2).2) /\ zs.length <= j) (fun j zs nx h => by rw [h.1]; exact .tail _ (.tail _ (.tail _ (.head _)))) hfa hlo (by decide) rfl rfl F5 X' T' N5 ⟨rfl, rfl, Nat.zero_le _⟩ ?_ ?_ ?_
   ·intro g C E' j v zs nx own2 H tk5 u5 Xg Tg lC hj zp1 zp2 hoff2 F6 N6;apply byc; intro O;obtain ⟨kk9, xv, hkv, hkk⟩ := zp1;obtain ⟨rfl, hz1, hz2⟩ := zp2;apply O; clear O;refine lc_one ?_;clear N5 F5;k_steps;rename Fr g C _ _ => F7;rename News g C _ _ => N7;apply byc; intro O;obtain ⟨c, hqj, l9, a1, a2, n9, rfl, hl9⟩ := hP.at' hkv;apply O; clear O;have hnd : (kvs.map (·.1)).Nodup := hfa.choose_spec.choose_spec.2.2.2.2;refine kda_item (knd := strKind PR w) N7 (.tail _ (.tail _ (.tail _ (.head _)))) hfa hkk (valueAt_nodup hnd hkv) ?_;k_steps;unfold Halt;apply byc; intro O;obtain ⟨hs1, hs2, hs3, hs4⟩ := litB_side i c;apply O; clear O;rw [<- hs2, <- hs4] at hl9;rename Fr g C _ _ => F7;rename News g C _ _ => N7;have m9 : (l9, listOf [Value.int ((c / 5 % 6).toNat : Int) a1, Value.int ((c / 30 % 6).toNat : Int) a2].toArray n9) ∈ ((rr, listOf ys.toArray kk) :: (L' + 1 + 1, oc5) :: (D1, listOf ws.toArray 0) :: (dd, od2) :: (L' + 1, oc1) :: (l, listOf vs.toArray nn) :: (objs ++ own)) ++ own2 :=
     qL _ (.tail _ (.tail _ (.tail _ (.tail _ (.tail _ (.tail _ (qL _ hl9)))))))
    apply byc; intro O;obtain ⟨nx7, hnx7⟩ : ∃ nx7, nx7 = ((rr, listOf ys.toArray kk) :: (L' + 1 + 1, oc5) :: (D1, listOf ws.toArray 0) :: (dd, od2) :: (L' + 1, oc1) :: (l, listOf vs.toArray nn) :: (objs ++ own)) ++ own2 := ⟨_, rfl⟩;apply O; clear O;have hn2 : (L' + 1 + 1, oc5) ∈ nx7 := hnx7 ▸ qL _ (.tail _ (.head _));rw [<- hnx7] at N7 m9;refine lc_list (items := [Value.int ((c / 5 % 6).toNat : Int) a1, Value.int ((c / 30 % 6).toNat : Int) a2]) rfl (fun j2 zs2 nx => nx = nx7 /\ (decide (zs2.length = 0) = ([(sidesOf c).1, (sidesOf c).2].take j2).all fun q => !litB i q) /\ zs2.length <= j2) (fun j2 zs2 nx h => by rw [h.1]; exact m9) (by decide) rfl rfl F7 Xg Tg N7 ⟨rfl, rfl, Nat.zero_le _⟩ ?_ ?_ ?_
    ·intro g2 C2 E2 j2 v2 zs2 nx2 own3 H2 tk6 u6 Xg2 Tg2 lC2 hj2 hv2 zp1 hoff3 F8 N8;apply byc; intro O;obtain ⟨rfl, hy1, hy2⟩ := zp1;apply O; clear O;refine lc_one ?_;apply byc; intro O;obtain ⟨lt, tlt, rfl, hlt⟩ : ∃ (lt : Nat) (tlt : Tok), v2 = .int (lt : Int) tlt /\ lt < 6 /\ [(sidesOf c).1, (sidesOf c).2][j2]? = some lt := by
      match j2, hj2, hv2 with
      | 0, _, h => exact ⟨_, _, (by simpa using h.symm), hs1, rfl⟩
      | 1, _, h => exact ⟨_, _, (by simpa using h.symm), hs3, rfl⟩
     apply O; clear O;have N9 : News g2 C2 H2 ((L' + 1 + 1, oc5) :: (nx2 ++ own3)) := nC (N8 _ (qL _ hn2)) (N8);clear N8 F7 N7;k_steps;unfold Halt;rename Fr g2 C2 _ _ => F9;rename News g2 C2 _ _ => N9;refine holds_K F9 Xg2 N9 Tg2 rfl (qB rfl) (qB rfl) hi hlt.1 fun h9 tk9 F10 N10 ext10 => ?_;clear F9 N9;cases hb : litB i lt with
     | true =>
      k_steps;unfold Halt;rename Fr g2 C2 _ _ => F9;rename News g2 C2 _ _ => N9;refine LcEnd.intro nx2 F9 N9 (fun p hp => .tail _ (qL _ hp)) (fun p hp => .tail _ (qR _ hp)) hoff3 ⟨rfl, ?_, by simp; omega⟩;rw [take_snoc hlt.2, List.all_append];simp [hb]
     | false =>
      k_steps;unfold Halt;rename Fr g2 C2 _ _ => F9;rename News g2 C2 _ _ => N9;refine LcSkip.intro nx2 F9 N9 (fun p hp => .tail _ (qL _ hp)) (fun p hp => .tail _ (qR _ hp)) hoff3 ⟨rfl, ?_, by omega⟩;rw [take_snoc hlt.2, List.all_append, hy1];simp [hb]
    ·intro D2 C2 zs2 nx2 H2 tk6 k6 u6 zp1 hne2 hlt2 hDC2 hC2 hL2 hC02 hCn2 F8 N8;apply byc; intro O;obtain ⟨rfl, hy1, hy2⟩ := zp1;apply O; clear O;refine lc_fin hDC2 hC2 hL2 hC02 hCn2 F8 N8 fun h9 F9 N9 => ?_;clear F8 N8 F7 N7;k_steps;unfold Halt;rename Fr g C _ _ => F8;rename News g C _ _ => N8;refine eq_nilL (isL N8 (.tail _ (.head _))) (isL (xs := []) N8 (.head _)) (Nat.lt_of_lt_of_le (Nat.lt_succ_self _) (qB rfl)) ?_;have hsd : decide (zs2.length = 0) = !(litB i (sidesOf c).1 || litB i (sidesOf c).2) := by
      rw [hy1];simp
     have hmm : ∀ p ∈ ((rr, listOf ys.toArray kk) :: (L' + 1 + 1, oc5) :: (D1, listOf ws.toArray 0) :: (dd, od2) :: (L' + 1, oc1) :: (l, listOf vs.toArray nn) :: (objs ++ own)), p ∈ nx2 := fun p hp => hnx7 ▸ qL _ hp;have hoo : ∀ p ∈ own2, p ∈ nx2 := fun p hp => hnx7 ▸ qR _ hp;cases hb : litB i (sidesOf c).1 || litB i (sidesOf c).2 with
     | false =>
      rw [hsd, hb, Bool.not_false];k_steps;unfold Halt;rename Fr g C _ _ => F9;rename News g C _ _ => N9;refine LcEnd.intro _ F9 N9 (fun p hp => .tail _ (.tail _ (hmm p hp))) (fun p hp => .tail _ (.tail _ (hoo p hp))) hoff2 ⟨rfl, ?_, by simp; omega⟩;rw [take_snoc hqj, List.all_append];simp [hb]
     | true =>
      rw [hsd, hb, Bool.not_true];k_steps;unfold Halt;rename Fr g C _ _ => F9;rename News g C _ _ => N9;refine LcSkip.intro _ F9 N9 (fun p hp => .tail _ (.tail _ (hmm p hp))) (fun p hp => .tail _ (.tail _ (hoo p hp))) hoff2 ⟨rfl, ?_, by omega⟩;rw [take_snoc hqj, List.all_append, hz1];simp [hb]
    ·intro j2 zs2 nx hj2 h;rw [sizeLine_eq];have := h.2.2;simp at hj2;omega
   ·intro D2 C2 zs2 nx2 H2 tk6 k6 u6 zp1 hne2 hlt2 hDC2 hC2 hL2 hC02 hCn2 F8 N8;apply byc; intro O;obtain ⟨rfl, hz1, hz2⟩ := zp1;apply O; clear O;refine lc_fin hDC2 hC2 hL2 hC02 hCn2 F8 N8 fun h9 F9 N9 => ?_;clear F8 N8 N5 F5;have hlk : kvs.length = (lastOf (cs.take 6)).length := hP.length;rw [hlk, List.take_length] at hz1;have hrb : decide (zs2.length = 0) = rightB cl i := by
     rw [hz1, hcl];unfold rightB clausesOf;rw [List.all_map];rfl
    k_steps;unfold Halt;rename Fr g' L' _ _ => F8;rename News g' L' _ _ => N8;refine eq_nilL (isL N8 (.tail _ (.head _))) (isL (xs := []) N8 (.head _)) (Nat.lt_of_lt_of_le (Nat.lt_succ_self _) (qB rfl)) ?_;cases hb : rightB cl i with
    | false =>
     rw [hrb, hb];k_steps;unfold Halt;rename Fr g' L' _ _ => F9;rename News g' L' _ _ => N9;refine (show InvEndN _ _ _ _ _ _ _ from st_end (ys, kk, oc5) F9 N9 (fun p hp => ?_) (fun p hp => ?_) rfl ⟨_, hv5⟩ (fun _ h => nomatch h) (by kst_same) ?_)
     ·exact .tail _ (.tail _ (qL own hp))
     ·exact .tail _ (.tail _ (.tail _ (.tail _ (.tail _ (.tail _ (.tail _ (.tail _ (qR _ hp))))))))
     ·rw [List.range_succ, List.filter_append];simp [hb, hP4]
    | true =>
     rw [hrb, hb];k_steps;unfold Halt;rename Fr g' L' _ _ => F9;rename News g' L' _ _ => N9;rename_i lz hz9 ltz;have lD2 : rr < D2 := hlt2 _ (.head _);have N10 : News g' L' _ ((rr, listOf ys.toArray kk) :: (lz, listOf ([] : List Value).toArray 0) :: (D2, listOf zs2.toArray k6) :: (L' + 1 + 1, oc5) :: (D1, listOf ws.toArray 0) :: (dd, od2) :: (L' + 1, oc1) :: (l, listOf vs.toArray nn) :: (objs ++ own)) := nC (N9 _ (by repeat first | exact List.Mem.head _ | apply List.Mem.tail)) (nC (N9 _ (by repeat first | exact List.Mem.head _ | apply List.Mem.tail)) (nC (N9 _ (by repeat first | exact List.Mem.head _ | apply List.Mem.tail)) (nC (N9 _ (by repeat first | exact List.Mem.head _ | apply List.Mem.tail)) (nC (N9 _ (by repeat first | exact List.Mem.head _ | apply List.Mem.tail)) (nC (N9 _ (by repeat first | exact List.Mem.head _ | apply List.Mem.tail)) (nC (N9 _ (by repeat first | exact List.Mem.head _ | apply List.Mem.tail)) (nC (N9 _ (by repeat first | exact List.Mem.head _ | apply List.Mem.tail)) (fun q hq => N9 q (by repeat first | exact hq | apply List.Mem.tail)))))))));clear N9;have klen := IntsAre.length hP4;have kl8 : ys.length <= 8 := by
      rw [klen, List.length_map];refine Nat.le_trans (List.length_filter_le _ _) ?_;rw [List.length_range]; omega
     refine append_head F9 N10 (fun p hp => ?_) (fun h9 F10 N11 => ?_) ?_
     ·rcases qC hp with rfl | hp
      ·exact Nat.ne_of_gt ltz.2.1
      rcases qC hp with rfl | hp
      ·exact Nat.ne_of_gt lD2
      rcases qC hp with rfl | hp
      ·exact Nat.ne_of_lt ltr.2.2.1
      rcases qC hp with rfl | hp
      ·exact Nat.ne_of_lt ltr.1
      rcases qC hp with rfl | hp
      ·exact Nat.ne_of_lt ltr.2.1
      rcases qC hp with rfl | hp
      ·exact Nat.ne_of_lt ltr.2.2.2.1
      rcases qC hp with rfl | hp
      ·exact Nat.ne_of_lt ltr.2.2.2.2.1
      rcases qA hp with hp | hp
      ·exact Nat.ne_of_lt (kst_ltOf ltr.2.2.2.2.2 p hp)
      ·exact hoff p hp _ (.head _)
     ·clear F9 N10;simp only [List.push_toArray] at N11;k_steps;unfold Halt;rename Fr g' L' _ _ => F9;rename News g' L' _ _ => N9;refine (show InvEndN _ _ _ _ _ _ _ from st_end (ys ++ [Value.int (i : Int) t], kk + 1, oc5) F9 N9 (fun p hp => ?_) (fun p hp => ?_) rfl ⟨_, hv5⟩ (fun _ h => nomatch h) (by kst_same) ?_)
      ·rcases qC hp with rfl | hp
       ·exact .head _
       ·exact .tail _ (.tail _ (.tail _ (qL own hp)))
      ·exact .tail _ (.tail _ (.tail _ (.tail _ (.tail _ (.tail _ (.tail _ (.tail _ (qR _ hp))))))))
      ·rw [List.range_succ, List.filter_append, List.map_append];simp only [List.filter_cons, hb, if_true, List.filter_nil, List.map_cons, List.map_nil];exact IntsAre.append hP4 (.cons _ _ .nil)
     ·rw [sizeLine_eq, List.size_toArray]; omega
   ·intro j2 zs2 nx hj2 h;rw [sizeLine_eq];have := h.2.2;omega
  ·refine unc3 ?_;intro ys kk oc u3 h3 tk4 zp1 hP4 F2 N2;apply byc; intro O;obtain ⟨v0, hv0⟩ := zp1;apply O; clear O;dsimp only [kstB] at F2 N2 hP4 hv0;clear F9 N9 hr;k_steps
   try unfold Halt
   try dsimp only
   rename Fr g' L' _ _ => F6;rename News g' L' _ _ => N6;refine hR.out F6 N6 (fun p hp => by rw [qS hp]; exact .tail _ (.tail _ (.tail _ (.tail _ (.tail _ (.head _)))))) fun ext fresh => ?_;have hfr : s.heap.get? rr = none := fresh _ (.head _) (fun h => absurd (congrArg Prod.fst (qS h)) (Nat.ne_of_gt ltr.2.2.2.2.1));apply byc; intro O;obtain ⟨Fz, Nz, nz⟩ := back F N ext (N6 _ (.head _)).1 hfr;apply O; clear O;exact ret _ _ _ _ _ Fz Nz nz ext hP4
end
end
section
section
local macro_rules | `(tactic| walk_at $s) => hz s ["call ref", "storeName"]
variable {Q : Flow -> Shared -> Prop}
theorem law_21 {cs : List Int} {r0 : Addr} {ys0 : List Value} {k0 : Nat} (F : Fr h! L s.heap m) (X : (Kq w.params).In h!) (T : Top p loose mean mg mb h!) (hC : Cells L cv C) (N : News h! L s.heap (C ++ rest)) (hA : Apart L rest)
  (hh : A.handled = none) (hd : A.depth <= 320) (hu : A.units <= 200) (h0 : cv 0 = some (.ref r0)) (hr0 : (r0, listOf ys0.toArray k0) ∈ rest) (hi : IntsAre ys0 cs) (hcs : cs.length = 7) (hcb : ∀ c ∈ cs, 0 <= c /\ c < 2 ^ 40)
  (ret : ∀ h' tk' r zs k C', Fr h! L h' m -> News h! L h' (C' ++ (r, listOf zs.toArray k) :: rest) -> Cells L (setC cv 9 (.ref r)) C' -> (∀ p ∈ C ++ rest, p.1 ≠ r) -> IntsAre zs ((rightL (clausesOf cs)).map fun (c : Nat) => (c : Int)) -> Q .next { s with heap := h', toks := tk' }) :
  wpAny (model PR w) A (exec (lst 21) (lenv L)) Q E s := by
 refine weakL hh hd hu ?_;apply byc; intro O;obtain ⟨o0, m0, d0⟩ := cell_at hC 0 (by decide) h0;apply O; clear O;have N1 : News h! L s.heap ((L + 1, o0) :: (r0, listOf ys0.toArray k0) :: (C ++ rest)) := nC (N _ (qL _ m0)) (nC (N _ (qR _ hr0)) (N));clear N;refine cvS (by conv => lhs; whnf) ?_;k_steps;unfold Halt;rename News .. => N2;rename Fr .. => F2;refine right_K F2 X N2 T rfl (qB rfl) (qB rfl) (.tail _ (.head _)) hi hcs hcb fun r h5 tk5 ys k F5 N5 hr5 ext5 hz5 => ?_;clear F2 N2;k_steps;unfold Halt;rename News h! L _ _ => N6;rename Fr h! L _ _ => F6;have N7 : News h! L _ ((r, listOf ys.toArray k) :: (C ++ rest)) := fun q hq => N6 q (by
  rcases qC hq with rfl | hq
  ·exact .head _
  ·exact .tail _ (.tail _ (.tail _ hq)))
 have hr : ∀ p ∈ C ++ rest, p.1 ≠ r := fun p hp => hr5 p (.tail _ (.tail _ hp));exact store_C F6 (newsMid N7) hC (hA.new hC hr) (i := 9) (by decide) rfl rfl fun h8 C' F8 N8 hC8 => ret h8 _ _ _ _ C' F8 N8 hC8 hr hz5
end
end
section
section
local macro_rules | `(tactic| walk_at $s) => hz s ["call ref", "storeName"]
variable {Q : Flow -> Shared -> Prop}
structure HoldIs (ex : List (Addr × Obj)) (zs : List Value) (rs : List Nat) (n : Nat) : Prop where
 len : zs.length = n
 at' : ∀ i, i < n -> ∃ l vs k, zs[i]? = some (Value.ref l) /\ (l, listOf vs.toArray k) ∈ ex /\ IntsAre vs ((rs.filter fun c => litB c i).map fun (c : Nat) => (c : Int))
theorem HoldIs.nil {rs : List Nat} : HoldIs [] [] rs 0 := ⟨rfl, fun i h => absurd h (Nat.not_lt_zero i)⟩
theorem HoldIs.snoc {ex ex' : List (Addr × Obj)} {zs : List Value} {rs : List Nat} {n : Nat} {l : Addr} {vs : List Value} {k : Nat} (h : HoldIs ex zs rs n) (hx : ∀ q ∈ ex, q ∈ ex') (hl : (l, listOf vs.toArray k) ∈ ex') (hv : IntsAre vs ((rs.filter fun c => litB c n).map fun (c : Nat) => (c : Int))) :
  HoldIs ex' (zs ++ [.ref l]) rs (n + 1) := by
 refine ⟨by rw [List.length_append, h.len]; rfl, fun i hi => ?_⟩;by_cases hn : i < n
 ·obtain ⟨l2, vs2, k2, a, b, c⟩ := h.at' i hn;exact ⟨l2, vs2, k2, by rw [List.getElem?_append_left (by rw [h.len]; exact hn)]; exact a, hx _ b, c⟩
 ·have e : i = n := by omega
  subst e;refine ⟨l, vs, k, ?_, hl, hv⟩;rw [List.getElem?_append_right (by rw [h.len]; exact Nat.le_refl _), h.len, Nat.sub_self];rfl
theorem nats_at {vs : List Value} {rs : List Nat} (h : IntsAre vs (rs.map fun (c : Nat) => (c : Int))) {i : Nat} {v : Value} (hv : vs[i]? = some v) : ∃ (c : Nat) (t : Tok), v = .int (c : Int) t /\ rs[i]? = some c := by
 apply byc; intro O;obtain ⟨c, tc, rfl, hc⟩ := ints_at h hv;apply O; clear O;rw [List.getElem?_map] at hc;cases hr : rs[i]? with
 | none => rw [hr] at hc; cases hc
 | some n =>
  rw [hr] at hc;exact ⟨n, tc, by rw [<- Option.some.inj hc], rfl⟩
local macro_rules | `(tactic| walk_at "z") => `(tactic| skip)
theorem law_22 {r9 : Addr} {zr : List Value} {kr : Nat} {rs : List Nat} (F : Fr h! L s.heap m) (X : (Kq w.params).In h!) (T : Top p loose mean mg mb h!) (hC : Cells L cv C) (N : News h! L s.heap (C ++ rest)) (hA : Apart L rest)
  (hh : A.handled = none) (hd : A.depth <= 320) (hu : A.units <= 200) (h9 : cv 9 = some (.ref r9)) (hr9 : (r9, listOf zr.toArray kr) ∈ rest) (hi9 : IntsAre zr (rs.map fun (c : Nat) => (c : Int))) (h8 : ∀ c ∈ rs, c < 8) (hl8 : rs.length <= 8)
  (ret : ∀ h' tk' ex r zs k C', Fr h! L h' m -> News h! L h' (C' ++ ((r, listOf zs.toArray k) :: (ex ++ rest))) -> Cells L (setC cv 10 (.ref r)) C' -> (∀ q ∈ (r, listOf zs.toArray k) :: ex, ∀ p ∈ C ++ rest, p.1 ≠ q.1) -> HoldIs ex zs rs 6 -> Q .next { s with heap := h', toks := tk' }) :
  wpAny (model PR w) A (exec (lst 22) (lenv L)) Q E s := by
 refine weakL hh hd hu ?_;apply byc; intro O;obtain ⟨o9, m9, d9⟩ := cell_at hC 9 (by decide) h9;apply O; clear O;have kLr := IntsAre.length hi9;have N1 : News h! L s.heap ([(L + 1 + 9, o9), (r9, listOf zr.toArray kr)] ++ ([] ++ (C ++ rest))) := nC (N _ (qL _ m9)) (nC (N _ (qR _ hr9)) (N));simp only [List.cons_append, List.nil_append] at N1;refine cvS (by conv => lhs; whnf) ?_;k_steps;unfold Halt;rename IsRange _ _ _ _ _ _ _ _ => hr;rename Fr h! L _ _ => F2;rename News h! L _ ((_, o9) :: _) => N2;dsimp only at hr;refine lc_rangeK (n := 6) rfl (fun i zs nx => ∃ ex, nx = [(L + 1 + 9, o9), (r9, listOf zr.toArray kr)] ++ (ex ++ (C ++ rest)) /\ (∀ q ∈ ex, ∀ p ∈ C ++ rest, p.1 ≠ q.1) /\ HoldIs ex zs rs i) hr rfl rfl (fun _ _ => rfl) (fun _ => rfl) rfl rfl rfl F2 X T N2 ⟨[], rfl, fun _ h => (nomatch h), .nil⟩ ?_ ?_ ?_
 ·intro g C9 ca E' i t zs nx own H tk9 u Xg Tg lC hi6 zp1 hoff zp2 F4 N4;apply byc; intro O;obtain ⟨ex9, rfl, hap9, hD9⟩ := zp1;obtain ⟨oc, hoc, hdc⟩ := zp2;apply O; clear O;refine lc_nil ?_;simp only [List.cons_append, List.nil_append] at N4;have N5 : News g C9 H ((ca, oc) :: (L + 1 + 9, o9) :: (r9, listOf zr.toArray kr) :: (ex9 ++ (C ++ rest) ++ own)) := nC (N4 _ (.tail _ (.tail _ (qR _ hoc)))) (N4);clear F2 N2 hr N4;k_steps;unfold Halt;rename Fr g C9 _ _ => F5;rename News g C9 _ _ => N6;apply byc; intro O;obtain ⟨fx, hfx⟩ : ∃ fx, fx = [(ca, oc), (L + 1 + 9, o9), (r9, listOf zr.toArray kr)] ++ (ex9 ++ (C ++ rest) ++ own) := ⟨_, rfl⟩;apply O; clear O;have N6 : News g C9 _ fx := fun q hq => N6 q (by rw [hfx] at hq; simpa using hq);refine lc_list (items := zr) rfl (fun j ws nx => nx = fx /\ IntsAre ws (((rs.take j).filter fun c => litB c i).map fun (c : Nat) => (c : Int))) (fun j ws nx h => by rw [h.1, hfx]; exact .tail _ (.tail _ (.head _))) (by decide) rfl rfl F5 Xg Tg N6 ⟨rfl, .nil⟩ ?_ ?_ ?_
  ·intro g2 C2 E2 j v2 ws nx own2 H2 tk6 u6 Xg2 Tg2 lC2 hj hv2 zp1 hoff2 F7 N7;apply byc; intro O;obtain ⟨rfl, hws⟩ := zp1;apply O; clear O;refine lc_one ?_;apply byc; intro O;obtain ⟨c, tc, rfl, hc⟩ := nats_at hi9 hv2;apply O; clear O;have hc8 := h8 c (qG hc);have N8 : News g2 C2 H2 ((ca, oc) :: (nx ++ own2)) := nC (N7 _ (qL _ (by rw [hfx]; exact .head _))) (N7);clear N7 F5 N6;k_steps;unfold Halt;rename Fr g2 C2 _ _ => F8;rename News g2 C2 _ _ => N9;refine holds_K F8 Xg2 N9 Tg2 rfl (qB rfl) (qB rfl) hc8 hi6 fun h9 tk9 F10 N10 ext10 => ?_;clear F8 N9;cases hb : litB c i with
   | true =>
    k_steps;unfold Halt;rename Fr g2 C2 _ _ => F9;rename News g2 C2 _ _ => N9;refine LcEnd.intro nx F9 N9 (fun p hp => .tail _ (qL _ hp)) (fun p hp => .tail _ (qR _ hp)) hoff2 ⟨rfl, ?_⟩;rw [take_snoc hc, List.filter_append, List.map_append];simp only [List.filter_cons, hb, if_true, List.filter_nil, List.map_cons, List.map_nil];exact IntsAre.append hws (.cons _ _ .nil)
   | false =>
    k_steps;unfold Halt;rename Fr g2 C2 _ _ => F9;rename News g2 C2 _ _ => N9;refine LcSkip.intro nx F9 N9 (fun p hp => .tail _ (qL _ hp)) (fun p hp => .tail _ (qR _ hp)) hoff2 ⟨rfl, ?_⟩;rw [take_snoc hc, List.filter_append];simp only [List.filter_cons, hb, Bool.false_eq_true, if_false, List.filter_nil, List.append_nil];exact hws
  ·intro D2 C2 ws nx H2 tk6 k6 u6 zp1 hne2 hlt2 hDC2 hC2 hL2 hC02 hCn2 F8 N8;apply byc; intro O;obtain ⟨rfl, hws⟩ := zp1;apply O; clear O;refine lc_fin hDC2 hC2 hL2 hC02 hCn2 F8 N8 fun h9 F9 N9 => ?_;clear F8 N8 F5 N6;rw [kLr, List.length_map, List.take_length] at hws;k_steps;unfold Halt;rename Fr g C9 _ _ => F9;rename News g C9 _ _ => N9;have inF : ∀ q ∈ [(L + 1 + 9, o9), (r9, listOf zr.toArray kr)] ++ (ex9 ++ (C ++ rest)) ++ own, q ∈ nx := fun q hq => by
    rw [hfx];refine List.mem_cons_of_mem _ ?_
    simpa using hq
   refine LcEnd.intro ([(L + 1 + 9, o9), (r9, listOf zr.toArray kr)] ++ (((D2, listOf ws.toArray k6) :: ex9) ++ (C ++ rest))) F9 N9 ?_ ?_ ?_ ⟨(D2, listOf ws.toArray k6) :: ex9, rfl, ?_, ?_⟩
   ·intro q hq;rcases qA hq with hq | hq
    ·exact .tail _ (inF q (qL _ (qL _ hq)))
    rcases qA hq with hq | hq
    ·rcases qC hq with rfl | hq
     ·exact .head _
     ·exact .tail _ (inF q (qL _ (qR _ (qL _ hq))))
    ·exact .tail _ (inF q (qL _ (qR _ (qR _ hq))))
   ·intro q hq;exact .tail _ (inF q (qR _ hq))
   ·intro q hq b hb e;apply byc; intro O;obtain ⟨z, hz, rfl⟩ := List.mem_map.mp hb;apply O; clear O;rcases qA hz with hz | hz
    ·exact hoff q hq z.1 (qM (f := (·.1)) (qL _ hz)) e
    rcases qA hz with hz | hz
    ·rcases qC hz with rfl | hz
     ·exact hne2 q (inF q (qR _ hq)) e
     ·exact hoff q hq z.1 (qM (f := (·.1)) (qR _ (qL _ hz))) e
    ·exact hoff q hq z.1 (qM (f := (·.1)) (qR _ (qR _ hz))) e
   ·intro q hq p hp e;rcases qC hq with rfl | hq
    ·exact hne2 p (inF p (qL _ (qR _ (qR _ hp)))) e
    ·exact hap9 q hq p hp e
   ·exact hD9.snoc (fun q hq => .tail _ hq) (.head _) hws
  ·rintro j ws nx hj ⟨_, hws⟩;have h1 := IntsAre.length hws;have h2 := List.length_filter_le (fun c => litB c i) (rs.take j);rw [List.length_map] at h1;rw [sizeLine_eq, h1];rw [List.length_take] at h2;omega
 ·intro D C9 zs nx H tk9 k u zp1 hne hlt hDC hC9 hLD hC0 hCn F4 N4;apply byc; intro O;obtain ⟨ex9, rfl, hap9, hD9⟩ := zp1;apply O; clear O;refine lc_fin hDC hC9 hLD hC0 hCn F4 N4 fun h5 F5 N5 => ?_;clear F2 N2 hr;k_steps;unfold Halt;rename News h! L _ _ => N6;rename Fr h! L _ _ => F6;have hr : ∀ q ∈ (D, listOf zs.toArray k) :: ex9, ∀ p ∈ C ++ rest, p.1 ≠ q.1 := fun q hq p hp => by
   rcases qC hq with rfl | hq
   ·exact hne p (qR _ (qR _ hp))
   ·exact hap9 q hq p hp
  have N7 : News h! L _ (C ++ ((D, listOf zs.toArray k) :: (ex9 ++ rest))) := fun q hq => N6 q (by
   rcases qA hq with h | h
   ·exact .tail _ (qR _ (qR _ (qL _ h)))
   rcases qC h with rfl | h
   ·exact .head _
   rcases qA h with h | h
   ·exact .tail _ (qR _ (qL _ h))
   ·exact .tail _ (qR _ (qR _ (qR _ h))))
  have hA2 : Apart L ((D, listOf zs.toArray k) :: (ex9 ++ rest)) :=
   Apart.cons (Apart.app hA fun q hq => hC.off fun p hp => hr q (.tail _ hq) p (qL _ hp)) (hC.off fun p hp => hr _ (.head _) p (qL _ hp))
  refine store_C F6 N7 hC hA2 (i := 10) (by decide) rfl rfl fun h8 C' F8 N8 hC8 => ret h8 _ ex9 D zs k C' F8 N8 hC8 hr hD9
 ·rintro i zs nx hi3 ⟨ex9, rfl, hap9, hD9⟩;rw [sizeLine_eq, hD9.len];omega
end
end
section
section
local macro_rules | `(tactic| walk_at $s) => hz s ["subscriptTail"]
noncomputable def forBody : Stmt -> List Stmt
 | .For _ _ b _ _ => b
 | _ => []
noncomputable def ist (i : Nat) : Stmt := (nthS (forBody ((forBody (lst 23)).headD default)) i).getD default
variable {w : World} {A : Around} {h! : Heap} {L : Addr} {m : Str -> Option Value} {rst : List (Addr × Obj)} {s : Shared}
  {p : Program} {loose : List Str} {mean : ExcName -> Option Value} {mg mb : Str -> Option Value} {Q : Flow -> Shared -> Prop} {E : Value -> Shared -> Prop}
theorem gd_of {os : List Int} {i : Nat} {c : Int} (hc : os[i]? = some c) : os.getD ((i : Int)).toNat 0 = c := by
 show os.getD i 0 = c;rw [List.getD_eq_getElem?_getD, hc]; rfl
theorem told_K {bk : Bool} {i j : Nat} {ti tj : Tok} {oj o1 o7 o8 : Obj} {r1 rf rn : Addr} {ys1 zf zn : List Value} {k1 kf kn : Nat} {exf exn : List (Addr × Obj)} {os : List Int} {sf sn : Int -> List Int} {vi vj : Int}
  (F : Fr h! L s.heap m) (X : (Kq w.params).In h!) (T : Top p loose mean mg mb h!) (N : News h! L s.heap ((L + 1 + 11, oj) :: (L + 1 + 1, o1) :: (r1, listOf ys1.toArray k1) :: (L + 1 + 7, o7) :: (rf, listOf zf.toArray kf) :: (L + 1 + 8, o8) :: (rn, listOf zn.toArray kn) :: rst))
  (hh : A.handled = none) (hd : A.depth <= 320) (hu : A.units <= 200) (dj : oj.data = .cell (some (.int (j : Int) tj))) (d1 : o1.data = .cell (some (.ref r1))) (d7 : o7.data = .cell (some (.ref rf))) (d8 : o8.data = .cell (some (.ref rn)))
  (hm1 : m (Str.ofString "broken") = some (.bool bk)) (hm2 : m (Str.ofString "k") = some (.int (i : Int) ti)) (hi : i < 6) (hj : j < 6) (hi1 : IntsAre ys1 os) (hos : os.length = 6) (hvi : os[i]? = some vi) (hvj : os[j]? = some vj)
  (hxf : ∀ q ∈ exf, q ∈ rst) (hF : FarIs exf zf os sf) (hxn : ∀ q ∈ exn, q ∈ rst) (hG : FarIs exn zn os sn)
  (ret : ∀ h' tk' b, Fr h! L h' (fun y => if y = Str.ofString "told" then some (.bool b) else m y) -> News h! L h' ((L + 1 + 11, oj) :: (L + 1 + 1, o1) :: (r1, listOf ys1.toArray k1) :: (L + 1 + 7, o7) :: (rf, listOf zf.toArray kf) :: (L + 1 + 8, o8) :: (rn, listOf zn.toArray kn) :: rst) ->
   (b = true ↔ (bk = true \/ RcI sf vi vj \/ RcI sf vi (255 - vi) \/ RcI sn vj (255 - vj))) -> Q .next { s with heap := h', toks := tk' }) :
  wpAny (model PR w) A (exec (ist 0) (lenv L)) Q E s := by
 refine weakL hh hd hu ?_;have kL1 := IntsAre.length hi1;apply byc; intro O;obtain ⟨lf, vf, nf, msf, hvf, hmf, hif, hlf, hyf⟩ := hF.at' i vi hvi;obtain ⟨lg, vg, ng, msg, hvg, hmg, hig, hlg, hyg⟩ := hG.at' j vj hvj;apply O; clear O;have hib : (0 : Int) <= (i : Int) /\ (i : Int) < 6 := by omega
 have hjb : (0 : Int) <= (j : Int) /\ (j : Int) < 6 := by omega
 have gi := gd_of hvi;have gj := gd_of hvj;have F1 := frSet (x := Str.ofString "k") (frSet F hm1) ((if_neg (by decide)).trans hm2);have N1 : News h! L s.heap ((lf, listOf vf.toArray nf) :: (lg, listOf vg.toArray ng) :: (L + 1 + 11, oj) :: (L + 1 + 1, o1) :: (r1, listOf ys1.toArray k1) :: (L + 1 + 7, o7) :: (rf, listOf zf.toArray kf) :: (L + 1 + 8, o8) :: (rn, listOf zn.toArray kn) :: rst) := nC (N _ (.tail _ (.tail _ (.tail _ (.tail _ (.tail _ (.tail _ (.tail _ (hxf _ hmf))))))))) (nC (N _ (.tail _ (.tail _ (.tail _ (.tail _ (.tail _ (.tail _ (.tail _ (hxn _ hmg))))))))) (N));clear F N;refine cvS (by conv => lhs; whnf) ?_;have mem2 : ∀ {h : Heap} {z : List (Addr × Obj)}, News h! L h ((lf, listOf vf.toArray nf) :: (lg, listOf vg.toArray ng) :: z) -> News h! L h z := fun N q hq => N q (.tail _ (.tail _ hq));have km : (fun y => if y = Str.ofString "broken" then some (Value.bool bk) else m y) (Str.ofString "k") = some (Value.int (i : Int) ti) := (if_neg (by decide)).trans hm2;cases bk with
 | true =>
  k_steps
  try unfold Halt
  rename Fr h! L _ _ => F9;rename News h! L _ _ => N9;exact ret _ _ true (frOver hm1 (frOver km F9)) (mem2 N9) ⟨fun _ => .inl rfl, fun _ => rfl⟩
 | false =>
  k_steps;unfold Halt;rename News h! L _ _ => N2;refine item_L (isL N2 (by repeat first | exact List.Mem.head _ | apply List.Mem.tail)) hib.1 (by omega) (show zf[((i : Nat) : Int).toNat]? = _ from hvf) ?_;k_steps;unfold Halt;rename News h! L _ _ => N2;by_cases ha : vj ∈ msf
  ·refine in_T N2 (.head _) hif (gj.symm ▸ ha) ?_;k_steps
   try unfold Halt
   rename Fr h! L _ _ => F9;rename News h! L _ _ => N9;exact ret _ _ true (frOver hm1 (frOver km F9)) (mem2 N9) ⟨fun _ => .inr (.inl ((hyf _).mp ha)), fun _ => rfl⟩
  refine in_F N2 (.head _) hif (fun h => ha (gj ▸ h)) ?_;k_steps;unfold Halt;rename News h! L _ _ => N2;refine item_L (isL N2 (by repeat first | exact List.Mem.head _ | apply List.Mem.tail)) hib.1 (by omega) (show zf[((i : Nat) : Int).toNat]? = _ from hvf) ?_;k_steps;unfold Halt;rename News h! L _ _ => N2;by_cases hb : 255 - vi ∈ msf
  ·refine in_T N2 (.head _) hif (octAt hvi hb) ?_;k_steps
   try unfold Halt
   rename Fr h! L _ _ => F9;rename News h! L _ _ => N9;exact ret _ _ true (frOver hm1 (frOver km F9)) (mem2 N9) ⟨fun _ => .inr (.inr (.inl ((hyf _).mp hb))), fun _ => rfl⟩
  refine in_F N2 (.head _) hif (fun h => hb (octAt' hvi h)) ?_;k_steps;unfold Halt;rename News h! L _ _ => N2;refine item_L (isL N2 (by repeat first | exact List.Mem.head _ | apply List.Mem.tail)) hjb.1 (by omega) (show zn[((j : Nat) : Int).toNat]? = _ from hvg) ?_;k_steps;unfold Halt;rename News h! L _ _ => N2;by_cases hc : 255 - vj ∈ msg
  ·refine in_T N2 (.tail _ (.head _)) hig (octAt hvj hc) ?_;k_steps
   try unfold Halt
   rename Fr h! L _ _ => F9;rename News h! L _ _ => N9;exact ret _ _ true (frOver hm1 (frOver km F9)) (mem2 N9) ⟨fun _ => .inr (.inr (.inr ((hyg _).mp hc))), fun _ => rfl⟩
  refine in_F N2 (.tail _ (.head _)) hig (fun h => hc (octAt' hvj h)) ?_;k_steps
  try unfold Halt
  rename Fr h! L _ _ => F9;rename News h! L _ _ => N9;refine ret _ _ false (frOver hm1 (frOver km F9)) (mem2 N9) ⟨fun h => (nomatch h), fun h => ?_⟩;rcases h with h | h | h | h
  ·exact h
  ·exact absurd ((hyf _).mpr h) ha
  ·exact absurd ((hyf _).mpr h) hb
  ·exact absurd ((hyg _).mpr h) hc
end
end
section
section
local macro_rules | `(tactic| walk_at $s) => hz s ["subscriptTail"]
variable {w : World} {A : Around} {h! : Heap} {L : Addr} {m : Str -> Option Value} {rst : List (Addr × Obj)} {s : Shared}
  {p : Program} {loose : List Str} {mean : ExcName -> Option Value} {mg mb : Str -> Option Value} {Q : Flow -> Shared -> Prop} {E : Value -> Shared -> Prop}
theorem nat_mem {rs : List Nat} {c : Nat} : ((c : Int) ∈ rs.map fun (c : Nat) => (c : Int)) ↔ c ∈ rs := by
 constructor
 ·intro h;apply byc; intro O;obtain ⟨d, hd, e⟩ := List.mem_map.mp h;apply O; clear O;have : d = c := Int.ofNat.inj e;exact this ▸ hd
 ·exact fun h => qM (f := fun (c : Nat) => (c : Int)) h
local macro_rules | `(tactic| walk_at "z") => `(tactic| skip)
theorem check_K {b : Bool} {i j : Nat} {ti tj : Tok} {oj o10 : Obj} {rh : Addr} {zh : List Value} {kh : Nat} {exh : List (Addr × Obj)} {rs : List Nat}
  (F : Fr h! L s.heap m) (X : (Kq w.params).In h!) (T : Top p loose mean mg mb h!) (N : News h! L s.heap ((L + 1 + 11, oj) :: (L + 1 + 10, o10) :: (rh, listOf zh.toArray kh) :: rst))
  (hh : A.handled = none) (hd : A.depth <= 320) (hu : A.units <= 200) (dj : oj.data = .cell (some (.int (j : Int) tj))) (d10 : o10.data = .cell (some (.ref rh)))
  (hm1 : m (Str.ofString "told") = some (.bool b)) (hm2 : m (Str.ofString "k") = some (.int (i : Int) ti)) (hi : i < 6) (hj : j < 6)
  (hxh : ∀ q ∈ exh, q ∈ rst) (hH : HoldIs exh zh rs 6) (hl8 : rs.length <= 8) (hb : b = rs.all fun c => !litB c i || litB c j)
  (ret : ∀ h' tk', Fr h! L h' m -> News h! L h' ((L + 1 + 11, oj) :: (L + 1 + 10, o10) :: (rh, listOf zh.toArray kh) :: rst) -> Q .next { s with heap := h', toks := tk' }) :
  wpAny (model PR w) A (exec (ist 1) (lenv L)) Q E s := by
 refine weakL hh hd hu ?_;apply byc; intro O;obtain ⟨li, vi, ki, hvi, hmi, hii⟩ := hH.at' i hi;obtain ⟨lj, vj, kj, hvj, hmj, hij⟩ := hH.at' j hj;apply O; clear O;have hib : (0 : Int) <= (i : Int) /\ (i : Int) < 6 := by omega
 have hjb : (0 : Int) <= (j : Int) /\ (j : Int) < 6 := by omega
 have F1 := frSet (x := Str.ofString "k") (frSet F hm1) ((if_neg (by decide)).trans hm2);have N1 : News h! L s.heap ((li, listOf vi.toArray ki) :: (lj, listOf vj.toArray kj) :: (L + 1 + 11, oj) :: (L + 1 + 10, o10) :: (rh, listOf zh.toArray kh) :: rst) := nC (N _ (.tail _ (.tail _ (.tail _ (hxh _ hmi))))) (nC (N _ (.tail _ (.tail _ (.tail _ (hxh _ hmj))))) (N));clear F N;have km : (fun y => if y = Str.ofString "told" then some (Value.bool b) else m y) (Str.ofString "k") = some (Value.int (i : Int) ti) := (if_neg (by decide)).trans hm2;refine cvS (by conv => lhs; whnf) ?_;k_steps;unfold Halt;rename News h! L _ _ => N2;refine item_L (isL N2 (by repeat first | exact List.Mem.head _ | apply List.Mem.tail)) hib.1 (by omega) (show zh[((i : Nat) : Int).toNat]? = _ from hvi) ?_;k_steps;unfold Halt;rename Fr h! L _ _ => F3;rename News h! L _ _ => N3;refine lc_list (items := vi) rfl (fun n ws nx => nx = (li, listOf vi.toArray ki) :: (lj, listOf vj.toArray kj) :: (L + 1 + 11, oj) :: (L + 1 + 10, o10) :: (rh, listOf zh.toArray kh) :: rst /\ (decide (ws.length = 0) = ((rs.filter fun c => litB c i).take n).all fun c => litB c j) /\ ws.length <= n) (fun n ws nx h => by rw [h.1]; exact .head _) (by decide) rfl rfl F3 X T N3 ⟨rfl, rfl, Nat.le_refl _⟩ ?_ ?_ ?_
 ·intro g C9 E' n v ws nx own H tk9 u Xg Tg lC hn hv zp1 hoff F4 N4;apply byc; intro O;obtain ⟨rfl, hw1, hw2⟩ := zp1;apply O; clear O;refine lc_one ?_;apply byc; intro O;obtain ⟨c, tc, rfl, hc⟩ := nats_at hii hv;apply O; clear O;simp only [List.cons_append] at N4;clear F3 N3;k_steps;unfold Halt;rename News g C9 _ _ => N5;refine item_L (isL N5 (by repeat first | exact List.Mem.head _ | apply List.Mem.tail)) hjb.1 (by omega) (show zh[((j : Nat) : Int).toNat]? = _ from hvj) ?_;k_steps;unfold Halt;rename News g C9 _ _ => N5;refine notin_I N5 (.tail _ (.head _)) hij ?_;have hcr : litB c i = true /\ c ∈ rs := by
   have := List.mem_filter.mp (qG hc);exact ⟨this.2, this.1⟩
  have e1 : decide ((c : Int) ∈ (rs.filter fun c => litB c j).map fun (c : Nat) => (c : Int)) = litB c j := by
   cases hl : litB c j with
   | true => exact decide_eq_true (nat_mem.mpr (List.mem_filter.mpr ⟨hcr.2, hl⟩))
   | false => exact decide_eq_false fun h => by have := (List.mem_filter.mp (nat_mem.mp h)).2; rw [hl] at this; cases this
  rw [e1];cases hl : litB c j with
  | true =>
   k_steps;unfold Halt;rename Fr g C9 _ _ => F6;rename News g C9 _ _ => N6;refine LcSkip.intro ((li, listOf vi.toArray ki) :: (lj, listOf vj.toArray kj) :: (L + 1 + 11, oj) :: (L + 1 + 10, o10) :: (rh, listOf zh.toArray kh) :: rst) F6 N6 (fun q hq => qL own hq) (fun q hq => qR ((li, listOf vi.toArray ki) :: (lj, listOf vj.toArray kj) :: (L + 1 + 11, oj) :: (L + 1 + 10, o10) :: (rh, listOf zh.toArray kh) :: rst) hq) hoff ⟨rfl, ?_, Nat.le_succ_of_le hw2⟩;rw [take_snoc hc, List.all_append, hw1];simp [hl]
  | false =>
   k_steps;unfold Halt;rename Fr g C9 _ _ => F6;rename News g C9 _ _ => N6;refine LcEnd.intro ((li, listOf vi.toArray ki) :: (lj, listOf vj.toArray kj) :: (L + 1 + 11, oj) :: (L + 1 + 10, o10) :: (rh, listOf zh.toArray kh) :: rst) F6 N6 (fun q hq => qL own hq) (fun q hq => qR ((li, listOf vi.toArray ki) :: (lj, listOf vj.toArray kj) :: (L + 1 + 11, oj) :: (L + 1 + 10, o10) :: (rh, listOf zh.toArray kh) :: rst) hq) hoff ⟨rfl, ?_, by rw [List.length_append]; exact Nat.succ_le_succ hw2⟩;rw [take_snoc hc, List.all_append];simp [hl]
 ·intro D C9 ws nx H tk9 kk u zp1 hne hlt hDC hC9 hLD hC0 hCn F4 N4;apply byc; intro O;obtain ⟨rfl, hw1, hw2⟩ := zp1;apply O; clear O;refine lc_fin hDC hC9 hLD hC0 hCn F4 N4 fun h5 F5 N5 => ?_;have hlen : vi.length = (rs.filter fun c => litB c i).length := by rw [IntsAre.length hii, List.length_map]
  rw [hlen, List.take_length] at hw1;have hw3 : decide (ws.length = 0) = b := by
   rw [hw1, hb, List.all_filter]
  clear F3 N3 F4 N4;k_steps;unfold Halt;rename News h! L _ _ => N6;refine eq_nilL (isL N6 (.tail _ (.head _))) (isL (xs := []) N6 (.head _)) (by decide) ?_;rw [hw3];k_steps
  all_goals (first | (rename (b != b) = true => hbb; rw [bne_self_eq_false] at hbb; cases hbb; done) | skip)
  rename Fr h! L _ _ => F9;rename News h! L _ _ => N9;refine ret _ _ (frBack hm1 (frBack km F9)) fun q hq => N9 q (.tail _ (.tail _ (.tail _ (.tail _ hq))))
 ·rintro n ws nx hn ⟨_, _, hw2⟩;have hlen : vi.length = (rs.filter fun c => litB c i).length := by rw [IntsAre.length hii, List.length_map]
  have := List.length_filter_le (fun c => litB c i) rs;rw [sizeLine_eq];omega
end
end
section
section
local macro_rules | `(tactic| walk_at "exec For Name Call cons nil") => `(tactic| (k_here; (with_reducible rename Fr .. => lF'); (with_unfolding_all refine' For_invTF lF' ?_ ?k2 ?k3; (case k2 => intro _; rfl); (case k3 => passes_own); k_whole)))
local macro_rules | `(tactic| walk_at $s) => hz s ["exec Assign cons BoolOp", "exec If"]
variable {Q : Flow -> Shared -> Prop}
local macro_rules | `(tactic| walk_at "z") => `(tactic| skip)
theorem law_23 {r1 rf rn rh : Addr} {ys1 zf zn zh : List Value} {k1 kf kn kh : Nat} {exf exn exh : List (Addr × Obj)} {os : List Int} {sf sn : Int -> List Int} {rs : List Nat} {bk : Bool} (F : Fr h! L s.heap m) (X : (Kq w.params).In h!) (T : Top p loose mean mg mb h!) (hC : Cells L cv C) (N : News h! L s.heap (C ++ rest)) (hA : Apart L rest)
  (hh : A.handled = none) (hd : A.depth <= 320) (hu : A.units <= 200) (h1 : cv 1 = some (.ref r1)) (hr1 : (r1, listOf ys1.toArray k1) ∈ rest) (hi1 : IntsAre ys1 os) (hos : os.length = 6)
  (h7 : cv 7 = some (.ref rf)) (hrf : (rf, listOf zf.toArray kf) ∈ rest) (hxf : ∀ q ∈ exf, q ∈ rest) (hF : FarIs exf zf os sf)
  (h8 : cv 8 = some (.ref rn)) (hrn : (rn, listOf zn.toArray kn) ∈ rest) (hxn : ∀ q ∈ exn, q ∈ rest) (hG : FarIs exn zn os sn)
  (h10 : cv 10 = some (.ref rh)) (hrh : (rh, listOf zh.toArray kh) ∈ rest) (hxh : ∀ q ∈ exh, q ∈ rest) (hH : HoldIs exh zh rs 6) (hl8 : rs.length <= 8)
  (hbk : m (Str.ofString "broken") = some (.bool bk))
  (hlaw : ∀ (i j : Nat) (vi vj : Int), os[i]? = some vi -> os[j]? = some vj -> ((bk = true \/ RcI sf vi vj \/ RcI sf vi (255 - vi) \/ RcI sn vj (255 - vj)) ↔ (rs.all fun c => !litB c i || litB c j) = true))
  (ret : ∀ h' tk' m', Fr h! L h' m' -> News h! L h' rest -> Q .next { s with heap := h', toks := tk' }) :
  wpAny (model PR w) A (exec (lst 23) (lenv L)) Q (fun _ _ => False) s := by
 refine weakL hh hd hu ?_;apply byc; intro O;obtain ⟨o1, m1, d1⟩ := cell_at hC 1 (by decide) h1;obtain ⟨o7, m7, d7⟩ := cell_at hC 7 (by decide) h7;obtain ⟨o8, m8, d8⟩ := cell_at hC 8 (by decide) h8;obtain ⟨o10, m10, d10⟩ := cell_at hC 10 (by decide) h10;obtain ⟨o11, m11, d11⟩ := hC.1 11 (by decide);apply O; clear O;have kL1 := IntsAre.length hi1;apply byc; intro O;obtain ⟨fx, hfx⟩ : ∃ fx, fx = (C.filter fun q => decide (q.1 ≠ L + 1 + 11)) ++ rest := ⟨_, rfl⟩;apply O; clear O;have inC : ∀ (i : Nat) (o : Obj), i ≠ 11 -> (L + 1 + i, o) ∈ C -> (L + 1 + i, o) ∈ fx := fun i o hi hm => by
  rw [hfx];exact qL _ (List.mem_filter.mpr ⟨hm, decide_eq_true fun e => hi (Nat.add_left_cancel e)⟩)
 have inR : ∀ q ∈ rest, q ∈ fx := fun q hq => by rw [hfx]; exact qR _ hq
 have offJ : ∀ q ∈ fx, q.1 ≠ L + 1 + 11 := fun q hq => by
  rw [hfx] at hq;rcases qA hq with hq | hq
  ·exact of_decide_eq_true (List.mem_filter.mp hq).2
  ·exact hA q hq 11 (by decide)
 have N1 : News h! L s.heap ((L + 1 + 11, o11) :: fx) := fun q hq => by
  rcases qC hq with rfl | hq
  ·exact N _ (qL _ m11)
  ·rw [hfx] at hq;rcases qA hq with hq | hq
   ·exact N _ (qL _ (List.mem_filter.mp hq).1)
   ·exact N _ (qR _ hq)
 clear N;refine cvS (by conv => lhs; whnf) ?_;k_steps;unfold Halt;rename IsRange _ _ _ _ _ _ _ _ => hr;rename Fr h! L _ _ => F2;rename News h! L _ ((_, o11) :: _) => N2;dsimp only at hr;refine st_rangeT (x := Str.ofString "k") (σ := Obj) (n := 6) (fun c => (L + 1 + 11, c) :: fx) (fun _ => []) (fun c => ∃ v0, c.data = .cell v0) [Str.ofString "told", Str.ofString "j"] (fun i c => True) o11 rfl hr rfl (by decide) F2 N2 ⟨_, d11⟩ (fun _ h => nomatch h) trivial ?_ ?_
 ·intro oc i t u3;refine uncS ?_;intro h3 G3 dr3 tk4 os3 own hi hoff zp1 _ F3 N3;apply byc; intro O;obtain ⟨v0, hv0⟩ := zp1;apply O; clear O;dsimp only [kstB] at F3 N3 hv0 hoff;simp only [List.cons_append] at N3;clear F2 N2 hr;k_steps;unfold Halt;rename IsRange _ _ _ _ _ _ _ _ => hr;rename Fr h! _ _ _ => F4;rename News h! _ _ _ => N4;dsimp only at hr;refine st_rangeT (x := Str.ofString "j") (σ := Obj) (n := 6) (fun c => (L + 1 + 11, c) :: (fx ++ own)) (fun _ => []) (fun c => ∃ v0, c.data = .cell v0) [Str.ofString "told"] (fun i c => True) oc rfl hr rfl (by decide) F4 N4 ⟨_, hv0⟩ (fun _ h => nomatch h) trivial ?_ ?_
  ·intro oc2 j tj u4;refine uncS ?_;intro h4 G4 dr4 tk4 os4 own2 hj hoff2 zp1 _ F5 N5;apply byc; intro O;obtain ⟨v2, hv2⟩ := zp1;apply O; clear O;dsimp only [kstB] at F5 N5 hv2 hoff2;simp only [List.cons_append] at N5;clear F3 N3 F4 N4 hr;k_steps;rename Fr h! _ h4 _ => F6;rename News h! _ h4 _ => N6
   with_unfolding_all refine' storeX_C F6 N6 ?kc (UpdF.head ?kt) hv2 (fun h5 oc5 F7 N7 hv5 => ?_) ?ka ?kb
   case ka => rfl
   case kb => rfl
   case kc => rfl
   case kt =>
    intro q hq;rcases qA hq with hq | hq
    ·rcases qA hq with hq | hq
     ·exact offJ q hq
     ·exact hoff q hq _ (.head _)
    ·exact hoff2 q hq _ (.head _)
   clear F6 N6
   try dsimp only at F7 N7
   apply byc; intro O;obtain ⟨vi, hvi⟩ : ∃ vi, os[i]? = some vi := ⟨_, List.getElem?_eq_getElem (by omega)⟩;obtain ⟨vj, hvj⟩ : ∃ vj, os[j]? = some vj := ⟨_, List.getElem?_eq_getElem (by omega)⟩;apply O; clear O;k_steps;unfold Halt;have sub : ∀ q ∈ fx, q ∈ (L + 1 + 11, oc5) :: (fx ++ own ++ own2) := fun q hq => .tail _ (qL _ (qL _ hq));have N8 : News h! L h5 ((L + 1 + 11, oc5) :: (L + 1 + 1, o1) :: (r1, listOf ys1.toArray k1) :: (L + 1 + 7, o7) :: (rf, listOf zf.toArray kf) :: (L + 1 + 8, o8) :: (rn, listOf zn.toArray kn) :: ((L + 1 + 11, oc5) :: (fx ++ own ++ own2))) := nC (N7 _ (.head _)) (nC (N7 _ (sub _ (inC 1 _ (by decide) m1))) (nC (N7 _ (sub _ (inR _ hr1))) (nC (N7 _ (sub _ (inC 7 _ (by decide) m7))) (nC (N7 _ (sub _ (inR _ hrf))) (nC (N7 _ (sub _ (inC 8 _ (by decide) m8))) (nC (N7 _ (sub _ (inR _ hrn))) (N7)))))));refine (show wpAny _ _ (exec (ist 0) (lenv L)) _ _ _ from ?_);refine told_K F7 X T N8 rfl (Nat.le_refl _) (Nat.le_refl _) hv5 d1 d7 d8 (bk := bk) (by rw [if_neg (by decide), if_neg (by decide), if_neg (by decide), if_neg (by decide), if_neg (by decide)]; exact hbk) (by rw [if_neg (by decide), if_neg (by decide), if_pos rfl]) hi hj hi1 hos hvi hvj (fun q hq => sub q (inR q (hxf q hq))) hF (fun q hq => sub q (inR q (hxn q hq))) hG fun h6 tk6 b F9 N9 hbb => ?_;clear F7 N7 N8;have N10 : News h! L h6 ((L + 1 + 11, oc5) :: (L + 1 + 10, o10) :: (rh, listOf zh.toArray kh) :: ((L + 1 + 11, oc5) :: (fx ++ own ++ own2))) := fun q hq => by
    have up : ∀ q ∈ (L + 1 + 11, oc5) :: (fx ++ own ++ own2), News h! L h6 [q] := fun q hq p hp => by
     rw [qS hp];exact N9 q (.tail _ (.tail _ (.tail _ (.tail _ (.tail _ (.tail _ (.tail _ hq)))))))
    rcases qC hq with rfl | hq
    ·exact up _ (.head _) _ (.head _)
    rcases qC hq with rfl | hq
    ·exact up _ (sub _ (inC 10 _ (by decide) m10)) _ (.head _)
    rcases qC hq with rfl | hq
    ·exact up _ (sub _ (inR _ hrh)) _ (.head _)
    ·exact up q hq _ (.head _)
   clear N9;k_steps;unfold Halt;have hbeq : b = rs.all fun c => !litB c i || litB c j := by
    have := hlaw i j vi vj hvi hvj;rw [<- hbb] at this;cases b with
    | true => exact (this.mp rfl).symm
    | false =>
     cases e : rs.all fun c => !litB c i || litB c j with
     | false => rfl
     | true => exact this.mpr e
   refine (show wpAny _ _ (exec (ist 1) (lenv L)) _ _ _ from ?_);refine check_K F9 X T N10 rfl (Nat.le_refl _) (Nat.le_refl _) hv5 d10 (if_pos rfl) (by rw [if_neg (by decide), if_neg (by decide), if_neg (by decide), if_pos rfl]) hi hj (fun q hq => sub q (inR q (hxh q hq))) hH hl8 hbeq fun h7 tk7 F11 N11 => ?_;clear F9 N10;k_steps;unfold Halt;rename Fr h! _ _ _ => F6;rename News h! _ _ _ => N6;refine (show InvEndN _ _ _ _ _ _ _ from st_end oc5 F6 N6 (fun q hq => ?_) (fun q hq => ?_) rfl ⟨_, hv5⟩ (fun _ h => nomatch h) (by kst_same) trivial)
   ·refine .tail _ (.tail _ (.tail _ ?_));rcases qC hq with rfl | hq
    ·exact .head _
    ·exact .tail _ (qL _ hq)
   ·exact .tail _ (.tail _ (.tail _ (.tail _ (qR _ hq))))
  ·intro oc2 u4 h4 tk5 zp1 _ F5 N5;apply byc; intro O;obtain ⟨v2, hv2⟩ := zp1;apply O; clear O;dsimp only [kstB] at F5 N5 hv2;clear F3 N3 F4 N4 hr;k_steps;unfold Halt;rename Fr h! _ _ _ => F6;rename News h! _ _ _ => N6;refine (show InvEndN _ _ _ _ _ _ _ from st_end oc2 F6 N6 (fun q hq => ?_) (fun q hq => ?_) rfl ⟨_, hv2⟩ (fun _ h => nomatch h) (by kst_same) trivial)
   ·rcases qC hq with rfl | hq
    ·exact .head _
    ·exact .tail _ (qL _ hq)
   ·exact .tail _ (qR _ hq)
 ·intro oc u3 h3 tk4 zp1 _ F3 N3;apply byc; intro O;obtain ⟨v0, hv0⟩ := zp1;apply O; clear O;dsimp only [kstB] at F3;exact ret _ _ _ F3 fun q hq => N3 q (.tail _ (inR q hq))
end
end
section
section
set_option maxHeartbeats 400000
theorem toL_sl_to (x : Str) (n : Nat) : toL (Txt.slice x none (some (n : Int))) = (toL x).take n := by
 rw [slice_at x none (some (n : Int)) 0 (min n x.length) rfl ?_ (Nat.zero_le _) (Nat.min_le_right _ _)]
 ·rw [toL_mk, List.drop_zero, Nat.sub_zero, <- toL_len, List.take_eq_take_iff];omega
 ·show max (0 : Int) (min (if (n : Int) < 0 then (n : Int) + x.length else n) x.length) = ((min n x.length : Nat) : Int);rw [if_neg (Int.not_lt.mpr (Int.natCast_nonneg n))]; exact mmPos n x.length
theorem toL_sl_from (x : Str) (n : Nat) : toL (Txt.slice x (some (n : Int)) none) = (toL x).drop n := by
 rw [slice_at x (some (n : Int)) none (min n x.length) x.length ?_ rfl (Nat.min_le_right _ _) (Nat.le_refl _)]
 ·rw [toL_mk];have h := toL_len x;by_cases hn : n <= x.length
  ·rw [Nat.min_eq_left hn, List.take_of_length_le];rw [List.length_drop]; omega
  ·rw [Nat.min_eq_right (by omega), List.drop_eq_nil_of_le (by omega), List.drop_eq_nil_of_le (by omega), List.take_nil]
 ·show max (0 : Int) (min (if (n : Int) < 0 then (n : Int) + x.length else n) x.length) = ((min n x.length : Nat) : Int);rw [if_neg (Int.not_lt.mpr (Int.natCast_nonneg n))]; exact mmPos n x.length
theorem toL_sl_neg1 (x : Str) : toL (Txt.slice x none (some (-1))) = (toL x).take (x.length - 1) := by
 rw [slice_at x none (some (-1)) 0 (x.length - 1) rfl ?_ (Nat.zero_le _) (Nat.sub_le _ _)]
 ·rw [toL_mk, List.drop_zero, Nat.sub_zero]
 ·show max (0 : Int) (min (if (-1 : Int) < 0 then (-1 : Int) + x.length else -1) x.length) = ((x.length - 1 : Nat) : Int);rw [if_pos (by decide)]; exact mmNeg 1 x.length
theorem toL_sl_last (x : Str) (n : Nat) (h : 0 < n) : toL (Txt.slice x (some (-(n : Int))) none) = (toL x).drop (x.length - n) := by
 rw [slice_at x (some (-(n : Int))) none (x.length - n) x.length ?_ rfl (Nat.sub_le _ _) (Nat.le_refl _)]
 ·rw [toL_mk, List.take_of_length_le];rw [List.length_drop, toL_len]; omega
 ·show max (0 : Int) (min (if (-(n : Int)) < 0 then (-(n : Int)) + x.length else -(n : Int)) x.length) = ((x.length - n : Nat) : Int);rw [if_pos (by omega)]; exact mmNeg n x.length
theorem str_eq_iff {x y : Str} : (x == y) = true ↔ toL x = toL y := ⟨fun h => by rw [eq_of_beq h], fun h => by rw [str_ext h]; exact beq_self_eq_true y⟩
theorem str_beq {x y : Str} {p : Prop} [Decidable p] (h : toL x = toL y ↔ p) : (x == y) = decide p := by
 by_cases hp : p
 ·rw [decide_eq_true hp]; exact str_eq_iff.mpr (h.mpr hp)
 ·rw [decide_eq_false hp];cases e : x == y with
  | false => rfl
  | true => exact absurd (h.mp (str_eq_iff.mp e)) hp
noncomputable abbrev DL (o : Int) : List Nat := toL (decS o)
theorem way_L (a b : Int) : toL (way a b) = 123 :: (DL a ++ 125 :: DL b) := by
 unfold way;rw [toL_app, toL_app, toL_app, show toL (Str.ofString "{") = [123] by decide +kernel, show toL (Str.ofString "}") = [125] by decide +kernel];simp
theorem nsX_L (o : Int) : toL (nsX o) = 123 :: (DL o ++ [125, 42]) := by
 unfold nsX;rw [toL_app, toL_app, show toL (Str.ofString "{") = [123] by decide +kernel, show toL (Str.ofString "}*") = [125, 42] by decide +kernel];simp
theorem sfX_L (o : Int) : toL (sfX o) = [123, 42, 125] ++ DL o := by
 unfold sfX;rw [toL_app, show toL (Str.ofString "{*}") = [123, 42, 125] by decide +kernel]
theorem nsX_cut (o : Int) : toL (Txt.slice (nsX o) none (some (-1))) = 123 :: (DL o ++ [125]) := by
 have h := nsX_L o;have hl : (nsX o).length = (DL o).length + 3 := by rw [<- toL_len, h]; simp
 rw [toL_sl_neg1, h, hl];have : 123 :: (DL o ++ [125, 42]) = (123 :: (DL o ++ [125])) ++ [42] := by simp
 rw [this, List.take_append_of_le_length (by simp), List.take_of_length_le (by simp)]
theorem DL_inj {a b : Int} (ha : 0 <= a /\ a < 256) (hb : 0 <= b /\ b < 256) (e : DL a = DL b) : a = b := decS_inj ha hb (str_ext e)
theorem nsP_way {o a b : Int} (ho : 0 <= o /\ o < 256) (ha : 0 <= a /\ a < 256) : nsP (nsX o) (way a b) = decide (a = o) := by
 unfold nsP;refine str_beq ?_;rw [<- toL_len (Txt.slice (nsX o) none (some (-1))), toL_sl_to, nsX_cut, way_L];constructor
 ·intro h;have h2 := List.take_append_drop (123 :: (DL o ++ [125])).length (123 :: (DL a ++ 125 :: DL b));rw [h] at h2;generalize ((123 :: (DL a ++ 125 :: DL b)).drop (123 :: (DL o ++ [125])).length) = r at h2;have h3 : DL a ++ 125 :: DL b = DL o ++ 125 :: r := by
   have : 123 :: (DL o ++ 125 :: r) = 123 :: (DL a ++ 125 :: DL b) := by rw [<- h2]; simp
   exact (List.cons.inj this).2.symm
  exact DL_inj ha ho (cut_unique (decS_free ha (by decide)) (decS_free ho (by decide)) h3).1
 ·rintro rfl;have : 123 :: (DL a ++ 125 :: DL b) = (123 :: (DL a ++ [125])) ++ DL b := by simp
  rw [this, List.take_append_of_le_length (Nat.le_refl _), List.take_of_length_le (Nat.le_refl _)]
theorem nsP_dec {o a : Int} (ha : 0 <= a /\ a < 256) : nsP (nsX o) (decS a) = false := by
 unfold nsP;rw [show false = decide False from rfl];refine str_beq ⟨fun h => ?_, fun h => h.elim⟩;rw [<- toL_len (Txt.slice (nsX o) none (some (-1))), toL_sl_to, nsX_cut] at h;have : 123 ∈ DL a := List.mem_of_mem_take (h ▸ List.Mem.head _);exact decS_free ha (by decide) this
theorem sfX_3 (o : Int) : toL (Txt.slice (sfX o) (some 3) none) = DL o := by
 rw [show (some (3 : Int)) = some ((3 : Nat) : Int) from rfl, toL_sl_from, sfX_L]; rfl
theorem sfX_2 (o : Int) : toL (Txt.slice (sfX o) (some 2) none) = 125 :: DL o := by
 rw [show (some (2 : Int)) = some ((2 : Nat) : Int) from rfl, toL_sl_from, sfX_L]; rfl
theorem sfP_way {o a b : Int} (ho : 0 <= o /\ o < 256) (ha : 0 <= a /\ a < 256) (hb : 0 <= b /\ b < 256) : sfP (sfX o) (way a b) = decide (b = o) := by
 unfold sfP;have e1 : (way a b == Txt.slice (sfX o) (some 3) none) = false := by
  rw [show false = decide False from rfl];refine str_beq ⟨fun h => ?_, fun h => h.elim⟩;rw [sfX_3, way_L] at h;have h : 123 :: (DL a ++ 125 :: DL b) = DL o := h;exact decS_free (n := o) ho (c := 123) (by decide) (show 123 ∈ DL o from h ▸ List.Mem.head _)
 rw [e1, Bool.false_or];refine str_beq ?_;have hl2 : (Txt.slice (sfX o) (some 2) none).length = (125 :: DL o).length := by rw [<- toL_len, sfX_2]
 have hlw : (way a b).length = (DL a).length + (DL b).length + 2 := by rw [<- toL_len, way_L]; simp; omega
 rw [hl2, toL_sl_last _ _ (by simp), sfX_2, way_L];constructor
 ·intro h;have h2 := List.take_append_drop ((way a b).length - (125 :: DL o).length) (123 :: (DL a ++ 125 :: DL b));rw [h] at h2;generalize ((123 :: (DL a ++ 125 :: DL b)).take ((way a b).length - (125 :: DL o).length)) = r at h2;have h3 := congrArg List.reverse h2;have h4 : (DL o).reverse ++ 125 :: r.reverse = (DL b).reverse ++ 125 :: (123 :: DL a).reverse := by simpa using h3
  have h5 := (cut_unique (fun hm => decS_free ho (c := 125) (by decide) (List.mem_reverse.mp hm)) (fun hm => decS_free hb (c := 125) (by decide) (List.mem_reverse.mp hm)) h4).1;exact DL_inj hb ho (List.reverse_inj.mp h5).symm
 ·rintro rfl;have e : 123 :: (DL a ++ 125 :: DL b) = (123 :: DL a) ++ (125 :: DL b) := by simp
  rw [e, hlw];exact List.drop_left' (by simp only [List.length_cons]; omega)
theorem sfP_dec {o a : Int} (ho : 0 <= o /\ o < 256) (ha : 0 <= a /\ a < 256) : sfP (sfX o) (decS a) = decide (a = o) := by
 unfold sfP;have hl2 : (Txt.slice (sfX o) (some 2) none).length = (125 :: DL o).length := by rw [<- toL_len, sfX_2]
 have e1 : (Txt.slice (decS a) (some (-((Txt.slice (sfX o) (some 2) none).length : Int))) none == Txt.slice (sfX o) (some 2) none) = false := by
  rw [show false = decide False from rfl];refine str_beq ⟨fun h => ?_, fun h => h.elim⟩;rw [hl2, toL_sl_last _ _ (by simp), sfX_2] at h;exact decS_free ha (c := 125) (by decide) (List.mem_of_mem_drop (h ▸ List.Mem.head _))
 rw [e1, Bool.or_false];refine str_beq ?_;rw [sfX_3];exact ⟨fun h => DL_inj ha ho h, fun h => by rw [h]⟩
theorem item0L (x : Str) {c : Nat} {r : List Nat} (h : toL x = c :: r) : Txt.item x 0 = ⟨#[c]⟩ := by
 obtain ⟨⟨l⟩⟩ := x;have h : l = c :: r := h;subst h;have e : Txt.charAt (⟨⟨c :: r⟩⟩ : Str) 0 = some c := by
  unfold Txt.charAt;have e0 : seqIndex? (0 : Int) (Str.length (⟨⟨c :: r⟩⟩ : Str)) = some 0 := by
   show seqIndex? (0 : Int) (r.length + 1) = some 0;simp [seqIndex?]
  rw [e0];rfl
 show (⟨#[(Txt.charAt (⟨⟨c :: r⟩⟩ : Str) 0).getD 0]⟩ : Str) = _;rw [e];rfl
theorem bare_way (a b : Int) : (Txt.item (way a b) 0 != Str.ofString "{") = false := by
 rw [item0L _ (way_L a b), show Str.ofString "{" = (⟨#[123]⟩ : Str) by decide +kernel, bne_self_eq_false]
theorem bare_dec {a : Int} (ha : 0 <= a /\ a < 256) : (Txt.item (decS a) 0 != Str.ofString "{") = true := by
 have hl := (decS_len ha).1;rw [<- toL_len] at hl;obtain ⟨c, r, h⟩ : ∃ c r, toL (decS a) = c :: r := by
  cases h : toL (decS a) with
  | nil => rw [h] at hl; cases hl
  | cons c r => exact ⟨c, r, rfl⟩
 rw [item0L _ h, show Str.ofString "{" = (⟨#[123]⟩ : Str) by decide +kernel, bne_iff_ne];intro e;have e : [c] = [123] := congrArg toL e;have : 123 ∈ toL (decS a) := by rw [h, (List.cons.inj e).1]; exact .head _
 exact decS_free ha (by decide) this
noncomputable def namesIn (os : List Int) (es : List (Int × Int)) : List Str := os.map decS ++ es.map fun p => way p.1 p.2
theorem filter_one {o : Int} : ∀ {l : List Int}, l.Nodup -> o ∈ l -> (l.filter fun a => decide (a = o)) = [o]
 | [], _, h => (nomatch h)
 | a :: r, hn, h => by
  obtain ⟨h1, h2⟩ := List.nodup_cons.mp hn;by_cases e : a = o
  ·subst e;rw [List.filter_cons, if_pos (decide_eq_true rfl), List.filter_eq_nil_iff.mpr];intro b hb hd;exact h1 (of_decide_eq_true hd ▸ hb)
  ·rw [List.filter_cons, if_neg (by simpa using e)];exact filter_one h2 ((qC h).resolve_left fun q => e q.symm)
section
variable {os : List Int} {es : List (Int × Int)} (hos : ∀ o ∈ os, 0 <= o /\ o < 256) (hes : ∀ p ∈ es, (0 <= p.1 /\ p.1 < 256) /\ (0 <= p.2 /\ p.2 < 256))
include hos hes
theorem names_bare : (namesIn os es).filter (fun x => Txt.item x 0 != Str.ofString "{") = os.map decS := by
 unfold namesIn;rw [List.filter_append, List.filter_map, List.filter_map];rw [List.filter_eq_self.mpr (fun o ho => show ((fun x => Txt.item x 0 != Str.ofString "{") ∘ decS) o = true from bare_dec (hos o ho)), List.filter_eq_nil_iff.mpr (fun p hp => by simp [Function.comp, bare_way])];simp
theorem names_ns {o : Int} (ho : 0 <= o /\ o < 256) : (namesIn os es).filter (nsP (nsX o)) = (es.filter fun p => decide (p.1 = o)).map fun p => way p.1 p.2 := by
 have e : ∀ p ∈ es, (nsP (nsX o) ∘ fun p : Int × Int => way p.1 p.2) p = (fun p : Int × Int => decide (p.1 = o)) p := by
  intro p hp;rw [Function.comp_apply];exact nsP_way ho (hes p hp).1
 have e2 : ∀ a ∈ os, ¬ (nsP (nsX o) ∘ decS) a = true := by
  intro a ha;rw [Function.comp_apply, nsP_dec (hos a ha)];decide
 unfold namesIn;rw [List.filter_append, List.filter_map, List.filter_map, List.filter_eq_nil_iff.mpr e2, List.filter_congr e, List.map_nil, List.nil_append]
theorem names_sf {o : Int} (hn : os.Nodup) (ho : o ∈ os) : (namesIn os es).filter (sfP (sfX o)) = decS o :: (es.filter fun p => decide (p.2 = o)).map fun p => way p.1 p.2 := by
 have e : ∀ p ∈ es, (sfP (sfX o) ∘ fun p : Int × Int => way p.1 p.2) p = (fun p : Int × Int => decide (p.2 = o)) p := by
  intro p hp;rw [Function.comp_apply];exact sfP_way (hos o ho) (hes p hp).1 (hes p hp).2
 have e2 : ∀ a ∈ os, (sfP (sfX o) ∘ decS) a = (fun a => decide (a = o)) a := by
  intro a ha;rw [Function.comp_apply];exact sfP_dec (hos o ho) (hos a ha)
 unfold namesIn;rw [List.filter_append, List.filter_map, List.filter_map, List.filter_congr e2, List.filter_congr e, filter_one hn ho, List.map_cons, List.map_nil, List.cons_append, List.nil_append]
end
end
end
section
section
set_option maxHeartbeats 400000
noncomputable def hGo (st : List Str × Str × Bool × Bool) (l : List Nat) : List Str × Str × Bool × Bool := (l.map fun (c : Nat) => (c : Int)).foldl hStep st
theorem hGo_app (st : List Str × Str × Bool × Bool) (a b : List Nat) : hGo st (a ++ b) = hGo (hGo st a) b := by unfold hGo; rw [List.map_append, List.foldl_append]
theorem hGo_cons (st : List Str × Str × Bool × Bool) (k : Nat) (b : List Nat) : hGo st (k :: b) = hGo (hStep st (k : Int)) b := rfl
theorem hGo_nil (st : List Str × Str × Bool × Bool) : hGo st [] = st := rfl
noncomputable def sOf (l : List Nat) : Str := ⟨l.toArray⟩
theorem sOf_toL (x : Str) : sOf (toL x) = x := str_ext rfl
theorem sOf_app (a b : List Nat) : sOf a ++ sOf b = sOf (a ++ b) := str_ext (by rw [toL_app]; rfl)
theorem sOf_snoc (x : Str) (k : Nat) : x ++ ⟨#[((k : Nat) : Int).toNat]⟩ = x ++ sOf [k] := rfl
theorem app_assoc (x y z : Str) : x ++ y ++ z = x ++ (y ++ z) := str_ext (by simp only [toL_app, List.append_assoc])
theorem app_nil (x : Str) : x ++ sOf [] = x := str_ext (by rw [toL_app]; exact List.append_nil _)
theorem step_plain {res : List Str} {part : Str} {k : Nat} (h1 : k ≠ 44) (h2 : k ≠ 34) : hStep (res, part, false, false) (k : Int) = (res, part ++ sOf [k], false, false) := by
 have e1 : ¬ (k : Int) = 44 := by omega
 have e2 : ¬ (k : Int) = 34 := by omega
 show (if (k : Int) = 44 then _ else _) = _;rw [if_neg e1, if_neg e2]; rfl
theorem step_quoted {res : List Str} {part : Str} {k : Nat} (h1 : k ≠ 92) (h2 : k ≠ 34) : hStep (res, part, false, true) (k : Int) = (res, part ++ sOf [k], false, true) := by
 have e1 : ¬ (k : Int) = 92 := by omega
 have e2 : ¬ (k : Int) = 34 := by omega
 show (if (k : Int) = 92 then _ else _) = _;rw [if_neg e1, if_neg e2]; rfl
theorem go_plain {res : List Str} : ∀ {l : List Nat} {part : Str}, (∀ k ∈ l, k ≠ 44 /\ k ≠ 34) -> hGo (res, part, false, false) l = (res, part ++ sOf l, false, false)
 | [], part, _ => by rw [app_nil]; rfl
 | k :: r, part, h => by
  rw [hGo_cons, step_plain (h k (.head _)).1 (h k (.head _)).2, go_plain fun j hj => h j (.tail _ hj), app_assoc, sOf_app]; rfl
theorem go_quoted {res : List Str} : ∀ {l : List Nat} {part : Str}, (∀ k ∈ l, k ≠ 92 /\ k ≠ 34) -> hGo (res, part, false, true) l = (res, part ++ sOf l, false, true)
 | [], part, _ => by rw [app_nil]; rfl
 | k :: r, part, h => by
  rw [hGo_cons, step_quoted (h k (.head _)).1 (h k (.head _)).2, go_quoted fun j hj => h j (.tail _ hj), app_assoc, sOf_app]; rfl
theorem wrL_free : ∀ n : Nat, n < 256 -> (wrL n).all (fun k => decide (k ≠ 34 /\ k ≠ 44 /\ k ≠ 92)) = true := by decide +kernel
theorem wrL_no {n k : Nat} (hn : n < 256) (hk : k ∈ wrL n) : k ≠ 34 /\ k ≠ 44 /\ k ≠ 92 := of_decide_eq_true (List.all_eq_true.mp (wrL_free n hn) k hk)
noncomputable def nmc (c : Int) : Nat := 97 + (c % 5).toNat
noncomputable def itL (os : List Int) (c : Int) : List Nat :=
 if c / 180 % 2 = 0 then nmc c :: ([61, 63, 120, 63, 113, 63] ++ wrL (octA c os) ++ wrL (octB c os) ++ [63, 61])
 else nmc c :: ([61, 34, 61, 63, 120, 34, 44, 120, 63, 113, 63] ++ wrL (octA c os) ++ wrL (octB c os) ++ [63, 61, 34])
noncomputable def ltL (os : List Int) (c : Int) : List Nat :=
 if c / 180 % 2 = 0 then nmc c :: ([61, 63, 120, 63, 113, 63] ++ wrL (octA c os) ++ wrL (octB c os) ++ [63, 61])
 else nmc c :: ([61, 34, 61, 63, 120, 92, 34, 44, 120, 63, 113, 63] ++ wrL (octA c os) ++ wrL (octB c os) ++ [63, 61, 34])
theorem toL_item (os : List Int) (c : Int) : toL (itemS os c) = itL os c := by
 unfold itemS itL tailS;by_cases h : c / 180 % 2 = 0
 ·rw [if_pos h, if_pos h];simp only [toL_app, toL_wr, show toL (cName c) = [nmc c] from rfl, show toL (Str.ofString "=?x?q?") = [61, 63, 120, 63, 113, 63] by decide +kernel, show toL (Str.ofString "?=") = [63, 61] by decide +kernel, List.append_assoc, List.cons_append, List.nil_append]
 ·rw [if_neg h, if_neg h];simp only [toL_app, toL_wr, show toL (cName c) = [nmc c] from rfl, show toL (Str.ofString "=\"=?x\",x?q?") = [61, 34, 61, 63, 120, 34, 44, 120, 63, 113, 63] by decide +kernel, show toL (Str.ofString "?=") = [63, 61] by decide +kernel, show toL (Str.ofString "\"") = [34] by decide +kernel, List.append_assoc, List.cons_append, List.nil_append]
theorem toL_letter (os : List Int) (c : Int) : toL (letterS os c) = ltL os c := by
 unfold letterS ltL hword;by_cases h : c / 180 % 2 = 0
 ·rw [if_pos h, if_pos h];simp only [toL_app, toL_mk, show toL (cName c) = [nmc c] from rfl, show toL (Str.ofString "x") = [120] by decide +kernel, List.append_assoc, List.cons_append, List.nil_append]
 ·rw [if_neg h, if_neg h];simp only [toL_app, toL_mk, show toL (cName c) = [nmc c] from rfl, show toL (Str.ofString "x\\\",x") = [120, 92, 34, 44, 120] by decide +kernel, show toL (Str.ofString "=\"") = [61, 34] by decide +kernel, show toL (Str.ofString "\"") = [34] by decide +kernel, List.append_assoc, List.cons_append, List.nil_append]
theorem nmc_b (c : Int) : 97 <= nmc c /\ nmc c <= 101 := by
 have h1 := Int.emod_nonneg c (show (5 : Int) ≠ 0 by decide);have h2 := Int.emod_lt_of_pos c (show (0 : Int) < 5 by decide);unfold nmc;omega
theorem oct_lt {os : List Int} (h : OctOk os) (c : Int) : octA c os < 256 /\ octB c os < 256 := by
 have h1 := h.at (c / 5);have h2 := h.at (c / 30);unfold octA octB;omega
theorem go_letter {os : List Int} (ho : OctOk os) (c : Int) (res : List Str) (part : Str) : hGo (res, part, false, false) (ltL os c) = (res, part ++ sOf (itL os c), false, false) := by
 have hn := nmc_b c;obtain ⟨ha, hb⟩ := oct_lt ho c;have w : ∀ k ∈ wrL (octA c os) ++ wrL (octB c os), k ≠ 34 /\ k ≠ 44 /\ k ≠ 92 := fun k hk => by
  rcases qA hk with hk | hk
  ·exact wrL_no ha hk
  ·exact wrL_no hb hk
 unfold ltL itL;by_cases h : c / 180 % 2 = 0
 ·rw [if_pos h, if_pos h];refine go_plain fun k hk0 => ?_;rcases qC hk0 with rfl | hk
  ·omega
  clear hk0;rw [List.append_assoc [61, 63, 120, 63, 113, 63], List.append_assoc, List.mem_append, List.mem_append] at hk;rcases hk with hk | hk | hk
  ·revert k; decide
  ·exact ⟨(w k hk).2.1, (w k hk).1⟩
  ·revert k; decide
 ·rw [if_neg h, if_neg h];have e1 : nmc c :: ([61, 34, 61, 63, 120, 92, 34, 44, 120, 63, 113, 63] ++ wrL (octA c os) ++ wrL (octB c os) ++ [63, 61, 34]) = [nmc c, 61] ++ (34 :: ([61, 63, 120] ++ (92 :: 34 :: (([44, 120, 63, 113, 63] ++ (wrL (octA c os) ++ wrL (octB c os)) ++ [63, 61]) ++ [34])))) := by simp
  have e2 : nmc c :: ([61, 34, 61, 63, 120, 34, 44, 120, 63, 113, 63] ++ wrL (octA c os) ++ wrL (octB c os) ++ [63, 61, 34]) = [nmc c, 61] ++ [34] ++ [61, 63, 120] ++ [34] ++ ([44, 120, 63, 113, 63] ++ (wrL (octA c os) ++ wrL (octB c os)) ++ [63, 61]) ++ [34] := by simp
  rw [e1, e2, hGo_app, go_plain (l := [nmc c, 61]) (fun k hk => by
   rcases qC hk with rfl | hk
   ·omega
   ·rw [qS hk]; decide)]
  rw [hGo_cons, show hStep (res, part ++ sOf [nmc c, 61], false, false) ((34 : Nat) : Int) = (res, part ++ sOf [nmc c, 61] ++ sOf [34], false, true) from rfl];rw [hGo_app, go_quoted (l := [61, 63, 120]) (by decide)];rw [hGo_cons, hGo_cons];rw [show hStep (hStep (res, part ++ sOf [nmc c, 61] ++ sOf [34] ++ sOf [61, 63, 120], false, true) ((92 : Nat) : Int)) ((34 : Nat) : Int) = (res, part ++ sOf [nmc c, 61] ++ sOf [34] ++ sOf [61, 63, 120] ++ sOf [34], false, true) from rfl];rw [hGo_app, go_quoted (fun k hk => by
   rw [List.mem_append, List.mem_append] at hk;rcases hk with (hk | hk) | hk
   ·revert k; decide
   ·exact ⟨(w k hk).2.2, (w k hk).1⟩
   ·revert k; decide)]
  rw [hGo_cons, hGo_nil];show (res, _ ++ sOf [34], false, false) = _;simp only [app_assoc, sOf_app, List.append_assoc]
noncomputable def pieces (os : List Int) (part : Str) : List Int -> List Str
 | [] => []
 | c :: r => (part ++ sOf (itL os c)) :: pieces os (sOf [32]) r
theorem go_join {os : List Int} (ho : OctOk os) : ∀ (cs : List Int) (c : Int) (res : List Str) (part : Str),
  ∃ l z, pieces os part (c :: cs) = l ++ [z] /\ hGo (res, part, false, false) (toL (Str.join (Str.ofString ", ") ((c :: cs).map (letterS os)))) = (res ++ l, z, false, false)
 | [], c, res, part => ⟨[], part ++ sOf (itL os c), rfl, by
  show hGo _ (toL (letterS os c)) = _;rw [toL_letter, go_letter ho, List.append_nil]⟩
 | d :: r, c, res, part => by
  obtain ⟨l, z, h1, h2⟩ := go_join ho r d (res ++ [part ++ sOf (itL os c)]) (sOf [32]);refine ⟨(part ++ sOf (itL os c)) :: l, z, by show _ :: pieces os (sOf [32]) (d :: r) = _; rw [h1]; rfl, ?_⟩;show hGo _ (toL (letterS os c ++ Str.ofString ", " ++ Str.join (Str.ofString ", ") ((d :: r).map (letterS os)))) = _;rw [toL_app, toL_app, show toL (Str.ofString ", ") = [44, 32] by decide +kernel, toL_letter, hGo_app, hGo_app, go_letter ho];rw [show hGo (res, part ++ sOf (itL os c), false, false) [44, 32] = (res ++ [part ++ sOf (itL os c)], sOf [32], false, false) from by
   rw [hGo_cons];rw [show hStep (res, part ++ sOf (itL os c), false, false) ((44 : Nat) : Int) = (res ++ [part ++ sOf (itL os c)], sOf [], false, false) from rfl];rw [hGo_cons, step_plain (by decide) (by decide), hGo_nil];rfl]
  rw [h2];simp
theorem strip_id {x : Str} {a z : Nat} {l r : List Nat} (h1 : toL x = a :: l) (h2 : toL x = r ++ [z]) (ha : Unicode.isSpace a = false) (hz : Unicode.isSpace z = false) : Txt.strip x = x := by
 have e1 : stripLo Unicode.isSpace true x = 0 := by
  show ((toL x).takeWhile Unicode.isSpace).length = 0;rw [h1, List.takeWhile_cons_of_neg (by simp [ha])]; rfl
 have e2 : stripHi Unicode.isSpace true x 0 = x.length := by
  show x.length - (((toL x).drop 0).reverse.takeWhile Unicode.isSpace).length = x.length;rw [List.drop_zero, h2, List.reverse_append, List.reverse_singleton, List.singleton_append, List.takeWhile_cons_of_neg (by simp [hz])]; rfl
 unfold Txt.strip Txt.stripBy;rw [if_pos];unfold stripSame;rw [e1, e2];simp
theorem strip_one {x : Str} {a z : Nat} {l r : List Nat} (h1 : toL x = a :: l) (h2 : toL x = r ++ [z]) (ha : Unicode.isSpace a = false) (hz : Unicode.isSpace z = false) : Txt.strip (sOf [32] ++ x) = x := by
 have hL : toL (sOf [32] ++ x) = 32 :: toL x := by rw [toL_app]; rfl
 have hl : (sOf [32] ++ x).length = x.length + 1 := by rw [<- toL_len, hL]; rfl
 have e1 : stripLo Unicode.isSpace true (sOf [32] ++ x) = 1 := by
  show ((toL (sOf [32] ++ x)).takeWhile Unicode.isSpace).length = 1;rw [hL, h1, List.takeWhile_cons_of_pos (by decide +kernel), List.takeWhile_cons_of_neg (by simp [ha])]; rfl
 have e2 : stripHi Unicode.isSpace true (sOf [32] ++ x) 1 = x.length + 1 := by
  show (sOf [32] ++ x).length - (((toL (sOf [32] ++ x)).drop 1).reverse.takeWhile Unicode.isSpace).length = x.length + 1;rw [hL, List.drop_one, List.tail_cons, h2, List.reverse_append, List.reverse_singleton, List.singleton_append, List.takeWhile_cons_of_neg (by simp [hz]), hl]; rfl
 unfold Txt.strip Txt.stripBy;rw [if_neg]
 ·unfold PySem.stripped;rw [e1, e2];apply str_ext;show ((sOf [32] ++ x).cps.extract 1 (x.length + 1)).toList = toL x;rw [Array.toList_extract];show ((toL (sOf [32] ++ x)).drop 1).take (x.length + 1 - 1) = toL x;rw [hL, List.drop_one, List.tail_cons, Nat.add_sub_cancel, <- toL_len, List.take_length]
 ·unfold stripSame;rw [e1];simp
theorem itL_ends (os : List Int) (c : Int) : (∃ a l, itL os c = a :: l /\ Unicode.isSpace a = false) /\ ∃ r z, itL os c = r ++ [z] /\ Unicode.isSpace z = false := by
 have hn := nmc_b c;have h1 : ∀ a : Nat, a < 102 -> 97 <= a -> Unicode.isSpace a = false := by decide +kernel
 unfold itL;by_cases h : c / 180 % 2 = 0
 ·rw [if_pos h];refine ⟨⟨_, _, rfl, h1 _ (by omega) hn.1⟩, nmc c :: ([61, 63, 120, 63, 113, 63] ++ wrL (octA c os) ++ wrL (octB c os) ++ [63]), 61, by simp, by decide +kernel⟩
 ·rw [if_neg h];refine ⟨⟨_, _, rfl, h1 _ (by omega) hn.1⟩, nmc c :: ([61, 34, 61, 63, 120, 34, 44, 120, 63, 113, 63] ++ wrL (octA c os) ++ wrL (octB c os) ++ [63, 61]), 34, by simp, by decide +kernel⟩
theorem pieces_strip (os : List Int) : ∀ (cs : List Int) (part : Str), part = sOf [] \/ part = sOf [32] -> (pieces os part cs).map Txt.strip = cs.map (itemS os)
 | [], _, _ => rfl
 | c :: r, part, h => by
  obtain ⟨⟨a, l, e1, ha⟩, q, z, e2, hz⟩ := itL_ends os c;have e : sOf (itL os c) = itemS os c := by rw [<- toL_item, sOf_toL]
  show Txt.strip (part ++ sOf (itL os c)) :: (pieces os (sOf [32]) r).map Txt.strip = itemS os c :: r.map (itemS os);rw [pieces_strip os r _ (.inr rfl), e];rw [<- toL_item] at e1 e2;rcases h with rfl | rfl
  ·rw [show sOf [] ++ itemS os c = itemS os c from str_ext (by rw [toL_app]; rfl), strip_id e1 e2 ha hz]
  ·rw [strip_one e1 e2 ha hz]
theorem parse_letter {os : List Int} (ho : OctOk os) {cs : List Int} (hc : cs ≠ []) : hParse (Txt.join (Str.ofString ", ") (cs.map (letterS os))) = cs.map (itemS os) := by
 obtain ⟨c, r, rfl⟩ := List.exists_cons_of_ne_nil hc;obtain ⟨l, z, h1, h2⟩ := go_join ho r c [] (sOf []);have hj : Txt.join (Str.ofString ", ") ((c :: r).map (letterS os)) = Str.join (Str.ofString ", ") ((c :: r).map (letterS os)) := StrLaws.glued_eq_join _ _;have hr : hRun (KStt.codes (Txt.join (Str.ofString ", ") ((c :: r).map (letterS os)))) = (l, z, false, false) := by
  rw [hj];rw [List.nil_append] at h2;exact h2
 have hz : z.length ≠ 0 := by
  have hm : z ∈ pieces os (sOf []) (c :: r) := by rw [h1]; exact qR _ (.head _)
  have hp : ∀ (cs : List Int) (part : Str), ∀ y ∈ pieces os part cs, y.length ≠ 0 := by
   intro cs
   induction cs with
   | nil => intro part y hy; cases hy
   | cons d r ih =>
    intro part y hy;rcases qC hy with rfl | hy
    ·obtain ⟨⟨a, l, e1, _⟩, _⟩ := itL_ends os d;rw [<- toL_len, toL_app, e1];show (toL part ++ toL (sOf (a :: l))).length ≠ 0;rw [List.length_append];show _ + (a :: l).length ≠ 0;simp
    ·exact ih _ y hy
  exact hp _ _ z hm
 unfold hParse;rw [hr];show (if z.length = 0 then l else l ++ [z]).map Txt.strip = _;rw [if_neg hz, <- h1];exact pieces_strip os _ _ (.inl rfl)
theorem letter_len {os : List Int} : ∀ (cs : List Int), (Txt.join (Str.ofString ", ") (cs.map (letterS os))).length <= cs.length * 40 := by
 intro cs;have h1 : ∀ y ∈ cs.map (letterS os), y.length <= 35 := fun y hy => by
  obtain ⟨c, _, rfl⟩ := List.mem_map.mp hy;have a1 : (wrL (octA c os)).length <= 3 := wr_length _;have a2 : (wrL (octB c os)).length <= 3 := wr_length _;rw [<- toL_len, toL_letter];unfold ltL;split <;> simp only [List.length_cons, List.length_append, List.length_nil] <;> omega
 rw [show Txt.join (Str.ofString ", ") (cs.map (letterS os)) = Str.join (Str.ofString ", ") (cs.map (letterS os)) from StrLaws.glued_eq_join _ _];refine Nat.le_trans (StrLaws.join_length_le _ _) ?_;have h2 := sum_le (cs.map (letterS os)) h1;rw [List.length_map] at h2 ⊢;rw [show (Str.ofString ", ").length = 2 by decide +kernel];omega
end
end
section
section
set_option maxHeartbeats 400000
open PySem.Builtin.Re
noncomputable def valL (os : List Int) (c : Int) : List Nat :=
 if c / 180 % 2 = 0 then [63, 120, 63, 113, 63] ++ (wrL (octA c os) ++ (wrL (octB c os) ++ [63, 61]))
 else [34, 61, 63, 120, 34, 44, 120, 63, 113, 63] ++ (wrL (octA c os) ++ (wrL (octB c os) ++ [63, 61, 34]))
noncomputable def preL (c : Int) : List Nat := if c / 180 % 2 = 0 then [63, 120, 63, 113, 63] else [61, 63, 120, 34, 44, 120, 63, 113, 63]
noncomputable def unqL (os : List Int) (c : Int) : List Nat := preL c ++ (wrL (octA c os) ++ (wrL (octB c os) ++ [63, 61]))
theorem item_cut (os : List Int) (c : Int) : itemS os c = cName c ++ Str.ofString "=" ++ sOf (valL os c) := by
 apply str_ext;rw [toL_item, toL_app, toL_app, show toL (cName c) = [nmc c] from rfl, show toL (Str.ofString "=") = [61] by decide +kernel, show toL (sOf (valL os c)) = valL os c from rfl];unfold itL valL;split <;> simp
theorem val_len (os : List Int) (c : Int) : 2 <= (sOf (valL os c)).length /\ (sOf (valL os c)).length <= 100 := by
 have a1 : (wrL (octA c os)).length <= 3 := wr_length _;have a2 : (wrL (octB c os)).length <= 3 := wr_length _;rw [<- toL_len, show toL (sOf (valL os c)) = valL os c from rfl];unfold valL;split <;> simp only [List.length_append, List.length_cons, List.length_nil] <;> omega
theorem itemN1 (x : Str) {c : Nat} {r : List Nat} (h : toL x = r ++ [c]) : Txt.item x (-1) = ⟨#[c]⟩ := by
 have hl : x.length = r.length + 1 := by rw [<- toL_len, h]; simp
 have e : Txt.charAt x (-1) = some c := by
  unfold Txt.charAt;have e0 : seqIndex? (-1 : Int) x.length = some r.length := by
   rw [hl]; simp [seqIndex?]; omega
  rw [e0];show x.cps[r.length]? = some c;rw [<- Array.getElem?_toList];show (toL x)[r.length]? = some c;rw [h]; simp
 unfold Txt.item;rw [e]; rfl
theorem unqt_val (os : List Int) (c : Int) : unqt (sOf (valL os c)) = sOf (unqL os c) := by
 unfold unqt;by_cases h : c / 180 % 2 = 0
 ·have hv : toL (sOf (valL os c)) = 63 :: ([120, 63, 113, 63] ++ (wrL (octA c os) ++ (wrL (octB c os) ++ [63, 61]))) := by
   show valL os c = _;unfold valL; rw [if_pos h]; rfl
  rw [if_neg]
  ·unfold valL unqL preL; rw [if_pos h, if_pos h]
  ·rintro ⟨h1, _⟩;rw [item0L _ hv, show Str.ofString "\"" = (⟨#[34]⟩ : Str) by decide +kernel] at h1;exact absurd (str_eq_iff.mp h1) (by decide)
 ·have hv0 : valL os c = 34 :: (unqL os c ++ [34]) := by
   unfold valL unqL preL; rw [if_neg h, if_neg h]; simp
  have hv : toL (sOf (valL os c)) = 34 :: (unqL os c ++ [34]) := hv0;have hl : (sOf (valL os c)).length = (unqL os c).length + 2 := by rw [<- toL_len, hv]; simp
  rw [if_pos]
  ·rw [slice_at _ (some 1) (some (-1)) 1 ((unqL os c).length + 1) ?_ ?_ (by omega) (by omega)]
   ·rw [hv];show sOf (((34 :: (unqL os c ++ [34])).drop 1).take ((unqL os c).length + 1 - 1)) = _;rw [List.drop_one, List.tail_cons, Nat.add_sub_cancel, List.take_append_of_le_length (Nat.le_refl _), List.take_length]
   ·rw [hl];show max (0 : Int) (min (if (1 : Int) < 0 then _ else 1) _) = _;rw [if_neg (by decide)]; exact (mmPos 1 ((unqL os c).length + 2)).trans (congrArg _ (Nat.min_eq_left (Nat.le_add_left 1 _)))
   ·rw [hl];show max (0 : Int) (min (if (-1 : Int) < 0 then (-1 : Int) + ((unqL os c).length + 2 : Nat) else _) _) = _;rw [if_pos (by decide)]; exact mmNeg 1 ((unqL os c).length + 2)
  ·rw [item0L _ hv, itemN1 (r := 34 :: unqL os c) _ hv, show Str.ofString "\"" = (⟨#[34]⟩ : Str) by decide +kernel];exact ⟨beq_self_eq_true _, beq_self_eq_true _⟩
def Calm (b : List Nat) : Prop := ∀ r i, i < b.length -> hitAt (b ++ r).toArray i = false
theorem hit_ne {t : List Nat} {i : Nat} (h : t[i]? ≠ some 61) (hi : i < t.length) : hitAt t.toArray i = false := by
 unfold hitAt;have e : (t.toArray.getD i 0 == 61) = false := by
  rw [Array.getD_eq_getD_getElem?, List.getElem?_toArray];rw [List.getElem?_eq_getElem hi] at h ⊢
  simpa using h
 rw [e]; simp
theorem Calm.free {b : List Nat} (h : 61 ∉ b) : Calm b := fun r i hi => hit_ne (fun e => by
 rw [List.getElem?_append_left hi] at e;exact h (qG e)) (by rw [List.length_append]; omega)
theorem calm_pre (c : Int) : Calm (preL c) := by
 unfold preL;split
 ·exact Calm.free (by decide)
 ·intro r i hi;cases i with
  | zero =>
   unfold hitAt;have e1 : ([61, 63, 120, 34, 44, 120, 63, 113, 63] ++ r).toArray.getD (0 + 1) 0 = 63 := by simp [Array.getD_eq_getD_getElem?]
   rw [e1, show isH 63 = false by decide];simp
  | succ i =>
   refine hit_ne (fun e => ?_) (by rw [List.length_append]; omega);rw [List.getElem?_append_left hi] at e;have : 61 ∈ [63, 120, 34, 44, 120, 63, 113, 63] := qG (i := i) (by simpa using e);revert this; decide
theorem Dec.calm {b r z : List Nat} (hb : Calm b) (h : Dec r z) : Dec (b ++ r) (b ++ z) := by
 cases h with
 | rest _ hn =>
  refine .rest _ fun i => ?_;by_cases hi : i < b.length
  ·exact hb _ _ hi
  ·have := hitAt_drop (b ++ r) b.length (i - b.length) (by simp);rw [Nat.add_sub_cancel' (by omega)] at this;rw [this, List.drop_left]; exact hn _
 | hit b' p q r' z' hp hq hn h' =>
  rw [<- List.append_assoc, <- List.append_assoc];refine .hit (b ++ b') p q r' z' hp hq (fun i hi => ?_) h';rw [List.append_assoc];by_cases hib : i < b.length
  ·exact hb _ _ hib
  ·have := hitAt_drop (b ++ (b' ++ 61 :: hexd p :: hexd q :: r')) b.length (i - b.length) (by simp);rw [Nat.add_sub_cancel' (by omega)] at this;rw [this, List.drop_left];refine hn _ ?_;rw [List.length_append] at hi;omega
theorem us_hexd : ∀ k : Nat, k < 16 -> us (hexd k) = hexd k := by decide
theorem safe_no : ∀ n : Nat, n < 256 -> safe n = true -> n ≠ 95 /\ n ≠ 61 := by decide +kernel
theorem Dec.tok {a : Nat} (ha : a < 256) {r z : List Nat} (h : Dec r z) : Dec ((wrL a).map us ++ r) (a :: z) := by
 unfold wrL;by_cases hs : safe a = true
 ·rw [if_pos hs];obtain ⟨h1, h2⟩ := safe_no a ha hs;have e : [a].map us = [a] := by show [us a] = [a]; unfold us; rw [if_neg h1]
  rw [e];exact Dec.calm (b := [a]) (Calm.free (by simpa using fun e => h2 e.symm)) h
 ·rw [if_neg hs];by_cases h32 : a = 32
  ·rw [if_pos h32, h32];exact Dec.calm (b := [32]) (Calm.free (by decide)) h
  ·rw [if_neg h32];have e : [61, hexd (a / 16), hexd (a % 16)].map us = [61, hexd (a / 16), hexd (a % 16)] := by
    show [us 61, us (hexd (a / 16)), us (hexd (a % 16))] = _;rw [us_hexd _ (by omega), us_hexd _ (by omega)]; rfl
   rw [e];have := Dec.hit [] (a / 16) (a % 16) r z (by omega) (by omega) (fun i hi => absurd hi (Nat.not_lt_zero i)) h;rw [Nat.div_add_mod] at this;exact this
theorem word_ok {os : List Int} (ho : OctOk os) (c : Int) : WordOk (sOf (unqL os c)) (preL c) (octA c os) (octB c os) := by
 obtain ⟨ha, hb⟩ := oct_lt ho c;have a1 : (wrL (octA c os)).length <= 3 := wr_length _;have a2 : (wrL (octB c os)).length <= 3 := wr_length _;have hp : (preL c).length <= 9 := by unfold preL; split <;> decide
 refine ⟨?_, ?_, by omega, ha, hb⟩
 ·have e1 : (preL c).map us = preL c := us_free _ (by unfold preL; split <;> decide);have e2 : ([63, 61] : List Nat).map us = [63, 61] := by decide
  show Dec ((unqL os c).map us) _;unfold unqL;rw [List.map_append, List.map_append, List.map_append, e1, e2];refine Dec.calm (calm_pre c) (Dec.tok ha (Dec.tok hb (.rest _ fun i => ?_)));unfold hitAt;rw [decide_eq_false (by show ¬ i + 3 <= 2; omega)]; rfl
 ·show (unqL os c).length <= 1000;unfold unqL;simp only [List.length_append, List.length_cons, List.length_nil];omega
noncomputable def wordsOf (os : List Int) (cs : List Int) : List (Str × Str) := (lastOf cs).map fun q => (q.1, sOf (unqL os q.2))
theorem putS_map (os : List Int) (sp : List (Str × Int)) (k : Str) (c : Int) : putS (sp.map fun q => (q.1, sOf (unqL os q.2))) k (sOf (unqL os c)) = (putG sp k c).map fun q => (q.1, sOf (unqL os q.2)) := by
 unfold putS putG;rw [List.any_map];by_cases h : sp.any (fun kv => decide (kv.1 = k)) = true
 ·rw [if_pos (by exact h), if_pos h, List.map_map, List.map_map];refine List.map_congr_left fun q _ => ?_;show (if q.1 = k then (q.1, sOf (unqL os c)) else (q.1, sOf (unqL os q.2))) = ((if q.1 = k then (q.1, c) else q).1, sOf (unqL os (if q.1 = k then (q.1, c) else q).2));by_cases e : q.1 = k
  ·rw [if_pos e, if_pos e]
  ·rw [if_neg e, if_neg e]
 ·rw [if_neg (by exact h), if_neg h, List.map_append]; rfl
theorem spec_words (os : List Int) (cs : List Int) : specK (cs.map fun c => (cName c, sOf (valL os c))) = wordsOf os cs := by
 have go : ∀ (cs : List Int) (sp : List (Str × Int)), (cs.map fun c => (cName c, sOf (valL os c))).foldl (fun sp q => putS sp q.1 (unqt q.2)) (sp.map fun q => (q.1, sOf (unqL os q.2))) = (cs.foldl (fun sp c => putG sp (cName c) c) sp).map fun q => (q.1, sOf (unqL os q.2)) := by
  intro cs
  induction cs with
  | nil => intro sp; rfl
  | cons c r ih =>
   intro sp;show (r.map fun c => (cName c, sOf (valL os c))).foldl _ (putS (sp.map fun q => (q.1, sOf (unqL os q.2))) (cName c) (unqt (sOf (valL os c)))) = _;rw [unqt_val, putS_map, ih];rfl
 exact go cs []
theorem keys_putG {sp : List (Str × Int)} {k : Str} {c : Int} : (putG sp k c).map (·.1) = if k ∈ sp.map (·.1) then sp.map (·.1) else sp.map (·.1) ++ [k] := by
 unfold putG;have e : (sp.any fun kv => decide (kv.1 = k)) = true ↔ k ∈ sp.map (·.1) := by
  rw [List.any_eq_true, List.mem_map];exact ⟨fun ⟨q, hq, h⟩ => ⟨q, hq, of_decide_eq_true h⟩, fun ⟨q, hq, h⟩ => ⟨q, hq, decide_eq_true h⟩⟩
 by_cases h : k ∈ sp.map (·.1)
 ·rw [if_pos (e.mpr h), if_pos h, List.map_map];refine List.map_congr_left fun q _ => ?_;show (if q.1 = k then (q.1, c) else q).1 = q.1;split <;> rfl
 ·rw [if_neg fun q => h (e.mp q), if_neg h, List.map_append]; rfl
theorem keys_mem (cs : List Int) (k : Str) : k ∈ (lastOf cs).map (·.1) ↔ k ∈ cs.map cName := by
 have go : ∀ (cs : List Int) (sp : List (Str × Int)), k ∈ (cs.foldl (fun sp c => putG sp (cName c) c) sp).map (·.1) ↔ k ∈ sp.map (·.1) \/ k ∈ cs.map cName := by
  intro cs
  induction cs with
  | nil => intro sp; simp
  | cons c r ih =>
   intro sp;rw [List.foldl_cons, ih, keys_putG, List.map_cons, List.mem_cons];split
   ·rename_i h;constructor
    ·rintro (h1 | h1)
     ·exact .inl h1
     ·exact .inr (.inr h1)
    ·rintro (h1 | rfl | h1)
     ·exact .inl h1
     ·exact .inl h
     ·exact .inr h1
   ·rw [List.mem_append, List.mem_singleton];constructor
    ·rintro ((h1 | h1) | h1)
     ·exact .inl h1
     ·exact .inr (.inl h1)
     ·exact .inr (.inr h1)
    ·rintro (h1 | h1 | h1)
     ·exact .inl (.inl h1)
     ·exact .inl (.inr h1)
     ·exact .inr h1
 have h := go cs [];constructor
 ·intro hk;rcases h.mp hk with h1 | h1
  ·cases h1
  ·exact h1
 ·exact fun hk => h.mpr (.inr hk)
theorem keys_firsts {cs : List Int} : ∀ i, i <= cs.length -> (lastOf (cs.take i)).map (·.1) = firstsTo (cs.map cName) i
 | 0, _ => rfl
 | i + 1, h => by
  have hc : cs[i]? = some cs[i] := List.getElem?_eq_getElem (by omega);have hg : (cs.map cName).getD i Str.empty = cName cs[i] := by
   rw [List.getD_eq_getElem?_getD, List.getElem?_map, hc]; rfl
  have ih := keys_firsts (cs := cs) i (by omega);have hm : cName cs[i] ∈ (lastOf (cs.take i)).map (·.1) ↔ (cs.map cName).getD i Str.empty ∈ (cs.map cName).take i := by
   rw [keys_mem, hg, List.map_take]
  rw [lastOf_snoc hc, keys_putG];by_cases hk : cName cs[i] ∈ (lastOf (cs.take i)).map (·.1)
  ·rw [if_pos hk, firstsTo_skip (hm.mp hk), ih]
  ·rw [if_neg hk, firstsTo_add fun q => hk (hm.mpr q), ih, hg]
theorem lastOf_le (cs : List Int) : (lastOf cs).length <= cs.length := by
 have go : ∀ (cs : List Int) (sp : List (Str × Int)), (cs.foldl (fun sp c => putG sp (cName c) c) sp).length <= sp.length + cs.length := by
  intro cs
  induction cs with
  | nil => intro sp; exact Nat.le_refl _
  | cons c r ih =>
   intro sp;refine Nat.le_trans (ih _) ?_;have : (putG sp (cName c) c).length <= sp.length + 1 := by unfold putG; split <;> simp
   rw [List.length_cons];show (putG sp (cName c) c).length + _ <= _;omega
 have h := go cs [];rw [List.length_nil, Nat.zero_add] at h;exact h
end
end
section
section
set_option maxHeartbeats 400000
noncomputable abbrev Oc (os : List Int) (i : Nat) : Int := os.getD i 0
structure Octs (os : List Int) : Prop where
 ok : OctOk os
 nd : os.Nodup
 co' : ∀ i, i < 6 -> Oc os (co i) = 255 - Oc os i
theorem plain_get (cs : List Int) : plainOf cs = [(cs.getD 6 0 + (cs.getD 6 0 / 128 * 2 + 1) * 0) % 128, (cs.getD 6 0 + (cs.getD 6 0 / 128 * 2 + 1) * 1) % 128, (cs.getD 6 0 + (cs.getD 6 0 / 128 * 2 + 1) * 2) % 128] := rfl
theorem plain_b (cs : List Int) : ∀ o ∈ plainOf cs, 0 <= o /\ o < 128 := by
 intro o ho;obtain ⟨k, _, rfl⟩ := List.mem_map.mp ho;exact ⟨Int.emod_nonneg _ (by decide), Int.emod_lt_of_pos _ (by decide)⟩
theorem octs_ok (cs : List Int) : Octs (octsOf cs) := by
 obtain ⟨a, b, c, e, ha, hb, hc, h1, h2, h3⟩ : ∃ a b c : Int, plainOf cs = [a, b, c] /\ (0 <= a /\ a < 128) /\ (0 <= b /\ b < 128) /\ (0 <= c /\ c < 128) /\ a ≠ b /\ a ≠ c /\ b ≠ c := by
  refine ⟨_, _, _, plain_get cs, ⟨Int.emod_nonneg _ (by decide), Int.emod_lt_of_pos _ (by decide)⟩, ⟨Int.emod_nonneg _ (by decide), Int.emod_lt_of_pos _ (by decide)⟩, ⟨Int.emod_nonneg _ (by decide), Int.emod_lt_of_pos _ (by decide)⟩, ?_, ?_, ?_⟩ <;> (generalize cs.getD 6 0 = x; omega)
 have eo : octsOf cs = [a, b, c, 255 - a, 255 - b, 255 - c] := by unfold octsOf; rw [e]; rfl
 rw [eo];refine ⟨⟨rfl, fun o ho => ?_⟩, ?_, fun i hi => ?_⟩
 ·simp only [List.mem_cons, List.not_mem_nil, or_false] at ho;omega
 ·simp only [List.nodup_cons, List.mem_cons, List.not_mem_nil, or_false, List.nodup_nil, and_true, not_false_eq_true];refine ⟨?_, ?_, ?_, ?_, ?_⟩ <;> omega
 ·have : i = 0 \/ i = 1 \/ i = 2 \/ i = 3 \/ i = 4 \/ i = 5 := by omega
  rcases this with rfl | rfl | rfl | rfl | rfl | rfl
  ·rfl
  ·rfl
  ·rfl
  ·show a = 255 - (255 - a); omega
  ·show b = 255 - (255 - b); omega
  ·show c = 255 - (255 - c); omega
section
variable {os : List Int} (h : Octs os)
include h
theorem oc_b {i : Nat} (hi : i < 6) : 0 <= Oc os i /\ Oc os i < 256 := h.ok.2 _ (by
 show os.getD i 0 ∈ os;rw [List.getD_eq_getElem?_getD, List.getElem?_eq_getElem (by rw [h.ok.1]; exact hi)];exact List.getElem_mem _)
theorem oc_mem {o : Int} : o ∈ os ↔ ∃ i, i < 6 /\ o = Oc os i := by
 constructor
 ·intro ho;obtain ⟨i, hi, e⟩ := List.mem_iff_getElem.mp ho;refine ⟨i, h.ok.1 ▸ hi, ?_⟩;show o = os.getD i 0;rw [List.getD_eq_getElem?_getD, List.getElem?_eq_getElem hi, <- e]; rfl
 ·rintro ⟨i, hi, rfl⟩;show os.getD i 0 ∈ os;rw [List.getD_eq_getElem?_getD, List.getElem?_eq_getElem (by rw [h.ok.1]; exact hi)];exact List.getElem_mem _
theorem oc_inj {i j : Nat} (hi : i < 6) (hj : j < 6) (e : Oc os i = Oc os j) : i = j := by
 have h1 : i < os.length := by rw [h.ok.1]; exact hi
 have h2 : j < os.length := by rw [h.ok.1]; exact hj
 have e1 : os[i] = os[j] := by
  have e : os.getD i 0 = os.getD j 0 := e;rw [List.getD_eq_getElem?_getD, List.getD_eq_getElem?_getD, List.getElem?_eq_getElem h1, List.getElem?_eq_getElem h2] at e;exact e
 exact (List.getElem_inj h.nd).mp e1
theorem oc_at {i : Nat} {v : Int} (hv : os[i]? = some v) : i < 6 /\ v = Oc os i := by
 refine ⟨h.ok.1 ▸ (List.getElem?_eq_some_iff.mp hv).1, ?_⟩;show v = os.getD i 0;rw [List.getD_eq_getElem?_getD, hv]; rfl
theorem oc_co {o : Int} (ho : o ∈ os) : 255 - o ∈ os := by
 obtain ⟨i, hi, rfl⟩ := (oc_mem h).mp ho;exact (oc_mem h).mpr ⟨co i, co_lt i, (h.co' i hi).symm⟩
end
noncomputable def waysOf (os : List Int) (cl : List (Nat × Nat)) : List (Int × Int) := cl.flatMap fun q => [(255 - Oc os q.1, Oc os q.2), (255 - Oc os q.2, Oc os q.1)]
noncomputable def onwOf (os : List Int) (cl : List (Nat × Nat)) (o : Int) : List (Int × Int) := (waysOf os cl).filter fun p => decide (p.1 = o)
noncomputable def bwOf (os : List Int) (cl : List (Nat × Nat)) (o : Int) : List (Int × Int) := (waysOf os cl).filter fun p => decide (p.2 = o)
noncomputable def sfOf (os : List Int) (cl : List (Nat × Nat)) (o : Int) : List Int := (onwOf os cl o).map (·.2)
noncomputable def snOf (os : List Int) (cl : List (Nat × Nat)) (o : Int) : List Int := (bwOf os cl o).map (·.1)
section
variable {os : List Int} {cl : List (Nat × Nat)} (h : Octs os) (hcl : ∀ q ∈ cl, q.1 < 6 /\ q.2 < 6)
omit h hcl in
theorem ways_len : (waysOf os cl).length = 2 * cl.length := by
 unfold waysOf
 induction cl with
 | nil => rfl
 | cons a r ih => rw [List.flatMap_cons, List.length_append, ih, List.length_cons]; simp only [List.length_cons, List.length_nil]; omega
include h hcl
theorem way_ed {x y : Int} : (x, y) ∈ waysOf os cl ↔ ∃ i j, i < 6 /\ j < 6 /\ x = Oc os i /\ y = Oc os j /\ ed cl i j := by
 unfold waysOf;rw [List.mem_flatMap];constructor
 ·rintro ⟨q, hq, hm⟩;obtain ⟨h1, h2⟩ := hcl q hq;simp only [List.mem_cons, List.not_mem_nil, or_false, Prod.mk.injEq] at hm;rcases hm with ⟨rfl, rfl⟩ | ⟨rfl, rfl⟩
  ·exact ⟨co q.1, q.2, co_lt _, h2, (h.co' _ h1).symm, rfl, q, hq, .inl ⟨rfl, rfl⟩⟩
  ·exact ⟨co q.2, q.1, co_lt _, h1, (h.co' _ h2).symm, rfl, q, hq, .inr ⟨rfl, rfl⟩⟩
 ·rintro ⟨i, j, _, _, rfl, rfl, q, hq, hm⟩;obtain ⟨h1, h2⟩ := hcl q hq;refine ⟨q, hq, ?_⟩;simp only [List.mem_cons, List.not_mem_nil, or_false, Prod.mk.injEq];rcases hm with ⟨rfl, rfl⟩ | ⟨rfl, rfl⟩
  ·exact .inl ⟨h.co' _ h1, rfl⟩
  ·exact .inr ⟨h.co' _ h2, rfl⟩
theorem ways_b : ∀ p ∈ waysOf os cl, (0 <= p.1 /\ p.1 < 256) /\ (0 <= p.2 /\ p.2 < 256) := by
 rintro ⟨x, y⟩ hp;obtain ⟨i, j, hi, hj, rfl, rfl, _⟩ := (way_ed h hcl).mp hp;exact ⟨oc_b h hi, oc_b h hj⟩
theorem sf_ed {i : Nat} {y : Int} (hi : i < 6) : y ∈ sfOf os cl (Oc os i) ↔ ∃ j, j < 6 /\ y = Oc os j /\ ed cl i j := by
 unfold sfOf onwOf;rw [List.mem_map];constructor
 ·rintro ⟨⟨a, b⟩, hm, rfl⟩;obtain ⟨hm, ha⟩ := List.mem_filter.mp hm;have ha : a = Oc os i := of_decide_eq_true ha;obtain ⟨i2, j, hi2, hj, e1, e2, he⟩ := (way_ed h hcl).mp hm;obtain rfl := oc_inj h hi2 hi (e1.symm.trans ha);exact ⟨j, hj, e2, he⟩
 ·rintro ⟨j, hj, rfl, he⟩;exact ⟨(Oc os i, Oc os j), List.mem_filter.mpr ⟨(way_ed h hcl).mpr ⟨i, j, hi, hj, rfl, rfl, he⟩, decide_eq_true rfl⟩, rfl⟩
theorem sn_ed {i : Nat} {y : Int} (hi : i < 6) : y ∈ snOf os cl (Oc os i) ↔ ∃ j, j < 6 /\ y = Oc os j /\ ed cl j i := by
 unfold snOf bwOf;rw [List.mem_map];constructor
 ·rintro ⟨⟨a, b⟩, hm, rfl⟩;obtain ⟨hm, hb⟩ := List.mem_filter.mp hm;have hb : b = Oc os i := of_decide_eq_true hb;obtain ⟨i2, j, hi2, hj, e1, e2, he⟩ := (way_ed h hcl).mp hm;obtain rfl := oc_inj h hj hi (e2.symm.trans hb);exact ⟨i2, hi2, e1, he⟩
 ·rintro ⟨j, hj, rfl, he⟩;exact ⟨(Oc os j, Oc os i), List.mem_filter.mpr ⟨(way_ed h hcl).mpr ⟨j, i, hj, hi, rfl, rfl, he⟩, decide_eq_true rfl⟩, rfl⟩
theorem rc_sf {i : Nat} (hi : i < 6) {y : Int} : RcI (sfOf os cl) (Oc os i) y ↔ ∃ j, j < 6 /\ y = Oc os j /\ Rc (ed cl) i j := by
 constructor
 ·intro hr
  induction hr with
  | refl => exact ⟨i, hi, rfl, .refl _⟩
  | step _ s ih =>
   obtain ⟨j, hj, rfl, hij⟩ := ih;obtain ⟨k, hk, rfl, hjk⟩ := (sf_ed h hcl hj).mp s;exact ⟨k, hk, rfl, .step hij hjk⟩
 ·rintro ⟨j, hj, rfl, hr⟩;clear hj
  induction hr with
  | refl => exact .refl _
  | step r s ih =>
   have hb := ed_lt hcl _ _ s;exact .step ih ((sf_ed h hcl hb.1).mpr ⟨_, hb.2, rfl, s⟩)
theorem rc_sn {i : Nat} (hi : i < 6) {y : Int} : RcI (snOf os cl) (Oc os i) y ↔ ∃ j, j < 6 /\ y = Oc os j /\ Rc (ed cl) j i := by
 constructor
 ·intro hr
  induction hr with
  | refl => exact ⟨i, hi, rfl, .refl _⟩
  | step _ s ih =>
   obtain ⟨j, hj, rfl, hij⟩ := ih;obtain ⟨k, hk, rfl, hjk⟩ := (sn_ed h hcl hj).mp s;exact ⟨k, hk, rfl, .head hjk hij⟩
 ·have go : ∀ {a b : Nat}, Rc (ed cl) a b -> ∀ {x : Int}, RcI (snOf os cl) x (Oc os b) -> RcI (snOf os cl) x (Oc os a) := by
   intro a b hr
   induction hr with
   | refl => exact fun hx => hx
   | step r s ih =>
    intro x hx;have hb := ed_lt hcl _ _ s;exact ih (.step hx ((sn_ed h hcl hb.2).mpr ⟨_, hb.1, rfl, s⟩))
  rintro ⟨j, _, rfl, hr⟩;exact go hr (.refl _)
theorem sf_closed : ∀ o ∈ os, ∀ x ∈ sfOf os cl o, x ∈ os := by
 intro o ho x hx;obtain ⟨i, hi, rfl⟩ := (oc_mem h).mp ho;obtain ⟨j, hj, rfl, _⟩ := (sf_ed h hcl hi).mp hx;exact (oc_mem h).mpr ⟨j, hj, rfl⟩
theorem sn_closed : ∀ o ∈ os, ∀ x ∈ snOf os cl o, x ∈ os := by
 intro o ho x hx;obtain ⟨i, hi, rfl⟩ := (oc_mem h).mp ho;obtain ⟨j, hj, rfl, _⟩ := (sn_ed h hcl hi).mp hx;exact (oc_mem h).mpr ⟨j, hj, rfl⟩
omit h hcl in
theorem onw_len (o : Int) (hl : cl.length <= 6) : (onwOf os cl o).length <= 20 /\ (bwOf os cl o).length <= 20 := by
 have := ways_len (os := os) (cl := cl);have h1 := List.length_filter_le (fun p : Int × Int => decide (p.1 = o)) (waysOf os cl);have h2 := List.length_filter_le (fun p : Int × Int => decide (p.2 = o)) (waysOf os cl);unfold onwOf bwOf;omega
omit h hcl in
theorem ways_perm (o : Int) : ((bwOf os cl o).map (·.1)).Perm (((onwOf os cl (255 - o)).map (·.2)).map fun x => 255 - x) := by
 unfold bwOf onwOf waysOf
 induction cl with
 | nil => exact .refl _
 | cons q r ih =>
  rw [List.flatMap_cons, List.filter_append, List.filter_append, List.map_append, List.map_append, List.map_append];refine List.Perm.append ?_ ih;have e : ∀ x : Int, decide (255 - x = 255 - o) = decide (x = o) := fun x => decide_eq_decide.mpr (by omega);by_cases h1 : Oc os q.1 = o <;> by_cases h2 : Oc os q.2 = o <;> simp only [List.filter_cons, List.filter_nil, e, h1, h2, decide_true, decide_false, if_true, Bool.false_eq_true, if_false, List.map_cons, List.map_nil]
  ·exact .refl _
  ·exact .refl _
  ·exact .refl _
  ·exact .refl _
theorem law_plain {bk : Bool} (hbk : bk = true ↔ ∃ c ∈ os, RcI (sfOf os cl) c (255 - c) /\ RcI (snOf os cl) c (255 - c)) (i j : Nat) (vi vj : Int) (hvi : os[i]? = some vi) (hvj : os[j]? = some vj) :
  ((bk = true \/ RcI (sfOf os cl) vi vj \/ RcI (sfOf os cl) vi (255 - vi) \/ RcI (snOf os cl) vj (255 - vj)) ↔ ((rightL cl).all fun c => !litB c i || litB c j) = true) := by
 obtain ⟨hi, rfl⟩ := oc_at h hvi;obtain ⟨hj, rfl⟩ := oc_at h hvj;have k := krom hcl hi hj;have e1 : ∀ {a b : Nat}, a < 6 -> b < 6 -> (RcI (sfOf os cl) (Oc os a) (Oc os b) ↔ Rc (ed cl) a b) := fun ha hb => by
  rw [rc_sf h hcl ha];constructor
  ·rintro ⟨x, hx, e, hr⟩;exact oc_inj h hb hx e ▸ hr
  ·exact fun hr => ⟨_, hb, rfl, hr⟩
 have e2 : ∀ {a b : Nat}, a < 6 -> b < 6 -> (RcI (snOf os cl) (Oc os a) (Oc os b) ↔ Rc (ed cl) b a) := fun ha hb => by
  rw [rc_sn h hcl ha];constructor
  ·rintro ⟨x, hx, e, hr⟩;exact oc_inj h hb hx e ▸ hr
  ·exact fun hr => ⟨_, hb, rfl, hr⟩
 have b1 : bk = true ↔ ∃ i, i < 6 /\ Rc (ed cl) i (co i) /\ Rc (ed cl) (co i) i := by
  rw [hbk];constructor
  ·rintro ⟨c, hc, h1, h2⟩;obtain ⟨x, hx, rfl⟩ := (oc_mem h).mp hc;rw [<- h.co' x hx, e1 hx (co_lt x)] at h1;rw [<- h.co' x hx, e2 hx (co_lt x)] at h2;exact ⟨x, hx, h1, h2⟩
  ·rintro ⟨x, hx, h1, h2⟩;refine ⟨Oc os x, (oc_mem h).mpr ⟨x, hx, rfl⟩, ?_, ?_⟩
   ·rw [<- h.co' x hx, e1 hx (co_lt x)]; exact h1
   ·rw [<- h.co' x hx, e2 hx (co_lt x)]; exact h2
 rw [<- h.co' i hi, <- h.co' j hj, e1 hi hj, e1 hi (co_lt i), e2 hj (co_lt j), b1, k];have eb : ∀ c, rightB cl c = true ↔ rightC cl c := fun c => by
  unfold rightB rightC;rw [List.all_eq_true];constructor
  ·exact fun hq q hm => by
    have := hq q hm;rw [Bool.or_eq_true] at this;exact this
  ·exact fun hq q hm => by
    rw [Bool.or_eq_true];exact hq q hm
 rw [List.all_eq_true];unfold rightL;constructor
 ·intro hk c hc;obtain ⟨hc8, hr⟩ := List.mem_filter.mp hc;have := hk c (List.mem_range.mp hc8) ((eb c).mp hr);cases hl : litB c i with
  | false => rfl
  | true =>
   have h2 : litB c j = true := this hl;rw [h2]; rfl
 ·intro hk c hc8 hr hl;have := hk c (List.mem_filter.mpr ⟨List.mem_range.mpr hc8, (eb c).mpr hr⟩);have hl : litB c i = true := hl;rw [hl] at this;exact this
end
noncomputable def abOf (os cs : List Int) : List (Nat × Nat) := (lastOf (cs.take 6)).map fun q => (octA q.2 os, octB q.2 os)
theorem cl_b {cs : List Int} : ∀ q ∈ clausesOf cs, q.1 < 6 /\ q.2 < 6 := by
 intro q hq;obtain ⟨x, _, rfl⟩ := List.mem_map.mp hq;have := litB_side 0 x.2;exact ⟨this.1, this.2.2.1⟩
theorem ab_oc {os cs : List Int} (h : Octs os) : (abOf os cs).map (fun q => ((q.1 : Int), (q.2 : Int))) = (clausesOf cs).map fun q => (Oc os q.1, Oc os q.2) := by
 unfold abOf clausesOf;rw [List.map_map, List.map_map];refine List.map_congr_left fun q _ => ?_;obtain ⟨h1, _, h2, _⟩ := litB_side 0 q.2;have b1 := oc_b h h1;have b2 := oc_b h h2;show (((os.getD (q.2 / 5 % 6).toNat 0).toNat : Int), ((os.getD (q.2 / 30 % 6).toNat 0).toNat : Int)) = (Oc os (q.2 / 5 % 6).toNat, Oc os (q.2 / 30 % 6).toNat);rw [Int.toNat_of_nonneg b1.1, Int.toNat_of_nonneg b2.1]
theorem ab_b {os cs : List Int} (h : Octs os) : ∀ q ∈ abOf os cs, q.1 < 256 /\ q.2 < 256 := by
 intro q hq;obtain ⟨x, _, rfl⟩ := List.mem_map.mp hq;exact oct_lt h.ok _
theorem ab_len (os cs : List Int) : (abOf os cs).length <= 6 /\ (abOf os cs).length = (clausesOf cs).length /\ (abOf os cs).length = (lastOf (cs.take 6)).length := by
 have := lastOf_le (cs.take 6);rw [List.length_take] at this;unfold abOf clausesOf;rw [List.length_map, List.length_map];omega
theorem rowOf_at : ∀ (ab : List (Nat × Nat)) (i : Nat) (a b : Nat), ab[i]? = some (a, b) -> (rowOf ab)[2 * i]? = some (255 - (a : Int)) /\ (rowOf ab)[2 * i + 1]? = some (b : Int)
 | [], _, _, _, h => by simp at h
 | (a', b') :: r, 0, a, b, h => by
  simp only [List.getElem?_cons_zero, Option.some.injEq, Prod.mk.injEq] at h;obtain ⟨rfl, rfl⟩ := h;exact ⟨rfl, rfl⟩
 | q :: r, i + 1, a, b, h => by
  rw [List.getElem?_cons_succ] at h;have := rowOf_at r i a b h;exact this
theorem row_b {os cs : List Int} (h : Octs os) : ∀ r ∈ rowOf (abOf os cs), 0 <= r /\ r < 256 := by
 intro r hr;obtain ⟨q, hq, hm⟩ := List.mem_flatMap.mp hr;have := ab_b h q hq;simp only [List.mem_cons, List.not_mem_nil, or_false] at hm;omega
theorem u8 {z : Int} (h0 : 0 <= z) (h1 : z < 256) : (z.toNat.toUInt8.toNat : Int) = z := by
 show ((z.toNat % 256 : Nat) : Int) = z;omega
theorem ways_row {os cs : List Int} (h : Octs os) {bs : List UInt8} (_hl : bs.length = 2 * (abOf os cs).length)
  (hb : ∀ i, i < (abOf os cs).length -> bs[2 * i]? = ((rowOf (abOf os cs)).map fun r => r.toNat.toUInt8)[2 * i + 1]? /\ bs[2 * i + 1]? = ((rowOf (abOf os cs)).map fun r => r.toNat.toUInt8)[2 * i]?) :
  waysTo (rowOf (abOf os cs)) bs (abOf os cs).length = (waysOf os (clausesOf cs)).map fun p => way p.1 p.2 := by
 have e0 : waysOf os (clausesOf cs) = (abOf os cs).flatMap fun q => [(255 - (q.1 : Int), (q.2 : Int)), (255 - (q.2 : Int), (q.1 : Int))] := by
  have e1 : waysOf os (clausesOf cs) = ((clausesOf cs).map fun q => (Oc os q.1, Oc os q.2)).flatMap fun p => [(255 - p.1, p.2), (255 - p.2, p.1)] := by
   rw [List.flatMap_map]; rfl
  rw [e1, <- ab_oc h, List.flatMap_map]
 rw [e0, List.map_flatMap];have go : ∀ i, i <= (abOf os cs).length -> waysTo (rowOf (abOf os cs)) bs i = ((abOf os cs).take i).flatMap fun q => [way (255 - (q.1 : Int)) (q.2 : Int), way (255 - (q.2 : Int)) (q.1 : Int)] := by
  intro i
  induction i with
  | zero => intro _; rfl
  | succ i ih =>
   intro hi;obtain ⟨⟨a, b⟩, hab⟩ : ∃ q, (abOf os cs)[i]? = some q := ⟨_, List.getElem?_eq_getElem (by omega)⟩;obtain ⟨hA, hB⟩ := ab_b h (a, b) (qG hab);have hA : a < 256 := hA;have hB : b < 256 := hB;obtain ⟨r1, r2⟩ := rowOf_at _ _ _ _ hab;obtain ⟨t1, t2⟩ := hb i (by omega);rw [List.getElem?_map, r2] at t1;rw [List.getElem?_map, r1] at t2;rw [waysTo_succ, ih (by omega), take_snoc hab, List.flatMap_append];congr 1;unfold waysAt;rw [List.getD_eq_getElem?_getD, List.getD_eq_getElem?_getD, List.getD_eq_getElem?_getD, List.getD_eq_getElem?_getD, r1, r2, t1, t2];show [way (255 - (a : Int)) (b : Int), way (255 - (((b : Int).toNat.toUInt8.toNat : Nat) : Int)) (255 - (((255 - (a : Int)).toNat.toUInt8.toNat : Nat) : Int))] = _;rw [u8 (by omega) (by omega), u8 (by omega) (by omega), show (255 : Int) - (255 - (a : Int)) = (a : Int) by omega];rfl
 have := go _ (Nat.le_refl _);rw [List.take_length] at this;exact this
end
end
section
section
variable {w : World} {A : Around} {h! : Heap} {L : Addr} {m : Str -> Option Value} {s : Shared}
  {p : Program} {loose : List Str} {mean : ExcName -> Option Value} {mg mb : Str -> Option Value} {Q : Flow -> Shared -> Prop}
theorem law_24 (hh : A.handled = none) (hd : A.depth <= 320) (hu : A.units <= 200) (ret : Q (.ret (.bool true)) s) :
  wpAny (model PR w) A (exec (lst 24) (lenv L)) Q (fun _ _ => False) s := by
 refine weakL hh hd hu ?_;refine cvS (by conv => lhs; whnf) ?_;k_steps;exact ret
theorem S_next {M : Model} {E : Value -> Shared -> Prop} {st : Stmt} {rest : List Stmt} {env : Env} (h : wpAny M A (exec st env) (fun f s' => match f with | .next => wpS M A (execs rest env) Q E s' | f => Q f s') E s) : wpS M A (execs (st :: rest) env) Q E s := S_execs_cons (S_any h)
theorem StT.mv {cv cv' : Nat -> Option Value} {rest rest' objs : List (Addr × Obj)} {rt : Addr} {vals us : List Value} {kt : Nat} {ss : List Str} (S : StT w cv rest rt vals kt objs us ss) (h3 : cv' 3 = some (.ref rt)) (hs : ∀ q ∈ rest, q ∈ rest') : StT w cv' rest' rt vals kt objs us ss :=
 ⟨h3, hs _ S.m3, S.th, fun q hq => hs q (S.ob q hq), S.ln, S.st, S.tg⟩
theorem names_len {os : List Int} {es : List (Int × Int)} (hos : ∀ o ∈ os, 0 <= o /\ o < 256) (hes : ∀ p ∈ es, (0 <= p.1 /\ p.1 < 256) /\ (0 <= p.2 /\ p.2 < 256)) : ∀ x ∈ namesIn os es, 0 < x.length /\ x.length <= 20 := by
 intro x hx;rcases qA hx with hx | hx
 ·obtain ⟨o, ho, rfl⟩ := List.mem_map.mp hx;have := decS_len (hos o ho);omega
 ·obtain ⟨q, hq, rfl⟩ := List.mem_map.mp hx;have h1 : 0 < (DL q.1).length /\ (DL q.1).length <= 3 := decS_len (hes q hq).1;have h2 : 0 < (DL q.2).length /\ (DL q.2).length <= 3 := decS_len (hes q hq).2;rw [<- toL_len, way_L];simp only [List.length_cons, List.length_append];omega
theorem law_body {l : Addr} {vs : List Value} {ns : List Int} {C0 : List (Addr × Obj)} (F : Fr h! L s.heap m) (X : (Kq w.params).In h!) (T : Top p loose mean mg mb h!) (hC : Cells L (fun _ => none) C0) (N : News h! L s.heap (C0 ++ [(33, tabObj #[])])) (h33 : 33 < L)
  (hh : A.handled = none) (hd : A.depth <= 320) (hu : A.units <= 200) (hm : m (Str.ofString "script") = some (.ref l)) (hl : h!.IsList l vs.toArray) (hvs : IntsAre vs ns) (hn : ns.length <= 63)
  (ret : ∀ h' tk' G m' ps, Fr h! L h' m' -> News h! L h' [(33, tabObj ps)] -> (AllBare s.gens -> AllBare G) -> Q (.ret (.bool true)) { s with heap := h', toks := tk', gens := G }) :
  wpS (model PR w) A (execs (fb 40) (lenv L)) Q (fun _ _ => False) s := by
 have hA : Apart L [(33, tabObj #[])] := fun q hq i hi => by rw [qS hq]; exact Nat.ne_of_lt (Nat.lt_of_lt_of_le h33 (Nat.le_trans (Nat.le_succ L) (Nat.le_add_right _ _)))
 have e : fb 40 = [lst 0, lst 1, lst 2, lst 3, lst 4, lst 5, lst 6, lst 7, lst 8, lst 9, lst 10, lst 11, lst 12, lst 13, lst 14, lst 15, lst 16, lst 17, lst 18, lst 19, lst 20, lst 21, lst 22, lst 23, lst 24] := rfl;rw [e];clear e;refine S_next (law_0 F X T hC N hA hh hd hu hm hl hvs hn fun h1 tk1 r0 ys0 k0 cs C1 F1 N1 hC1 n0 hi0 hcs hcb => ?_);dsimp only;have hA : Apart L ((r0, listOf ys0.toArray k0) :: _) := hA.new hC n0;refine S_next (law_1 F1 X T hC1 N1 hh hd hu rfl (.head _) hi0 hcs hcb fun h2 tk2 rp zs1 kp F2 N2 n1 hip => ?_);dsimp only;have hA : Apart L ((rp, listOf zs1.toArray kp) :: _) := hA.new hC1 n1;refine S_next (law_2 F2 X T hC1 N2 hA hh hd hu (if_pos rfl) (.head _) hip (plain_b cs) fun h3 tk3 r1 ys1 k1 C2 F3 N3 hC2 n2 hi1 => ?_);dsimp only;have hA : Apart L ((r1, listOf ys1.toArray k1) :: _) := hA.new hC1 n2;have hO := octs_ok cs;apply byc; intro O;obtain ⟨os, hos⟩ : ∃ os, os = octsOf cs := ⟨_, rfl⟩;apply O; clear O;rw [<- hos] at hO hi1;have hl6 : (cs.take 6).length = 6 := by rw [List.length_take, hcs]; rfl
 have hne : cs.take 6 ≠ [] := fun h => by rw [h] at hl6; cases hl6
 have hlet : (Txt.join (Str.ofString ", ") ((cs.take 6).map (letterS os))).length < 10000 := by
  have := letter_len (os := os) (cs.take 6);omega
 have hpar := parse_letter hO.ok hne;rw [hos] at hlet hpar hO hi1;refine S_next (law_3 F3 X T hC2 N3 hh hd hu ⟨rfl, .tail _ (.tail _ (.head _)), hi0, rfl, .head _, hi1⟩ hcs hcb hO.ok hlet hpar fun h4 tk4 ri zs4 ki F4 N4 n3 hz4 => ?_);dsimp only;have hA : Apart L ((ri, listOf zs4.toArray ki) :: _) := hA.new hC2 n3;refine S_next (law_4 F4 X T hC2 N4 hh hd hu ⟨rfl, .tail _ (.tail _ (.tail _ (.head _))), hi0, rfl, .tail _ (.head _), hi1⟩ hcs hcb hO.ok (if_pos rfl) (.head _) hz4 fun h5 tk5 F5 N5 => ?_);dsimp only;rw [<- hos] at hlet hpar hO hi1 hz4;have hx : (cs.take 6).map (itemS os) = ((cs.take 6).map fun c => (cName c, sOf (valL os c))).map fun q => q.1 ++ Str.ofString "=" ++ q.2 := by
  rw [List.map_map];exact List.map_congr_left fun c _ => item_cut os c
 have hq : ∀ q ∈ (cs.take 6).map fun c => (cName c, sOf (valL os c)), 61 ∉ toL q.1 /\ q.1.length = 1 /\ 2 <= q.2.length /\ q.2.length <= 100 := fun q hq => by
  apply byc; intro O;obtain ⟨c, _, rfl⟩ := List.mem_map.mp hq;apply O; clear O;have hb := nmc_b c;refine ⟨fun hm => ?_, rfl, val_len os c⟩;have : 61 = nmc c := qS hm;omega
 refine S_next (law_5 F5 X T N5 hh hd hu (if_pos rfl) (.head _) hz4 hx hq (by rw [List.length_map, hl6]; exact Nat.le_refl _) fun h6 tk6 rw' od kvs F6 N6 n5 hlo hod hkv => ?_);dsimp only;rw [spec_words] at hkv;have hA : Apart L ((rw', od) :: _) := hA.new hC2 n5;refine S_next (law_6 F6 X T hC2 N6 hA hh hd hu rfl (.tail _ (.tail _ (.tail _ (.tail _ (.head _))))) hi0 hcs hcb fun h7 tk7 rn zs7 kn C3 F7 N7 hC3 n6 hz7 => ?_);dsimp only;have hA : Apart L ((rn, listOf zs7.toArray kn) :: _) := hA.new hC2 n6;have hwl : (wordsOf os (cs.take 6)).length <= 6 := by
  have := lastOf_le (cs.take 6);unfold wordsOf;rw [List.length_map];omega
 have hk6 : kvs.length <= 6 := by
  have := congrArg List.length hkv.1;rw [List.length_map, List.length_map] at this;omega
 have hkeys : kvs.map (·.1) = firstsOf ((cs.take 6).map cName) := by
  have h := keys_firsts (cs := cs.take 6) 6 (by omega);rw [List.take_of_length_le (by omega)] at h;rw [hkv.1];unfold wordsOf;rw [List.map_map];exact h
 refine S_next (law_7 F7 X T hC3 N7 hh hd hu (if_pos rfl) (.tail _ (.head _)) hod hk6 hlo rfl (.head _) hz7 (by rw [List.length_map, hl6]) hkeys fun h8 tk8 F8 N8 => ?_);dsimp only;have hw : ∀ (i : Nat) (k x : Str), (wordsOf os (cs.take 6))[i]? = some (k, x) -> ∃ pre a b, (abOf os cs)[i]? = some (a, b) /\ WordOk x pre a b := fun i k x hi => by
  unfold wordsOf at hi;unfold abOf;rw [List.getElem?_map] at hi ⊢;cases hc : (lastOf (cs.take 6))[i]? with
  | none => rw [hc] at hi; cases hi
  | some q =>
   rw [hc] at hi;have hi : (q.1, sOf (unqL os q.2)) = (k, x) := Option.some.inj hi;obtain ⟨rfl, rfl⟩ := Prod.mk.inj hi;exact ⟨_, _, _, rfl, word_ok hO.ok q.2⟩
 apply byc; intro O;obtain ⟨hab6, habc, habl⟩ := ab_len os cs;apply O; clear O;refine S_next (law_8 (ab := abOf os cs) F8 X T N8 hh hd hu (if_pos rfl) (.tail _ (.head _)) hod hkv hlo (by rw [habl]; unfold wordsOf; rw [List.length_map]) hwl hw fun h9 tk9 rr ys9 k9 F9 N9 n8 hir => ?_);dsimp only;have hA : Apart L ((rr, listOf ys9.toArray k9) :: _) := hA.new hC3 n8;have hrl := rowOf_length (abOf os cs);refine S_execs_cons (law_9 F9 X T N9 hh hd hu (if_pos rfl) (.head _) hir (by omega) (by omega) (row_b hO) rfl fun h10 tk10 tb b' F10 N10 hbs hbz => ?_);dsimp only;refine S_next (law_10 (b := b') F10 X T N10 hh hd hu (if_pos rfl) fun h11 tk11 F11 N11 => ?_);dsimp only;rw [List.length_map, hrl] at hbs hbz;refine S_next (law_11 (bs := b'.toList) (q := (abOf os cs).length) F11 X T hC3 N11 hA hh hd hu rfl (.tail _ (.tail _ (.tail _ (.tail _ (.head _))))) hi1 ((if_neg (by decide)).trans (if_pos rfl)) (.head _) hir ((if_pos rfl).trans (by rw [Array.toArray_toList])) hO.ok (row_b hO) hrl hab6 (by rw [Array.length_toList]; exact hbs) fun h12 tk12 rt vals kt objs us C4 F12 N12 hC4 n11 hth hus => ?_);dsimp only;apply byc; intro O;obtain ⟨cl, hcl0⟩ : ∃ cl, cl = clausesOf cs := ⟨_, rfl⟩;apply O; clear O;have hclb : ∀ q ∈ cl, q.1 < 6 /\ q.2 < 6 := by rw [hcl0]; exact cl_b
 have hcl6 : cl.length <= 6 := by rw [hcl0]; omega
 rw [ways_row hO (by rw [Array.length_toList]; exact hbs) (fun i hi => by
  have := hbz i (by omega);exact ⟨Array.getElem?_toList.trans (this.1.trans List.getElem?_toArray), Array.getElem?_toList.trans (this.2.trans List.getElem?_toArray)⟩), <- hcl0] at hus
 have hus : StrsAre us (namesIn os (waysOf os cl)) := hus;have hes := ways_b hO hclb;refine S_next (law_12 F12 X T hC4 N12 hh hd hu rfl (.tail _ (qR _ (.tail _ (.tail _ (.tail _ (.tail _ (.head _))))))) hi1 hO.ok fun h13 tk13 rb zs13 kb F13 N13 n12 hz13 => ?_);dsimp only;apply byc; intro O;obtain ⟨Y, hY⟩ : ∃ Y, Y = (rb, listOf zs13.toArray kb) :: (rt, listOf vals.toArray kt) :: (objs ++ [(rr, listOf ys9.toArray k9), (rn, listOf zs7.toArray kn), (rw', od), (ri, listOf zs4.toArray ki), (r1, listOf ys1.toArray k1), (rp, listOf zs1.toArray kp), (r0, listOf ys0.toArray k0)]) := ⟨_, rfl⟩;apply O; clear O;have yb : (rb, listOf zs13.toArray kb) ∈ Y := hY ▸ .head _;have yt : (rt, listOf vals.toArray kt) ∈ Y := hY ▸ .tail _ (.head _);have yo : ∀ q ∈ objs, q ∈ Y := fun q hq => hY ▸ .tail _ (.tail _ (qL _ hq));have y1 : (r1, listOf ys1.toArray k1) ∈ Y := hY ▸ .tail _ (.tail _ (qR _ (.tail _ (.tail _ (.tail _ (.tail _ (.head _)))))));have y0 : (r0, listOf ys0.toArray k0) ∈ Y := hY ▸ .tail _ (.tail _ (qR _ (.tail _ (.tail _ (.tail _ (.tail _ (.tail _ (.tail _ (.head _)))))))));have hAY : Apart L Y := fun q hq => by
  rw [hY] at hq;rcases qC hq with rfl | hq
  ·exact hC4.off fun p hp => n12 p (qL _ hp)
  rcases qC hq with rfl | hq
  ·exact hC3.off fun p hp => n11 _ (.head _) p (qL _ hp)
  rcases qA hq with hq | hq
  ·exact hC3.off fun p hp => n11 q (.tail _ hq) p (qL _ hp)
  ·exact hA q (qL [(33, tabObj #[])] hq)
 have h33Y : ∀ q ∈ Y, q.1 ≠ 33 := fun q hq => by
  have t0 : (33, tabObj #[]) ∈ [((33 : Addr), tabObj #[])] := .head _;rw [hY] at hq;rcases qC hq with rfl | hq
  ·exact Ne.symm (n12 _ (qR _ (.tail _ (qR _ (.tail _ (.tail _ (.tail _ (.tail _ (.tail _ (.tail _ (.tail _ t0)))))))))))
  rcases qC hq with rfl | hq
  ·exact Ne.symm (n11 _ (.head _) _ (qR _ (.tail _ (.tail _ (.tail _ (.tail _ (.tail _ (.tail _ (.tail _ t0)))))))))
  rcases qA hq with hq | hq
  ·exact Ne.symm (n11 q (.tail _ hq) _ (qR _ (.tail _ (.tail _ (.tail _ (.tail _ (.tail _ (.tail _ (.tail _ t0)))))))))
  rcases qC hq with rfl | hq
  ·exact Ne.symm (n8 _ (qR _ (.tail _ (.tail _ (.tail _ (.tail _ (.tail _ (.tail _ t0))))))))
  rcases qC hq with rfl | hq
  ·exact Ne.symm (n6 _ (qR _ (.tail _ (.tail _ (.tail _ (.tail _ (.tail _ t0)))))))
  rcases qC hq with rfl | hq
  ·exact Ne.symm (n5 _ (qR _ (.tail _ (.tail _ (.tail _ (.tail _ t0))))))
  rcases qC hq with rfl | hq
  ·exact Ne.symm (n3 _ (qR _ (.tail _ (.tail _ (.tail _ t0)))))
  rcases qC hq with rfl | hq
  ·exact Ne.symm (n2 _ (qR _ (.tail _ (.tail _ t0))))
  rcases qC hq with rfl | hq
  ·exact Ne.symm (n1 _ (qR _ (.tail _ t0)))
  ·rw [qS hq];exact Ne.symm (n0 _ (qR _ t0))
 have c33 : ∀ {cv : Nat -> Option Value} {C : List (Addr × Obj)}, Cells L cv C -> ∀ q ∈ C, q.1 ≠ 33 := fun hC q hq => Nat.ne_of_gt (Nat.lt_trans h33 (hC.2 q hq).1);have NY : News h! L h13 ((33, tabObj #[]) :: (C4 ++ Y)) := fun q hq => N13 q (by
  rcases qC hq with rfl | hq
  ·exact qR _ (.tail _ (.tail _ (qR _ (.tail _ (.tail _ (.tail _ (.tail _ (.tail _ (.tail _ (.tail _ (.head _)))))))))))
  rcases qA hq with hq | hq
  ·exact qL _ hq
  refine qR _ ?_;rw [hY] at hq;rcases qC hq with rfl | hq
  ·exact .head _
  rcases qC hq with rfl | hq
  ·exact .tail _ (.head _)
  refine .tail _ (.tail _ ?_);rcases qA hq with hq | hq
  ·exact qL _ hq
  ·exact qR _ (qL [(33, tabObj #[])] hq))
 have h33cY : ∀ {cv : Nat -> Option Value} {C R : List (Addr × Obj)}, Cells L cv C -> (∀ q ∈ R, q.1 ≠ 33) -> ∀ q ∈ C ++ R, q.1 ≠ 33 := fun hC hR q hq => by
  rcases qA hq with hq | hq
  ·exact c33 hC q hq
  ·exact hR q hq
 have hul := StrsAre.length hus;have hwl2 := ways_len (os := os) (cl := cl);have hnl : (namesIn os (waysOf os cl)).length <= 18 := by
  unfold namesIn;rw [List.length_append, List.length_map, List.length_map, hO.ok.1];omega
 have S13 : StT w (setC (setC (setC (setC (fun _ => none) 0 (.ref r0)) 1 (.ref r1)) 2 (.ref rn)) 3 (.ref rt)) Y rt vals kt objs us (namesIn os (waysOf os cl)) :=
  ⟨rfl, yt, hth, yo, by have := hth.len; rw [List.length_cons] at this; omega, hus, names_len hO.ok.2 hes⟩
 refine S_next (law_13 F13 X T hC4 NY .empty (h33cY hC4 h33Y) hh hd hu S13 (if_pos rfl) yb (by rw [names_bare hO.ok.2 hes]; exact hz13) fun h14 tk14 G1 ps1 cds F14 N14 hT14 hc33 ncd hG1 => ?_);dsimp only;have hA14 : Apart L (cds ++ Y) := Apart.app hAY fun q hq => hC4.off fun p hp => ncd q hq p (qL _ hp);have h33_14 : ∀ q ∈ cds ++ Y, q.1 ≠ 33 := fun q hq => by
  rcases qA hq with hq | hq
  ·exact hc33 q hq
  ·exact h33Y q hq
 have S14 := S13.mv (cv' := setC (setC (setC (setC (fun _ => none) 0 (.ref r0)) 1 (.ref r1)) 2 (.ref rn)) 3 (.ref rt)) (rest' := cds ++ Y) rfl fun q hq => qR _ hq;refine S_next (law_14 (onw := onwOf os cl) F14 X T hC4 N14 hA14 hT14 (h33cY hC4 h33_14) hh hd hu S14 rfl (qR _ y1) hi1 hO.ok hO.nd (fun o ho => names_ns hO.ok.2 hes (hO.ok.2 o ho)) (fun o _ q hq => hes q (List.mem_filter.mp hq).1) (fun o _ => (onw_len o hcl6).1) fun h15 tk15 G2 ps2 ex4 d4 od4 kvs4 C5 F15 N15 hC5 hT15 h33d n14 hod4 hD4 hG2 => ?_);dsimp only;apply byc; intro O;obtain ⟨Z, hZ⟩ : ∃ Z, Z = (d4, od4) :: (ex4 ++ (cds ++ Y)) := ⟨_, rfl⟩;apply O; clear O;rw [<- hZ] at N15 hT15;have zY : ∀ q ∈ Y, q ∈ Z := fun q hq => hZ ▸ .tail _ (qR _ (qR _ hq));have z4 : (d4, od4) ∈ Z := hZ ▸ .head _;have zx4 : ∀ q ∈ ex4, q ∈ Z := fun q hq => hZ ▸ .tail _ (qL _ hq);have hAZ : Apart L Z := fun q hq => by
  rw [hZ] at hq;rcases qC hq with rfl | hq
  ·exact hC4.off fun p hp => n14 _ (.head _) p (qL _ hp)
  rcases qA hq with hq | hq
  ·exact hC4.off fun p hp => n14 q (.tail _ hq) p (qL _ hp)
  ·exact hA14 q hq
 have h33Z : ∀ q ∈ Z, q.1 ≠ 33 := fun q hq => by
  rw [hZ] at hq;rcases qC hq with rfl | hq
  ·exact h33d _ (.head _)
  rcases qA hq with hq | hq
  ·exact h33d q (.tail _ hq)
  ·exact h33_14 q hq
 have S15 := S14.mv (cv' := setC (setC (setC (setC (setC (fun _ => none) 0 (.ref r0)) 1 (.ref r1)) 2 (.ref rn)) 3 (.ref rt)) 4 (.ref d4)) (rest' := Z) rfl fun q hq => by
  rw [hZ]; exact .tail _ (qR _ hq)
 have hon15 : ∀ o ∈ os, (namesIn os (waysOf os cl)).filter (sfP (sfX o)) = (fun o => decS o :: (bwOf os cl o).map fun p => way p.1 p.2) o := by
  intro o ho;rw [names_sf hO.ok.2 hes hO.nd ho];rfl
 refine S_next (law_15 F15 X T hC5 N15 hAZ hT15 (h33cY hC5 h33Z) hh hd hu S15 rfl (zY _ y1) hi1 hO.ok hO.nd hon15 fun h16 tk16 G3 ps3 ex5 d5 od5 kvs5 C6 F16 N16 hC6 hT16 h33e n15 hod5 hD5 hG3 => ?_);dsimp only;apply byc; intro O;obtain ⟨V, hV⟩ : ∃ V, V = (33, tabObj ps3) :: ((d5, od5) :: (ex5 ++ Z)) := ⟨_, rfl⟩;apply O; clear O;have vZ : ∀ q ∈ Z, q ∈ V := fun q hq => hV ▸ .tail _ (.tail _ (qR _ hq));have v5 : (d5, od5) ∈ V := hV ▸ .tail _ (.head _);have vx5 : ∀ q ∈ ex5, q ∈ V := fun q hq => hV ▸ .tail _ (.tail _ (qL _ hq));have v33 : (33, tabObj ps3) ∈ V := hV ▸ .head _;have NV : News h! L h16 (C6 ++ V) := fun q hq => N16 q (by
  rcases qA hq with hq | hq
  ·exact .tail _ (qL _ hq)
  rw [hV] at hq;rcases qC hq with rfl | hq
  ·exact .head _
  ·exact .tail _ (qR _ hq))
 have hAV : Apart L V := fun q hq => by
  rw [hV] at hq;rcases qC hq with rfl | hq
  ·exact hA (33, tabObj #[]) (by simp only [List.mem_cons, true_or, or_true])
  rcases qC hq with rfl | hq
  ·exact hC5.off fun p hp => n15 _ (.head _) p (qL _ hp)
  rcases qA hq with hq | hq
  ·exact hC5.off fun p hp => n15 q (.tail _ hq) p (qL _ hp)
  ·exact hAZ q hq
 refine S_next (law_16 (bw := bwOf os cl) F16 X T hC6 NV hAV hh hd hu rfl (vZ _ (zY _ y1)) hi1 hO.ok hO.nd rfl v5 hod5 vx5 hD5 (fun o _ q hq => hes q (List.mem_filter.mp hq).1) (fun o _ => (onw_len o hcl6).2) fun h17 tk17 ex6 d6 od6 kvs6 C7 F17 N17 hC7 n16 hod6 hD6 => ?_);dsimp only;apply byc; intro O;obtain ⟨U, hU⟩ : ∃ U, U = (d6, od6) :: (ex6 ++ V) := ⟨_, rfl⟩;apply O; clear O;rw [<- hU] at N17;have uV : ∀ q ∈ V, q ∈ U := fun q hq => hU ▸ .tail _ (qR _ hq);have u6 : (d6, od6) ∈ U := hU ▸ .head _;have ux6 : ∀ q ∈ ex6, q ∈ U := fun q hq => hU ▸ .tail _ (qL _ hq);have hAU : Apart L U := fun q hq => by
  rw [hU] at hq;rcases qC hq with rfl | hq
  ·exact hC6.off fun p hp => n16 _ (.head _) p (qL _ hp)
  rcases qA hq with hq | hq
  ·exact hC6.off fun p hp => n16 q (.tail _ hq) p (qL _ hp)
  ·exact hAV q hq
 refine S_next (law_17 (onw := onwOf os cl) (bw := bwOf os cl) F17 X T hC7 N17 hh hd hu rfl (uV _ (vZ _ (zY _ y1))) hi1 hO.ok rfl (uV _ (vZ _ z4)) hod4 (fun q hq => uV q (vZ q (zx4 q hq))) hD4 rfl (uV _ v5) hod5 (fun q hq => uV q (vx5 q hq)) hD5 rfl u6 hod6 ux6 hD6 (fun o ho => oc_co hO ho) (fun o _ => ways_perm o) (fun o _ => (onw_len o hcl6).1) (fun o _ => (onw_len o hcl6).2) fun h18 tk18 u18 F18 N18 => ?_);dsimp only;refine S_next (law_18 (succ := sfOf os cl) F18 X T hC7 N18 hAU hh hd hu rfl (uV _ (vZ _ (zY _ y1))) hi1 hO.ok.1 rfl (uV _ (vZ _ z4)) hod4 (fun q hq => uV q (vZ q (zx4 q hq))) hD4 (sf_closed hO hclb) (fun o _ => by unfold sfOf; rw [List.length_map]; exact (onw_len o hcl6).1) fun h19 tk19 exf rf zf kf C8 F19 N19 hC8 n18 hF => ?_);dsimp only;apply byc; intro O;obtain ⟨R8, hR8⟩ : ∃ R8, R8 = (rf, listOf zf.toArray kf) :: (exf ++ U) := ⟨_, rfl⟩;apply O; clear O;rw [<- hR8] at N19;have aU : ∀ q ∈ U, q ∈ R8 := fun q hq => hR8 ▸ .tail _ (qR _ hq);have af : (rf, listOf zf.toArray kf) ∈ R8 := hR8 ▸ .head _;have ax : ∀ q ∈ exf, q ∈ R8 := fun q hq => hR8 ▸ .tail _ (qL _ hq);have hA8 : Apart L R8 := fun q hq => by
  rw [hR8] at hq;rcases qC hq with rfl | hq
  ·exact hC7.off fun p hp => n18 _ (.head _) p (qL _ hp)
  rcases qA hq with hq | hq
  ·exact hC7.off fun p hp => n18 q (.tail _ hq) p (qL _ hp)
  ·exact hAU q hq
 refine S_next (law_19 (succ := snOf os cl) F19 X T hC8 N19 hA8 hh hd hu rfl (aU _ (uV _ (vZ _ (zY _ y1)))) hi1 hO.ok.1 rfl (aU _ u6) hod6 (fun q hq => aU q (ux6 q hq)) hD6 (sn_closed hO hclb) (fun o _ => by unfold snOf; rw [List.length_map]; exact (onw_len o hcl6).2) fun h20 tk20 exn rg zg kg C9 F20 N20 hC9 n19 hG => ?_);dsimp only;apply byc; intro O;obtain ⟨R9, hR9⟩ : ∃ R9, R9 = (rg, listOf zg.toArray kg) :: (exn ++ R8) := ⟨_, rfl⟩;apply O; clear O;rw [<- hR9] at N20;have bU : ∀ q ∈ R8, q ∈ R9 := fun q hq => hR9 ▸ .tail _ (qR _ hq);have bg : (rg, listOf zg.toArray kg) ∈ R9 := hR9 ▸ .head _;have bx : ∀ q ∈ exn, q ∈ R9 := fun q hq => hR9 ▸ .tail _ (qL _ hq);have hA9 : Apart L R9 := fun q hq => by
  rw [hR9] at hq;rcases qC hq with rfl | hq
  ·exact hC8.off fun p hp => n19 _ (.head _) p (qL _ hp)
  rcases qA hq with hq | hq
  ·exact hC8.off fun p hp => n19 q (.tail _ hq) p (qL _ hp)
  ·exact hA8 q hq
 have b1 : (r1, listOf ys1.toArray k1) ∈ R9 := bU _ (aU _ (uV _ (vZ _ (zY _ y1))));refine S_next (law_20 F20 X T hC9 N20 hh hd hu rfl b1 hi1 hO.ok.1 rfl (bU _ af) (fun q hq => bU q (ax q hq)) hF rfl bg bx hG fun h21 tk21 bk F21 N21 hbk => ?_);dsimp only;refine S_next (law_21 F21 X T hC9 N21 hA9 hh hd hu rfl (bU _ (aU _ (uV _ (vZ _ (zY _ y0))))) hi0 hcs hcb fun h22 tk22 r9 zs22 k22 C10 F22 N22 hC10 n21 hi9 => ?_);dsimp only;rw [<- hcl0] at hi9;have hA10 : Apart L ((r9, listOf zs22.toArray k22) :: R9) := hA9.new hC9 n21;have h8 : ∀ c ∈ rightL cl, c < 8 := fun c hc => List.mem_range.mp (List.mem_filter.mp hc).1;have hl8 : (rightL cl).length <= 8 := by
  have := List.length_filter_le (rightB cl) (List.range 8);rw [List.length_range] at this;exact this
 refine S_next (law_22 F22 X T hC10 N22 hA10 hh hd hu rfl (.head _) hi9 h8 hl8 fun h23 tk23 exh rh zh kh C11 F23 N23 hC11 n22 hH => ?_);dsimp only;have hA11 : Apart L ((rh, listOf zh.toArray kh) :: (exh ++ ((r9, listOf zs22.toArray k22) :: R9))) := fun q hq => by
  rcases qC hq with rfl | hq
  ·exact hC10.off fun p hp => n22 _ (.head _) p (qL _ hp)
  rcases qA hq with hq | hq
  ·exact hC10.off fun p hp => n22 q (.tail _ hq) p (qL _ hp)
  ·exact hA10 q hq
 have c9 : ∀ q ∈ R9, q ∈ (rh, listOf zh.toArray kh) :: (exh ++ ((r9, listOf zs22.toArray k22) :: R9)) := fun q hq => .tail _ (qR _ (.tail _ hq));refine S_next (law_23 F23 X T hC11 N23 hA11 hh hd hu rfl (c9 _ b1) hi1 hO.ok.1 rfl (c9 _ (bU _ af)) (fun q hq => c9 q (bU q (ax q hq))) hF rfl (c9 _ bg) (fun q hq => c9 q (bx q hq)) hG rfl (.head _) (fun q hq => .tail _ (qL _ hq)) hH hl8 (if_pos rfl) (law_plain hO hclb hbk) fun h24 tk24 m24 F24 N24 => ?_);dsimp only;refine S_next (law_24 hh hd hu ?_);refine ret h24 _ G3 m24 ps3 F24 (fun q hq => ?_) fun hB => hG3 (hG2 (hG1 hB));rw [qS hq];exact N24 _ (c9 _ (bU _ (aU _ (uV _ v33))))
end
end
section
section
theorem cells_of {cm : Str -> Option Value} : ∀ {cs : List (Str × Addr)} {cells : List (Addr × Obj)}, CellsAre cm cs cells -> (∀ q ∈ cs, ∃ o : Obj, (q.2, o) ∈ cells /\ o.data = .cell (cm q.1)) /\ ∀ p ∈ cells, ∃ q ∈ cs, q.2 = p.1
 | _, _, .nil => ⟨fun _ h => (nomatch h), fun _ h => (nomatch h)⟩
 | _, _, .cons h1 x => by
  obtain ⟨a, b⟩ := cells_of x;refine ⟨fun q hq => ?_, fun p hp => ?_⟩
  ·rcases qC hq with rfl | hq
   ·exact ⟨_, .head _, h1⟩
   ·obtain ⟨o, ho, e⟩ := a q hq;exact ⟨o, .tail _ ho, e⟩
  ·rcases qC hp with rfl | hp
   ·exact ⟨_, .head _, rfl⟩
   ·obtain ⟨q, hq, e⟩ := b p hp;exact ⟨q, .tail _ hq, e⟩
theorem lt13 {L k : Nat} (h : k < 12) : L < L + 1 + k /\ L + 1 + k < L + 13 := by omega
theorem law_run {w : World} {s : Shared} {p : Program} {loose : List Str} {mean : ExcName -> Option Value} {mg mb : Str -> Option Value} {l : Addr} {vs : List Value} {ns : List Int} (X : (Kq w.params).In s.heap) (T : Top p loose mean mg mb s.heap) (h33 : s.heap.get? 33 = some (tabObj #[])) (hg : s.gens = #[])
  (hl : s.heap.IsList l vs.toArray) (hvs : IntsAre vs ns) (hn : ns.length <= 63) :
  wpS (model PR w) callerA (call (.ref 209) [.ref l]) (fun v s' => v = .bool true /\ OldK s.heap s'.heap /\ s'.os = s.os /\ AllBare s'.gens) (fun _ _ => False) s := by
 have T9 : TabsAt [(37, 33)] s.heap := List.forall_mem_cons.mpr ⟨⟨codeHd_of_K (c := 37) (P := 33) X (by kernel_rfl), h33⟩, fun _ h => nomatch h⟩;have X' := ghost_K T9 X (by kernel_rfl);have T' := ghost_top T9 T
 k_dflt (refine' enterCPS (P := 33) (h! := ghostOf s.heap [(37, 33)]) (news := [(33, tabObj #[])]) (binds := [(Str.ofString "script", Value.ref l)]) (fun b o e => of_hideAll _ e) (fun q hq => by rw [qS hq]; exact ⟨h33, hideAll_none _ (.head _)⟩) X' T' ?k6 ?k7 ?k8 ?k9 ?kB ?kD ?_ ?c2 ?c3 ?c4)
 case k6 => k_is
 case k7 => k_is
 case k8 => decide
 case k9 => exact BindsTo.of_eq rfl
 case kB => rfl
 case kD => decide
 case c2 => exact rfl
 case c3 => exact rfl
 case c4 => exact rfl
 intro g L h? tk cells Xg Tg Fg Ng hCA hlt hkeep;obtain ⟨lst, hlst⟩ : ∃ lst : List (Str × Addr), lst = [(Str.ofString "j", L + 1 + 11), (Str.ofString "holds", L + 1 + 10), (Str.ofString "right", L + 1 + 9), (Str.ofString "near", L + 1 + 8), (Str.ofString "far", L + 1 + 7), (Str.ofString "back", L + 1 + 6), (Str.ofString "found", L + 1 + 5), (Str.ofString "onward", L + 1 + 4), (Str.ofString "things", L + 1 + 3), (Str.ofString "names", L + 1 + 2), (Str.ofString "octets", L + 1 + 1), (Str.ofString "cells", L + 1 + 0)] := ⟨_, rfl⟩;have hCA : CellsAre (fun _ => none) lst cells := by rw [hlst]; exact hCA
 have Fg : Fr g L h? (fun y => if y = Str.ofString "script" then some (Value.ref l) else none) := Fg;obtain ⟨ca, cb⟩ := cells_of hCA;have key : ∀ i : Nat, i < 12 -> ∃ n, (n, L + 1 + i) ∈ lst := by
  intro i hi;rw [hlst]
  match i, hi with
  | 0, _ => exact ⟨_, .tail _ (.tail _ (.tail _ (.tail _ (.tail _ (.tail _ (.tail _ (.tail _ (.tail _ (.tail _ (.tail _ (.head _)))))))))))⟩
  | 1, _ => exact ⟨_, .tail _ (.tail _ (.tail _ (.tail _ (.tail _ (.tail _ (.tail _ (.tail _ (.tail _ (.tail _ (.head _))))))))))⟩
  | 2, _ => exact ⟨_, .tail _ (.tail _ (.tail _ (.tail _ (.tail _ (.tail _ (.tail _ (.tail _ (.tail _ (.head _)))))))))⟩
  | 3, _ => exact ⟨_, .tail _ (.tail _ (.tail _ (.tail _ (.tail _ (.tail _ (.tail _ (.tail _ (.head _))))))))⟩
  | 4, _ => exact ⟨_, .tail _ (.tail _ (.tail _ (.tail _ (.tail _ (.tail _ (.tail _ (.head _)))))))⟩
  | 5, _ => exact ⟨_, .tail _ (.tail _ (.tail _ (.tail _ (.tail _ (.tail _ (.head _))))))⟩
  | 6, _ => exact ⟨_, .tail _ (.tail _ (.tail _ (.tail _ (.tail _ (.head _)))))⟩
  | 7, _ => exact ⟨_, .tail _ (.tail _ (.tail _ (.tail _ (.head _))))⟩
  | 8, _ => exact ⟨_, .tail _ (.tail _ (.tail _ (.head _)))⟩
  | 9, _ => exact ⟨_, .tail _ (.tail _ (.head _))⟩
  | 10, _ => exact ⟨_, .tail _ (.head _)⟩
  | 11, _ => exact ⟨_, .head _⟩
  | n + 12, h => exact absurd h (Nat.not_lt.mpr (Nat.le_add_left 12 n))
 have hb : ∀ q ∈ lst, L < q.2 /\ q.2 < L + 13 := by
  rw [hlst];intro q hq;simp only [List.mem_cons, List.not_mem_nil, or_false] at hq;rcases hq with rfl | rfl | rfl | rfl | rfl | rfl | rfl | rfl | rfl | rfl | rfl | rfl <;> exact lt13 (by decide)
 have hC : Cells L (fun _ => none) cells := ⟨fun i hi => by
  obtain ⟨n, hm⟩ := key i hi;exact ca _ hm, fun q hq => by
  obtain ⟨r, hr, e⟩ := cb q hq;rw [<- e]; exact hb r hr⟩
 have h33L : 33 < L := hlt _ (.head _);have hlg : g.IsList l vs.toArray := by
  obtain ⟨o, ho, hc, hd⟩ := hl;refine ⟨o, hkeep l o (fun hm => ?_) ho, hc, hd⟩;have e : l = 33 := qS hm;rw [e, h33] at ho;rw [<- Option.some.inj ho] at hc;cases hc
 refine law_body Fg Xg Tg hC Ng h33L rfl (qB rfl) (qB rfl) (if_pos rfl) hlg hvs hn fun h' tk' G m' ps F9 N9 hB => ?_;refine OutP.intro F9 N9 (fun q hq hne => absurd (congrArg Prod.fst (qS hq)) hne) fun ext fresh => ⟨rfl, ⟨fun b o e => ?_, fun b o e => ?_⟩, rfl, hB (by rw [hg]; exact fun _ h => absurd h (Array.not_mem_empty _))⟩
 ·by_cases hb : b = 33
  ·subst hb;have e2 := h33;rw [e] at e2;obtain rfl := Option.some.inj e2;exact .inr (.inl ⟨((T9 _ (.head _)).1.tab (T9 _ (.head _)).2).isCodeTable, rfl, #[], ps, rfl, by rw [Array.empty_append]; exact (N9 _ (.head _)).1⟩)
  ·exact .inl (ext b o hb e)
 ·by_cases hb : b = 33
  ·subst hb;exact ⟨_, (N9 _ (.head _)).1⟩
  ·exact ⟨o, ext b o hb e⟩
end
end
end Mine
section
open PySem PySem.W PyProof.Rows
namespace Mine
section
noncomputable def hd.as_39 : List Addr := [2, 3, 32, 34, 35, 37, 38, 46, 48, 49, 51, 52, 53, 54, 55, 56, 57, 63, 64, 72, 81, 83, 84, 86, 87, 88, 89, 91, 92, 94, 95, 101, 103, 104, 106, 107, 108, 110, 111, 113, 114, 115, 117, 118, 120, 121, 122, 125, 126, 127, 129, 130, 132, 133, 134, 136, 137, 139, 140, 141, 143, 144, 146, 147, 148, 150, 151, 153, 154, 155, 157, 158, 160, 161, 162, 164, 165, 167, 168, 169, 171, 172, 174, 175, 176, 179, 180, 181, 184, 185, 186, 188, 189, 191, 192, 193, 195, 196, 198, 199, 200, 203, 204, 205, 208, 209]
noncomputable def hd.T73 (w : World) (os : OsState) : SharedT := ⟨hd.tree_73 w.params, 32, hd.life, ⟨[]⟩, Drawn.mk 0 0 0 0, 282, os⟩
noncomputable def hd.T109 (w : World) (os : OsState) : SharedT := ⟨hd.tree_109 w.params, 65, hd.life, ⟨[]⟩, Drawn.mk 0 0 0 0, 364, os⟩
noncomputable def hd.T116 (w : World) (os : OsState) : SharedT := ⟨hd.tree_116 w.params, 71, hd.life, ⟨[]⟩, Drawn.mk 0 0 0 0, 1392, os⟩
noncomputable def hd.T130 (w : World) (os : OsState) : SharedT := ⟨hd.tree_130 w.params, 78, hd.life, ⟨[]⟩, Drawn.mk 0 0 0 0, 1615, os⟩
noncomputable def hd.T267 (w : World) (os : OsState) : SharedT := ⟨hd.tree_267 w.params, 210, hd.life, ⟨[]⟩, Drawn.mk 0 0 0 0, 2079, os⟩
noncomputable def hd.T273 (w : World) (os : OsState) : SharedT := ⟨hd.tree_273 w.params, 0, hd.life, ⟨[]⟩, Drawn.mk 0 0 0 0, 1, os⟩
noncomputable def hd.T300 (w : World) (os : OsState) : SharedT := ⟨hd.tree_300 w.params, 28, hd.life, ⟨[]⟩, Drawn.mk 0 0 0 0, 276, os⟩
noncomputable def hd.S68 (w : World) (os : OsState) : Shared := ⟨hd.heap_68 w.params, ⟨[]⟩, Drawn.mk 0 0 0 0, 276, os⟩
noncomputable def hd.S72 (w : World) (os : OsState) : Shared := ⟨hd.heap_72 w.params, ⟨[]⟩, Drawn.mk 0 0 0 0, 282, os⟩
noncomputable def hd.S270 (w : World) (os : OsState) : Shared := ⟨hd.heap_270 w.params, ⟨[]⟩, Drawn.mk 0 0 0 0, 2079, os⟩
noncomputable def hd.be : List Stmt := behindTheImports hd.PP
noncomputable def hd.ce : Code := .body hd.be hd.env_41
noncomputable abbrev hd.p0 : Pos := Pos.mk 0 0 0 0
theorem hd.pre (w : World) : (fun os => topGo treeTable hd.PP w 28 (some (.ref 6)) 12 (hd.S68 w os) (topStub hd.PP)) = fun os => some (hd.S72 w os, (⟨denote treeTable hd.ce, hd.ce, hd.p0, [topFrame hd.p0]⟩ : Thread)) := by
 rw [PySem.W.Fast.te15667345088766844465, PySem.W.Fast.te14364793385576792824, PySem.W.Fast.te11892475500146522536]; kernel_rfl
theorem hd.block (w : World) : (fun os => segRun treeTable hd.PP w 28 (some (.ref 6)) 1 1 (hd.S72 w os) (blockOf hd.be hd.env_41 hd.ce hd.p0 [topFrame hd.p0])) = fun os => some (Flow.next, (hd.T73 w os).abs, hd.ce, hd.p0) := by
 rw [PySem.W.Fast.te14374325043358763698, PySem.W.Fast.te14364793385576792824]; kernel_rfl
def hd.g1_ (w : World) : Prop := (fun os => segRunT treeTable hd.PP w 28 (some (.ref 6)) 1 356 (hd.T73 w os) (piecesOf hd.sts_75 hd.env_41 hd.ce hd.p0 [topFrame hd.p0])) = fun os => some (Flow.next, hd.T109 w os, hd.ce, (Pos.mk 45 0 45 10))
theorem hd.g1 (w : World) : hd.g1_ w := by unfold hd.g1_; rw [PySem.W.Fast.te10110043849684766642, PySem.W.Fast.te14364793385576792824]; kernel_rfl
def hd.g2_ (w : World) : Prop := (fun os => segRunT treeTable hd.PP w 28 (some (.ref 6)) 1 9552 (hd.T109 w os) (piecesOf hd.sts_110 hd.env_41 hd.ce (Pos.mk 45 0 45 10) [topFrame hd.p0])) = fun os => some (Flow.next, hd.T116 w os, hd.ce, (Pos.mk 46 0 46 11))
theorem hd.g2_false_false (w : World) : hd.g2_ ((w.withFollow "special-get-raises" false).withFollow "comprehension-iter-twice" false) := by unfold hd.g2_; rw [PySem.W.Fast.te10110043849684766642, PySem.W.Fast.te14364793385576792824]; kernel_rfl
theorem hd.g2_false_true (w : World) : hd.g2_ ((w.withFollow "special-get-raises" true).withFollow "comprehension-iter-twice" false) := by unfold hd.g2_; rw [PySem.W.Fast.te10110043849684766642, PySem.W.Fast.te14364793385576792824]; kernel_rfl
theorem hd.g2_true_false (w : World) : hd.g2_ ((w.withFollow "special-get-raises" false).withFollow "comprehension-iter-twice" true) := by unfold hd.g2_; rw [PySem.W.Fast.te10110043849684766642, PySem.W.Fast.te14364793385576792824]; kernel_rfl
theorem hd.g2_true_true (w : World) : hd.g2_ ((w.withFollow "special-get-raises" true).withFollow "comprehension-iter-twice" true) := by unfold hd.g2_; rw [PySem.W.Fast.te10110043849684766642, PySem.W.Fast.te14364793385576792824]; kernel_rfl
theorem hd.g2 : ∀ w : World, hd.g2_ w := byRow2 "comprehension-iter-twice" (byRow2 "special-get-raises" (P := fun w => hd.g2_ (w.withFollow "comprehension-iter-twice" false)) hd.g2_false_false hd.g2_false_true) (byRow2 "special-get-raises" (P := fun w => hd.g2_ (w.withFollow "comprehension-iter-twice" true)) hd.g2_true_false hd.g2_true_true)
def hd.g3_ (w : World) : Prop := (fun os => segRunT treeTable hd.PP w 28 (some (.ref 6)) 1 3209 (hd.T116 w os) (piecesOf hd.sts_123 hd.env_41 hd.ce (Pos.mk 46 0 46 11) [topFrame hd.p0])) = fun os => some (Flow.next, hd.T130 w os, hd.ce, (Pos.mk 56 0 56 28))
theorem hd.g3_false (w : World) : hd.g3_ (w.withFollow "special-get-raises" false) := by unfold hd.g3_; rw [PySem.W.Fast.te10110043849684766642, PySem.W.Fast.te14364793385576792824]; kernel_rfl
theorem hd.g3_true (w : World) : hd.g3_ (w.withFollow "special-get-raises" true) := by unfold hd.g3_; rw [PySem.W.Fast.te10110043849684766642, PySem.W.Fast.te14364793385576792824]; kernel_rfl
theorem hd.g3 : ∀ w : World, hd.g3_ w := byRow2 "special-get-raises" hd.g3_false hd.g3_true
def hd.g4_ (w : World) : Prop := (fun os => segRunT treeTable hd.PP w 28 (some (.ref 6)) 1 5053 (hd.T130 w os) (piecesOf hd.sts_133 hd.env_41 hd.ce (Pos.mk 56 0 56 28) [topFrame hd.p0])) = fun os => some (Flow.next, hd.T267 w os, hd.ce, (Pos.mk 193 0 228 15))
theorem hd.g4_false (w : World) : hd.g4_ (w.withFollow "special-get-raises" false) := by unfold hd.g4_; rw [PySem.W.Fast.te10110043849684766642, PySem.W.Fast.te14364793385576792824]; kernel_rfl
theorem hd.g4_true (w : World) : hd.g4_ (w.withFollow "special-get-raises" true) := by unfold hd.g4_; rw [PySem.W.Fast.te10110043849684766642, PySem.W.Fast.te14364793385576792824]; kernel_rfl
theorem hd.g4 : ∀ w : World, hd.g4_ w := byRow2 "special-get-raises" hd.g4_false hd.g4_true
theorem hd.fin (w : World) : (fun os => topRun treeTable hd.PP w 28 (some (.ref 6)) 2 (hd.T267 w os).abs (⟨doneF .next, hd.ce, Pos.mk 193 0 228 15, [topFrame hd.p0]⟩ : Thread)) = fun os => some (hd.S270 w os) := by
 rw [PySem.W.Fast.te14082659384304107361, PySem.W.Fast.te14364793385576792824]; kernel_rfl
theorem hd.bes : hd.be = hd.sts_75 ++ (hd.sts_110 ++ (hd.sts_123 ++ (hd.sts_133 ++ []))) := by kernel_rfl
theorem hd.run (w : World) (os : OsState) : topRun treeTable hd.PP w 28 (some (.ref 6)) (12 + (1 + (356 + (9552 + (3209 + (5053 + 2)))))) (hd.S68 w os) (topStub hd.PP) = some (hd.S270 w os) := by
 refine go_top (congrFun (hd.pre w) os) (piece_block (congrFun (hd.block w) os) ?_);show topRun treeTable hd.PP w 28 (some (.ref 6)) _ _ (restOf hd.be hd.env_41 hd.ce _ _) = _;rw [hd.bes];exact piece_app (segRun_of (congrFun (hd.g1 w) os)) (piece_app (segRun_of (congrFun (hd.g2 w) os)) (piece_app (segRun_of (congrFun (hd.g3 w) os)) (piece_app (segRun_of (congrFun (hd.g4 w) os)) (piece_nil (congrFun (hd.fin w) os)))))
theorem hd.st0 (w : World) : (start (opening hd.PP)).1 = (hd.T273 w (start (opening hd.PP)).1.os).abs := by kernel_rfl
theorem hd.op1 (w : World) : (fun os => (impGoT treeTable (opening hd.PP) w 798 (hd.T273 w os) (start (opening hd.PP)).2).bind fun x => importEnds treeTable (opening hd.PP) w 1 x.1.abs x.2) = fun os => some (hd.T300 w os).abs := by
 rw [PySem.W.Fast.te14789777615569096658, PySem.W.Fast.te10274390034422433532, PySem.W.Fast.te14364793385576792824, PySem.W.Fast.te1435165496053646825]; kernel_rfl
theorem hd.op (w : World) : importEnds treeTable (opening hd.PP) w (798 + 1) (start (opening hd.PP)).1 (start (opening hd.PP)).2 = some ⟨absHeap (hd.tree_300 w.params) 28 hd.life, ⟨[]⟩, Drawn.mk 0 0 0 0, 276, (start (opening hd.PP)).1.os⟩ := by
 obtain ⟨⟨s', t'⟩, h1, h2⟩ := Option.bind_eq_some_iff.mp (congrFun (hd.op1 w) (start (opening hd.PP)).1.os);have h3 := imp_go (impGo_of h1) h2;rw [<- hd.st0 w] at h3;exact h3
theorem hd.fe (w : World) : (fun os => (fenceModules? hd.PP ⟨absHeap (hd.tree_300 w.params) 28 hd.life, ⟨[]⟩, Drawn.mk 0 0 0 0, 276, os⟩).map (fun s => (s.heap, s.gens, s.drawn, s.toks))) = fun _ => some (hd.heap_68 w.params, (⟨[]⟩ : Array GenState), Drawn.mk 0 0 0 0, 276) := by
 rw [PySem.W.Fast.te14289696077712309145]; kernel_rfl
theorem hd.opn (w : World) : (fencedOpening treeTable hd.PP w 36458).map (fun s => (s.heap, s.gens, s.drawn, s.toks)) = some (hd.heap_68 w.params, (⟨[]⟩ : Array GenState), Drawn.mk 0 0 0 0, 276) :=
 open_cut (M := 798 + 1) (He := fun P => absHeap (hd.tree_300 P) 28 hd.life) (H₀ := hd.heap_68) hd.op (by decide) hd.fe w
theorem hd.size (w : World) : ((hd.heap_68 w.params).isNs mainGlobals && (⟨[]⟩ : Array GenState).size == 0, (hd.heap_68 w.params).objs.size, (hd.heap_68 w.params).nsMap mainGlobals "__annotations__") = (true, 28, some (.ref 6)) := by
 rw [PySem.W.Fast.te8920871248978507458]; kernel_rfl
noncomputable def hd.loose : List Str := [(o "_SelectorContext"), (o "_twin_re_1"), (o "_QUOPRI_MAP"), (o "_QUOPRI_HEADER_MAP"), (o "_QUOPRI_BODY_MAP"), (o "ascii_letters"), (o "header_encode"), (o "_QUOPRI_BODY_ENCODE_MAP")]
noncomputable def hd.lv : List (Str × WData) := [((o "ascii_letters"), (WData.str (Str.mk ⟨[97, 98, 99, 100, 101, 102, 103, 104, 105, 106, 107, 108, 109, 110, 111, 112, 113, 114, 115, 116, 117, 118, 119, 120, 121, 122, 65, 66, 67, 68, 69, 70, 71, 72, 73, 74, 75, 76, 77, 78, 79, 80, 81, 82, 83, 84, 85, 86, 87, 88, 89, 90]⟩)))]
theorem hd.as_ok (P : Params) : hd.as_39 = (Kq P).map (·.1) := by kernel_rfl
noncomputable abbrev hd.H : Hook := kmHook Kq hd.as_39 hd.as_ok [33]
noncomputable abbrev hd.Xt (s : Shared) : Bool := xlAt hd.view_39 hd.lv s && recOk (RowW.records (OpenRow.toRowW (OpenLaw.row PySem.Challenge.rw_wv0014_01))) s
theorem hd.l1 (w : World) (os : OsState) : (staticsOk (importedModules hd.PP.main.body) (hd.heap_68 w.params) (hd.heap_270 w.params) && namesBound hd.PP (hd.heap_270 w.params) && gensDone (hd.S270 w os) && laidKept (hd.heap_68 w.params) (hd.heap_270 w.params)) = true := by
 rw [PySem.W.Fast.te5923862056798008813]; kernel_rfl
theorem hd.l2 (w : World) (os : OsState) : seen ((recsOf hd.view_39).map (·.name)) (ownsOf hd.view_39) [] { hd.S270 w os with gens := #[] } = expectedOf hd.view_39 := by
 rw [PySem.W.Fast.te5160383126252970620, PySem.W.Fast.te3399658132070893891, PySem.W.Fast.te5991557255702980513]; kernel_rfl
theorem hd.l3 (w : World) (os : OsState) : (hd.S270 w os).heap.bltView = bltViewBooted := by kernel_rfl
theorem hd.l4 (w : World) (os : OsState) : ((hd.S270 w os).heap.keysOk (looseW hd.view_39 hd.loose) ((recsOf hd.view_39).map (·.name)) ((litsOf hd.view_39).map (·.1)) ((clssOf hd.view_39 (looseW hd.view_39 hd.loose)).map (·.name)) && (hd.S270 w os).heap.accountedOkI (importedModules hd.PP.main.body) && (hd.S270 w os).heap.isNs mainGlobals && (hd.S270 w os).heap.isNs builtinsNs && tablesOk hd.view_39 (hd.S270 w os).heap && hd.Xt (hd.S270 w os) && (if true then (hd.S270 w os).gens.size == 0 else !leftWithCleanup (hd.S270 w os).gens)) = true := by
 rw [PySem.W.Fast.te10880121769531294198, PySem.W.Fast.te821141287760084731, PySem.W.Fast.te3399658132070893891, PySem.W.Fast.te7409074990110511671, PySem.W.Fast.te13664370479719496447, PySem.W.Fast.te14722251495701143533, PySem.W.Fast.te5923862056798008813, PySem.W.Fast.te10994771534591457954]; kernel_rfl
theorem hd.l5 (w : World) (os : OsState) : tabsOk hd.view_39 (hd.S270 w os) = true := by
 rw [PySem.W.Fast.te479339242167458305]; kernel_rfl
theorem hd.l6 (w : World) (os : OsState) : pinSeenD hd.view_39 (drecsOf hd.view_39) (hd.S270 w os) = pinGoodD (drecsOf hd.view_39) := by
 rw [PySem.W.Fast.te16090120013241838585, PySem.W.Fast.te3247288618530077131]; kernel_rfl
theorem hd.l7 (w : World) (os : OsState) : plainSeenE hd.view_39 (looseW hd.view_39 hd.loose) (hd.S270 w os) = plainGoodE hd.view_39 (looseW hd.view_39 hd.loose) := by
 rw [PySem.W.Fast.te2386780881361962483, PySem.W.Fast.te821141287760084731]; kernel_rfl
theorem hd.l8 (w : World) (os : OsState) : plainSeenD hd.view_39 hd.loose (hd.S270 w os) = plainGoodD hd.view_39 hd.loose := by
 rw [PySem.W.Fast.te11698064438423848299]; kernel_rfl
theorem hd.l9 (w : World) (os : OsState) : wideSeen hd.view_39 (hd.S270 w os) = wideGood hd.view_39 := by
 rw [PySem.W.Fast.te7317090234206586261]; kernel_rfl
theorem hd.l10 (w : World) (os : OsState) : clsSeenW hd.view_39 hd.loose (hd.S270 w os) = clsGoodW hd.view_39 hd.loose := by
 rw [PySem.W.Fast.te7369524293546568484]; kernel_rfl
theorem hd.l11 (w : World) (os : OsState) : hd.H.obs (hd.S270 w os) = hd.H.val w := by kernel_rfl
theorem hd.looks (w : World) : (fun os => ((staticsOk (importedModules hd.PP.main.body) (hd.heap_68 w.params) (hd.heap_270 w.params) && namesBound hd.PP (hd.heap_270 w.params) && gensDone (hd.S270 w os) && laidKept (hd.heap_68 w.params) (hd.heap_270 w.params)),
  openSeen hd.view_39 hd.loose (importedModules hd.PP.main.body) hd.Xt true (hd.S270 w os), hd.H.obs (hd.S270 w os))) = fun _ => (true, openGood hd.view_39 hd.loose, hd.H.val w) := funext fun os =>
 looks_pair (hd.l1 w os) (looks_pair (show openSeen hd.view_39 hd.loose (importedModules hd.PP.main.body) hd.Xt true (hd.S270 w os) = openGood hd.view_39 hd.loose from
  looks_pair (hd.l2 w os) (looks_pair (hd.l3 w os) (looks_pair (hd.l4 w os) (looks_pair (hd.l5 w os) (looks_pair (hd.l6 w os) (looks_pair (hd.l7 w os) (looks_pair (hd.l8 w os) (looks_pair (hd.l9 w os) (hd.l10 w os))))))))) (hd.l11 w os))
theorem hd.left : LeftO hd.PP hd.view_39 hd.loose hd.Xt hd.H.obs hd.H.val 36458 :=
 LeftO.of_pieces (H₀ := hd.heap_68) (H₁ := hd.heap_270) (M := 12 + (1 + (356 + (9552 + (3209 + (5053 + 2)))))) hd.opn hd.size hd.run (by decide) hd.looks
end
end Mine
end
open PySem PySem.W PyProof.Rows PySem.Calls
namespace Mine
theorem law_walk {d : DefRec} {kwd : List (Str × Expr)} (hdn : d.name = Str.ofString "law") : WalkS hd.view_39 hd.loose (XL hd.view_39 hd.lv) hd.H.says (OpenRow.toRowW (OpenLaw.row PySem.Challenge.rw_wv0014_01)) d kwd fun f vs => PySem.call f vs := by
 intro w s₀ s₁ mg mb G Y fa o pm cd doc dV kV ho hd' hcd hD hmg hg args vals as hpre hlay hrd hwl hlo;have X : (Kq w.params).In s₁.heap := km_in_of Y;have h33 := km_tabs_of Y;clear hd' hcd hD ho;refine Ground.open G ?_;intro T B D TE TW;have e1 : mg (Str.ofString "law") = some (.ref 209) := mg_of X T.g (by kernel_rfl);rw [hdn] at hmg;have e2 : fa = 209 := by
  have h := Option.some.inj (hmg.symm.trans e1);cases h;rfl
 subst e2;clear hmg e1
 wrow_args hpre hlay hrd hwl hlo
 rename Heap.IsList _ _ _ => hl;rename IntsAre _ _ => hi;rename ¬ _ => hn;refine S_mono (law_run X T (h33 33 (.head _)) hg hl hi (by omega)) (fun v s' hq => ?_) (fun e s' h => h.elim);obtain ⟨rfl, hk, hos, hb⟩ := hq;exact ⟨.inl ⟨.bool true, .bool true, [], rfl, fun _ => rfl, ReadsW.bool _, by wrow_post, fun _ => ⟨List.nodup_nil, fun _ h => nomatch h⟩⟩, hk, hos, hb⟩
noncomputable def lawD : DefRec := ((defOf hd.view_39 (Str.ofString "law")).map Prod.fst).getD ⟨Str.ofString "", default, [], default, ⟨0, 0, 0, 0⟩⟩
theorem said : OpenLaw.wellSaid PySem.Challenge.rw_wv0014_01 = true := by decide +kernel
end Mine
theorem PySem.Challenge.cw_wv0014_01_holds : PySem.Challenge.rw_wv0014_01.Holds := by
 w_on
 refine holds_law Mine.said fun said => ?_;refine Mine.PySem.W.holds_open (q := Mine.hd.view_39) (d := Mine.lawD) (loose := Mine.hd.loose) (Xt := Mine.hd.Xt) (XP := XL Mine.hd.view_39 Mine.hd.lv) (Yf := Mine.hd.H.obs) (Ya := Mine.hd.H.val) (YP := Mine.hd.H.says) (N := 36458) Mine.hd.left Mine.hd.H.of Mine.hd.H.keeps (fun s e => xl_of s (Bool.and_eq_true_iff.mp e).1) XL.keeps (by rfl) (by rfl) (by rfl) (fun s e => recFacts_of (Bool.and_eq_true_iff.mp e).2) (by rfl) (by first | assumption | decide +kernel) (by decide +kernel) ⟨rfl, rfl, rfl, rfl, rfl, by decide +kernel⟩ ?hw ?hc
 case hw => w_witness2
 case hc => exact Mine.law_walk rfl
