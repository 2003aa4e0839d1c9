import PyProof.Rows.All
import Wide.All
import OpenK.AllK
import Wide.FinOn
import KE.KSetDisp
import PyProof.IsiH_set
import PyProof.EnumFor
import PyProof.EnumMake
import KE.KSetIn
import Lean
import PySem.Challenge.RW_kl0400_01
set_option Elab.async false
set_option maxRecDepth 100000
set_option maxHeartbeats 8000000
set_option linter.all false
set_option compiler.extract_closed false
set_option genSizeOf false
namespace Mine
section
open PySem PySem.W PySem.W.X PyProof.Rows
theorem MB(a:Array Nat)(p:Nat→Bool):a.any p 0 a.size=PySem.W.R.anyR a.toList p:=by
 rw[Array.any_toList.symm];exact congrFun (congrFun (congrFun PySem.W.R.anyR_eq _) _) _
noncomputable def J9(a:Array Nat)(p:Nat→Bool)(start stop:Nat):Bool:= @Bool.rec (fun O=>Bool) (Array.any a p start stop) (PySem.W.R.anyR a.toList p) (and (Nat.beq start 0) (Nat.beq stop a.size))
theorem ER: @Array.any Nat=J9:=by
 funext a p start stop
 unfold J9
 cases h:(and (Nat.beq start 0) (Nat.beq stop a.size))with
 | false=>rfl
 | true=>
  obtain⟨h1,h2⟩:=Bool.and_eq_true_iff.mp h;rw[Nat.eq_of_beq_eq_true h1,Nat.eq_of_beq_eq_true h2];exact MB a p
set_option maxHeartbeats 4000000 in
noncomputable def QJ:Builtin:=by
 apply(fun(x:Builtin) (h:True)=>x)
 case h=>
  have e:PySem.W.Fast.tw4202317264376624991=?x:=by
   delta PySem.W.Fast.tw4202317264376624991
   rw[ER]
  trivial
set_option maxHeartbeats 4000000 in
theorem Nd:PySem.W.Fast.tw4202317264376624991=QJ:=by
 delta PySem.W.Fast.tw4202317264376624991
 rw[ER];exact rfl
noncomputable def T2:String→Option Builtin:=fun id=> @Bool.rec (fun O=>Option Builtin) (PySem.W.Fast.tw14364793385576792824 id) (some QJ) (PySem.W.S.eqLit 29827186395103491166823348853 id)
theorem JR:PySem.W.Fast.tw14364793385576792824 "type.__new__"=some PySem.W.Fast.tw4202317264376624991:=by kernel_rfl
theorem Vd:PySem.W.Fast.tw14364793385576792824=T2:=by
 funext id
 unfold T2;have e:=congrFun (PySem.W.S.eqLit_eq "type.__new__" _ (by rw[PySem.W.S.code_S])) id;have e:(id=="type.__new__")=PySem.W.S.eqLit 29827186395103491166823348853 id:=e;rw[←e]
 cases h:(id=="type.__new__")with
 | false=>rfl
 | true=>
  rw[beq_iff_eq]at h;subst h;show _=some QJ;rw[←Nd];exact JR
noncomputable def tS(p:Program)(i:Nat):Stmt:=(p.main.body[i]?).getD (.Pass default)
noncomputable def iS(s:Stmt)(j:Nat):Stmt:=match s with | .ClassDef _ _ _ b ..=>(b[j]?).getD (.Pass default)| _=>.Pass default
noncomputable def fA(s:Stmt):Arguments:=match s with | .FunctionDef _ a ..=>a| _=>default
noncomputable def fB(s:Stmt):List Stmt:=match s with | .FunctionDef _ _ b ..=>b| _=>[]
noncomputable def fS(s:Stmt):Scope:=match s with | .FunctionDef _ _ _ _ _ _ sc ..=>sc| _=>default
noncomputable def cB(s:Stmt):List Stmt:=match s with | .ClassDef _ _ _ b ..=>b| _=>[]
noncomputable def dS(b:List Stmt):Str:=match b with | .Expr (.Constant (.str s) _ _) _::_=>s| _=>default
noncomputable def dE(P:Params)(x:Str)(t:Tok)(v:Value):DictEntry:=⟨PyData.keyHash P x,.str x t,v⟩
noncomputable abbrev bN(o:Obj)(l r:BT):BT:=.node o l r
noncomputable abbrev bE(o:Obj):BT:=.node o .nil .nil
noncomputable def eT:Obj:=⟨.type "tuple",none,.seq ⟨[]⟩ 0,⟨[]⟩⟩
noncomputable def eN:Obj:=⟨.none,none,.fields ⟨[]⟩,⟨[]⟩⟩
noncomputable def tO(l:List Value):Obj:=⟨.type "tuple",none,.seq ⟨l⟩ 0,⟨[]⟩⟩
noncomputable def fO(n q:Str)(s:Stmt)(d doc mo code:Value):Obj:=⟨.type "function",none,.func {name:=n,qualname:=q,params:=fA s,body:=.stmts (fB s),scope:=fS s,globals:=3,closure:=[],defaults:=d,kwdefaults:=.none,doc:=doc,pyModule:=mo,annotations:=none,code:=code,closureTuple:=.none,builtins:=0},⟨[]⟩⟩
noncomputable def gO(n q:Str)(s:Stmt):Obj:=⟨.none,none,.func {name:=n,qualname:=q,params:=fA s,body:=.stmts (fB s),scope:=fS s,globals:=0,closure:=[],defaults:=.none,kwdefaults:=.none,doc:=.none,pyModule:=.none,annotations:=none,code:=.none,closureTuple:=.none,builtins:=0},⟨[]⟩⟩
noncomputable def cO(n q:Str)(t:Tok)(a b c:Int)(r:Addr)(l:Int)(r2 r3 r4:Addr)(r5:Value)(i1 i2:Int)(t7:Tok):Obj:=
 ⟨.type "code",none,.fields ⟨[.str n t,.str q (t+1),.str "/claim/cut.py" (t+2),.int a 0,.int b 0,.int 0 0,.int 0 0,.int c 0,.ref r,.bool true,.int l 0,.ref r2,.none,.ref r3,.ref r4,r5,.int i1 0,.int i2 0,.str "/claim/cut.py" t7]⟩,⟨[]⟩⟩
noncomputable abbrev OB:=Program→Params→Obj
noncomputable def LH:OB:=fun p P=>⟨(.type "dict"),none,(.dict ⟨[dE P "__name__" 1 (.str "builtins" 160),dE P "__doc__" 2 (.builtin "builtins.__doc__:str#opaque"),dE P "__package__" 3 (.builtin "builtins.__package__:str#opaque"),dE P "__loader__" 4 (.builtin "builtins.__loader__:shared#opaque"),dE P "__spec__" 5 (.builtin "builtins.__spec__#opaque"),dE P "__build_class__" 6 (.builtin "__build_class__"),dE P "__import__" 7 (.builtin "__import__"),dE P "abs" 8 (.builtin "abs"),dE P "all" 9 (.builtin "all"),dE P "any" 10 (.builtin "any"),dE P "ascii" 11 (.builtin "ascii"),dE P "bin" 12 (.builtin "bin"),dE P "breakpoint" 13 (.builtin "breakpoint"),dE P "callable" 14 (.builtin "callable"),dE P "chr" 15 (.builtin "chr"),dE P "compile" 16 (.builtin "compile"),dE P "delattr" 17 (.builtin "delattr"),dE P "dir" 18 (.builtin "dir"),dE P "divmod" 19 (.builtin "divmod"),dE P "eval" 20 (.builtin "eval"),dE P "exec" 21 (.builtin "exec"),dE P "format" 22 (.builtin "format"),dE P "getattr" 23 (.builtin "getattr"),dE P "globals" 24 (.builtin "globals"),dE P "hasattr" 25 (.builtin "hasattr"),dE P "hash" 26 (.builtin "hash"),dE P "hex" 27 (.builtin "hex"),dE P "id" 28 (.builtin "id"),dE P "input" 29 (.builtin "input"),dE P "isinstance" 30 (.builtin "isinstance"),dE P "issubclass" 31 (.builtin "issubclass"),dE P "iter" 32 (.builtin "iter"),dE P "aiter" 33 (.builtin "aiter"),dE P "len" 34 (.builtin "len"),dE P "locals" 35 (.builtin "locals"),dE P "max" 36 (.builtin "max"),dE P "min" 37 (.builtin "min"),dE P "next" 38 (.builtin "next"),dE P "anext" 39 (.builtin "anext"),dE P "oct" 40 (.builtin "oct"),dE P "ord" 41 (.builtin "ord"),dE P "pow" 42 (.builtin "pow"),dE P "print" 43 (.builtin "print"),dE P "repr" 44 (.builtin "repr"),dE P "round" 45 (.builtin "round"),dE P "setattr" 46 (.builtin "setattr"),dE P "sorted" 47 (.builtin "sorted"),dE P "sum" 48 (.builtin "sum"),dE P "vars" 49 (.builtin "vars"),dE P "None" 50 .none,dE P "Ellipsis" 51 .ellipsis,dE P "NotImplemented" 52 .notImplemented,dE P "False" 53 (.bool false),dE P "True" 54 (.bool true),dE P "bool" 55 (.type "bool"),dE P "memoryview" 56 (.type "memoryview"),dE P "bytearray" 57 (.type "bytearray"),dE P "bytes" 58 (.type "bytes"),dE P "classmethod" 59 (.type "classmethod"),dE P "complex" 60 (.type "complex"),dE P "dict" 61 (.type "dict"),dE P "enumerate" 62 (.type "enumerate"),dE P "filter" 63 (.type "filter"),dE P "float" 64 (.type "float"),dE P "frozenset" 65 (.type "frozenset"),dE P "property" 66 (.type "property"),dE P "int" 67 (.type "int"),dE P "list" 68 (.type "list"),dE P "map" 69 (.type "map"),dE P "object" 70 (.type "object"),dE P "range" 71 (.type "range"),dE P "reversed" 72 (.type "reversed"),dE P "set" 73 (.type "set"),dE P "slice" 74 (.type "slice"),dE P "staticmethod" 75 (.type "staticmethod"),dE P "str" 76 (.type "str"),dE P "super" 77 (.type "super"),dE P "tuple" 78 (.type "tuple"),dE P "type" 79 (.type "type"),dE P "zip" 80 (.type "zip"),dE P "__debug__" 81 (.bool true),dE P "BaseException" 82 (.type "BaseException"),dE P "BaseExceptionGroup" 83 (.type "BaseExceptionGroup"),dE P "Exception" 84 (.type "Exception"),dE P "GeneratorExit" 85 (.type "GeneratorExit"),dE P "KeyboardInterrupt" 86 (.type "KeyboardInterrupt"),dE P "SystemExit" 87 (.type "SystemExit"),dE P "ArithmeticError" 88 (.type "ArithmeticError"),dE P "AssertionError" 89 (.type "AssertionError"),dE P "AttributeError" 90 (.type "AttributeError"),dE P "BufferError" 91 (.type "BufferError"),dE P "EOFError" 92 (.type "EOFError"),dE P "ImportError" 93 (.type "ImportError"),dE P "LookupError" 94 (.type "LookupError"),dE P "MemoryError" 95 (.type "MemoryError"),dE P "NameError" 96 (.type "NameError"),dE P "OSError" 97 (.type "OSError"),dE P "ReferenceError" 98 (.type "ReferenceError"),dE P "RuntimeError" 99 (.type "RuntimeError"),dE P "StopAsyncIteration" 100 (.type "StopAsyncIteration"),dE P "StopIteration" 101 (.type "StopIteration"),dE P "SyntaxError" 102 (.type "SyntaxError"),dE P "SystemError" 103 (.type "SystemError"),dE P "TypeError" 104 (.type "TypeError"),dE P "ValueError" 105 (.type "ValueError"),dE P "Warning" 106 (.type "Warning"),dE P "FloatingPointError" 107 (.type "FloatingPointError"),dE P "OverflowError" 108 (.type "OverflowError"),dE P "ZeroDivisionError" 109 (.type "ZeroDivisionError"),dE P "BytesWarning" 110 (.type "BytesWarning"),dE P "DeprecationWarning" 111 (.type "DeprecationWarning"),dE P "EncodingWarning" 112 (.type "EncodingWarning"),dE P "FutureWarning" 113 (.type "FutureWarning"),dE P "ImportWarning" 114 (.type "ImportWarning"),dE P "PendingDeprecationWarning" 115 (.type "PendingDeprecationWarning"),dE P "ResourceWarning" 116 (.type "ResourceWarning"),dE P "RuntimeWarning" 117 (.type "RuntimeWarning"),dE P "SyntaxWarning" 118 (.type "SyntaxWarning"),dE P "UnicodeWarning" 119 (.type "UnicodeWarning"),dE P "UserWarning" 120 (.type "UserWarning"),dE P "BlockingIOError" 121 (.type "BlockingIOError"),dE P "ChildProcessError" 122 (.type "ChildProcessError"),dE P "ConnectionError" 123 (.type "ConnectionError"),dE P "FileExistsError" 124 (.type "FileExistsError"),dE P "FileNotFoundError" 125 (.type "FileNotFoundError"),dE P "InterruptedError" 126 (.type "InterruptedError"),dE P "IsADirectoryError" 127 (.type "IsADirectoryError"),dE P "NotADirectoryError" 128 (.type "NotADirectoryError"),dE P "PermissionError" 129 (.type "PermissionError"),dE P "ProcessLookupError" 130 (.type "ProcessLookupError"),dE P "TimeoutError" 131 (.type "TimeoutError"),dE P "IndentationError" 132 (.type "IndentationError"),dE P "_IncompleteInputError" 133 (.type "_IncompleteInputError"),dE P "IndexError" 134 (.type "IndexError"),dE P "KeyError" 135 (.type "KeyError"),dE P "ModuleNotFoundError" 136 (.type "ModuleNotFoundError"),dE P "NotImplementedError" 137 (.type "NotImplementedError"),dE P "PythonFinalizationError" 138 (.type "PythonFinalizationError"),dE P "RecursionError" 139 (.type "RecursionError"),dE P "UnboundLocalError" 140 (.type "UnboundLocalError"),dE P "UnicodeError" 141 (.type "UnicodeError"),dE P "BrokenPipeError" 142 (.type "BrokenPipeError"),dE P "ConnectionAbortedError" 143 (.type "ConnectionAbortedError"),dE P "ConnectionRefusedError" 144 (.type "ConnectionRefusedError"),dE P "ConnectionResetError" 145 (.type "ConnectionResetError"),dE P "TabError" 146 (.type "TabError"),dE P "UnicodeDecodeError" 147 (.type "UnicodeDecodeError"),dE P "UnicodeEncodeError" 148 (.type "UnicodeEncodeError"),dE P "UnicodeTranslateError" 149 (.type "UnicodeTranslateError"),dE P "ExceptionGroup" 150 (.type "ExceptionGroup"),dE P "EnvironmentError" 151 (.type "OSError"),dE P "IOError" 152 (.type "OSError"),dE P "open" 153 (.builtin "open"),dE P "quit" 154 (.builtin "builtins.quit#opaque"),dE P "exit" 155 (.builtin "builtins.exit#opaque"),dE P "copyright" 156 (.builtin "builtins.copyright#opaque"),dE P "credits" 157 (.builtin "builtins.credits#opaque"),dE P "license" 158 (.builtin "builtins.license#opaque"),dE P "help" 159 (.builtin "builtins.help#opaque")]⟩ 159),⟨[]⟩⟩
noncomputable def PL:OB:=fun p P=>⟨(.type "dict"),none,(.dict ⟨[dE P "builtins" 162 (.ref 4),dE P "__main__" 163 (.ref 5)]⟩ 2),⟨[]⟩⟩
noncomputable def Nb:OB:=fun p P=>⟨.none,none,(.dict ⟨[]⟩ 0),⟨[]⟩⟩
noncomputable def Vy:OB:=fun p P=>⟨(.type "dict"),none,(.dict ⟨[dE P "__name__" 165 (.str "__main__" 164),dE P "__doc__" 166 .none,dE P "__package__" 167 .none,dE P "__loader__" 168 (.builtin "__main__.__loader__#opaque"),dE P "__spec__" 169 .none,dE P "__annotations__" 170 (.ref 6),dE P "__builtins__" 171 (.ref 4),dE P "__file__" 173 (.str "/claim/cut.py" 172),dE P "__cached__" 174 .none]⟩ 9),⟨[]⟩⟩
noncomputable def OY:OB:=fun p P=>⟨(.type "module"),(some 0),.plain,⟨[]⟩⟩
noncomputable def Sn:OB:=fun p P=>⟨(.type "module"),(some 3),.plain,⟨[]⟩⟩
noncomputable def Sd:OB:=fun p P=>⟨(.type "dict"),none,(.dict ⟨[]⟩ 0),⟨[]⟩⟩
noncomputable def RL:OB:=fun p P=>⟨(.type "code"),none,(.fields ⟨[(.str "<module>" 176),(.str "<module>" 177),(.str "/claim/cut.py" 178),(.int 1 0),(.int 0 0),(.int 0 0),(.int 0 0),(.int 0 0),(.ref 7),(.bool false),(.int 175 0),(.ref 8),.none,.none,.none,.none,(.int 179 0),(.int 1 0),(.str "/claim/cut.py" 180)]⟩),⟨[]⟩⟩
noncomputable def Oz:OB:=fun p P=>⟨(.type "frame"),none,.plain,⟨[(some (.ref 9)),(some (.ref 3)),(some (.ref 3)),none,(some (.str "__main__" 164)),none,(some (.ref 0))]⟩⟩
noncomputable def Oy:OB:=fun p P=>⟨(.type "code"),none,(.fields ⟨[(.str "<module>" 182),(.str "<module>" 183),(.str "/claim/cut.py" 184),(.int 1 0),(.int 0 0),(.int 0 0),(.int 0 0),(.int 0 0),(.ref 11),(.bool false),(.int 181 0),(.ref 12),.none,.none,.none,.none,(.int 185 0),(.int 1 0),(.str "/claim/cut.py" 186)]⟩),⟨[]⟩⟩
noncomputable def Ox:OB:=fun p P=>⟨(.type "frame"),none,.plain,⟨[(some (.ref 13)),(some (.ref 3)),(some (.ref 3)),none,(some (.str "__main__" 164)),none,(some (.ref 0))]⟩⟩
noncomputable def ta(p:Program)(P:Params):BT:=(bN (LH p P) (bN (PL p P) (bN (Vy p P) (bE eT) (bE eT)) (bN (Sn p P) (bE (RL p P)) (bE (Oy p P)))) (bN (Nb p P) (bN (OY p P) (bE eN) (bE eN)) (bN (Sd p P) (bE (Oz p P)) (bE (Ox p P)))))
noncomputable def SE:OB:=fun p P=>tO [(.str "k" 190)]
noncomputable def SD:OB:=fun p P=>gO "_wall" "_wall" (tS p 0)
noncomputable def SA:OB:=fun p P=>cO "_wall" "_wall" 187 1 1 3 15 181 16 17 18 (.ref 19) 191 1 192
noncomputable def S9:OB:=fun p P=>fO "_wall" "_wall" (tS p 0) .none .none (.str "__main__" 164) (.ref 20)
noncomputable def Ow:OB:=fun p P=>tO [.none]
noncomputable def S8:OB:=fun p P=>tO [(.str "text" 199),(.str "prefix" 200),(.str "predicate" 201),(.str "prefixed_lines" 202),(.str "line" 203)]
noncomputable def S7:OB:=fun p P=>gO "indent" "indent" (tS p 2)
noncomputable def Ov:OB:=fun p P=>cO "indent" "indent" 196 5 3 3 23 181 24 25 26 (.ref 27) 204 5 205
noncomputable def Lo:OB:=fun p P=>fO "indent" "indent" (tS p 2) (.ref 22) (.str (dS (fB (tS p 2))) 206) (.str "cpy313.textwrap" 194) (.ref 28)
noncomputable def S6:OB:=fun p P=>⟨(.type "builtin_function_or_method"),none,(.fields ⟨[(.builtin "type.__prepare__"),(.type "type")]⟩),⟨[]⟩⟩
noncomputable def S5:OB:=fun p P=>⟨(.type "dict"),none,(.dict ⟨[dE P "__module__" 217 (.str "cpy313.difflib" 208),dE P "__qualname__" 219 (.str "_tuplegetter" 218),dE P "__firstlineno__" 221 (.int 22 220),dE P "__init__" 230 (.ref 43),dE P "__get__" 239 (.ref 51),dE P "__set__" 248 (.ref 58),dE P "__delete__" 256 (.ref 65),dE P "__static_attributes__" 259 (.ref 66)]⟩ 8),⟨[]⟩⟩
noncomputable def S4:OB:=fun p P=>⟨.none,none,(.fields ⟨[(.int 24 0),(.int 4 0),(.ref 42),(.int 28 0),(.int 4 0),(.ref 50),(.int 35 0),(.int 4 0),(.ref 57),(.int 38 0),(.int 4 0),(.ref 64)]⟩),⟨[]⟩⟩
noncomputable def S3:OB:=fun p P=>⟨(.type "code"),none,(.fields ⟨[(.str "_tuplegetter" 212),(.str "_tuplegetter" 213),(.str "/claim/cut.py" 214),(.int 22 0),(.int 0 0),(.int 0 0),(.int 0 0),(.int 0 0),(.ref 33),(.bool false),(.int 181 0),(.ref 34),.none,.none,.none,.none,(.int 215 0),(.int 22 0),(.str "/claim/cut.py" 216)]⟩),⟨[]⟩⟩
noncomputable def S2:OB:=fun p P=>⟨(.type "frame"),none,.plain,⟨[(some (.ref 35)),(some (.ref 3)),(some (.ref 32)),none,(some (.str "cpy313.difflib" 208)),none,(some (.ref 0))]⟩⟩
noncomputable def S1:OB:=fun p P=>tO [(.str "self" 225),(.str "index" 226),(.str "doc" 227)]
noncomputable def S0:OB:=fun p P=>gO "__init__" "_tuplegetter.__init__" (iS (tS p 4) 0)
noncomputable def Sz:OB:=fun p P=>cO "__init__" "_tuplegetter.__init__" 222 24 3 3 37 181 38 39 40 (.ref 41) 228 24 229
noncomputable def Sy:OB:=fun p P=>fO "__init__" "_tuplegetter.__init__" (iS (tS p 4) 0) .none .none (.str "cpy313.difflib" 208) (.ref 42)
noncomputable def Sx:OB:=fun p P=>tO [.none]
noncomputable def Sw:OB:=fun p P=>tO [(.str "self" 234),(.str "obj" 235),(.str "objtype" 236)]
noncomputable def Sv:OB:=fun p P=>gO "__get__" "_tuplegetter.__get__" (iS (tS p 4) 1)
noncomputable def Su:OB:=fun p P=>cO "__get__" "_tuplegetter.__get__" 231 28 3 3 45 181 46 47 48 (.ref 49) 237 28 238
noncomputable def Ss:OB:=fun p P=>fO "__get__" "_tuplegetter.__get__" (iS (tS p 4) 1) (.ref 44) .none (.str "cpy313.difflib" 208) (.ref 50)
noncomputable def Sr:OB:=fun p P=>tO [(.str "self" 243),(.str "obj" 244),(.str "value" 245)]
noncomputable def Sq:OB:=fun p P=>gO "__set__" "_tuplegetter.__set__" (iS (tS p 4) 2)
noncomputable def Sp:OB:=fun p P=>cO "__set__" "_tuplegetter.__set__" 240 35 3 3 52 181 53 54 55 (.ref 56) 246 35 247
noncomputable def So:OB:=fun p P=>fO "__set__" "_tuplegetter.__set__" (iS (tS p 4) 2) .none .none (.str "cpy313.difflib" 208) (.ref 57)
noncomputable def Sm:OB:=fun p P=>tO [(.str "self" 252),(.str "obj" 253)]
noncomputable def Sl:OB:=fun p P=>gO "__delete__" "_tuplegetter.__delete__" (iS (tS p 4) 3)
noncomputable def Sk:OB:=fun p P=>cO "__delete__" "_tuplegetter.__delete__" 249 38 2 3 59 181 60 61 62 (.ref 63) 254 38 255
noncomputable def Sj:OB:=fun p P=>fO "__delete__" "_tuplegetter.__delete__" (iS (tS p 4) 3) .none .none (.str "cpy313.difflib" 208) (.ref 64)
noncomputable def Si:OB:=fun p P=>tO [(.str "__doc__" 257),(.str "index" 258)]
noncomputable def Sg:OB:=fun p P=>⟨(.type "dict"),none,(.dict ⟨[dE P "__module__" 217 (.str "cpy313.difflib" 208),dE P "__firstlineno__" 221 (.int 22 220),dE P "__init__" 230 (.ref 43),dE P "__get__" 239 (.ref 51),dE P "__set__" 248 (.ref 58),dE P "__delete__" 256 (.ref 65),dE P "__static_attributes__" 259 (.ref 66),dE P "__dict__" 261 (.ref 69),dE P "__weakref__" 263 (.ref 70),dE P "__doc__" 264 .none]⟩ 4),⟨[]⟩⟩
noncomputable def Sf:OB:=fun p P=>⟨(.type "type"),none,(.cls {name:="_tuplegetter",bases:=[(.type "object")],mro:=[(.ref 68),(.type "object")],ns:=67,qualname:="_tuplegetter",hasDict:=true,slotNames:=[],subclasses:=[],abstract:=false,collection:=none,hasDel:=false}),⟨[none,none,(some (.str "_tuplegetter" 210)),(some (.str "_tuplegetter" 218)),(some (.builtin "object.__new__")),(some (.bool true))]⟩⟩
noncomputable def Se:OB:=fun p P=>⟨(.type "getset_descriptor"),none,(.fields ⟨[(.str "__dict__" 260),(.ref 68),(.builtin "function.__dict__"),(.builtin "function.__dict__#set")]⟩),⟨[]⟩⟩
noncomputable def Sc:OB:=fun p P=>⟨(.type "getset_descriptor"),none,(.fields ⟨[(.str "__weakref__" 262),(.ref 68),(.builtin "ExceptionGroup.__weakref__"),.none]⟩),⟨[]⟩⟩
noncomputable def Sb:OB:=fun p P=>⟨(.type "super"),none,(.fields ⟨[(.ref 68),(.ref 68),(.ref 68)]⟩),⟨[]⟩⟩
noncomputable def Sa:OB:=fun p P=>⟨(.type "builtin_function_or_method"),none,(.fields ⟨[(.builtin "object.__init_subclass__"),(.ref 68)]⟩),⟨[]⟩⟩
noncomputable def RZ:OB:=fun p P=>tO [(.type "tuple")]
noncomputable def RY:OB:=fun p P=>⟨(.type "builtin_function_or_method"),none,(.fields ⟨[(.builtin "type.__prepare__"),(.type "type")]⟩),⟨[]⟩⟩
noncomputable def RX:OB:=fun p P=>⟨(.type "dict"),none,(.dict ⟨[dE P "__module__" 274 (.str "cpy313.difflib" 208),dE P "__qualname__" 276 (.str "Match" 275),dE P "__firstlineno__" 278 (.int 40 277),dE P "__doc__" 280 (.str (dS (cB (tS p 5))) 279),dE P "__slots__" 282 (.ref 81),dE P "_fields" 286 (.ref 82),dE P "_field_defaults" 287 (.ref 83),dE P "__new__" 298 (.ref 90),dE P "_make" 320 (.ref 99),dE P "_replace" 331 (.ref 108),dE P "__replace__" 332 (.ref 108),dE P "__repr__" 340 (.ref 115),dE P "_asdict" 347 (.ref 122),dE P "__getnewargs__" 355 (.ref 129),dE P "__match_args__" 359 (.ref 130),dE P "a" 369 (.ref 132),dE P "b" 379 (.ref 135),dE P "size" 389 (.ref 138),dE P "__static_attributes__" 390 (.ref 140),dE P "__classcell__" 391 (.ref 76)]⟩ 20),⟨[]⟩⟩
noncomputable def RW:OB:=fun p P=>⟨(.type "cell"),none,(.cell (some (.ref 143))),⟨[]⟩⟩
noncomputable def RV:OB:=fun p P=>⟨.none,none,(.fields ⟨[(.int 46 0),(.int 4 0),(.ref 89),(.int 51 0),(.int 4 0),(.ref 96),(.int 58 0),(.int 4 0),(.ref 107),(.int 69 0),(.int 4 0),(.ref 114),(.int 73 0),(.int 4 0),(.ref 121),(.int 76 0),(.int 4 0),(.ref 128)]⟩),⟨[]⟩⟩
noncomputable def RU:OB:=fun p P=>⟨(.type "code"),none,(.fields ⟨[(.str "Match" 269),(.str "Match" 270),(.str "/claim/cut.py" 271),(.int 40 0),(.int 0 0),(.int 0 0),(.int 0 0),(.int 0 0),(.ref 77),(.bool false),(.int 181 0),(.ref 78),.none,.none,.none,.none,(.int 272 0),(.int 40 0),(.str "/claim/cut.py" 273)]⟩),⟨[]⟩⟩
noncomputable def RT:OB:=fun p P=>⟨(.type "frame"),none,.plain,⟨[(some (.ref 79)),(some (.ref 3)),(some (.ref 75)),none,(some (.str "cpy313.difflib" 208)),none,(some (.ref 0))]⟩⟩
noncomputable def RS:OB:=fun p P=>tO [(.str "a" 283),(.str "b" 284),(.str "size" 285)]
noncomputable def RR:OB:=fun p P=>⟨(.type "dict"),none,(.dict ⟨[]⟩ 0),⟨[]⟩⟩
noncomputable def RQ:OB:=fun p P=>tO [(.str "_cls" 291),(.str "a" 292),(.str "b" 293),(.str "size" 294)]
noncomputable def RP:OB:=fun p P=>gO "__new__" "Match.__new__" (iS (tS p 5) 4)
noncomputable def Ou:OB:=fun p P=>cO "__new__" "Match.__new__" 288 46 4 3 84 181 85 86 87 (.ref 88) 295 46 296
noncomputable def Jb:OB:=fun p P=>fO "__new__" "Match.__new__" (iS (tS p 5) 4) .none (.str (dS (fB (iS (tS p 5) 4))) 297) (.str "cpy313.difflib" 208) (.ref 89)
noncomputable def RO:OB:=fun p P=>tO [(.str "cls" 302),(.str "iterable" 303),(.str "result" 304)]
noncomputable def RN:OB:=fun p P=>gO "_make" "Match._make" (iS (tS p 5) 5)
noncomputable def Ot:OB:=fun p P=>cO "_make" "Match._make" 299 50 2 3 91 181 92 93 94 (.ref 95) 305 50 306
noncomputable def Ja:OB:=fun p P=>⟨(.type "function"),none,(.func {name:="_make",qualname:="Match._make",params:=fA (iS (tS p 5) 5),body:=.stmts (fB (iS (tS p 5) 5)),scope:=fS (iS (tS p 5) 5),globals:=3,closure:=[],defaults:=.none,kwdefaults:=.none,doc:=(.str (dS (fB (iS (tS p 5) 5))) 307),pyModule:=(.str "cpy313.difflib" 208),annotations:=(some 100),code:=(.ref 96),closureTuple:=.none,builtins:=0}),⟨[]⟩⟩
noncomputable def RM:OB:=fun p P=>⟨(.type "dict"),none,(.dict ⟨[dE P "__module__" 309 (.str "cpy313.difflib" 208),dE P "__name__" 312 (.str "_make" 311),dE P "__qualname__" 315 (.str "Match._make" 314),dE P "__doc__" 317 (.str (dS (fB (iS (tS p 5) 5))) 307),dE P "__annotations__" 319 (.ref 100)]⟩ 5),⟨[]⟩⟩
noncomputable def KZ:OB:=fun p P=>⟨(.type "classmethod"),(some 98),(.fields ⟨[(.ref 97),(.bool false)]⟩),⟨[]⟩⟩
noncomputable def QG:OB:=fun p P=>⟨(.type "dict"),none,(.dict ⟨[]⟩ 0),⟨[]⟩⟩
noncomputable def QF:OB:=fun p P=>tO [(.ref 76)]
noncomputable def QE:OB:=fun p P=>tO [(.str "__class__" 324)]
noncomputable def QD:OB:=fun p P=>tO [(.str "self" 325),(.str "kwds" 326),(.str "result" 327)]
noncomputable def QC:OB:=fun p P=>gO "_replace" "Match._replace" (iS (tS p 5) 6)
noncomputable def QB:OB:=fun p P=>⟨(.type "code"),none,(.fields ⟨[(.str "_replace" 321),(.str "Match._replace" 322),(.str "/claim/cut.py" 323),(.int 58 0),(.int 1 0),(.int 1 0),(.int 0 0),(.int 11 0),(.ref 102),(.bool true),(.int 181 0),(.ref 103),.none,(.ref 104),(.ref 105),(.ref 106),(.int 328 0),(.int 58 0),(.str "/claim/cut.py" 329)]⟩),⟨[]⟩⟩
noncomputable def QA:OB:=fun p P=>⟨(.type "function"),none,(.func {name:="_replace",qualname:="Match._replace",params:=fA (iS (tS p 5) 6),body:=.stmts (fB (iS (tS p 5) 6)),scope:=fS (iS (tS p 5) 6),globals:=3,closure:=[("__class__",76)],defaults:=.none,kwdefaults:=.none,doc:=(.str (dS (fB (iS (tS p 5) 6))) 330),pyModule:=(.str "cpy313.difflib" 208),annotations:=none,code:=(.ref 107),closureTuple:=(.ref 101),builtins:=0}),⟨[]⟩⟩
noncomputable def Q9:OB:=fun p P=>tO [(.str "self" 336)]
noncomputable def Q8:OB:=fun p P=>gO "__repr__" "Match.__repr__" (iS (tS p 5) 8)
noncomputable def Q7:OB:=fun p P=>cO "__repr__" "Match.__repr__" 333 69 1 3 109 181 110 111 112 (.ref 113) 337 69 338
noncomputable def Q6:OB:=fun p P=>fO "__repr__" "Match.__repr__" (iS (tS p 5) 8) .none (.str (dS (fB (iS (tS p 5) 8))) 339) (.str "cpy313.difflib" 208) (.ref 114)
noncomputable def Q5:OB:=fun p P=>tO [(.str "self" 344)]
noncomputable def Q4:OB:=fun p P=>gO "_asdict" "Match._asdict" (iS (tS p 5) 9)
noncomputable def Q3:OB:=fun p P=>cO "_asdict" "Match._asdict" 341 73 1 3 116 181 117 118 119 (.ref 120) 345 73 346
noncomputable def Q1:OB:=fun p P=>fO "_asdict" "Match._asdict" (iS (tS p 5) 9) .none .none (.str "cpy313.difflib" 208) (.ref 121)
noncomputable def Q0:OB:=fun p P=>tO [(.str "self" 351)]
noncomputable def Qz:OB:=fun p P=>gO "__getnewargs__" "Match.__getnewargs__" (iS (tS p 5) 10)
noncomputable def Qy:OB:=fun p P=>cO "__getnewargs__" "Match.__getnewargs__" 348 76 1 3 123 181 124 125 126 (.ref 127) 352 76 353
noncomputable def Qx:OB:=fun p P=>fO "__getnewargs__" "Match.__getnewargs__" (iS (tS p 5) 10) .none (.str (dS (fB (iS (tS p 5) 10))) 354) (.str "cpy313.difflib" 208) (.ref 128)
noncomputable def Qw:OB:=fun p P=>tO [(.str "a" 356),(.str "b" 357),(.str "size" 358)]
noncomputable def Qv:OB:=fun p P=>⟨(.type "dict"),none,(.dict ⟨[dE P "index" 366 (.int 0 360),dE P "__doc__" 368 (.str "Alias for field number 0" 361)]⟩ 2),⟨[]⟩⟩
noncomputable def Qu:OB:=fun p P=>⟨(.ref 68),(some 131),.plain,⟨[]⟩⟩
noncomputable def Qt:OB:=fun p P=>⟨(.type "frame"),none,(.dict ⟨[dE P "self" 362 (.ref 132),dE P "index" 363 (.int 0 360),dE P "doc" 364 (.str "Alias for field number 0" 361)]⟩ 3),⟨[]⟩⟩
noncomputable def Qs:OB:=fun p P=>⟨(.type "dict"),none,(.dict ⟨[dE P "index" 376 (.int 1 370),dE P "__doc__" 378 (.str "Alias for field number 1" 371)]⟩ 2),⟨[]⟩⟩
noncomputable def Qq:OB:=fun p P=>⟨(.ref 68),(some 134),.plain,⟨[]⟩⟩
noncomputable def Qp:OB:=fun p P=>⟨(.type "frame"),none,(.dict ⟨[dE P "self" 372 (.ref 135),dE P "index" 373 (.int 1 370),dE P "doc" 374 (.str "Alias for field number 1" 371)]⟩ 3),⟨[]⟩⟩
noncomputable def Qo:OB:=fun p P=>⟨(.type "dict"),none,(.dict ⟨[dE P "index" 386 (.int 2 380),dE P "__doc__" 388 (.str "Alias for field number 2" 381)]⟩ 2),⟨[]⟩⟩
noncomputable def Qn:OB:=fun p P=>⟨(.ref 68),(some 137),.plain,⟨[]⟩⟩
noncomputable def Qm:OB:=fun p P=>⟨(.type "frame"),none,(.dict ⟨[dE P "self" 382 (.ref 138),dE P "index" 383 (.int 2 380),dE P "doc" 384 (.str "Alias for field number 2" 381)]⟩ 3),⟨[]⟩⟩
noncomputable def Ql:OB:=fun p P=>⟨(.type "list"),none,(.seq ⟨[]⟩ 0),⟨[]⟩⟩
noncomputable def Iz:OB:=fun p P=>⟨(.type "dict"),none,(.dict ⟨[dE P "__module__" 274 (.str "cpy313.difflib" 208),dE P "__firstlineno__" 278 (.int 40 277),dE P "__doc__" 280 (.str (dS (cB (tS p 5))) 279),dE P "__slots__" 282 (.ref 81),dE P "_fields" 286 (.ref 82),dE P "_field_defaults" 287 (.ref 83),dE P "__new__" 298 (.ref 144),dE P "_make" 320 (.ref 99),dE P "_replace" 331 (.ref 108),dE P "__replace__" 332 (.ref 108),dE P "__repr__" 340 (.ref 115),dE P "_asdict" 347 (.ref 122),dE P "__getnewargs__" 355 (.ref 129),dE P "__match_args__" 359 (.ref 130),dE P "a" 369 (.ref 132),dE P "b" 379 (.ref 135),dE P "size" 389 (.ref 138),dE P "__static_attributes__" 390 (.ref 140)]⟩ 2),⟨[]⟩⟩
noncomputable def Gq:OB:=fun p P=>⟨(.type "type"),none,(.cls {name:="Match",bases:=[(.type "tuple")],mro:=[(.ref 143),(.type "tuple"),(.type "object")],ns:=142,qualname:="Match",hasDict:=false,slotNames:=[],subclasses:=[],abstract:=false,collection:=none,hasDel:=false}),⟨[(some (.ref 73)),none,(some (.str "Match" 267)),(some (.str "Match" 275)),(some .none),(some (.bool false))]⟩⟩
noncomputable def Iy:OB:=fun p P=>⟨(.type "staticmethod"),none,(.fields ⟨[(.ref 90)]⟩),⟨[]⟩⟩
noncomputable def Qk:OB:=fun p P=>⟨(.type "super"),none,(.fields ⟨[(.ref 143),(.ref 143),(.ref 143)]⟩),⟨[]⟩⟩
noncomputable def Qj:OB:=fun p P=>⟨(.type "builtin_function_or_method"),none,(.fields ⟨[(.builtin "object.__init_subclass__"),(.ref 143)]⟩),⟨[]⟩⟩
noncomputable def Qi:OB:=fun p P=>tO [(.str "matches" 398),(.str "length" 399)]
noncomputable def Qh:OB:=fun p P=>gO "_calculate_ratio" "_calculate_ratio" (tS p 6)
noncomputable def Qg:OB:=fun p P=>cO "_calculate_ratio" "_calculate_ratio" 395 83 2 3 147 181 148 149 150 (.ref 151) 400 83 401
noncomputable def Qf:OB:=fun p P=>fO "_calculate_ratio" "_calculate_ratio" (tS p 6) .none .none (.str "cpy313.difflib" 208) (.ref 152)
noncomputable def Qe:OB:=fun p P=>⟨(.type "builtin_function_or_method"),none,(.fields ⟨[(.builtin "type.__prepare__"),(.type "type")]⟩),⟨[]⟩⟩
noncomputable def Qd:OB:=fun p P=>⟨(.type "dict"),none,(.dict ⟨[dE P "__module__" 410 (.str "cpy313.difflib" 208),dE P "__qualname__" 412 (.str "SequenceMatcher" 411),dE P "__firstlineno__" 414 (.int 87 413),dE P "__doc__" 416 (.str (dS (cB (tS p 7))) 415),dE P "__init__" 431 (.ref 168),dE P "set_seqs" 441 (.ref 175),dE P "set_seq1" 450 (.ref 182),dE P "set_seq2" 459 (.ref 189),dE P "_SequenceMatcher__chain_b" 477 (.ref 196),dE P "find_longest_match" 505 (.ref 204),dE P "get_matching_blocks" 532 (.ref 211),dE P "get_opcodes" 547 (.ref 218),dE P "get_grouped_opcodes" 565 (.ref 226),dE P "ratio" 574 (.ref 233),dE P "quick_ratio" 581 (.ref 240),dE P "real_quick_ratio" 588 (.ref 247),dE P "__static_attributes__" 599 (.ref 248)]⟩ 17),⟨[]⟩⟩
noncomputable def Qc:OB:=fun p P=>⟨.none,none,(.fields ⟨[(.int 162 0),(.int 4 0),(.ref 167),(.int 190 0),(.int 4 0),(.ref 174),(.int 201 0),(.int 4 0),(.ref 181),(.int 226 0),(.int 4 0),(.ref 188),(.int 253 0),(.int 4 0),(.ref 195),(.int 277 0),(.int 4 0),(.ref 203),(.int 352 0),(.int 4 0),(.ref 210),(.int 400 0),(.int 4 0),(.ref 217),(.int 447 0),(.int 4 0),(.ref 225),(.int 492 0),(.int 4 0),(.ref 232),(.int 516 0),(.int 4 0),(.ref 239),(.int 519 0),(.int 4 0),(.ref 246)]⟩),⟨[]⟩⟩
noncomputable def Qb:OB:=fun p P=>⟨(.type "code"),none,(.fields ⟨[(.str "SequenceMatcher" 405),(.str "SequenceMatcher" 406),(.str "/claim/cut.py" 407),(.int 87 0),(.int 0 0),(.int 0 0),(.int 0 0),(.int 0 0),(.ref 157),(.bool false),(.int 181 0),(.ref 158),.none,.none,.none,.none,(.int 408 0),(.int 87 0),(.str "/claim/cut.py" 409)]⟩),⟨[]⟩⟩
noncomputable def Qa:OB:=fun p P=>⟨(.type "frame"),none,.plain,⟨[(some (.ref 159)),(some (.ref 3)),(some (.ref 156)),none,(some (.str "cpy313.difflib" 208)),none,(some (.ref 0))]⟩⟩
noncomputable def LG:OB:=fun p P=>tO [.none,(.str "" 418),(.str "" 419),(.bool true)]
noncomputable def PZ:OB:=fun p P=>tO [(.str "self" 423),(.str "isjunk" 424),(.str "a" 425),(.str "b" 426),(.str "autojunk" 427)]
noncomputable def PY:OB:=fun p P=>gO "__init__" "SequenceMatcher.__init__" (iS (tS p 7) 1)
noncomputable def LE:OB:=fun p P=>cO "__init__" "SequenceMatcher.__init__" 420 162 5 3 162 181 163 164 165 (.ref 166) 428 162 429
noncomputable def E9:OB:=fun p P=>fO "__init__" "SequenceMatcher.__init__" (iS (tS p 7) 1) (.ref 161) (.str (dS (fB (iS (tS p 7) 1))) 430) (.str "cpy313.difflib" 208) (.ref 167)
noncomputable def PX:OB:=fun p P=>tO [(.str "self" 435),(.str "a" 436),(.str "b" 437)]
noncomputable def PW:OB:=fun p P=>gO "set_seqs" "SequenceMatcher.set_seqs" (iS (tS p 7) 2)
noncomputable def LD:OB:=fun p P=>cO "set_seqs" "SequenceMatcher.set_seqs" 432 190 3 3 169 181 170 171 172 (.ref 173) 438 190 439
noncomputable def Gp:OB:=fun p P=>fO "set_seqs" "SequenceMatcher.set_seqs" (iS (tS p 7) 2) .none (.str (dS (fB (iS (tS p 7) 2))) 440) (.str "cpy313.difflib" 208) (.ref 174)
noncomputable def PU:OB:=fun p P=>tO [(.str "self" 445),(.str "a" 446)]
noncomputable def PT:OB:=fun p P=>gO "set_seq1" "SequenceMatcher.set_seq1" (iS (tS p 7) 3)
noncomputable def LC:OB:=fun p P=>cO "set_seq1" "SequenceMatcher.set_seq1" 442 201 2 3 176 181 177 178 179 (.ref 180) 447 201 448
noncomputable def Go:OB:=fun p P=>fO "set_seq1" "SequenceMatcher.set_seq1" (iS (tS p 7) 3) .none (.str (dS (fB (iS (tS p 7) 3))) 449) (.str "cpy313.difflib" 208) (.ref 181)
noncomputable def PR:OB:=fun p P=>tO [(.str "self" 454),(.str "b" 455)]
noncomputable def PQ:OB:=fun p P=>gO "set_seq2" "SequenceMatcher.set_seq2" (iS (tS p 7) 4)
noncomputable def LB:OB:=fun p P=>cO "set_seq2" "SequenceMatcher.set_seq2" 451 226 2 3 183 181 184 185 186 (.ref 187) 456 226 457
noncomputable def Gn:OB:=fun p P=>fO "set_seq2" "SequenceMatcher.set_seq2" (iS (tS p 7) 4) .none (.str (dS (fB (iS (tS p 7) 4))) 458) (.str "cpy313.difflib" 208) (.ref 188)
noncomputable def PN:OB:=fun p P=>tO [(.str "self" 463),(.str "b" 464),(.str "b2j" 465),(.str "i" 466),(.str "elt" 467),(.str "indices" 468),(.str "junk" 469),(.str "isjunk" 470),(.str "popular" 471),(.str "n" 472),(.str "ntest" 473),(.str "idxs" 474)]
noncomputable def PM:OB:=fun p P=>gO "__chain_b" "SequenceMatcher.__chain_b" (iS (tS p 7) 5)
noncomputable def L9:OB:=fun p P=>cO "__chain_b" "SequenceMatcher.__chain_b" 460 253 1 3 190 181 191 192 193 (.ref 194) 475 253 476
noncomputable def Gm:OB:=fun p P=>fO "__chain_b" "SequenceMatcher.__chain_b" (iS (tS p 7) 5) .none .none (.str "cpy313.difflib" 208) (.ref 195)
noncomputable def L8:OB:=fun p P=>tO [(.int 0 478),.none,(.int 0 479),.none]
noncomputable def PK:OB:=fun p P=>tO [(.str "self" 483),(.str "alo" 484),(.str "ahi" 485),(.str "blo" 486),(.str "bhi" 487),(.str "a" 488),(.str "b" 489),(.str "b2j" 490),(.str "isbjunk" 491),(.str "besti" 492),(.str "bestj" 493),(.str "bestsize" 494),(.str "j2len" 495),(.str "nothing" 496),(.str "i" 497),(.str "j2lenget" 498),(.str "newj2len" 499),(.str "j" 500),(.str "k" 501)]
noncomputable def PJ:OB:=fun p P=>gO "find_longest_match" "SequenceMatcher.find_longest_match" (iS (tS p 7) 6)
noncomputable def L7:OB:=fun p P=>cO "find_longest_match" "SequenceMatcher.find_longest_match" 480 277 5 3 198 181 199 200 201 (.ref 202) 502 277 503
noncomputable def E8:OB:=fun p P=>fO "find_longest_match" "SequenceMatcher.find_longest_match" (iS (tS p 7) 6) (.ref 197) (.str (dS (fB (iS (tS p 7) 6))) 504) (.str "cpy313.difflib" 208) (.ref 203)
noncomputable def PI:OB:=fun p P=>tO [(.str "self" 509),(.str "la" 510),(.str "lb" 511),(.str "queue" 512),(.str "matching_blocks" 513),(.str "alo" 514),(.str "ahi" 515),(.str "blo" 516),(.str "bhi" 517),(.str "i" 518),(.str "j" 519),(.str "k" 520),(.str "x" 521),(.str "i1" 522),(.str "j1" 523),(.str "k1" 524),(.str "non_adjacent" 525),(.str "i2" 526),(.str "j2" 527),(.str "k2" 528)]
noncomputable def PH:OB:=fun p P=>gO "get_matching_blocks" "SequenceMatcher.get_matching_blocks" (iS (tS p 7) 7)
noncomputable def L6:OB:=fun p P=>cO "get_matching_blocks" "SequenceMatcher.get_matching_blocks" 506 352 1 3 205 181 206 207 208 (.ref 209) 529 352 530
noncomputable def Gl:OB:=fun p P=>fO "get_matching_blocks" "SequenceMatcher.get_matching_blocks" (iS (tS p 7) 7) .none (.str (dS (fB (iS (tS p 7) 7))) 531) (.str "cpy313.difflib" 208) (.ref 210)
noncomputable def PG:OB:=fun p P=>tO [(.str "self" 536),(.str "i" 537),(.str "j" 538),(.str "answer" 539),(.str "ai" 540),(.str "bj" 541),(.str "size" 542),(.str "tag" 543)]
noncomputable def PE:OB:=fun p P=>gO "get_opcodes" "SequenceMatcher.get_opcodes" (iS (tS p 7) 8)
noncomputable def L5:OB:=fun p P=>cO "get_opcodes" "SequenceMatcher.get_opcodes" 533 400 1 3 212 181 213 214 215 (.ref 216) 544 400 545
noncomputable def Gk:OB:=fun p P=>fO "get_opcodes" "SequenceMatcher.get_opcodes" (iS (tS p 7) 8) .none (.str (dS (fB (iS (tS p 7) 8))) 546) (.str "cpy313.difflib" 208) (.ref 217)
noncomputable def L4:OB:=fun p P=>tO [(.int 3 548)]
noncomputable def PD:OB:=fun p P=>tO [(.str "self" 552),(.str "n" 553),(.str "codes" 554),(.str "tag" 555),(.str "i1" 556),(.str "i2" 557),(.str "j1" 558),(.str "j2" 559),(.str "nn" 560),(.str "group" 561)]
noncomputable def PC:OB:=fun p P=>gO "get_grouped_opcodes" "SequenceMatcher.get_grouped_opcodes" (iS (tS p 7) 9)
noncomputable def L3:OB:=fun p P=>cO "get_grouped_opcodes" "SequenceMatcher.get_grouped_opcodes" 549 447 2 35 220 181 221 222 223 (.ref 224) 562 447 563
noncomputable def E7:OB:=fun p P=>fO "get_grouped_opcodes" "SequenceMatcher.get_grouped_opcodes" (iS (tS p 7) 9) (.ref 219) (.str (dS (fB (iS (tS p 7) 9))) 564) (.str "cpy313.difflib" 208) (.ref 225)
noncomputable def PB:OB:=fun p P=>tO [(.str "self" 569),(.str "matches" 570)]
noncomputable def PA:OB:=fun p P=>gO "ratio" "SequenceMatcher.ratio" (iS (tS p 7) 10)
noncomputable def P9:OB:=fun p P=>cO "ratio" "SequenceMatcher.ratio" 566 492 1 3 227 181 228 229 230 (.ref 231) 571 492 572
noncomputable def P8:OB:=fun p P=>fO "ratio" "SequenceMatcher.ratio" (iS (tS p 7) 10) .none (.str (dS (fB (iS (tS p 7) 10))) 573) (.str "cpy313.difflib" 208) (.ref 232)
noncomputable def P7:OB:=fun p P=>tO [(.str "self" 578)]
noncomputable def P6:OB:=fun p P=>gO "quick_ratio" "SequenceMatcher.quick_ratio" (iS (tS p 7) 11)
noncomputable def P5:OB:=fun p P=>cO "quick_ratio" "SequenceMatcher.quick_ratio" 575 516 1 3 234 181 235 236 237 (.ref 238) 579 516 580
noncomputable def P4:OB:=fun p P=>fO "quick_ratio" "SequenceMatcher.quick_ratio" (iS (tS p 7) 11) .none .none (.str "cpy313.difflib" 208) (.ref 239)
noncomputable def P3:OB:=fun p P=>tO [(.str "self" 585)]
noncomputable def P2:OB:=fun p P=>gO "real_quick_ratio" "SequenceMatcher.real_quick_ratio" (iS (tS p 7) 12)
noncomputable def P1:OB:=fun p P=>cO "real_quick_ratio" "SequenceMatcher.real_quick_ratio" 582 519 1 3 241 181 242 243 244 (.ref 245) 586 519 587
noncomputable def P0:OB:=fun p P=>fO "real_quick_ratio" "SequenceMatcher.real_quick_ratio" (iS (tS p 7) 12) .none .none (.str "cpy313.difflib" 208) (.ref 246)
noncomputable def Pz:OB:=fun p P=>tO [(.str "a" 589),(.str "autojunk" 590),(.str "b" 591),(.str "b2j" 592),(.str "bjunk" 593),(.str "bpopular" 594),(.str "fullbcount" 595),(.str "isjunk" 596),(.str "matching_blocks" 597),(.str "opcodes" 598)]
noncomputable def Ix:OB:=fun p P=>⟨(.type "dict"),none,(.dict ⟨[dE P "__module__" 410 (.str "cpy313.difflib" 208),dE P "__firstlineno__" 414 (.int 87 413),dE P "__doc__" 416 (.str (dS (cB (tS p 7))) 415),dE P "__init__" 431 (.ref 168),dE P "set_seqs" 441 (.ref 175),dE P "set_seq1" 450 (.ref 182),dE P "set_seq2" 459 (.ref 189),dE P "_SequenceMatcher__chain_b" 477 (.ref 196),dE P "find_longest_match" 505 (.ref 204),dE P "get_matching_blocks" 532 (.ref 211),dE P "get_opcodes" 547 (.ref 218),dE P "get_grouped_opcodes" 565 (.ref 226),dE P "ratio" 574 (.ref 233),dE P "quick_ratio" 581 (.ref 240),dE P "real_quick_ratio" 588 (.ref 247),dE P "__static_attributes__" 599 (.ref 248),dE P "__dict__" 601 (.ref 251),dE P "__weakref__" 603 (.ref 252)]⟩ 3),⟨[]⟩⟩
noncomputable def Iw:OB:=fun p P=>⟨(.type "type"),none,(.cls {name:="SequenceMatcher",bases:=[(.type "object")],mro:=[(.ref 250),(.type "object")],ns:=249,qualname:="SequenceMatcher",hasDict:=true,slotNames:=[],subclasses:=[],abstract:=false,collection:=none,hasDel:=false}),⟨[none,none,(some (.str "SequenceMatcher" 403)),(some (.str "SequenceMatcher" 411)),(some (.builtin "object.__new__")),(some (.bool true))]⟩⟩
noncomputable def Py:OB:=fun p P=>⟨(.type "getset_descriptor"),none,(.fields ⟨[(.str "__dict__" 600),(.ref 250),(.builtin "function.__dict__"),(.builtin "function.__dict__#set")]⟩),⟨[]⟩⟩
noncomputable def Px:OB:=fun p P=>⟨(.type "getset_descriptor"),none,(.fields ⟨[(.str "__weakref__" 602),(.ref 250),(.builtin "ExceptionGroup.__weakref__"),.none]⟩),⟨[]⟩⟩
noncomputable def Pw:OB:=fun p P=>⟨(.type "super"),none,(.fields ⟨[(.ref 250),(.ref 250),(.ref 250)]⟩),⟨[]⟩⟩
noncomputable def Pv:OB:=fun p P=>⟨(.type "builtin_function_or_method"),none,(.fields ⟨[(.builtin "object.__init_subclass__"),(.ref 250)]⟩),⟨[]⟩⟩
noncomputable def Gj:OB:=fun p P=>⟨(.type "dict"),none,(.dict ⟨[dE P "__name__" 165 (.str "law_kl0400_01" 662),dE P "__doc__" 166 .none,dE P "__package__" 167 .none,dE P "__loader__" 168 (.builtin "__main__.__loader__#opaque"),dE P "__spec__" 169 .none,dE P "__annotations__" 170 (.ref 6),dE P "__builtins__" 171 (.ref 4),dE P "__file__" 173 (.str "/claim/cut.py" 172),dE P "__cached__" 174 .none,dE P "_wall" 193 (.ref 21),dE P "indent" 207 (.ref 29),dE P "_tuplegetter" 266 (.ref 68),dE P "Match" 394 (.ref 143),dE P "_calculate_ratio" 402 (.ref 153),dE P "SequenceMatcher" 605 (.ref 250),dE P "_format_range_unified" 616 (.ref 261),dE P "unified_diff" 651 (.ref 269),dE P "_check_types" 661 (.ref 276),dE P "_law_line" 670 (.ref 283),dE P "_law_quoted" 683 (.ref 290),dE P "_law_indented" 692 (.ref 297),dE P "_law_written" 698 (.ref 302),dE P "_law_kept" 704 (.ref 307),dE P "_law_steps" 710 (.ref 312),dE P "_law_part" 716 (.ref 317),dE P "_law_report" 722 (.ref 322),dE P "law" 728 (.ref 327)]⟩ 27),⟨[]⟩⟩
noncomputable def SF:OB:=fun p P=>⟨.none,none,(.fields ⟨[(.int 1 0),(.int 0 0),(.ref 20),(.int 5 0),(.int 0 0),(.ref 28),(.int 22 0),(.int 0 0),(.ref 35),(.int 40 0),(.int 0 0),(.ref 79),(.int 83 0),(.int 0 0),(.ref 152),(.int 87 0),(.int 0 0),(.ref 159),(.int 521 0),(.int 0 0),(.ref 260),(.int 530 0),(.int 0 0),(.ref 268),(.int 593 0),(.int 0 0),(.ref 275),(.int 602 0),(.int 0 0),(.ref 282),(.int 604 0),(.int 0 0),(.ref 289),(.int 611 0),(.int 0 0),(.ref 296),(.int 616 0),(.int 0 0),(.ref 301),(.int 625 0),(.int 0 0),(.ref 306),(.int 641 0),(.int 0 0),(.ref 311),(.int 648 0),(.int 0 0),(.ref 316),(.int 654 0),(.int 0 0),(.ref 321),(.int 667 0),(.int 0 0),(.ref 326)]⟩),⟨[]⟩⟩
noncomputable def Pu:OB:=fun p P=>tO [(.str "start" 609),(.str "stop" 610),(.str "beginning" 611),(.str "length" 612)]
noncomputable def Pt:OB:=fun p P=>gO "_format_range_unified" "_format_range_unified" (tS p 8)
noncomputable def L2:OB:=fun p P=>cO "_format_range_unified" "_format_range_unified" 606 521 2 3 255 181 256 257 258 (.ref 259) 613 521 614
noncomputable def L1:OB:=fun p P=>fO "_format_range_unified" "_format_range_unified" (tS p 8) .none (.str (dS (fB (tS p 8))) 615) (.str "cpy313.difflib" 208) (.ref 260)
noncomputable def Lz:OB:=fun p P=>tO [(.str "" 617),(.str "" 618),(.str "" 619),(.str "" 620),(.int 3 621),(.str "\n" 622)]
noncomputable def Pq:OB:=fun p P=>tO [(.str "a" 626),(.str "b" 627),(.str "fromfile" 628),(.str "tofile" 629),(.str "fromfiledate" 630),(.str "tofiledate" 631),(.str "n" 632),(.str "lineterm" 633),(.str "started" 634),(.str "group" 635),(.str "fromdate" 636),(.str "todate" 637),(.str "first" 638),(.str "last" 639),(.str "file1_range" 640),(.str "file2_range" 641),(.str "tag" 642),(.str "i1" 643),(.str "i2" 644),(.str "j1" 645),(.str "j2" 646),(.str "line" 647)]
noncomputable def Pp:OB:=fun p P=>gO "unified_diff" "unified_diff" (tS p 9)
noncomputable def Ly:OB:=fun p P=>cO "unified_diff" "unified_diff" 623 530 8 35 263 181 264 265 266 (.ref 267) 648 530 649
noncomputable def Iv:OB:=fun p P=>fO "unified_diff" "unified_diff" (tS p 9) (.ref 262) (.str (dS (fB (tS p 9))) 650) (.str "cpy313.difflib" 208) (.ref 268)
noncomputable def Pn:OB:=fun p P=>tO [(.str "a" 655),(.str "b" 656),(.str "args" 657),(.str "arg" 658)]
noncomputable def Pm:OB:=fun p P=>gO "_check_types" "_check_types" (tS p 10)
noncomputable def Lx:OB:=fun p P=>cO "_check_types" "_check_types" 652 593 2 7 270 181 271 272 273 (.ref 274) 659 593 660
noncomputable def Iu:OB:=fun p P=>fO "_check_types" "_check_types" (tS p 10) .none .none (.str "cpy313.difflib" 208) (.ref 275)
noncomputable def Pl:OB:=fun p P=>tO [(.str "pair" 667)]
noncomputable def Pk:OB:=fun p P=>gO "_law_line" "_law_line" (tS p 12)
noncomputable def Lw:OB:=fun p P=>cO "_law_line" "_law_line" 664 602 1 3 277 181 278 279 280 (.ref 281) 668 602 669
noncomputable def Lu:OB:=fun p P=>fO "_law_line" "_law_line" (tS p 12) .none .none (.str "law_kl0400_01" 662) (.ref 282)
noncomputable def Pj:OB:=fun p P=>tO [(.str "pairs" 674),(.str "mode" 675),(.str "due" 676),(.str "marks" 677),(.str "word" 678),(.str "white" 679),(.str "more" 680)]
noncomputable def Ph:OB:=fun p P=>gO "_law_quoted" "_law_quoted" (tS p 13)
noncomputable def Ls:OB:=fun p P=>cO "_law_quoted" "_law_quoted" 671 604 2 3 284 181 285 286 287 (.ref 288) 681 604 682
noncomputable def Lr:OB:=fun p P=>fO "_law_quoted" "_law_quoted" (tS p 13) .none .none (.str "law_kl0400_01" 662) (.ref 289)
noncomputable def Pg:OB:=fun p P=>tO [(.str "lines" 687),(.str "mode" 688),(.str "pick" 689)]
noncomputable def Pf:OB:=fun p P=>gO "_law_indented" "_law_indented" (tS p 14)
noncomputable def Lq:OB:=fun p P=>cO "_law_indented" "_law_indented" 684 611 2 3 291 181 292 293 294 (.ref 295) 690 611 691
noncomputable def Lp:OB:=fun p P=>fO "_law_indented" "_law_indented" (tS p 14) .none .none (.str "law_kl0400_01" 662) (.ref 296)
noncomputable def Pe:OB:=fun p P=>gO "_law_written" "_law_written" (tS p 15)
noncomputable def Ln:OB:=fun p P=>⟨(.type "code"),none,(.fields ⟨[(.str "_law_written" 693),(.str "_law_written" 694),(.str "/claim/cut.py" 695),(.int 616 0),(.int 3 0),(.int 0 0),(.int 0 0),(.int 3 0),(.ref 298),(.bool true),(.int 181 0),(.ref 299),.none,.none,.none,(.ref 300),(.int 696 0),(.int 616 0),(.str "/claim/cut.py" 697)]⟩),⟨[]⟩⟩
noncomputable def Lm:OB:=fun p P=>fO "_law_written" "_law_written" (tS p 15) .none .none (.str "law_kl0400_01" 662) (.ref 301)
noncomputable def Pd:OB:=fun p P=>gO "_law_kept" "_law_kept" (tS p 16)
noncomputable def Ll:OB:=fun p P=>⟨(.type "code"),none,(.fields ⟨[(.str "_law_kept" 699),(.str "_law_kept" 700),(.str "/claim/cut.py" 701),(.int 625 0),(.int 2 0),(.int 0 0),(.int 0 0),(.int 3 0),(.ref 303),(.bool true),(.int 181 0),(.ref 304),.none,.none,.none,(.ref 305),(.int 702 0),(.int 625 0),(.str "/claim/cut.py" 703)]⟩),⟨[]⟩⟩
noncomputable def Lk:OB:=fun p P=>fO "_law_kept" "_law_kept" (tS p 16) .none .none (.str "law_kl0400_01" 662) (.ref 306)
noncomputable def Pc:OB:=fun p P=>gO "_law_steps" "_law_steps" (tS p 17)
noncomputable def Lj:OB:=fun p P=>⟨(.type "code"),none,(.fields ⟨[(.str "_law_steps" 705),(.str "_law_steps" 706),(.str "/claim/cut.py" 707),(.int 641 0),(.int 2 0),(.int 0 0),(.int 0 0),(.int 3 0),(.ref 308),(.bool true),(.int 181 0),(.ref 309),.none,.none,.none,(.ref 310),(.int 708 0),(.int 641 0),(.str "/claim/cut.py" 709)]⟩),⟨[]⟩⟩
noncomputable def Li:OB:=fun p P=>fO "_law_steps" "_law_steps" (tS p 17) .none .none (.str "law_kl0400_01" 662) (.ref 311)
noncomputable def Pb:OB:=fun p P=>gO "_law_part" "_law_part" (tS p 18)
noncomputable def Lh:OB:=fun p P=>⟨(.type "code"),none,(.fields ⟨[(.str "_law_part" 711),(.str "_law_part" 712),(.str "/claim/cut.py" 713),(.int 648 0),(.int 4 0),(.int 0 0),(.int 0 0),(.int 3 0),(.ref 313),(.bool true),(.int 181 0),(.ref 314),.none,.none,.none,(.ref 315),(.int 714 0),(.int 648 0),(.str "/claim/cut.py" 715)]⟩),⟨[]⟩⟩
noncomputable def Lg:OB:=fun p P=>fO "_law_part" "_law_part" (tS p 18) .none .none (.str "law_kl0400_01" 662) (.ref 316)
noncomputable def Pa:OB:=fun p P=>gO "_law_report" "_law_report" (tS p 19)
noncomputable def Lf:OB:=fun p P=>⟨(.type "code"),none,(.fields ⟨[(.str "_law_report" 717),(.str "_law_report" 718),(.str "/claim/cut.py" 719),(.int 654 0),(.int 2 0),(.int 0 0),(.int 0 0),(.int 3 0),(.ref 318),(.bool true),(.int 181 0),(.ref 319),.none,.none,.none,(.ref 320),(.int 720 0),(.int 654 0),(.str "/claim/cut.py" 721)]⟩),⟨[]⟩⟩
noncomputable def Ld:OB:=fun p P=>fO "_law_report" "_law_report" (tS p 19) .none .none (.str "law_kl0400_01" 662) (.ref 321)
noncomputable def OZ:OB:=fun p P=>gO "law" "law" (tS p 20)
noncomputable def Lb:OB:=fun p P=>⟨(.type "code"),none,(.fields ⟨[(.str "law" 723),(.str "law" 724),(.str "/claim/cut.py" 725),(.int 667 0),(.int 1 0),(.int 0 0),(.int 0 0),(.int 3 0),(.ref 323),(.bool true),(.int 181 0),(.ref 324),.none,.none,.none,(.ref 325),(.int 726 0),(.int 667 0),(.str "/claim/cut.py" 727)]⟩),⟨[]⟩⟩
noncomputable def La:OB:=fun p P=>fO "law" "law" (tS p 20) .none .none (.str "law_kl0400_01" 662) (.ref 326)
noncomputable def tz(p:Program)(P:Params):BT:=(bN (LH p P) (bN (PL p P) (bN (Gj p P) (bN eT (bN eT (bN (S6 p P) (bN (Sl p P) (bN (Qz p P) (bE eT) .nil) (bN eN (bE eN) .nil)) (bN (RN p P) (bN (Qb p P) (bE eT) .nil) (bE eT))) (bN (Sw p P) (bN (RU p P) (bN (Gq p P) (bE eN) .nil) (bE (PI p P))) (bN (Q9 p P) (bN (Gp p P) (bE eT) .nil) (bE (P5 p P))))) (bN eT (bN (S1 p P) (bN (Sb p P) (bN (Qq p P) (bE eT) .nil) (bN eN (bE (La p P)) .nil)) (bN eN (bN (LE p P) (bE (Pf p P)) .nil) (bE (PA p P)))) (bN eT (bN eT (bN (Qh p P) (bE (Pl p P)) .nil) (bE eT)) (bN eT (bN eT (bE (Lj p P)) .nil) (bE (P0 p P)))))) (bN eT (bN (SD p P) (bN (S3 p P) (bN (Sg p P) (bN (Qv p P) (bE (Pt p P)) .nil) (bN (L9 p P) (bE eT) .nil)) (bN (KZ p P) (bN eN (bE eT) .nil) (bE eT))) (bN (Ss p P) (bN (RR p P) (bN eT (bE (Lx p P)) .nil) (bE (Gl p P))) (bN (Q6 p P) (bN eT (bE (Lk p P)) .nil) (bE (P3 p P))))) (bN (S7 p P) (bN (Sy p P) (bN (RX p P) (bN (Qm p P) (bE (Pp p P)) .nil) (bE (L7 p P))) (bN (QB p P) (bN (PX p P) (bE eN) .nil) (bE eN))) (bN eT (bN eT (bN (Qe p P) (bE (Lu p P)) .nil) (bE (L4 p P))) (bN eT (bN (PQ p P) (bE (Pb p P)) .nil) (bE (Py p P))))))) (bN (Sn p P) (bN (RL p P) (bN (SE p P) (bN eT (bN (Sj p P) (bN (Qx p P) (bE (Pu p P)) .nil) (bN eT (bE (Lf p P)) .nil)) (bN (Ja p P) (bN (LG p P) (bE (Ls p P)) .nil) (bE (L3 p P)))) (bN (Sv p P) (bN eT (bN (Qk p P) (bE eT) .nil) (bE (PH p P))) (bN (Q8 p P) (bN eN (bE (Pd p P)) .nil) (bE eT)))) (bN (S8 p P) (bN (S0 p P) (bN (RZ p P) (bN (Qo p P) (bE (Pq p P)) .nil) (bE eT)) (bN eT (bN eT (bE (Lp p P)) .nil) (bE (P8 p P)))) (bN (Sp p P) (bN (Ou p P) (bN (Qf p P) (bE (Pk p P)) .nil) (bE (L5 p P))) (bN (Q3 p P) (bN (PR p P) (bE eT) .nil) (bE (Ix p P)))))) (bN (Oy p P) (bN (S9 p P) (bN eT (bN (Se p P) (bN (Qt p P) (bE (L1 p P)) .nil) (bN (L8 p P) (bE (OZ p P)) .nil)) (bN (QF p P) (bN eT (bE (Pg p P)) .nil) (bE (PB p P)))) (bN eN (bN eN (bN (Qi p P) (bE eT) .nil) (bE eN)) (bN eN (bN (LC p P) (bE eN) .nil) (bE (P2 p P))))) (bN (Lo p P) (bN eT (bN eT (bN (Ql p P) (bE (Iv p P)) .nil) (bE eT)) (bN eT (bN (PW p P) (bE (Ln p P)) .nil) (bE eT))) (bN (Sm p P) (bN (RO p P) (bN eT (bE eN) .nil) (bE eN)) (bN (Q0 p P) (bN (Gn p P) (bE (Lg p P)) .nil) (bE (Pw p P)))))))) (bN (Nb p P) (bN (OY p P) (bN eN (bN eN (bN (S5 p P) (bN (Sk p P) (bN (Qy p P) (bE eN) .nil) (bN (PN p P) (bE (Pa p P)) .nil)) (bN (Ot p P) (bN (Qa p P) (bE (Ph p P)) .nil) (bE (PC p P)))) (bN eT (bN (RT p P) (bN (Iy p P) (bE (Pn p P)) .nil) (bE eT)) (bN eT (bN eT (bE eN) .nil) (bE (P4 p P))))) (bN eN (bN eT (bN (Sa p P) (bN (Qp p P) (bE eN) .nil) (bE (PK p P))) (bN (QD p P) (bN (E9 p P) (bE (Lq p P)) .nil) (bE (P9 p P)))) (bN (Sq p P) (bN (RP p P) (bN (Qg p P) (bE eT) .nil) (bE (PE p P))) (bN (Q4 p P) (bN eN (bE (Li p P)) .nil) (bE (Pz p P)))))) (bN (SF p P) (bN (SA p P) (bN (S2 p P) (bN (Sf p P) (bN (Qu p P) (bE (L2 p P)) .nil) (bN (Gm p P) (bE eN) .nil)) (bN (QG p P) (bN (PZ p P) (bE eN) .nil) (bE eN))) (bN eT (bN eT (bN eN (bE (Iu p P)) .nil) (bE eT)) (bN eT (bN (PT p P) (bE eT) .nil) (bE eT)))) (bN (Ov p P) (bN (Sx p P) (bN (RW p P) (bN eT (bE (Ly p P)) .nil) (bE (E8 p P))) (bN (QA p P) (bN eT (bE (Pe p P)) .nil) (bE (P7 p P)))) (bN eN (bN eN (bN (Qd p P) (bE eT) .nil) (bE eT)) (bN eN (bN (LB p P) (bE (Lh p P)) .nil) (bE (Px p P))))))) (bN (Sd p P) (bN (Oz p P) (bN eT (bN (S4 p P) (bN (Si p P) (bN (Qw p P) (bE eT) .nil) (bN (PM p P) (bE (Ld p P)) .nil)) (bN (RM p P) (bN eT (bE (Lr p P)) .nil) (bE (E7 p P)))) (bN (Su p P) (bN (RS p P) (bN (Qj p P) (bE (Pm p P)) .nil) (bE (L6 p P))) (bN (Q7 p P) (bN (PU p P) (bE (Ll p P)) .nil) (bE eN)))) (bN eT (bN (Sz p P) (bN (RY p P) (bN (Qn p P) (bE eT) .nil) (bE (PJ p P))) (bN (QC p P) (bN eN (bE eT) .nil) (bE eT))) (bN (So p P) (bN (Jb p P) (bN eT (bE (Lw p P)) .nil) (bE (Gk p P))) (bN (Q1 p P) (bN eT (bE eN) .nil) (bE (Iw p P)))))) (bN (Ox p P) (bN (Ow p P) (bN eN (bN (Sc p P) (bN (Qs p P) (bE (Lz p P)) .nil) (bN eT (bE (Lb p P)) .nil)) (bN (QE p P) (bN (PY p P) (bE eT) .nil) (bE eT))) (bN (Sr p P) (bN (RQ p P) (bN eT (bE eN) .nil) (bE (PG p P))) (bN (Q5 p P) (bN (Go p P) (bE (Pc p P)) .nil) (bE (P1 p P))))) (bN eT (bN eN (bN (RV p P) (bN (Iz p P) (bE eT) .nil) (bE eN)) (bN eN (bN (LD p P) (bE (Lm p P)) .nil) (bE (P6 p P)))) (bN eT (bN eT (bN (Qc p P) (bE (Pj p P)) .nil) (bE (PD p P))) (bN eT (bN eT (bE eT) .nil) (bE (Pv p P)))))))))
noncomputable def Mq(p:Program):Env:={scope:=p.main.scope,locals:=mainNs,globals:=mainNs,cells:=[],code:=.ref 13,frame:=some 14}
noncomputable def D1(p:Program):Code:=.body (behindTheImports p) (Mq p)
noncomputable def cut(p:Program)(i n:Nat):List Stmt:=(p.main.body.drop i).take n
noncomputable def stT(t:Program→Params→BT)(n k:Nat)(p:Program)(w:World)(os:OsState):SharedT:=⟨t p w.params,n,{},⟨[]⟩,{},k,os⟩
noncomputable def thT(p:Program)(i n:Nat)(q:Pos):Thread:=piecesOf (cut p i n) (Mq p) (D1 p) q [topFrame ⟨0,0,0,0⟩]
theorem ofS{s:String}{l:List Char}(h:s=String.ofList l):Str.ofString s=⟨⟨l.map Char.toNat⟩⟩:=by
 subst h;rw[PySem.W.Fast.ofString_ofList]
noncomputable def dB:Str:=by
 apply(fun(d:Str) (h:True)=>d)
 case h=>
  have e:dS (cB (tS PySem.Challenge.pw_kl0400_01 7))=?d:=by
   show Str.ofString _=_;exact ofS rfl
  trivial
theorem Tf:dS (cB (tS PySem.Challenge.pw_kl0400_01 7))=dB:=by
 show Str.ofString _=_;exact ofS rfl
noncomputable def Vu(d:Str)(s:Stmt):Stmt:=match s with
 | .ClassDef n b k (.Expr (.Constant (.str _) x y) z::r) dl tp sc ts bd sa ps=>.ClassDef n b k (.Expr (.Constant (.str d) x y) z::r) dl tp sc ts bd sa ps
 | s=>s
noncomputable def Vs(p:Program)(d:Str):Program:={p with main:={p.main with body:=p.main.body.take 7++Vu d (tS p 7)::p.main.body.drop 8}}
theorem MX:PySem.Challenge.pw_kl0400_01=Vs PySem.Challenge.pw_kl0400_01 dB:=by
 rw[←Tf];kernel_rfl
theorem Vv(w:World)(os:OsState):segRunT treeTable PySem.Challenge.pw_kl0400_01 w 11 (some (.ref 6)) 1 2530 (stT ta 15 187 PySem.Challenge.pw_kl0400_01 w os) (thT PySem.Challenge.pw_kl0400_01 0 21 ⟨0,0,0,0⟩)=some (.next,stT tz 328 729 PySem.Challenge.pw_kl0400_01 w os,D1 PySem.Challenge.pw_kl0400_01,⟨667,0,683,15⟩):=by
 unfold stT;rw[PySem.W.Fast.te10110043849684766642,PySem.W.Fast.te14364793385576792824,Vd,MX]
 kernel_rfl
noncomputable abbrev pw:Program:=PySem.Challenge.pw_kl0400_01
theorem Tg:behindTheImports pw=cut pw 0 21++[]:=by kernel_rfl
theorem Vx(w:World)(os:OsState):topGo treeTable pw w 11 (some (.ref 6)) 12 ⟨boot_heap w.params,⟨[]⟩,boot_drawn,boot_toks,os⟩ (topStub pw)=some ((stT ta 15 187 pw w os).abs,⟨denote treeTable (D1 pw),D1 pw,⟨0,0,0,0⟩,[topFrame ⟨0,0,0,0⟩]⟩):=by
 unfold stT
 delta pw
 rw[PySem.W.Fast.te15667345088766844465,PySem.W.Fast.te11892475500146522536,PySem.W.Fast.te14364793385576792824]
 kernel_rfl
theorem Rk(w:World)(os:OsState)(s:Shared):segRun treeTable pw w 11 (some (.ref 6)) 1 1 s (blockOf (behindTheImports pw) (Mq pw) (D1 pw) ⟨0,0,0,0⟩ [topFrame ⟨0,0,0,0⟩])=some (.next,s,D1 pw,⟨0,0,0,0⟩):=by
 kernel_rfl
theorem VB(w:World)(s:Shared):topRun treeTable pw w 11 (some (.ref 6)) 2 s ⟨doneF .next,D1 pw,⟨667,0,683,15⟩,[topFrame ⟨0,0,0,0⟩]⟩=some s:=by
 kernel_rfl
theorem Vw(w:World)(os:OsState):topRun treeTable pw w 11 (some (.ref 6)) (12+(1+(2530+2))) ⟨boot_heap w.params,⟨[]⟩,boot_drawn,boot_toks,os⟩ (topStub pw)=some (stT tz 328 729 pw w os).abs:=by
 have s1:=segRun_of (Vv w os);unfold thT at s1;have k1:=piece_app (tb:=treeTable) (p:=pw) (w:=w) (n₀:=11) (ann:=some (.ref 6)) (env:=Mq pw) (q:=⟨0,0,0,0⟩) (c:=D1 pw) (n:=2530) (N:=2) (s:=(stT ta 15 187 pw w os).abs) (s':=(stT tz 328 729 pw w os).abs) (r:=(stT tz 328 729 pw w os).abs) (l:=cut pw 0 21) (rest:=[]) (pos:=⟨0,0,0,0⟩) (p':=⟨667,0,683,15⟩) s1 (piece_nil (VB w _));rw[←Tg]at k1;exact go_top (Vx w os) (piece_block (n:=1) (N:=2530+2) (s:=(stT ta 15 187 pw w os).abs) (s':=(stT ta 15 187 pw w os).abs) (b:=behindTheImports pw) (env:=Mq pw) (q:=⟨0,0,0,0⟩) (c:=D1 pw) (pos:=⟨0,0,0,0⟩) (p':=⟨0,0,0,0⟩) (Rk w os _) k1)
noncomputable def qv:Program:=view pw [20]
noncomputable def lz:List Str:=["_wall","indent","_tuplegetter","Match","_calculate_ratio","SequenceMatcher","_format_range_unified","unified_diff","_check_types","_law_line","_law_quoted","_law_indented","_law_written","_law_kept","_law_steps","_law_part","_law_report"]
noncomputable def hz(P:Params):Heap:=absHeap (tz pw P) 328 {}
theorem RJ(w:World):(fencedOpening treeTable pw w 5000).map (fun s=>(s.heap,s.gens,s.drawn,s.toks))=some (boot_heap w.params,Array.mk [],boot_drawn,boot_toks):=
 boot_open (by kernel_rfl) (by decide) (fun s=>by kernel_rfl) w
theorem RC(w:World):((boot_heap w.params).isNs mainGlobals&&(#[]:Array GenState).size==0,(boot_heap w.params).objs.size,(boot_heap w.params).nsMap mainGlobals "__annotations__")=(true,11,some (.ref 6)):=by
 kernel_rfl
theorem SN(w:World):(staticsOk (importedModules pw.main.body) (boot_heap w.params) (hz w.params)&&namesBound pw (hz w.params)&&laidKept (boot_heap w.params) (hz w.params))=true:=by
 kernel_rfl
theorem SM(w:World)(os:OsState):openSeen qv lz (importedModules pw.main.body) (fun O=>true) true ⟨hz w.params,⟨[]⟩,{},729,os⟩=openGood qv lz:=by
 kernel_rfl
theorem SO:LeftO pw qv lz (fun O=>true) (fun s=>s.heap) (fun w=>hz w.params) 5000:=by
 refine LeftO.of_pieces (H₀:=fun P=>boot_heap P) (H₁:=hz) (gs₀:= #[]) (gs₁:= #[]) (d₀:=boot_drawn) (d₁:={}) (k₀:=boot_toks) (k₁:=729) (m₀:=11) (ann:=some (.ref 6)) (M:=12+(1+(2530+2))) RJ RC (fun w os=>Vw w os) (by decide) (fun w=>?_)
 funext os
 refine Prod.ext ?_ (Prod.ext ?_ rfl)
 ·have h:=SN w
  simp only[Bool.and_eq_true]at h ⊢;exact⟨⟨h.1,rfl⟩,h.2⟩
 ·exact SM w os
end
def zt(k:String)(a:List Lean.Syntax):Lean.Syntax:=.node .none ("Lean.Parser."++k).toName a.toArray
def z0(a : List Lean.Syntax) : Lean.Syntax:= .node .none `null a.toArray
def zy(s:String):Lean.Syntax:=.atom .none s
def zm(s:String):Lean.Syntax:=Lean.mkIdent s.toName
def zs(a:List Lean.Syntax):Lean.Syntax:=zt "Tactic.tacticSeq" [zt "Tactic.tacticSeq1Indented" [z0 (a.intersperse (zy ";"))]]
def zb(a:List Lean.Syntax):Lean.Syntax:=zt "Term.byTactic" [zy "by",zs a]
def zr(t:Lean.Syntax):Lean.Syntax:=zt "Tactic.refine" [zy "refine",t]
def zw(s : String) : Lean.Syntax:= .node .none `PyProof.Rows.tacticWalk_at_ #[zy "walk_at", .node .none `str #[zy s.quote]]
def zi:Lean.Syntax:=zt "Tactic.intro" [zy "intro",z0 [zm "x"]]
def zl:Lean.Syntax:=zt "Tactic.tacticRfl" [zy "rfl"]
def zh:Lean.Syntax:=zt "Tactic.assumption" [zy "assumption"]
def zg(a:List Lean.Syntax):Lean.Syntax:=
 match a with
 | []=>.missing
 | [x]=>x
 | x::r=>zt "Term.app" [x,z0 r]
def za(w:String):Lean.Syntax:=
 if w=="_" then zt "Term.hole" [zy w]
 else if w=="?" then zt "Term.syntheticHole" [zy w,zy "_"]
 else if w=="A" then zb [zh]
 else if w=="R" then zb [zl]
 else if w=="F" then zb [zi,zl]
 else if w=="G" then zb [zi,zi,zl]
 else if w=="D" then zb [zt "Tactic.decide" [zy "decide",zt "Tactic.optConfig" [z0 [zt "Tactic.configItem" [zt "Tactic.posConfigItem" [zy "+",zm "kernel"]]]]]]
 else if w.startsWith "@" then zb [zw (w.drop 1).toString]
 else if w.startsWith "'" then zg [zm "PySem.Str.ofString", .node .none `str #[zy (w.drop 1).toString.quote]]
 else zm w
def ze(a:List Lean.Syntax):Lean.Syntax:=
 match a with
 | x :: r => if x.getId == `by then zb [zr (zg r)] else zg a
 | []=>zg a
def zx(w:String):List String:=
 if w=="0" then["List.nil"]
 else if w=="1" then["(","List.cons","_","List.nil",")"]
 else if w=="2" then["(","List.cons","_","(","List.cons","_","List.nil",")",")"]
 else if w=="3" then["(","List.cons","_","(","List.cons","_","(","List.cons","_","List.nil",")",")",")"]
 else[w]
def zc(s:List (List Lean.Syntax))(w:String):List (List Lean.Syntax):=
 if w=="(" then[]::s else if w==")" then(ze (s.headD []).reverse::s.tail.headD [])::s.tail.tail else(za w::s.headD [])::s.tail
def zd(q:String):Lean.Syntax:=ze (((((((q.replace "(" "( ").replace ")" " )").splitOn " ").flatMap zx).foldl zc [[]]).headD []).reverse)
def zv(t:Lean.Syntax):Lean.Syntax:=zt "Tactic.withReducible" [zy "with_reducible",zs [zr t]]
def zk(a:String):Lean.Syntax:=if a.startsWith "@" then zw (a.drop 1).toString else if a.startsWith "!" then zt "Tactic.apply" [zy "apply",zd (a.drop 1).toString]else zr (zd a)
def zj(p x:String):List Lean.Syntax:=
 match x.splitOn "|" with
 | [a, t] => [zv (zt "Term.typeAscription" [zt "Term.hygienicLParen" [zy "(", .node .none `hygieneInfo #[Lean.mkIdent .anonymous]], za "?", zy ":", z0 [zd (p.replace "#" a)], zy ")"]), zk t]
 | _=>if x.startsWith "@" then[zk x]else if x=="+A" then[zh]else if x=="+R" then[zl]else if x.startsWith "+" then((x.drop 1).toString.splitOn ",").map zk else if x.startsWith "=" then[zv (zd (x.drop 1).toString)]else[zv (zd (x++" ?"))]
def zf(s:String):Lean.Syntax:=
 match s.splitOn "~" with
 | [p, l] => zt "Tactic.first" [zy "first", z0 ((((l.replace "\n" "").splitOn ";").map (zj p) ++ [[zt "Tactic.fail" [zy "fail", z0 []]]]).map fun x => .node .none `group #[zy "|", zs x])]
 | _=>.missing
def zq(f:Lean.Syntax)(a:List Lean.Syntax):Lean.Syntax:=zt "Term.app" [f,z0 a]
def zo : Lean.Syntax:= zt "Term.hygienicLParen" [zy "(", .node .none `hygieneInfo #[Lean.mkIdent .anonymous]]
def zu(t:Lean.Syntax):Lean.Syntax:=zt "Term.typeAscription" [zo,za "?",zy ":",z0 [t],zy ")"]
def zA(t u:Lean.Syntax):Lean.Syntax:=zt "Term.arrow" [t,zy "→",u]
def zB(a:List Lean.Syntax):Lean.Syntax:=zr (zq (zu (a.foldr (fun O t=>zA (za "_") t) (za "_"))) a)
def zI(a:List Lean.Syntax):Lean.Syntax:=zt "Tactic.intro" [zy "intro",z0 a]
def zT(k:String)(h:Lean.Syntax):Lean.Syntax:=zt ("Tactic."++k) [zy k,z0 [h]]
def zF(l : List (List Lean.Syntax)) : Lean.Syntax:= zt "Tactic.first" [zy "first", z0 (l.map fun x => .node .none `group #[zy "|", zs x])]
def zP(l:List Lean.Syntax):Lean.Syntax:=zt "Tactic.paren" [zy "(",zs l,zy ")"]
def zO(p h:Lean.Syntax):Lean.Syntax:=zt "Tactic.obtain" [zy "obtain",z0 [p],z0 [],z0 [zy ":=",z0 [h]]]
def zn(h:Lean.Syntax)(n:Nat):Lean.Syntax:=(List.range n).foldl (fun t O=>zq (zm "And.right") [t]) h
def zN(h:Lean.Syntax)(n:Nat):List Lean.Syntax:=(List.range n).map (fun i=>zq (zm "And.left") [zn h i])++[zn h n]
def zM(l:List Lean.Syntax):Lean.Syntax:=
 match l with
 | [q]=>q[0]
 | _=>zt "Tactic.rcasesPatMed" [z0 [zt "Tactic.rcasesPat.tuple" [zy "⟨",z0 (l.intersperse (zy ",")),zy "⟩"]]]
def zE(h:Lean.Syntax)(k:String):Lean.Syntax:=Lean.mkIdent (.str (.str h.getId.eraseMacroScopes k) "t")
def zG(h:Lean.Syntax)(ps:List Lean.Syntax):List (Lean.Syntax×List Lean.Syntax):=ps.zipIdx.map fun q=>
 let a:=q.1[0][0].getSepArgs
 if a.size == 1 && a[0]!.getKind == ``Lean.Parser.Tactic.rcasesPat.one && a[0]![0].getId != `rfl then (a[0]![0], []) else let t := zE h (toString q.2); (t, [zO q.1[0] t])
def zH(h:Lean.Syntax)(ps:List Lean.Syntax)(f:List Lean.Syntax)(j:Nat):List Lean.Syntax:=
 let x:=(zG h ps).take j
 let t:=zE h "r"
 f++zT "clear" h::zI (x.map (·.1)++if j==ps.length then[]else[t])::x.flatMap (·.2)++if j==ps.length then[]else[zO (zM (ps.drop j)) t]
def zD(p h:Lean.Syntax)(ps:List Lean.Syntax):Lean.Syntax:=
 let n:=ps.length
 zF ((((List.range 6).reverse.filter fun j=>j+1<n).map fun j=>zH h ps [zr (zq (zm (if j==0 then"Exists.elim" else"exE"++toString (j+1))) [h,za "?"])] (j+1))++
  ((List.range (n-1)).reverse.map fun j=>zH h ps [zB (zN h (j+1))] (if j+2==n then n else j+1))++
  [[zt "Tactic.rcases" [zy "rcases",z0 [zt "Tactic.elimTarget" [z0 [],h]],z0 [zy "with",zt "Tactic.rcasesPatLo" [p,z0 []]]]]])
def zL(p h:Lean.Syntax):Option Lean.Syntax:=
 let a:=p[0].getSepArgs
 let q:=a[0]!
 let k:=q.getKind
 let t:=zm "τ"
 let ps:=q[1].getSepArgs.toList
 if a.size != 1 then none
 else if k == ``Lean.Parser.Tactic.rcasesPat.tuple then
  if h.getKind != `ident then some (zP [zB [h], zI [t], zO p t])
  else if ps.length==0||ps.any (fun q=> !q[1].isNone)then none
  else if ps.length==1 then some (zO (zM ps) h)
  else some (zD p h ps)
 else if h.getKind != `ident then none
 else if k == ``Lean.Parser.Tactic.rcasesPat.one then
  some (if q[0].getId == `rfl then zT "subst" h else if q[0].getId == h.getId then zt "Tactic.skip" [zy "skip"] else zP [zT "revert" h, zI [q[0]]])
 else if k == ``Lean.Parser.Tactic.rcasesPat.ignore then some (zt "Tactic.skip" [zy "skip"])
 else none
def zR(p:Lean.Syntax):List Lean.Syntax:=
 let q:=p[0]
 let t:=zm "τ"
 if q.getKind == ``Lean.Parser.Tactic.rcasesPat.one && q[0].getId != `rfl then [zI [q[0]]] else [zI [t], zO (zt "Tactic.rcasesPatMed" [z0 [q]]) t]
def zC(h:Lean.Syntax):Lean.Syntax:=
 let t:=zm "τ"
 let w:=zm "ω"
 let e:=[zT "clear" h,zI [t],zT "subst" t]
 zF (["Int","Str"].map (fun s=>[zr (zq (zm "Exists.elim") [zq (zm ("Is.v"++s)) [h],za "?"]),zT "clear" h,zI [w,t],zT "subst" t])++
  ["Is.vRaw","Is.vNone","Is.vBool","IsAll.vNil"].map (fun s=>zB [zq (zm s) [h]]::e)++
  [[zr (zq (zm "exE2") [zq (zm "IsAll.vCons") [h],za "?"]),zT "clear" h,zI [w,w,t],zB (zN t 2),zT "clear" t,zI [w,w,t],zT "subst" t],
   zB [zq (zm "Option.some.inj") [h]]::e,[zT "subst" h],
   [zt "Tactic.cases" [zy "cases",z0 [zt "Tactic.elimTarget" [z0 [],zt "Term.paren" [zo,h,zy ")"]]],z0 [],z0 []]]])
def zX(k:String)(c:Lean.Syntax):Option Lean.Syntax:=
 let a:=c[1].getSepArgs.toList
 let n:=a.length
 let tac (t:Lean.Syntax):Lean.Syntax:=zt ("Tactic."++k) [zy k,t]
 if c.getKind != ``Lean.Parser.Term.anonymousCtor || n < 3 then none
 else some (zF ((((List.range 7).reverse.filter fun j=>1<j&&j<n).map fun j=>
  [zv (zu ((List.range j).foldl (fun t O=>zq (zm "Exists") [zt "Term.fun" [zy "fun",zt "Term.basicFun" [z0 [za "_"],z0 [],zy "=>",t]]]) (za "_"))),
   tac (zq (zm ("exI"++toString j)) (a.take j++[if j+1==n then a[j]! else zt "Term.anonymousCtor" [zy "⟨",z0 ((a.drop j).intersperse (zy ",")),zy "⟩"]]))])++
  [[tac (zt "Term.paren" [zo,c,zy ")"])]]))
def zW(r:Lean.Syntax):Lean.Syntax:=
 let f:=zm (if r[0].isNone then"rwR" else"rwL")
 let t:=r[1]
 zF (([t,zq t [za "_"],zq t [za "_",za "_"],zq t [za "_",za "_",za "_"]].map fun u=>[zv (zq f [u,za "?"])])++
  [[zt "Tactic.rewriteSeq" [zy "rewrite",zt "Tactic.optConfig" [z0 []],zt "Tactic.rwRuleSeq" [zy "[",z0 [r],zy "]"],z0 []]]])
def zV(o:Option Lean.Syntax):Lean.MacroM Lean.Syntax:=match o with
 | some s=>return s
 | none=>Lean.Macro.throwUnsupported
section
namespace LA
noncomputable def dt:List Int→List Int→Int
 | c::cs,y::ys=>c*y+dt cs ys
 | _,_=>0
noncomputable def vad:List Int→List Int→List Int
 | [],b=>b
 | a,[]=>a
 | x::a,y::b=>(x+y)::vad a b
noncomputable def vsm(k:Int):List Int→List Int
 | []=>[]
 | x::a=>k*x::vsm k a
theorem BM(y:List Int):dt [] y=0:=by cases y<;>rfl
theorem HK:∀(a b y:List Int),dt (vad a b) y=dt a y+dt b y
 | [],b,y=>by rw[BM,Int.zero_add];rfl
 | x::a,[],y=>by rw[BM,Int.add_zero];rfl
 | x::a,z::b,[]=>rfl
 | x::a,z::b,w::y=>by
  show(x+z)*w+dt (vad a b) y=x*w+dt a y+(z*w+dt b y)
  rw[HK a b y,Int.add_mul];omega
theorem FU(k:Int):∀(a y:List Int),dt (vsm k a) y=k*dt a y
 | [],y=>by rw[BM,Int.mul_zero];exact BM y
 | x::a,[]=>by rw[show dt (x::a) []=0 from rfl,Int.mul_zero];rfl
 | x::a,w::y=>by
  show k*x*w+dt (vsm k a) y=k*(x*w+dt a y);rw[FU k a y,Int.mul_add,Int.mul_assoc]
noncomputable def hd:List Int→Int
 | _::p::_=>p
 | _=>0
noncomputable def tl:List Int→List Int
 | k::_::u=>k::u
 | c=>c
theorem OF(h:Int)(y:List Int):∀c,dt c (1::h::y)=hd c*h+dt (tl c) (1::y)
 | []=>by show 0=0*h+0;omega
 | [k]=>by
  show k*1+dt [] (h::y)=0*h+(k*1+dt [] y)
  rw[BM,BM];omega
 | k::p::u=>by show k*1+(p*h+dt u y)=p*h+(k*1+dt u y);omega
noncomputable def Ok(y:List Int)(cs:List (List Int)):Prop:=∀c∈cs,0≤dt c (1::y)
theorem Ok.cons{y:List Int}{c:List Int}{cs:List (List Int)}(h:0≤dt c (1::y))(r:Ok y cs):Ok y (c::cs):=fun d m=>by
 cases m with
 | head=>exact h
 | tail _ m=>exact r d m
noncomputable def prs(n:Int)(t:List Int):List (List Int)→List (List Int)→List (List Int)
 | [],r=>r
 | c::ps,r=>prs n t ps (bif 0<hd c then vad (vsm (-n) (tl c)) (vsm (hd c) t)::r else r)
noncomputable def elm(all:List (List Int)):List (List Int)→List (List Int)→List (List Int)
 | [],r=>r
 | c::cs,r=>elm all cs (bif hd c=0 then tl c::r else bif hd c<0 then prs (hd c) (tl c) all r else r)
theorem KW{n h:Int}{t y:List Int}(hn:n<0)(ht:0≤n*h+dt t (1::y)):∀(ps r:List (List Int)),Ok (h::y) ps→Ok y r→Ok y (prs n t ps r)
 | [],_,_,hr=>hr
 | c::ps,r,hp,hr=>by
  refine KW hn ht ps _ (fun c hc=>hp c (.tail _ hc)) ?_
  cases e:decide (0<hd c)with
  | false=>exact hr
  | true=>
   refine .cons ?_ hr;have h1:=hp c (.head _);rw[OF]at h1;rw[HK,FU,FU];have e1:=Int.mul_nonneg (show 0≤ -n by omega) h1;have e2:=Int.mul_nonneg (Int.le_of_lt (of_decide_eq_true e)) ht;rw[Int.mul_add]at e1 e2
   have: -n*(hd c*h)= -(hd c*(n*h)):=by rw[Int.neg_mul,Int.mul_left_comm]
   omega
theorem Mr{h:Int}{y:List Int}{all:List (List Int)}(ha:Ok (h::y) all):∀(cs r:List (List Int)),Ok (h::y) cs→Ok y r→Ok y (elm all cs r)
 | [],_,_,hr=>hr
 | c::cs,r,hp,hr=>by
  have h1:=hp c (.head _);rw[OF]at h1;refine Mr ha cs _ (fun c hc=>hp c (.tail _ hc)) ?_
  cases e:decide (hd c=0)with
  | true=>
   refine .cons ?_ hr;rw[of_decide_eq_true e]at h1;omega
  | false=>
   cases e:decide (hd c<0)with
   | true=>exact KW (of_decide_eq_true e) h1 _ _ ha hr
   | false=>exact hr
noncomputable def bad:List (List Int)→Bool
 | []=>false
 | c::cs=>bif c.headD 0<0 then true else bad cs
noncomputable def fm:Nat→List (List Int)→Bool
 | 0,cs=>bad cs
 | n+1,cs=>fm n (elm cs cs [])
theorem M9:∀cs,Ok [] cs→bad cs=true→False
 | c::cs,h,e=>by
  unfold bad at e
  cases e':decide (c.headD 0<0)with
  | true=>
   have h1:=h _ (.head _)
   cases c with
   | nil=>exact absurd (of_decide_eq_true e') (by decide)
   | cons k u=>
    have:0≤k*1+dt u []:=h1;rw[show dt u []=0 by cases u<;>rfl]at this;have:k<0:=of_decide_eq_true e';omega
  | false=>rw[e']at e;exact M9 cs (fun c hc=>h c (.tail _ hc)) e
theorem O9:∀(y:List Int) cs,Ok y cs→fm y.length cs=true→False
 | [],cs,h,e=>M9 cs h e
 | h::y,cs,hc,e=>O9 y _ (Mr hc cs [] hc fun O m=>by cases m) e
noncomputable abbrev LL:=List (List Int)
noncomputable abbrev V3:=Nat×Int×Prop
noncomputable abbrev V2:=(Bool→LL→(List Int→LL→Bool)→Bool)×(Bool→LL→(LL→Bool)→Bool)
noncomputable def val(x:V3)(s:Bool):Int:=bif s then(x.1:Int)else x.2.1
noncomputable def hol(x:V3)(s:Bool):Prop:=s.rec (¬x.2.2) x.2.2
noncomputable def R(y:List Int)(x:V3)(f:V2):Prop:=
 (∀s cs q,Ok y cs→f.1 s cs q=true→∃l cs,q l cs=true∧Ok y cs∧dt l (1::y)=val x s)∧
 (∀s cs q,hol x s→Ok y cs→f.2 s cs q=true→∃cs,q cs=true∧Ok y cs)
noncomputable def un:Nat→List Int
 | 0=>[1]
 | i+1=>0::un i
noncomputable def vsb(a b:List Int):List Int:=vad a (vsm (-1) b)
theorem HJ(a b y:List Int):dt (vsb a b) y=dt a y-dt b y:=by
 unfold vsb;rw[HK,FU,Int.neg_mul,Int.one_mul];rfl
theorem OE:∀(i:Nat) (y:List Int),dt (un i) y=y.getD i 0
 | 0,[]=>rfl
 | _+1,[]=>rfl
 | 0,h::y=>by show 1*h+dt [] y=h;rw[BM];omega
 | i+1,h::y=>by
  show 0*h+dt (un i) y=y.getD i 0;rw[OE i y,Int.zero_mul,Int.zero_add]
noncomputable def tE(n:Nat)(z:Int):V3:=(n,z,True)
noncomputable def tF(f:Bool→LL→(List Int→LL→Bool)→Bool):V2:=(f,fun O cs q=>q cs)
noncomputable def tP(p:Prop):V3:=(0,0,p)
noncomputable def tQ(f:Bool→LL→(LL→Bool)→Bool):V2:=(fun O cs q=>q [] cs,f)
section
variable {y:List Int}
theorem R.E{n:Nat}{z:Int}{f:Bool→LL→(List Int→LL→Bool)→Bool}(h:∀s cs q,Ok y cs→f s cs q=true→∃l cs,q l cs=true∧Ok y cs∧dt l (1::y)=bif s then(n:Int)else z):R y (tE n z) (tF f):=
 ⟨h,fun O cs O O o e=>⟨cs,e,o⟩⟩
theorem R.P{p:Prop}{f:Bool→LL→(LL→Bool)→Bool}(h1:∀cs q,p→Ok y cs→f true cs q=true→∃cs,q cs=true∧Ok y cs)(h2:∀cs q,¬p→Ok y cs→f false cs q=true→∃cs,q cs=true∧Ok y cs):R y (tP p) (tQ f):=
 ⟨fun s cs O o e=>⟨[],cs,e,o,by cases s<;>rfl⟩,fun s cs q h o e=>match s,h,e with
  | true,h,e=>h1 cs q h o e
  | false,h,e=>h2 cs q h o e⟩
noncomputable def QS(a b:V2)(s:Bool)(cs:LL)(q:List Int→List Int→LL→Bool):Bool:=a.1 s cs fun l cs=>b.1 s cs fun m cs=>q l m cs
theorem Gw{x z:V3}{a b:V2}(ha:R y x a)(hb:R y z b){s cs q}(o:Ok y cs)(e:QS a b s cs q=true):∃l m cs,q l m cs=true∧Ok y cs∧dt l (1::y)=val x s∧dt m (1::y)=val z s:=by
 obtain⟨l,cs,e,o,h⟩:=ha.1 _ _ _ o e;obtain⟨m,cs,e,o,h'⟩:=hb.1 _ _ _ o e;exact⟨l,m,cs,e,o,h,h'⟩
end
noncomputable abbrev PP:=V3×V2
noncomputable def Rp(y:List Int)(p:PP):Prop:=R y p.1 p.2
noncomputable def Rs(y:List Int)(st:List PP):Prop:=∀p∈st,Rp y p
noncomputable abbrev LF:=Bool→LL→(List Int→LL→Bool)→Bool
noncomputable abbrev AF:=Bool→LL→(LL→Bool)→Bool
noncomputable def mE(n:Nat)(z:Int)(f:LF):PP:=(tE n z,tF f)
noncomputable def mP(p:Prop)(f:AF):PP:=(tP p,tQ f)
noncomputable def kL(g:Nat→PP)(k:Nat)(st:List PP):List PP:=g k::st
noncomputable def k1(g:Nat→PP→PP)(k:Nat)(st:List PP):List PP:=st.rec [] fun a r O=>g k a::r
noncomputable def k2(g:PP→PP→PP)(_:Nat)(st:List PP):List PP:=st.rec [] fun b r O=>r.rec [] fun a r O=>g a b::r
noncomputable def Tok(y:List Int)(f:Nat→List PP→List PP):Prop:=∀k st,Rs y st→Rs y (f k st)
theorem Rs.cons{y:List Int}{p:PP}{st:List PP}(h:Rp y p)(r:Rs y st):Rs y (p::st):=fun q m=>by
 cases m with
 | head=>exact h
 | tail _ m=>exact r q m
theorem Rs.tl{y:List Int}{p:PP}{st:List PP}(h:Rs y (p::st)):Rs y st:=fun q m=>h q (.tail _ m)
theorem Rs.nil{y:List Int}:Rs y []:=fun O m=>by cases m
section
variable {y:List Int}
theorem Tok.L{g}(h:∀k,Rp y (g k)):Tok y (kL g):=fun k O r=>.cons (h k) r
theorem Tok.o{g}(h:∀k a,Rp y a→Rp y (g k a)):Tok y (k1 g):=fun k st=>match st with
 | []=>fun r=>r
 | a::_=>fun r=>.cons (h k a (r a (.head _))) r.tl
theorem Tok.t{g}(h:∀a b,Rp y a→Rp y b→Rp y (g a b)):Tok y (k2 g):=fun k st=>match st with
 | []=>fun r=>r
 | [_]=>fun O=>.nil
 | b::a::_=>fun r=>.cons (h a b (r a (.tail _ (.head _))) (r b (.head _))) r.tl.tl
theorem bt{a b:Bool}(h:(a&&b)=true):a=true∧b=true:=(Bool.and_eq_true_iff).mp h
noncomputable def rel(p:Nat→Nat→Prop)(p':Int→Int→Prop)(f:Bool→List Int→List Int→LL→(LL→Bool)→Bool)(s:Bool)(a b:PP):PP:=
 mP (s.rec (p' a.1.2.1 b.1.2.1) (p a.1.1 b.1.1)) fun t cs q=>QS a.2 b.2 s cs fun l m cs=>f t l m cs q
theorem Ir{p p' f}(hp:∀a b:Nat,p a b↔p' a b)(h1:∀l m cs q,Ok y cs→p' (dt l (1::y)) (dt m (1::y))→f true l m cs q=true→∃cs,q cs=true∧Ok y cs)(h2:∀l m cs q,Ok y cs→¬p' (dt l (1::y)) (dt m (1::y))→f false l m cs q=true→∃cs,q cs=true∧Ok y cs)(s:Bool)(a b:PP)(ha:Rp y a)(hb:Rp y b):Rp y (rel p p' f s a b):=by
 have eq:(s.rec (p' a.1.2.1 b.1.2.1) (p a.1.1 b.1.1):Prop)↔p' (val a.1 s) (val b.1 s):=match s with
  | true=>hp _ _
  | false=>.rfl
 refine .P (fun cs q h o e=>?_) (fun cs q h o e=>?_)
 ·obtain⟨l,m,cs,e,o,e1,e2⟩:=Gw ha hb o e
  exact h1 l m cs q o (e1▸e2▸eq.mp h) e
 ·obtain⟨l,m,cs,e,o,e1,e2⟩:=Gw ha hb o e
  exact h2 l m cs q o (e1▸e2▸mt eq.mpr h) e
noncomputable def sb1(l m:List Int):List Int:=vad [-1] (vsb l m)
theorem Ri(l m:List Int):dt (sb1 l m) (1::y)=dt l (1::y)-dt m (1::y)-1:=by
 show dt (vad [-1] (vsb l m)) _=_;rw[HK,HJ,show dt [-1] (1::y)= -1 by show -1*1+dt [] y= -1;rw[BM];rfl];omega
theorem ok1{l m:List Int}{cs:LL}(h:dt m (1::y)≤dt l (1::y))(o:Ok y cs):Ok y (vsb l m::cs):=.cons (by rw[HJ];omega) o
theorem ok2{l m:List Int}{cs:LL}(h:dt m (1::y)<dt l (1::y))(o:Ok y cs):Ok y (sb1 l m::cs):=.cons (by rw[Ri];omega) o
noncomputable def fle(t:Bool)(l m:List Int)(cs:LL)(q:LL→Bool):Bool:=t.rec (q (sb1 l m::cs)) (q (vsb m l::cs))
noncomputable def flt(t:Bool)(l m:List Int)(cs:LL)(q:LL→Bool):Bool:=t.rec (q (vsb l m::cs)) (q (sb1 m l::cs))
noncomputable def feq(t:Bool)(l m:List Int)(cs:LL)(q:LL→Bool):Bool:=t.rec (q (sb1 m l::cs)&&q (sb1 l m::cs)) (q (vsb m l::vsb l m::cs))
noncomputable def kle:Bool→PP→PP→PP:=rel (fun a b=>a≤b) (fun a b=>a≤b) fle
theorem O5:∀(s:Bool) (a b:PP),Rp y a→Rp y b→Rp y (kle s a b):=Ir (fun a b=>Int.ofNat_le.symm)
 (fun O O O O o h e=>⟨_,e,ok1 h o⟩) (fun O O O O o h e=>⟨_,e,ok2 (Int.not_le.mp h) o⟩)
noncomputable def klt:Bool→PP→PP→PP:=rel (fun a b=>a<b) (fun a b=>a<b) flt
theorem O0:∀(s:Bool) (a b:PP),Rp y a→Rp y b→Rp y (klt s a b):=Ir (fun a b=>Int.ofNat_lt.symm)
 (fun O O O O o h e=>⟨_,e,ok2 h o⟩) (fun O O O O o h e=>⟨_,e,ok1 (Int.not_lt.mp h) o⟩)
noncomputable def keq:Bool→PP→PP→PP:=rel (fun a b=>a=b) (fun a b=>a=b) feq
theorem OA:∀(s:Bool) (a b:PP),Rp y a→Rp y b→Rp y (keq s a b):=Ir (fun a b=>Int.ofNat_inj.symm)
 (fun O O O O o h e=>⟨_,e,ok1 (Int.le_of_eq h) (ok1 (Int.le_of_eq h.symm) o)⟩)
 (fun O O O O o h e=>(Int.lt_or_gt_of_ne h).elim (fun h=>⟨_,(bt e).1,ok2 h o⟩) (fun h=>⟨_,(bt e).2,ok2 h o⟩))
noncomputable def trm(g:Nat→Nat→Nat)(g':Int→Int→Int)(f:List Int→List Int→LF)(a b:PP):PP:=mE (g a.1.1 b.1.1) (g' a.1.2.1 b.1.2.1) fun s cs q=>QS a.2 b.2 s cs fun l m cs=>f l m s cs q
noncomputable def VC(l m:List Int):LF:=fun O cs q=>q (vad l m) cs
noncomputable def VA(l m:List Int):LF:=fun s cs q=>s.rec (q (vsb l m) cs) (q (vsb l m) (vsb l m::cs)&&q [] (vsb m l::cs))
noncomputable def fmn(l m:List Int):LF:=fun O cs q=>q l (vsb m l::cs)&&q m (vsb l m::cs)
noncomputable def fmx(l m:List Int):LF:=fun O cs q=>q m (vsb m l::cs)&&q l (vsb l m::cs)
theorem Gf{g g'}{f:List Int→List Int→LF}(h:∀s l m cs q (x z:V3),dt l (1::y)=val x s→dt m (1::y)=val z s→Ok y cs→f l m s cs q=true→∃r cs,q r cs=true∧Ok y cs∧dt r (1::y)=bif s then((g x.1 z.1:Nat):Int)else g' x.2.1 z.2.1)(a b:PP)(ha:Rp y a)(hb:Rp y b):Rp y (trm g g' f a b):=.E fun s cs q o e=>by
 obtain⟨l,m,cs,e,o,e1,e2⟩:=Gw ha hb o e;exact h s l m cs q _ _ e1 e2 o e
noncomputable def SS:PP→PP→PP:=trm (fun a b=>a+b) (fun a b=>a+b) VC
theorem Rr:∀a b:PP,Rp y a→Rp y b→Rp y (SS a b):=Gf fun s l m cs q x z e1 e2 o e=>
 ⟨_,cs,e,o,by rw[HK,e1,e2];cases s<;>rfl⟩
noncomputable def SQ:PP→PP→PP:=trm (fun a b=>a-b) (fun a b=>a-b) VA
theorem OO:∀a b:PP,Rp y a→Rp y b→Rp y (SQ a b):=Gf fun s l m cs q x z e1 e2 o e=>by
 cases s with
 | false=>exact⟨_,cs,e,o,by rw[HJ,e1,e2];rfl⟩
 | true=>
  rcases Nat.le_total z.1 x.1 with h| h
  ·exact⟨_,_,(bt e).1,ok1 (by rw[e1,e2];exact Int.ofNat_le.mpr h) o,by rw[HJ,e1,e2];exact(Int.ofNat_sub h).symm⟩
  ·exact⟨_,_,(bt e).2,ok1 (by rw[e1,e2];exact Int.ofNat_le.mpr h) o,by show 0=((x.1-z.1:Nat):Int);rw[Nat.sub_eq_zero_of_le h];rfl⟩
noncomputable def kmn:PP→PP→PP:=trm (fun a b=>min a b) (fun a b=>min a b) fmn
theorem SK:∀a b:PP,Rp y a→Rp y b→Rp y (kmn a b):=Gf fun s l m cs q x z e1 e2 o e=>by
 rcases Int.le_total (dt l (1::y)) (dt m (1::y))with h| h
 ·exact⟨_,_,(bt e).1,ok1 h o,by rw[e1,e2]at h;rw[e1];cases s;exact(Int.min_eq_left h).symm;exact congrArg Nat.cast (Nat.min_eq_left (Int.ofNat_le.mp h)).symm⟩
 ·exact⟨_,_,(bt e).2,ok1 h o,by rw[e1,e2]at h;rw[e2];cases s;exact(Int.min_eq_right h).symm;exact congrArg Nat.cast (Nat.min_eq_right (Int.ofNat_le.mp h)).symm⟩
noncomputable def kmx:PP→PP→PP:=trm (fun a b=>max a b) (fun a b=>max a b) fmx
theorem SH:∀a b:PP,Rp y a→Rp y b→Rp y (kmx a b):=Gf fun s l m cs q x z e1 e2 o e=>by
 rcases Int.le_total (dt l (1::y)) (dt m (1::y))with h| h
 ·exact⟨_,_,(bt e).1,ok1 h o,by rw[e1,e2]at h;rw[e2];cases s;exact(Int.max_eq_right h).symm;exact congrArg Nat.cast (Nat.max_eq_right (Int.ofNat_le.mp h)).symm⟩
 ·exact⟨_,_,(bt e).2,ok1 h o,by rw[e1,e2]at h;rw[e1];cases s;exact(Int.max_eq_left h).symm;exact congrArg Nat.cast (Nat.max_eq_left (Int.ofNat_le.mp h)).symm⟩
noncomputable def Ta(k:Nat)(a:PP):PP:=mE (k*a.1.1) (k*a.1.2.1) fun s cs q=>a.2.1 s cs fun l cs=>q (vsm k l) cs
noncomputable def fof(_:Nat)(a:PP):PP:=mE 0 a.1.1 fun s cs q=>s.rec (a.2.1 true cs q) (q [] cs)
noncomputable def fto(_:Nat)(a:PP):PP:=mE a.1.2.1.toNat 0 fun s cs q=>s.rec (q [] cs) (a.2.1 false cs fun l cs=>q l (vsb l []::cs)&&q [] (vsb [] l::cs))
noncomputable def SZ(_:Nat)(a:PP):PP:=mE 0 (-a.1.2.1) fun s cs q=>s.rec (a.2.1 false cs fun l cs=>q (vsb [] l) cs) (q [] cs)
theorem QO(k:Nat)(a:PP)(ha:Rp y a):Rp y (Ta k a):=.E fun s cs q o e=>by
 obtain⟨l,cs,e,o,h⟩:=ha.1 _ _ _ o e;exact⟨_,cs,e,o,by rw[FU,h];cases s<;>rfl⟩
theorem RK(k:Nat)(a:PP)(ha:Rp y a):Rp y (fof k a):=.E fun s cs q o e=>by
 cases s with
 | true=>exact⟨_,_,e,o,rfl⟩
 | false=>exact ha.1 true _ _ o e
theorem R9(k:Nat)(a:PP)(ha:Rp y a):Rp y (fto k a):=.E fun s cs q o e=>by
 cases s with
 | false=>exact⟨_,_,e,o,rfl⟩
 | true=>
  obtain⟨l,cs,e,o,h⟩:=ha.1 false _ _ o e
  rcases Int.le_total 0 (dt l (1::y))with h'| h'
  ·exact⟨_,_,(bt e).1,ok1 h' o,h.trans (Int.toNat_of_nonneg (h▸h')).symm⟩
  ·exact⟨_,_,(bt e).2,ok1 h' o,(congrArg Nat.cast (Int.toNat_of_nonpos (h▸h')):((Int.toNat (val a.1 false):Nat):Int)=((0:Nat):Int)).symm⟩
theorem QK(k:Nat)(a:PP)(ha:Rp y a):Rp y (SZ k a):=.E fun s cs q o e=>by
 cases s with
 | true=>exact⟨_,_,e,o,rfl⟩
 | false=>
  obtain⟨l,cs,e,o,h⟩:=ha.1 false _ _ o e;exact⟨_,cs,e,o,by rw[HJ,h,BM,Int.zero_sub];rfl⟩
noncomputable def fcn(k:Nat):PP:=mE k k fun O cs q=>q [(k:Int)] cs
theorem Mv(k:Nat):Rp y (fcn k):=.E fun s cs q o e=>⟨_,cs,e,o,by
 show(k:Int)*1+dt [] y=_
 rw[BM,Int.mul_one,Int.add_zero];cases s<;>rfl⟩
noncomputable def fvr(N:List Nat)(Z:List Int)(i:Nat):PP:=mE (N.getD i 0) (Z.getD i 0) fun s cs q=>s.rec (q (0::un (N.length+i)) cs) (Nat.blt i N.length&&q (0::un i) cs)
noncomputable def env(Z:List Int):List Nat→List Int:=List.rec Z fun a O r=>(a:Int)::r
theorem Mp(Z:List Int):∀(N:List Nat) (i:Nat),i<N.length→(env Z N).getD i 0=((N.getD i 0:Nat):Int)
 | _::_,0,_=>rfl
 | _::N,i+1,h=>Mp Z N i (Nat.lt_of_succ_lt_succ h)
theorem OD(Z:List Int)(i:Nat):∀N:List Nat,(env Z N).getD (N.length+i) 0=Z.getD i 0
 | []=>by rw[show([]:List Nat).length+i=i from Nat.zero_add i];rfl
 | _::N=>by rw[show(_::N).length+i=N.length+i+1 from Nat.succ_add _ _];exact OD Z i N
theorem IJ(i:Nat):dt (0::un i) (1::y)=y.getD i 0:=by
 show 0*1+dt (un i) y=_;rw[OE,Int.zero_mul,Int.zero_add]
theorem R7(N:List Nat)(Z:List Int)(i:Nat):Rp (env Z N) (fvr N Z i):=.E fun s cs q o e=>by
 cases s with
 | false=>exact⟨_,cs,e,o,(IJ _).trans (OD Z i N)⟩
 | true=>exact⟨_,cs,(bt e).2,o,(IJ _).trans (Mp Z N i (Nat.le_of_ble_eq_true (bt e).1))⟩
noncomputable def Te(a b:PP):PP:=mP (a.1.2.2∧b.1.2.2) fun t cs q=>t.rec (a.2.2 false cs q&&b.2.2 false cs q) (a.2.2 true cs fun cs=>b.2.2 true cs q)
noncomputable def SY(a b:PP):PP:=mP (a.1.2.2∨b.1.2.2) fun t cs q=>t.rec (a.2.2 false cs fun cs=>b.2.2 false cs q) (a.2.2 true cs q&&b.2.2 true cs q)
noncomputable def Tc(a b:PP):PP:=mP (a.1.2.2→b.1.2.2) fun t cs q=>t.rec (a.2.2 true cs fun cs=>b.2.2 false cs q) (a.2.2 false cs q&&b.2.2 true cs q)
noncomputable def Td(a b:PP):PP:=mP (a.1.2.2↔b.1.2.2) fun t cs q=>t.rec ((a.2.2 true cs fun cs=>b.2.2 false cs q)&&(a.2.2 false cs fun cs=>b.2.2 true cs q)) ((a.2.2 true cs fun cs=>b.2.2 true cs q)&&(a.2.2 false cs fun cs=>b.2.2 false cs q))
noncomputable def fno(_:Nat)(a:PP):PP:=mP (¬a.1.2.2) fun t cs q=>a.2.2 (!t) cs q
noncomputable def fls(_:Nat):PP:=mP False fun t cs q=>t||q cs
theorem two{a b:PP}(ha:Rp y a)(hb:Rp y b){s t cs q}(h1:hol a.1 s)(h2:hol b.1 t)(o:Ok y cs)(e:(a.2.2 s cs fun cs=>b.2.2 t cs q)=true):∃cs,q cs=true∧Ok y cs:=by
 obtain⟨cs,e,o⟩:=ha.2 _ _ _ h1 o e;exact hb.2 _ _ _ h2 o e
theorem Rq(a b:PP)(ha:Rp y a)(hb:Rp y b):Rp y (Te a b):=.P (fun O O h o e=>two (s:=true) (t:=true) ha hb h.1 h.2 o e)
 fun O O h o e=>(Classical.em a.1.2.2).elim (fun h'=>hb.2 false _ _ (fun h''=>h ⟨h',h''⟩) o (bt e).2) fun h'=>ha.2 false _ _ h' o (bt e).1
theorem RI(a b:PP)(ha:Rp y a)(hb:Rp y b):Rp y (SY a b):=.P (fun O O h o e=>h.elim (fun h=>ha.2 true _ _ h o (bt e).1) fun h=>hb.2 true _ _ h o (bt e).2)
 fun O O h o e=>two (s:=false) (t:=false) ha hb (fun h'=>h (.inl h')) (fun h'=>h (.inr h')) o e
theorem QX(a b:PP)(ha:Rp y a)(hb:Rp y b):Rp y (Tc a b):=.P (fun O O h o e=>(Classical.em a.1.2.2).elim (fun h'=>hb.2 true _ _ (h h') o (bt e).2) fun h'=>ha.2 false _ _ h' o (bt e).1)
 fun O O h o e=>(Classical.em a.1.2.2).elim (fun h'=>two (s:=true) (t:=false) ha hb h' (fun h''=>h fun O=>h'') o e) fun h'=>absurd (fun h''=>absurd h'' h') h
theorem QY(a b:PP)(ha:Rp y a)(hb:Rp y b):Rp y (Td a b):=.P
 (fun O O h o e=>(Classical.em a.1.2.2).elim (fun h'=>two (s:=true) (t:=true) ha hb h' (h.mp h') o (bt e).1) fun h'=>two (s:=false) (t:=false) ha hb h' (mt h.mpr h') o (bt e).2)
 (fun O O h o e=>(Classical.em a.1.2.2).elim (fun h'=>two (s:=true) (t:=false) ha hb h' (fun h''=>h ⟨fun O=>h'',fun O=>h'⟩) o (bt e).1)
  fun h'=>two (s:=false) (t:=true) ha hb h' (Classical.byContradiction fun h''=>h ⟨fun x=>absurd x h',fun x=>absurd x h''⟩) o (bt e).2)
theorem SG(k:Nat)(a:PP)(ha:Rp y a):Rp y (fno k a):=.P (fun O O h o e=>ha.2 false _ _ h o e) (fun O O h o e=>ha.2 true _ _ (Classical.not_not.mp h) o e)
theorem Mo(k:Nat):Rp y (fls k):=.P (fun O O h=>h.elim) (fun O O O o e=>⟨_,e,o⟩)
end
noncomputable def fmr(k:Nat)(a:PP):PP:=mE (a.1.1*k) (a.1.2.1*k) fun s cs q=>a.2.1 s cs fun l cs=>q (vsm k l) cs
theorem SJ{y:List Int}(k:Nat)(a:PP)(ha:Rp y a):Rp y (fmr k a):=.E fun s cs q o e=>by
 obtain⟨l,cs,e,o,h⟩:=ha.1 _ _ _ o e;exact⟨_,cs,e,o,by rw[FU,h,Int.mul_comm];cases s<;>rfl⟩
noncomputable def toks:List (Nat→List PP→List PP):=[k1 fmr,kL fcn,kL fcn,k1 Ta,
 k2 SS,k2 SQ,k2 kmn,k2 kmx,k1 fof,k1 fto,k1 SZ,
 k2 (kle true),k2 (kle false),k2 (klt true),k2 (klt false),
 k2 (keq true),k2 (keq false),k2 Te,k2 SY,k2 Tc,k2 Td,k1 fno,kL fls]
theorem MQ{y:List Int}:∀f∈toks,Tok y f:=by
 have c:∀{f:Nat→List PP→List PP} {l:List (Nat→List PP→List PP)},Tok y f→(∀f∈l,Tok y f)→∀g∈f::l,Tok y g:=fun h r g m=>by
  cases m with
  | head=>exact h
  | tail _ m=>exact r g m
 exact c (.o SJ) <| c (.L Mv) <| c (.L Mv) <| c (.o QO) <| c (.t Rr) <| c (.t OO) <| c (.t SK) <| c (.t SH) <| c (.o RK) <| c (.o R9) <| c (.o QK) <|
  c (.t (O5 true)) <| c (.t (O5 false)) <| c (.t (O0 true)) <| c (.t (O0 false)) <| c (.t (OA true)) <| c (.t (OA false)) <| c (.t Rq) <| c (.t RI) <| c (.t QX) <| c (.t QY) <| c (.o SG) <| c (.L Mo) fun O m=>by cases m
noncomputable def wd(t:Nat):Nat:=2 ^ [10,10,64,10].getD t 0
noncomputable def tkf(N:List Nat)(Z:List Int)(t:Nat):Nat→List PP→List PP:=bif Nat.blt t 24 then toks.getD t fun O s=>s else bif Nat.blt t 40 then kL fun O=>fvr N Z (t-24)else kL fun O=>fcn (t-40)
theorem OK(N:List Nat)(Z:List Int)(t:Nat):Tok (env Z N) (tkf N Z t):=by
 unfold tkf
 cases Nat.blt t 24 with
 | true=>
  show Tok (env Z N) (toks.getD t fun O s=>s);rw[List.getD_eq_getElem?_getD]
  cases e:toks[t]? with
  | none=>exact fun O O r=>r
  | some f=>exact MQ f (List.mem_of_getElem? e)
 | false=>
  cases Nat.blt t 40 with
  | true=>exact .L fun O=>R7 N Z _
  | false=>exact .L fun O=>Mv _
noncomputable def rn(F:Nat→Nat→List PP→List PP)(n:Nat):Nat→List PP→List PP:=
 n.rec (fun O st=>st) fun O r c st=>r (c / 64 / wd (c % 64)) (F (c % 64) (c / 64 % wd (c % 64)) st)
theorem Os{y:List Int}{F:Nat→Nat→List PP→List PP}(h:∀t,Tok y (F t)):∀(n c:Nat) (st:List PP),Rs y st→Rs y (rn F n c st)
 | 0,_,_,r=>r
 | n+1,_,_,r=>Os h n _ _ (h _ _ _ r)
noncomputable def top(st:List PP):PP:=st.headD (fls 0)
noncomputable def un0(n:Nat):LL:=n.rec [] fun i r=>(0::un i)::r
theorem KC(N:List Nat)(Z:List Int):∀n,n≤N.length→Ok (env Z N) (un0 n)
 | 0,_=>fun O m=>by cases m
 | n+1,h=>.cons (by rw[IJ,Mp Z N n h];exact Int.natCast_nonneg _) (KC N Z n (Nat.le_of_succ_le h))
noncomputable def dkp(N:List Nat)(Z:List Int)(c:Nat):PP:=top (rn (tkf N Z) (c % 128) (c / 128) [])
noncomputable def dks(N:List Nat)(Z:List Int)(c:Nat):Prop:=(dkp N Z c).1.2.2
noncomputable def dkc(N:List Nat)(Z:List Int)(c:Nat):Bool:=(dkp N Z c).2.2 false (un0 N.length) (fm (N.length+Z.length))
theorem JB(Z:List Int):∀N:List Nat,(env Z N).length=N.length+Z.length
 | []=>(Nat.zero_add _).symm
 | _::N=>(congrArg Nat.succ (JB Z N)).trans (Nat.succ_add _ _).symm
theorem dk(N:List Nat)(Z:List Int)(c:Nat)(h:dkc N Z c=true):dks N Z c:=Classical.byContradiction fun no=>by
 have r:Rp (env Z N) (dkp N Z c):=by
  have:=Os (OK N Z) (c % 128) (c / 128) [] .nil;show Rp _ (top _)
  cases e:rn (tkf N Z) (c % 128) (c / 128) []with
  | nil=>exact Mo 0
  | cons p st=>rw[e]at this;exact this p (.head _)
 obtain⟨cs,e,o⟩:=r.2 false _ _ no (KC N Z _ (Nat.le_refl _)) h;exact O9 _ cs o (by rw[JB];exact e)
end LA
theorem dk (N:List Nat) (Z:List Int) (c:Nat) (h:LA.dkc N Z c=true:=by kernel_rfl):LA.dks N Z c:=LA.dk N Z c h
@[elab_as_elim] theorem rwR {α:Sort _} {a b:α} {P:α→Prop} (h:a=b) (g:P b):P a:=h▸g
@[elab_as_elim] theorem rwL {α:Sort _} {a b:α} {P:α→Prop} (h:b=a) (g:P b):P a:=h▸g
theorem exE2{α β:Sort _}{p:α→β→Prop}{b:Prop}(h:∃x y,p x y)(f:∀x y,p x y→b):b:=h.elim fun x h=>h.elim fun y h=>f x y h
theorem VF{α β γ:Sort _}{p:α→β→γ→Prop}{b:Prop}(h:∃x y z,p x y z)(f:∀x y z,p x y z→b):b:=h.elim fun x h=>exE2 h fun y z h=>f x y z h
theorem VE{α β γ δ:Sort _}{p:α→β→γ→δ→Prop}{b:Prop}(h:∃x y z u,p x y z u)(f:∀x y z u,p x y z u→b):b:=h.elim fun x h=>VF h fun y z u h=>f x y z u h
theorem VD{α β γ δ ε:Sort _}{p:α→β→γ→δ→ε→Prop}{b:Prop}(h:∃x y z u v,p x y z u v)(f:∀x y z u v,p x y z u v→b):b:=h.elim fun x h=>VE h fun y z u v h=>f x y z u v h
theorem ay9{α β γ δ ε ζ:Sort _}{p:α→β→γ→δ→ε→ζ→Prop}{b:Prop}(h:∃x y z u v w,p x y z u v w)(f:∀x y z u v w,p x y z u v w→b):b:=h.elim fun x h=>VD h fun y z u v w h=>f x y z u v w h
theorem ay8{α β:Sort _}{p:α→β→Prop}(x:α)(y:β)(h:p x y):∃x y,p x y:=⟨x,y,h⟩
theorem ay7{α β γ:Sort _}{p:α→β→γ→Prop}(x:α)(y:β)(z:γ)(h:p x y z):∃x y z,p x y z:=⟨x,y,z,h⟩
theorem ay6{α β γ δ:Sort _}{p:α→β→γ→δ→Prop}(x:α)(y:β)(z:γ)(u:δ)(h:p x y z u):∃x y z u,p x y z u:=⟨x,y,z,u,h⟩
theorem ay5{α β γ δ ε:Sort _}{p:α→β→γ→δ→ε→Prop}(x:α)(y:β)(z:γ)(u:δ)(v:ε)(h:p x y z u v):∃x y z u v,p x y z u v:=⟨x,y,z,u,v,h⟩
theorem ay4{α β γ δ ε ζ:Sort _}{p:α→β→γ→δ→ε→ζ→Prop}(x:α)(y:β)(z:γ)(u:δ)(v:ε)(w:ζ)(h:p x y z u v w):∃x y z u v w,p x y z u v w:=⟨x,y,z,u,v,w,h⟩
theorem Fq{α:Type _}{P:List α→Prop}(h:∀a,P [a]):∀vs:List α,vs.length=1→P vs:=fun vs e=>by
 revert e
 cases vs with
 | nil=>exact fun e=>by simp at e
 | cons a vs=>
  cases vs with
  | nil=>exact fun O=>h a
  | cons y vs=>exact fun e=>by simp at e
theorem EH{α:Type _}{P:List α→Prop}(h:∀a b,P [a,b]):∀vs:List α,vs.length=2→P vs:=fun vs e=>by
 revert e
 cases vs with
 | nil=>exact fun e=>by simp at e
 | cons a vs=>
     cases vs with
  | nil=>exact fun e=>by simp at e
  | cons b vs=>
   cases vs with
   | nil=>exact fun O=>h a b
   | cons y vs=>exact fun e=>by simp at e
theorem IC{α:Type _}{P:List α→Prop}(h:∀a b c,P [a,b,c]):∀vs:List α,vs.length=3→P vs:=fun vs e=>by
 revert e
 cases vs with
 | nil=>exact fun e=>by simp at e
 | cons a vs=>
     cases vs with
  | nil=>exact fun e=>by simp at e
  | cons b vs=>
       cases vs with
   | nil=>exact fun e=>by simp at e
   | cons c vs=>
    cases vs with
    | nil=>exact fun O=>h a b c
    | cons y vs=>exact fun e=>by simp at e
theorem Nm{α:Type _}{P:List α→Prop}(h:∀a b c d,P [a,b,c,d]):∀vs:List α,vs.length=4→P vs:=fun vs e=>by
 revert e
 cases vs with
 | nil=>exact fun e=>by simp at e
 | cons a vs=>
     cases vs with
  | nil=>exact fun e=>by simp at e
  | cons b vs=>
       cases vs with
   | nil=>exact fun e=>by simp at e
   | cons c vs=>
         cases vs with
    | nil=>exact fun e=>by simp at e
    | cons d vs=>
     cases vs with
     | nil=>exact fun O=>h a b c d
     | cons y vs=>exact fun e=>by simp at e
theorem Vz{α:Type _}{P:List α→Prop}(h:∀a b c d e,P [a,b,c,d,e]):∀vs:List α,vs.length=5→P vs:=fun vs e=>by
 revert e
 cases vs with
 | nil=>exact fun e=>by simp at e
 | cons a vs=>
     cases vs with
  | nil=>exact fun e=>by simp at e
  | cons b vs=>
       cases vs with
   | nil=>exact fun e=>by simp at e
   | cons c vs=>
         cases vs with
    | nil=>exact fun e=>by simp at e
    | cons d vs=>
           cases vs with
     | nil=>exact fun e=>by simp at e
     | cons e vs=>
      cases vs with
      | nil=>exact fun O=>h a b c d e
      | cons y vs=>exact fun e=>by simp at e
section
variable {a b c d e f g k l m n p q r s:Nat}{x y z u v w:Int}
theorem a1:a≤b→c<a→c<b:=dk [a,b,c] [] 0x9a66b2d1ac345b2c0b
theorem a2:a<b→(a:Int)<(b:Int):=dk [a,b] [] 0x99c4324306b2c09
theorem a3:¬(a<b)→¬((a:Int)<(b:Int)):=dk [a,b] [] 0x9aa710c90c2a6b2c0b
theorem a4:a<b→a+1≤b:=dk [a,b] [] 0x996c894b06b2c09
theorem a5:(0:Int)<2^63:=dk [] [] 0x7400000000000000005403
theorem a6:a<b→a≤b:=dk [a,b] [] 0x996cb06b2c07
theorem a7:a≤b→a≤b:=dk [a,b] [] 0x996cb05b2c07
theorem a8:((-2^62):Int)≤(a:Int):=dk [a] [] 0x610c148000000000000000105
theorem a9:¬(a≤b)→b≤a:=dk [a,b] [] 0x265b0caa5b2c08
theorem a10:a<480→a<500:=dk [a] [] 0x99afa02c1af002c07
theorem a11:a=b→a≤b:=dk [a,b] [] 0x996cb07b2c07
theorem a12:¬(a<b)→b≤a:=dk [a,b] [] 0x265b0caa6b2c08
theorem a13:a+b<c→a+(b+1)≤c:=dk [a,b,c] [] 0x996d08252cb06b4232c0d
theorem a14:¬(a+b<c)→¬((a:Int)+(b:Int)<(c:Int)):=dk [a,b,c] [] 0x26a9c434210c90c2a6b4232c10
theorem a15:a+b<c→(a:Int)+(b:Int)<(c:Int):=dk [a,b,c] [] 0x26710d084324306b4232c0e
theorem a16:¬(a=0)→(0:Nat)<a:=dk [a] [] 0x266b142a7d0c08
theorem a18:(0:Int)≤0:=dk [] [] 0x651403
theorem a19:a≤6→a≤16777216:=dk [a] [] 0x99600000000020000001305dcc07
theorem a20:a<a+1:=Nat.lt_succ_self _
theorem a21:(0:Int)≤(a:Int)+(b:Int):=dk [a,b] [] 0x608432431407
theorem a22:Int.toNat ((a:Int)+(b:Int))=a+b:=dk [a,b] [] 0x1e232c12210c90c0a
theorem a23:(0:Int)≤(a:Int):=Int.natCast_nonneg _
theorem a24:((-1):Int)<0:=dk [] [] 0x1d415484
theorem a25:(0+0:Nat)≤a:=Nat.zero_le _
theorem a26:(10:Nat)≤100:=dk [] [] 0x163203903
theorem a27:a<100→a+1<480:=dk [a] [] 0x99af002252c1a3202c09
theorem a28:a+0≤b→a≤b:=dk [a,b] [] 0x996cb05b2250c09
theorem a29:a≤10→b≤50→c≤a+b→c≤16777216:=dk [a,b,c] [] 0x269a65800000000080000004d16232c3458640b25e4c11
theorem a30:a≤10→a≤16777216:=dk [a] [] 0x99600000000020000001305e4c07
theorem a31:((a+1:Nat):Int)=(a:Int)+1:=dk [a] [] 0x809490c10252c09
theorem a32:a<490→a<500:=dk [a] [] 0x99afa02c1af502c07
theorem a33:a<480→a+1<490:=dk [a] [] 0x99af502252c1af002c09
theorem a34:a<500→400+a<1000:=dk [a] [] 0x266fd0088c32009afa02c09
theorem a35:(0:Nat)<a+1:=Nat.succ_pos _
theorem a36:a≤6→a≤50:=dk [a] [] 0x2658640b05dcc07
theorem a37:((-2^63):Int)≤(-1):=dk [] [] 0x6154950000000000000000105
theorem a38:Int.toNat ((a:Int)-1)=a-1:=dk [a] [] 0x78b4b048b490c09
theorem a39:¬((2:Nat)≤a)→a<2:=dk [a] [] 0x266d4c2a5b1508
theorem a40:(0:Nat)≤a:=Nat.zero_le _
theorem a42:a+(b+1)≤c→a<c:=dk [a,b,c] [] 0x99ad305b42094b2c0b
theorem a43:a+(b+1)≤c→a+1+b≤c:=dk [a,b,c] [] 0x996d08c894b05b42094b2c0f
theorem a44:a≤b→b≤a→a=b:=dk [a,b] [] 0x9a67b2c16c325b2c0b
theorem a45:a<b→b+1-(a+1)<b+1-a:=dk [a,b] [] 0x99a2b0252c8a252c094b26b2c11
theorem a46:a=b→b≤a:=dk [a,b] [] 0x996c327b2c07
theorem a47:a≤a+b:=Nat.le_add_right _ _
theorem a48:a≤b→c+d≤a→c≤b:=dk [a,b,c,d] [] 0x9a65b2d16c08db45b2c0d
theorem a49:a≤6→a<2^62:=dk [a] [] 0x99a80000000000000001305dcc07
theorem a50:a<480→100+20*(a+1)<9900:=dk [a] [] 0x99a0000000000004d581080a06252c0c809af002c0c
theorem a52:(1:Int)≤(a:Int)+1:=dk [a] [] 0x18252431486
theorem a53:a≤b→a≤b+1:=dk [a,b] [] 0x996252cb05b2c09
theorem a54:a≤6→a≤10:=dk [a] [] 0x9979305dcc07
theorem a55:((-2^63):Int)≤0:=dk [] [] 0x194150000000000000000104
theorem a56:a≤b→¬(a<b)→a=b:=dk [a,b] [] 0x2699ecb0a9acb05b2c0c
theorem a57:a<470→a<500:=dk [a] [] 0x99afa02c1aeb02c07
theorem a58:a≤b→c≤d∧e≤f∧g≤k∧f+l≤a→e<f→f-1<b:=dk [k,d,c,e,a,l,g,b,f] [] 0x9a699af8b4c06c0da28a25b823b016c3c5c0d96cb45bee1f
theorem a59:a<b→(0:Int)≤(b:Int)-1:=dk [a,b] [] 0x2660b490cd06b2c0a
theorem a60:a≤50→b≤a→c+d<b→(c:Int)+(d:Int)<2^63:=dk [a,b,c,d] [] 0x269a67400000000000000004210d90d1ac88db45b0c961902c15
theorem a61:max (a:Int) ((b:Int)-(c:Int))=((max a (b-c):Nat):Int):=dk [a,b,c] [] 0x81038ad32c0e290d10c90c0f
theorem a62:min (a:Int) ((b:Int)+(c:Int))=((min a (b+c):Nat):Int):=dk [a,b,c] [] 0x810308d32c0c210d10c90c0f
theorem a63:a≤b→c=b+1→a≤c:=dk [a,b,c] [] 0x9a65b4c1e252cb45b2c0d
theorem a64:x<y→y-x=((Int.toNat (y-x):Nat):Int)-((0:Nat):Int):=dk [] [x,y] 0x2680a4504122b0c8ac32732c10
theorem a65:¬(x<y)→(0:Int)=((Int.toNat (y-x):Nat):Int)-((0:Nat):Int):=dk [] [x,y] 0x9a029141048ac3342a732c0f
theorem a66:a<b→a<b+1:=dk [a,b] [] 0x99a252cb06b2c09
theorem a67:a≤b→a+1≤b+1:=dk [a,b] [] 0x996252c894b05b2c0b
theorem a68:a<b→a≤b-1:=dk [a,b] [] 0x9962d2cb06b2c09
theorem a69:a<b+1→¬(a=b)→a<b:=dk [a,b] [] 0x2699acb0a9ecb06894b2c0e
theorem a70:¬(a≤b)→b<a:=dk [a,b] [] 0x266b0caa5b2c08
theorem a71:a-b=0→a≤b:=dk [a,b] [] 0x996cb07d02b2c09
theorem a72:a-b≤a-b:=Nat.le_refl _
theorem a73:(0:Int)≤x∧x<4→Int.toNat x<4:=dk [] [x] 0x266d84b089d63063140c
theorem a74:(1:Nat)≤1:=dk [] [] 0x5d3483
theorem a75:a≤7→a≤16777216:=dk [a] [] 0x99600000000020000001305dec07
theorem a76:a≤100→b<a→(b:Int)<2^63:=dk [a,b] [] 0x9a674000000000000000044326b0c963202c0c
theorem a77:(a:Int)+1=((a+1:Nat):Int):=dk [a] [] 0x810252c09490c09
theorem a79:¬(a=0)→a-1<a:=dk [a] [] 0x266b02d2c2a7d0c0a
theorem a80:a≤50→b≤a→c≤d∧e≤f∧g≤k∧f+l≤b→(f:Int)-1<2^63:=dk [a,b,c,d,e,f,g,k,l] [] 0x9a699d000000000000000010b490ea28a25b2240e96fbc5bae16db45b0c961902c20
theorem a81:a+b≤17→a≤16777216:=dk [a,b] [] 0x99600000000020000001305f2232c09
theorem a82:a=b→(2:Nat)≤b→¬(a<2):=dk [a,b] [] 0x269aa6d4c16cd47b2c0c
theorem a83:a=b→¬((2:Nat)≤b)→¬((2:Nat)≤a):=dk [a,b] [] 0x9a6a96c54a96cd47b2c0d
theorem a84:a≤6→b=a→b≤6:=dk [a,b] [] 0x9a65dcc9ec325dcc0b
theorem a85:a≤6→b=a→b≤16777216:=dk [a,b] [] 0x9a65800000000080000004c9ec325dcc0b
theorem a86:(0:Nat)≤0+a:=Nat.zero_le _
theorem a91:a-0-b≤a-0:=Nat.sub_le _ _
theorem a93:a≤2*b→c≤2→c+a≤2*(b+1):=dk [a,b,c] [] 0x9a658041894b2230d1753458041b2c11
theorem a94:a≤20→b=a→b≤100000:=dk [a,b] [] 0x9a65800000000000c35004c9ec325f8c0b
theorem a95:a≤20→b≤2*a→b≤16777216:=dk [a,b] [] 0x9a65800000000080000004c960106c325f8c0c
theorem a96:a+(b+1)=a+1+b:=dk [a,b] [] 0x788c894b02094b2c0b
theorem a97:min a b≤b:=Nat.min_le_right _ _
theorem a98:a≤10→a<2^62:=dk [a] [] 0x99a80000000000000001305e4c07
theorem a99:a≤10→min b a-c≤16777216:=dk [a,b,c] [] 0x996000000000200000010ad0cc325e4c0b
theorem Va:a≤10→min b a-c≤10:=dk [a,b,c] [] 0x99790ad0cc325e4c0b
theorem UZ:a+(b+1)=c+(d+1)→a+b=c+d:=dk [a,b,c,d] [] 0x99e236d08cb0788252db42094b2c13
theorem UY:(0+1:Nat)≤a+1:=Nat.le_add_left _ _
theorem UX:a≤b→0+1+a≤b+1:=dk [a,b] [] 0x996252c88c094d05b2c0d
theorem UW:a<0+1→b+(c+1)-(0+1)+a=b+c:=dk [a,b,c] [] 0x99e234c88c0a253408252d326894d0c15
theorem UU:a<0+1→b+1-(0+1)+a=b:=dk [a,b] [] 0x99ec88c0a2534094b26894d0c11
theorem UT:(0:Nat)<a→a-1<a:=dk [a] [] 0x99ac0b4b06b1409
theorem US:(0:Nat)<a→b+a=c+1∧d≤e→b+(a-1)=c:=dk [e,d,c,b,a] [] 0x9a67b420b4b8da25b0c9e252d08e366b9417
theorem UR:a<b→b+c≤d→b-1+(c+1)≤d:=dk [a,b,c,d] [] 0x9a65b62094b42d2c96d88d326b2c13
theorem UQ:a=b∧c+1≤d+e→c≤d+(e-1):=dk [a,b,c,d,e] [] 0x99620b4b8db4896238d894b47b2c13
theorem Rw:a≤b→a≤b+c:=dk [a,b,c] [] 0x996234cb05b2c09
theorem UP:(0:Nat)<a→b+a≤c→b+(a-1)<c:=dk [a,b,c] [] 0x9a66b420b4b0c96d08c326b1411
theorem UO:a<b→c>0→b-1+c=b+(c-1):=dk [a,b,c] [] 0x9a67882d2d322342d2c9ad506b2c13
theorem UN:a+1≤a→False:=dk [a] [] 0x9ac5b0252c07
theorem UM:a≤a+1:=Nat.le_add_right _ _
theorem UL:a<b→c<a+1→b≤c→False:=dk [a,b,c] [] 0x9a69ac5b4c9a252c346b2c0f
theorem UK:a=b+c+1∧d=e→a=b+(c+1):=dk [a,b,c,d,e] [] 0x99e2094b4cb089ee36789488d32c13
theorem Od:a<b∨a=b∧c<d+1→¬(a=b∧c=d)→a<b∨a=b∧c<d:=dk [d,c,a,b] [] 0x269a489ac327b6d1adb4aa27b0c9edb49226894b0c9edb46b6d22
theorem UJ:a<b→c≤a∧(c=a→d<e∨d=e∧f≤g)→c≤b:=dk [a,b,c,d,e,f,g] [] 0x9a65b2d229a4896f3a7b8d9ae367b0d16c346b2c1b
theorem UI:¬(a<b)→c≤b→c≤a:=dk [a,b,c] [] 0x26996c345b2d2a6b2c0c
theorem ay2:a-b-c≤a-b:=Nat.sub_le _ _
theorem ay1:a+b≤c→a≤c:=dk [a,b,c] [] 0x996d305b4232c09
theorem ay0:(0:Nat)≤a-b:=Nat.zero_le _
theorem UH:a≤6→2*a≤12:=dk [a] [] 0x997a0041b05dcc08
theorem UG:a≤6→b≤a→c+d<b→(c:Int)+(d:Int)<2^63:=dk [a,b,c,d] [] 0x9a699d00000000000000001084364346b2236d16c325dcc15
theorem UF:a=b+(c+1)→b<a:=dk [a,b,c] [] 0x99ac32788252d32c0b
theorem UE:a≤13→a=b+c→b≤13:=dk [a,b,c] [] 0x9a65eac9e234cb05eac0d
theorem UD:¬((a:Int)<0):=dk [a] [] 0xa9d410c05
theorem ax9:a≤10→a=b+c→b≤10:=dk [a,b,c] [] 0x9a65e4c9e234cb05e4c0d
theorem UC:a<3→(a:Int)<2^63:=dk [a] [] 0x2674000000000000000044306d6c08
theorem UB:((-2^63):Int)≤1:=dk [] [] 0x194950000000000000000104
theorem UA:(1:Int)<2^63:=dk [] [] 0x7400000000000000005483
theorem U9:a<300→a+2<490:=dk [a] [] 0x99af502254c1a9602c09
theorem U8:a≤b→b≤900→a≤10000:=dk [a,b] [] 0x269960000000000004e201305f080b25b2c0b
theorem U7:a≤900→a-b≤10000:=dk [a,b] [] 0x2658000000000001388042b2c17c202c09
theorem U6:a≤30→a≤1000:=dk [a] [] 0x997f402c160f02c07
theorem U5:a≤100000→a≤16777216:=dk [a] [] 0x99600000000020000001305800000000000c35004c07
theorem U4:a≤b→a+0≤b:=dk [a,b] [] 0x996c894305b2c09
theorem U3:a+b≤c→d<b→a+d<c:=dk [a,b,c,d] [] 0x9a66b4236c1acb65b4232c0f
theorem U2:a+1+b=a+(b+1):=dk [a,b] [] 0x788252cb0232252c0b
theorem U1:a≤b→a+(b-a)≤b:=dk [a,b] [] 0x996c882b0cb05b2c0b
theorem U0:a≤b+(a-b):=dk [a,b] [] 0x5882b2c32c07
theorem Uz:a≤b→a-b=0:=dk [a,b] [] 0x99f40acb05b2c09
theorem Uy:a+(b+1)≤c→a+b<c:=dk [a,b,c] [] 0x99ad08cb05b42094b2c0d
theorem Ux:a=b→a+c=b+c:=dk [a,b,c] [] 0x99e234c88d307b2c0b
theorem Uw:a≤b+c→b<d→a<d+c:=dk [a,b,c,d] [] 0x9a6688d36c1adb2588d32c0f
theorem Uv:a<b+c→a≤b-1+c:=dk [a,b,c] [] 0x9962342d2cb0688d32c0d
theorem Uu:a≤b→a-1≤b+c:=dk [a,b,c] [] 0x996234c8b4b05b2c0b
theorem Ut:1+a=a+1:=Nat.add_comm _ _
theorem Us:a≤8→2*a≤16:=dk [a] [] 0x997c0041b05e0c08
theorem Ur:a=b+c→b≤a:=dk [a,b,c] [] 0x996c32788d32c09
theorem Uq:a≤12→b≤min c a→b≤900:=dk [a,b,c] [] 0x26997c202c96330d325e8c0d
theorem ax8:a<2^62→(a:Int)<2^63:=dk [a] [] 0x2674000000000000000044306a00000000000000004c08
theorem Up:(0:Int)≤x→(0:Int)≤x+1:=dk [] [x] 0x998252c50631409
theorem Uo:(0:Int)≤x→(0:Int)≤x:=dk [] [x] 0x998c50631407
theorem Un:(0:Int)≤x∧x<3→x=((Int.toNat x:Nat):Int):=dk [] [x] 0x9a0412c3089d5b063140d
theorem Um:a≤4→a≤16777216:=dk [a] [] 0x99600000000020000001305d8c07
theorem Ul:a≤6→a≤20:=dk [a] [] 0x997e305dcc07
theorem Uk:(1:Nat)≤a→(-(a:Int))≤(-1):=dk [a] [] 0x266154944305b148a
theorem ax7:(1:Nat)≤a+1:=Nat.le_add_left _ _
theorem Uj:a≤3→a+1≤10:=dk [a] [] 0x9979094b05d6c09
theorem Ui:(220:Nat)≤10000:=dk [] [] 0x160000000000004e2011b8083
theorem Uh:a≤2→a≤10:=dk [a] [] 0x9979305d4c07
theorem Ug:a<100→100+20*(a+1)<9900:=dk [a] [] 0x99a0000000000004d581080a06252c0c809a3202c0c
theorem Uf:(0:Int)≤x→¬(x=0)→(1:Int)≤x:=dk [] [x] 0x26998c52aa143063140c
theorem Ue:a≤6→b≤a+1→b=c+d→c≤7:=dk [a,b,c,d] [] 0x9a69977b4788db4c96252c325dcc13
theorem Ud:¬(a+b=c)→¬((a:Int)+(b:Int)=(c:Int)):=dk [a,b,c] [] 0x26aa0434210c90c2a7b4232c10
theorem Uc:a+b=c→(a:Int)+(b:Int)=(c:Int):=dk [a,b,c] [] 0x26810d084324307b4232c0e
theorem Ub:a≤30→a≤100:=dk [a] [] 0x9963202c160f02c07
theorem Ua:a≤100→a<2^62:=dk [a] [] 0x266a00000000000000004c163202c07
theorem TZ:a≤100→(a:Int)<2^62:=dk [a] [] 0x99c8000000000000000110c163202c08
theorem TY:a≤100→Int.toNat ((a:Int)-0)≤16777216:=dk [a] [] 0x26580000000008000000448b410c163202c0b
theorem TX:(900:Nat)≤10000:=dk [] [] 0x160000000000004e201708083
theorem TW:¬(a<b)→b-a=0:=dk [a,b] [] 0x267d02b0caa6b2c0a
theorem TV:¬(a=0)→b<b+a:=dk [a,b] [] 0x26688c32caa7d0c0a
theorem TU:a+b=a+(c+b-c):=dk [a,b,c] [] 0x7882b4232d30232c0b
theorem TS:a=b→c=d→a<b∨c<d→False:=dk [a,b,c,d] [] 0x9a69ac91adb46b2c1edb47b2c11
theorem TR:a=1→a=0→b<c∨d<e:=dk [a,b,c,d,e] [] 0x9a691ae366b4c9f4307d2c0f
theorem TQ:a≤b∧c≤d∧b<e∧d<f→a≤b∧c≤d∧b<e∧d<f:=dk [a,b,c,d,e,f] [] 0x9a28a26bad9ae325b6d16cb08a289aeb66b8c96db45b2c1f
theorem TP:a≤50→a≤100000:=dk [a] [] 0x265800000000000c35004c161902c07
theorem TN:a≤10000→a+1≤100000:=dk [a] [] 0x9960000000000030d401094b05800000000000138804c09
theorem TM:a≤10000→a≤100000:=dk [a] [] 0x9960000000000030d401305800000000000138804c07
theorem TL:a≤900→min b a≤900:=dk [a,b] [] 0x997c202330c97c202c09
theorem TK:a≤900→min b a-c≤900:=dk [a,b,c] [] 0x997c2022b4330c97c202c0b
theorem TJ:a≤900→a≤16777216:=dk [a] [] 0x265800000000080000004c17c202c07
theorem TH:a≤900→a+1≤1900:=dk [a] [] 0x26580000000000003b604252c17c202c09
theorem TF:a≤900→a≤100000:=dk [a] [] 0x265800000000000c35004c17c202c07
theorem TE:a=1→b≤10→b+a≤16777216:=dk [a,b] [] 0x9a65800000000080000004230c979327d2c0d
theorem TD:a≤900→a≤1900:=dk [a] [] 0x26580000000000003b604c17c202c07
theorem TC:a=1→b≤10→c≤10→b+a+c≤16777216:=dk [a,b,c] [] 0x9a69960000000002000000108d08c325e4d179327d2c13
theorem TB:a+b+c≤d→a+(c+b)+0≤d:=dk [a,b,c,d] [] 0x996d89408232d305b6234232c11
theorem T9:a+b+1=a+(b+1):=Nat.add_assoc _ _ _
theorem ax6:a≤b→b≤50→a≤16777216:=dk [a,b] [] 0x26996000000000200000013058640b25b2c0b
theorem T8:a<470→a+1<480:=dk [a] [] 0x99af002252c1aeb02c09
theorem T7:a<470→a+2<500:=dk [a] [] 0x99afa02254c1aeb02c09
theorem T6:(0:Int)≤(a:Int)+1:=dk [a] [] 0x18252431406
theorem T5:a>0→b≤c→c+a≤d→b<d:=dk [a,b,c,d] [] 0x9a699adb25b6230d16d326b1411
theorem Rv:a<b→a<b:=dk [a,b] [] 0x99acb06b2c07
theorem T4:a≤b-0→a≤b:=dk [a,b] [] 0x996cb058b432c09
theorem T3:a-b<c+1→¬(d=0)→b≤e→e+d≤a→e-b<c:=dk [c,a,e,b,d] [] 0x269a699ac0adb45b2238d16d36a9f4386894b02b6c9c
theorem T1:a-b<c+1→¬(d=0)→b≤e→e+d≤a→a-(e+d)<c:=dk [c,b,a,e,d] [] 0x269a699ac0a238db45b4238d96db2a9f4386894b02b2d1e
theorem T0:a+b≤c→d≤a→d≤c:=dk [a,b,c,d] [] 0x9a65b4d96c365b4232c0d
theorem Oc:a≤b→b+c≤d→a≤d:=dk [a,b,c,d] [] 0x9a65b6c16d88d325b2c0d
theorem Tz:a=b→c<a→c<b:=dk [a,b,c] [] 0x9a66b2d1ac347b2c0b
theorem Ty:a≤10→b≤50→c≤a+b→d≤1→min e c+d≤16777216:=dk [a,b,c,d,e] [] 0x269a69960000000002000000108d8cd385d2d96232c3458640b25e4c19
theorem Tx:a≤10→b≤50→c≤a+b→d≤1→min e c+d+(c-f)≤16777216:=dk [e,f,b,d,a,c] [] 0x269a699600000000020000001082b2e88d8ceb05d2d96234e3a58640b45e4e1d
theorem Tw:a≤b→c≤d∧e≤f∧d+g≤a∧k≤l→c<d→d-1<b:=dk [l,f,k,c,e,b,g,a,d] [] 0x9a699ae8b4c06c0da28a25b0d16f88f405b2e170365baf9f
theorem Tv:a<480→a+4<500:=dk [a] [] 0x99afa02258c1af002c09
theorem Tu:a≤b→min a c≤b:=dk [a,b,c] [] 0x996c8cd305b2c09
theorem Tt:a=b+c→c=a-b:=dk [a,b,c] [] 0x99e2b2c34788d32c0b
theorem ax5:a+(b+1)≤17→a+1+b≤17:=dk [a,b] [] 0x997c88c894b05f22094b2c0f
theorem ax4:a≤b+1→b≤c→a≤c+1:=dk [a,b,c] [] 0x9a65894b4c16d325894b2c0f
theorem ax3:a≤100→b≤a+1→b≤16777216+1:=dk [a,b] [] 0x2699625200000000020000001325894b0c963202c0f
theorem ax2:(0:Nat)<a→(0:Nat)=a→False:=dk [a] [] 0x9a6b1ec506b1409
theorem ax1:¬(a+a<min b c-max d (b-a)):=dk [c,b,d,a] [] 0x2a68a38adb2d0cc32236d8e
theorem ax0:max 0 (a-b)=0+(a-0-b):=dk [b,a] [] 0x7882b02d0cd038ac3340d
theorem aw9:a=0+b→max 0 (a-c)=0+(b-c):=dk [c,b,a] [] 0x99e20ac3340e2b0d50788cd0d11
theorem aw8:0+(a-b)≤0+a:=dk [a,b] [] 0x588c5020acb1409
theorem aw7:¬(a+a<b-max 0 (b-a)):=dk [a,b] [] 0x2a68a38ac33432230c0c
theorem aw6:a=2→a+(b+0)≤b+2:=dk [a,b] [] 0x996254c88250cb07d4c0d
theorem aw5:a+0≤a+2:=dk [a] [] 0x589530250c07
theorem aw4:a≤b+2*c→d≤e+2→d+a≤e+b+2*(c+1):=dk [a,b,c,d,e] [] 0x9a65880106252d08cb8230d96254e365880106d32c19
theorem aw3:a<480→a+1<500:=dk [a] [] 0x99afa02252c1af002c09
theorem aw2:a≤20→a=b+c→b≤20:=dk [a,b,c] [] 0x9a65f8c9e234cb05f8c0d
theorem aw1:a≤20→b≤2*a→b+1≤16777216:=dk [a,b] [] 0x9a65800000000080000004252c960106c325f8c0e
theorem aw0:a≤20→b≤10000→c≤b+2*a→c+d*0≤16777216:=dk [a,b,c,d] [] 0x9a699600000000020000001080000db45880106c32d160000000000004e201325f8c15
theorem av9:0+a≤a:=dk [a] [] 0x5b0231405
theorem av8:(3:Nat)≤16777216:=dk [] [] 0x5800000000080000005583
theorem av7:a=3→a<1000:=dk [a] [] 0x266fd00b07d6c07
theorem av6:a≤b→c≤d→d≤a→c≤b:=dk [a,b,c,d] [] 0x9a6996cb45b0d96db45b2c0f
theorem av5:a≤10→a+1≤16777216:=dk [a] [] 0x99600000000020000001094b05e4c09
theorem av4:a≤10→a+1=b+(c+1)→b≤10:=dk [a,b,c] [] 0x9a65e4c9e2094b4c894b05e4c11
theorem av3:a≤10→b≤10→a+b≤16777216:=dk [a,b] [] 0x9a65800000000080000004232c179325e4c0d
theorem av2:a≤21*b→b≤10→c≤10→d≤10→a+(c+d)≤16777216:=dk [a,b,c,d] [] 0x9a69a65800000000080000004208db4c179365e4d17932582a1b2c18
theorem av1:min (a+1) b-a≤10:=dk [a,b] [] 0x5e42b0332252c09
theorem av0:a≤21*b→b≤10→c≤10→d≤10→e≤10→a+(c+d)+e≤16777216:=dk [a,b,c,d,e] [] 0x9a69a69960000000002000000108e08236d305e4e179365e4d17932582a1b2c1e
theorem au9:min (a+1) b-a≤1:=dk [a,b] [] 0x5d22b0332252c09
theorem au8:a≤21*b→c≤10→d≤10→e≤1→a+(c+d+e)≤21*(b+1):=dk [a,b,c,d,e] [] 0x9a69a6582a1894b2208e08db4c174b85e4d97934582a1b2c1d
theorem au7:x<(a:Int)→a≤16777216→x<2^63:=dk [a] [x] 0x2699d00000000000000001305800000000080000004c1c430c0c
theorem au6:(a:Int)<(b:Int)→a<b:=dk [a,b] [] 0x99acb0710c90c09
theorem au5:a=b→c=b→a≤c:=dk [a,b,c] [] 0x9a65b4c1ecb47b2c0b
theorem au4:a=b→c=b→c≤a:=dk [a,b,c] [] 0x9a65b0d1ecb47b2c0b
theorem au3:a≤b→b+c=a+0→c≤d:=dk [a,b,c,d] [] 0x9a65b6d1e250c08d325b2c0f
theorem au2:a+(b+1)=c+1→a+b=c:=dk [a,b,c] [] 0x99ed08cb07894b42094b2c0f
theorem au1:a≤b→b+(c+1)=d+1→a≤d:=dk [a,b,c,d] [] 0x9a65b6c1e252d88252d325b2c11
theorem au0:a+b=c+1→c=0→b≤0+1:=dk [a,b,c] [] 0x9a65894d0c9f4347894b4232c11
theorem at9:a=0→a+1≤b+1:=dk [a,b] [] 0x996252c894b07d0c0b
theorem at8:a+(b+1)=c+1→b>0→a+b=c-1+1:=dk [a,b,c] [] 0x9a678948b4b4232c1acd07894b42094b2c17
theorem at7:a<b→a-1<b:=dk [a,b] [] 0x99ac8b4b06b2c09
theorem at6:¬(a=0)→b+c≤a-1+1→b+1+c≤a+1:=dk [a,b,c] [] 0x26996252c08d094b258948b4b0234caa7d0c18
theorem at5:a+(b+1)-(c+1)+d=a+b-c+d:=dk [a,b,c,d] [] 0x788d8ad08cb02362894b42094b2c13
theorem at4:a>0→b+1-(a+1)+c=b-1+1-a+c:=dk [c,b,a] [] 0x99e2302b42522d2c88c0a252d094b26b5417
theorem at3:a≤b→c<a+1→¬(c<a)→d+(b+1)-(a+1)+c=d+b:=dk [b,c,a,d] [] 0x269a6788c362322894b42094b0daa6b4c9a252d325b0d1e
theorem at2:¬(a=0)→b+c≤a-1+1→d<b+1→¬(d<b)→a+1-(b+1)+d=a:=dk [c,d,b,a] [] 0x9a69a67b62322894b4252daa6b4c9a252d3258948b4b6230d2a7d0da5
theorem at1:a<b∨a=b∧c<d→a<b+1∨a=b+1∧c<0+1:=dk [a,b,c,d] [] 0x9a489a2534347894b2c1a252cb09226b6d1ecb06b2c1d
theorem at0:a≤b→c<d∨c=d∧e<a+1→c<d∨c=d∧e<b+1:=dk [e,b,a,c,d] [] 0x9a69226894b2c1ee366b8da489a252d307b8d9ae365b2d1f
theorem as9:a<b→b=a→False:=dk [a,b] [] 0x9a6b1ec326b2c09
theorem as8:a≤b→c≤a→c<b+1∨c=b+1∧d<0+1:=dk [a,b,c,d] [] 0x9a69226894d0d9e252cb46894b2d16c345b2c19
theorem as7:a<b→a=b→False:=dk [a,b] [] 0x9a6b1ecb06b2c09
theorem as6:a<b→b<a→False:=dk [a,b] [] 0x9a6b1ac326b2c09
theorem as5:a≤b→(0:Nat)<c→b+c<a+1∨b+c=a+1∧d+c<0+1→c≤e∧(c=e→f<b∨f=b∧g≤d):=dk [f,e,b,a,g,d,c] [] 0x9a69a29a4896eb87b4c1ad307b2f16cbc9226894d023ce9e252d88f346894b623cd1af505b4db3
theorem as4:a<0→(0:Nat)=b:=dk [a,b] [] 0x99ecd06d0c07
theorem as3:a=b∧c=d→b≤a:=dk [a,b,c,d] [] 0x996c3289edb47b2c0b
theorem as2:a=b∧c=d→d≤c:=dk [a,b,c,d] [] 0x996d3689edb47b2c0b
theorem as1:a<b+1→a>0→a-1<b:=dk [a,b] [] 0x9a66b22d2c1ac506894b2c0f
theorem as0:(0:Nat)<a→b<c∨b=c∧d+a<e+1→b=c∧f≤d+a→d+(a-1)<e:=dk [d,c,b,e,f,a] [] 0x9a699ad882d2eb089623ac387b2d2489a252d88eb07b2d1acb46bb425
theorem ar9:a<b∨a=b∧c<d→¬(a=b∧e≤c)→a<b∨a=b∧c<e:=dk [d,c,e,a,b] [] 0x269a489ad327b8d9ae36aa25b2d1ee369226b0c9ee366b8da0
theorem ar8:a≤b→b≤c→c<a→False:=dk [a,b,c] [] 0x9a69ac6b0d16d325b2c0d
theorem ar7:(0:Nat)<a→b<c+1∨b=c+1∧d+a<0+1→¬(b=c∧e≤d+a)→b<c∨b=c∧d+a<e:=dk [e,d,a,b,c] [] 0x269a69226b0234c9ee366b8daa896234cb07b8da489a253408d327894b8d9a252e366b5430
theorem ar6:a≤b→¬(c<b)→c<a→False:=dk [a,b,c] [] 0x269a6b1ac34a9acb45b2c0e
theorem ar5:a+1=b→(0:Nat)<b:=dk [a,b] [] 0x99acd07b2252c09
theorem ar4:a+1≤b→¬(b=a):=dk [a,b] [] 0x26a9ec325b2252c0a
theorem ar3:a+1=b→b=0→c=d∧e=f:=dk [a,b,c,d,e,f] [] 0x9a689eeb87b6d1f4327b2252c11
theorem ar2:a≤b+1→c≤c+b+1-a:=dk [a,b,c] [] 0x9962b0252232d345894b2c0f
theorem ar1:a+b≤c→b≤c-a:=dk [a,b,c] [] 0x9962b0d325b4232c0b
theorem ar0:a+b<c→d≤b+1→a+b+1-d+d≤c:=dk [a,b,c,d] [] 0x9a65b42362b6252232c16252cb66b4232c17
theorem aq9:¬(a≤b)→c+d≤b+1→b+1-c+c≤a:=dk [a,b,c,d] [] 0x26996c08d0ad094b25894b2236d2a5b2c16
theorem aq8:a≤b+1→a+c≤d→e+b+1-a+a<e+b+1∨e+b+1-a+a=e+b+1∧d-a+a<d+1:=dk [d,e,a,b,c] [] 0x9a69226894b02342b4c1e252236c88d0ad09488db2689488db22342b4252236c96c08e345894b6d35
theorem aq7:a+b+1-c+d=a+(b+1)-c+d:=dk [a,b,c,d] [] 0x788d8ad08252cb02362b4252232c13
theorem aq6:a+b=c∧d+b=e→b=f→c-f<a∨c-f=a∧e-f≤d:=dk [e,d,a,c,f,b] [] 0x9a69225b22b8c1ed0ae366b42b8d9ee3a89ec08eb27b623ad21
theorem Ts:a<b→c≤a∧(c=a→d<e∨d=e∧f≤g)→c=b→k<e∨k=e∧l≤g:=dk [l,k,e,b,a,d,f,g,c] [] 0x9a69a4896fb07b4c9ad327b70229a4896fbc7b4e9ad3a7b9016e406b6e27
theorem Tr:a<b∨a=b∧c<d→a<b∨a=b∧c<d+1:=dk [a,b,c,d] [] 0x9a489a252db47b2c1acb09226b6d1ecb06b2c19
theorem aq5:a+1=b→¬(c<b)→(0:Nat)<c:=dk [a,b,c] [] 0x2699ad50a9acb47b2252c0e
theorem aq4:a+b=c∧d+b=e→b=f→g+f<c∨g+f=c∧k+f<e→g<a∨g=a∧k≤d:=dk [g,c,k,d,e,a,b,f] [] 0x9a69a4896db47bac1aeb09226b823ed1ec88fb06b223ec1efbc89ee08f367b223cead
theorem aq3:a<b→c<d→a≤b∧c≤d∧(0:Nat)<e+(d-c):=dk [a,b,c,d,e] [] 0x9a68a26882b4db9416db45b2c1adb46b2c17
theorem aq2:a<b→c=d→a≤b∧c≤d∧(0:Nat)<b-a+e:=dk [a,b,c,d,e] [] 0x9a68a2688e0ac33416db45b2c1edb46b2c17
theorem aq1:a=b→c<d→a≤b∧c≤d∧(0:Nat)<e+(d-c):=dk [a,b,c,d,e] [] 0x9a68a26882b4db9416db45b2c1adb47b2c17
theorem aq0:a-b=0→b≤a→b=a:=dk [a,b] [] 0x9a67b0c96c327d02b2c0d
theorem ap9:a<b→min b (a+c)=a+min (b-a) c:=dk [c,b,a] [] 0x99e20cc0ad32d0c230d326b2d11
theorem ap8:a=b+c→min a (b+d)=b+min c d:=dk [d,c,a,b] [] 0x99e20cc32d8c230db4788cb6d11
theorem ap7:a≤a+min (b-c) d:=Nat.le_add_right _ _
theorem ap6:a+b=c→a+min b d≤c:=dk [a,b,c,d] [] 0x996d08336cb07b4232c0d
theorem Tq:a=b→c<b→c<a:=dk [a,b,c] [] 0x9a66b0d1acb47b2c0b
theorem ap5:a+b=c→d<c→(d<a+e↔d<a+min b e):=dk [c,b,e,d,a] [] 0x9a6a1a20cd32e36688d38d9ac367b0232e17
theorem ap4:a+a<b→a≤b:=dk [a,b] [] 0x996cb06b2230c09
theorem ap3:a+a<b-c→min b (c+a)=c+a:=dk [b,c,a] [] 0x99e234c8c234cb068acb0234d11
theorem ap2:a=b+c→d+d<c→min a (b+d)=b+d:=dk [a,b,c,d] [] 0x9a6788db2308db2c1ad08db6788d32c15
theorem ap1:max a (b-c)=a+(b-a-c):=dk [a,b,c] [] 0x7882b42b0cb038ad32c0d
theorem ap0:a=b+c→max b (a-d)=b+(c-d):=dk [d,c,a,b] [] 0x99e20ac32d8e2b0d36788cb6d11
theorem ao9:a+(b-c)≤a+b:=dk [a,b,c] [] 0x588cb020ad32c09
theorem ao8:a+a<b→c+a<c+(b-a):=dk [a,b,c] [] 0x99a20ac32d08c346b2230c0f
theorem ao7:a≤b→a+c≤b+d→a+(c-d)≤b:=dk [a,b,c,d] [] 0x9a65b220adb4c16236c88d305b2c13
theorem ao6:a+(b-c)≤d→a+b≤d+c:=dk [a,b,c,d] [] 0x996234d88cb05b620ad32c0f
theorem ao5:a<b→b=a+(b-a):=dk [a,b] [] 0x99e20ac32c326b2c0b
theorem ao4:¬(a+a<b)→c<d+a∨d+b≤c+a:=dk [a,b,c,d] [] 0x26916230d08cb6688c36d2a6b2230c14
theorem ao3:a≤13→a=b+(2*(c-d)+1)→(0:Nat)<e→d≤f→f+e≤c→g=b+(2*(f-d)+1+(2*(c-(f+e))+1))→g≤13:=dk [g,b,a,f,c,d,e] [] 0x9a69a69a65eac1e2082520106288f36e09480418aeb6cb05b823cd96dba6bd41e209480418aeb8cb45ead34
theorem ao2:a+b+(c+(d+e))=a+(c+(d+b+e)):=dk [a,b,c,d,e] [] 0x788208e08cb6d30208238db4232c13
theorem ao1:a≤b→a+1≤c+1+b:=dk [a,b,c] [] 0x996232252d094b05b2c0d
theorem ao0:a<480→100+20*(a+1+2)<9900:=dk [a] [] 0x99a0000000000004d581080a06254252c0c809af002c0e
theorem an9:a<b→¬((a:Int)=(b:Int)):=dk [a,b] [] 0x26aa04324306b2c0a
theorem an8:a≤b→¬(a+1≤b)→a=b:=dk [a,b] [] 0x2699ecb0a96c894b05b2c0e
theorem an7:¬((0:Nat)<a)→¬((0:Int)<(a:Int)):=dk [a] [] 0x26a9c43142a6b140a
theorem an6:¬((0:Nat)<a)→a=0:=dk [a] [] 0x267d0c2a6b1408
theorem an5:(0:Nat)<a→(0:Int)<(a:Int):=dk [a] [] 0x26710c506b1408
theorem an4:a≤6→b≤a→c+d≤b→(d:Int)<2^62:=dk [a,b,c,d] [] 0x269a672000000000000000044365b2236d16c325dcc12
theorem an3:a≤6→b≤a→c+d≤b→Int.toNat ((d:Int)-0)≤16777216:=dk [a,b,c,d] [] 0x9a699600000000020000001122d04365b2236d16c325dcc15
theorem an2:a≤6→b≤a→c≤6→d+e=c→f+g≤b→d+g≤16777216:=dk [a,b,c,d,e,f,g] [] 0x9a69a69960000000002000000108f365b223ce9ed08e365dcd16c325dcc1d
theorem an1:a=b+(2*(c-d)+1)→(0:Nat)<e→d≤f→f+e≤c→g=b+(2*(f-d)+1+(2*(c-(f+e))+1))→g<a:=dk [a,g,b,c,e,f,d] [] 0x9a69a699ac32788209480418a238eb625201062bceb4c96d88e3a5baf1ae5078825201062bcdb4c30
theorem an0:a<1000→¬((a:Int)≥2^63):=dk [a] [] 0x26a98431000000000000000011bf402c09
theorem am9:x>y→max y x=x:=dk [] [x,y] 0x9a0c0ec32730c89
theorem am8:¬(x>y)→max y x=y:=dk [] [x,y] 0x268323b0caa730c8a
theorem am7:x<y→min y x=x:=dk [] [x,y] 0x9a0c0cc32732c09
theorem am6:¬(x<y)→min y x=y:=dk [] [x,y] 0x26832330caa732c0a
theorem am5:a<300→a<500:=dk [a] [] 0x99afa02c1a9602c07
theorem am4:a<300→a+2<480:=dk [a] [] 0x99af002254c1a9602c09
theorem am3:a<300→a+1+1<500:=dk [a] [] 0x99afa02252252c1a9602c0b
theorem am2:a<300→a+3<440:=dk [a] [] 0x99adc02256c1a9602c09
theorem am1:a<300→a+2<350:=dk [a] [] 0x99aaf02254c1a9602c09
theorem am0:a≤100→b≤10000→a+b≤16777216:=dk [a,b] [] 0x269960000000002000000108cb05800000000000138804c963202c0d
theorem al9:¬(a+3=1∨a+3=2):=dk [a] [] 0x2a91f5095b07d2256c0c
theorem al8:Int.toNat ((-1)+((a:Int)+1))=a:=dk [a] [] 0x1ec12209490c1548a
theorem al7:((-2^63):Int)≤2:=dk [] [] 0x195150000000000000000104
theorem al6:(2:Int)<2^63:=dk [] [] 0x7400000000000000005503
theorem al5:((-2^63):Int)≤3:=dk [] [] 0x195950000000000000000104
theorem al4:(3:Int)<2^63:=dk [] [] 0x7400000000000000005583
theorem al3:((-2^63):Int)≤4:=dk [] [] 0x196150000000000000000104
theorem al2:(4:Int)<2^63:=dk [] [] 0x7400000000000000005603
theorem al1:a<b→a+1<b+1:=dk [a,b] [] 0x99a252c894b06b2c0b
theorem al0:a+1<b+1→a<b:=dk [a,b] [] 0x99acb06894b2252c0b
theorem ak9:a=0→b=0→a=b:=dk [a,b] [] 0x9a67b2c1f4327d0c0b
theorem ak8:a=0→b≤a→a=b:=dk [a,b] [] 0x9a67b2c16c327d0c0b
theorem ak7:a>0→a≤b→(0:Nat)<b:=dk [a,b] [] 0x9a66b3416cb06b140b
theorem ak6:a=b→a=0→b=0:=dk [a,b] [] 0x9a67d0c9f4307b2c0b
theorem ak5:a=b→a>0→(0:Nat)<b:=dk [a,b] [] 0x9a66b341ac507b2c0b
theorem ak4:a<b∨a=b∧c≤d→b<a∨b=a∧d≤c→b=a:=dk [d,c,a,b] [] 0x9a67b4da4896cb07b4d9ad369225b0c9edb46b6d1b
theorem ak3:a<b∨a=b∧c≤d→b<a∨b=a∧d≤c→d=c:=dk [c,d,a,b] [] 0x9a67b0ca4896c327b4d9ad369225b2c1edb46b6d1b
theorem ak2:a<b→b=0→c=d∧e=f:=dk [a,b,c,d,e,f] [] 0x9a689eeb87b6d1f4326b2c0f
theorem ak1:a<b∨a=b∧c<d→a<b+1∨a=b+1∧c<e:=dk [a,b,c,d,e] [] 0x9a489ae347894b2c1a252cb09226b6d1ecb06b2c1b
theorem ak0:a≤b→c≤d→b<a∨b=a∧d<c→e≤f∧(e=f→g<b∨g=b∧k≤d):=dk [k,g,d,b,c,e,f,a] [] 0x9a69a29a4896d307b6c9adb27bce96f3a9226b8d1efb66bed96d385b6fa7
theorem aj9:a≤b→(0:Nat)<c→d+c≤a→d<b∨d=b∧e<f:=dk [a,b,c,d,e,f] [] 0x9a69a489aeb87b2d9acb65b0234d9ad505b2c19
theorem aj8:a≤b→c≤d→(0:Nat)<e→f<g+1∨f=g+1∧d<c→d+e≤a→f<g∨f=g∧d<b:=dk [b,f,g,a,d,e,c] [] 0x9a69a69a489ac387b4c9ad325b623ae2489af387894b4c9a252d326bb416e3c5b0dad
theorem aj7:(0:Nat)<a→a=b→(0:Nat)<b:=dk [a,b] [] 0x9a66b341ecb06b140b
theorem aj6:a<b∨a=b∧c<d→a<b∨a=b∧c≤d:=dk [a,b,c,d] [] 0x9a4896db47b2c1acb09226b6d1ecb06b2c17
theorem aj5:a≤a+(b-a):=Nat.le_add_right _ _
theorem aj4:a≤50→a≤100:=dk [a] [] 0x9963202c161902c07
theorem aj3:a≤50→a+1≤100:=dk [a] [] 0x9963202252c161902c09
theorem aj2:a≤50→a+1+1≤100:=dk [a] [] 0x9963202252252c161902c0b
theorem aj1:a<460→a<500:=dk [a] [] 0x99afa02c1ae602c07
theorem aj0:a≤20→a≤100:=dk [a] [] 0x2658c80b05f8c07
theorem ai9:a≤20→a+1≤100:=dk [a] [] 0x2658c80894b05f8c09
theorem ai8:a≤20→a+1+1≤100:=dk [a] [] 0x2658c80894894b05f8c0b
theorem ai7:a≤20→a+1+1+1≤100:=dk [a] [] 0x2658c80894894894b05f8c0d
theorem ai6:a<460→a+1<470:=dk [a] [] 0x99aeb02252c1ae602c09
theorem ai5:a≤20→a+1+1+1+1≤30:=dk [a] [] 0x26583c0894894894894b05f8c0f
theorem ai4:a=0→100+20*b+(1+3*a)≤100+20*(b+1):=dk [a,b] [] 0x99620281894b232022080186c5220281b232027d0c14
theorem ai3:min (a+1) a≤a:=Nat.min_le_right _ _
theorem ai2:a≤b→min a b-c=a-c:=dk [c,b,a] [] 0x99e2b0d0ac0ccb45b2d0d
theorem ai1:a<min b c-d→d+1*a<c:=dk [a,b,c,d] [] 0x99ad080086c3668ad8cd32c0e
theorem ai0:a+1-a=1:=dk [a] [] 0x7d22b0252c07
theorem ah9:a≤b∧b<c→a≤b:=dk [a,b,c] [] 0x996cb089ad325b2c0b
theorem ah8:a≤b∧b<a+(c-a)→b<c:=dk [a,b,c] [] 0x99ad3289a20ac34c325b2c0f
theorem ah7:a≤b→b<c→a≤b∧b<a+(c-a):=dk [a,b,c] [] 0x9a689a20ac34c325b2c1ad325b2c13
theorem ah6:a<0→b=c:=dk [a,b,c] [] 0x99ed326d0c07
theorem ah5:(0:Nat)<a→a≤a-1→False:=dk [a] [] 0x9a6b162d2c306b140b
theorem ah4:a≤b-1→b<c→c<a→False:=dk [a,b,c] [] 0x9a69ac6b0d1ad3258b4b2c0f
theorem ah3:a-1<b→b<a→False:=dk [a,b] [] 0x9a6b1ac326b22d2c0b
theorem ah2:a<a→False:=dk [a] [] 0x9ac6b0c05
theorem ah1:a≤b→b<a→False:=dk [a,b] [] 0x9a6b1ac325b2c09
theorem ah0:a<b→c<a→b<c→False:=dk [a,b,c] [] 0x9a69ac6b4c9ac346b2c0d
theorem ag9:a≤b→¬(a=b)→a<b:=dk [a,b] [] 0x2699acb0a9ecb05b2c0c
theorem ag8:a≤b∧b<a+(c-a)→d≤e→c<d→b<e:=dk [a,b,c,d,e] [] 0x9a699ae326b6d16e3689a20ac34c325b2c17
theorem ag7:a≤b→¬(a=b)→a+1≤b:=dk [a,b] [] 0x26996c894b0a9ecb05b2c0e
theorem ag6:a<b→b<a→a=b:=dk [a,b] [] 0x9a67b2c1ac326b2c0b
theorem ag5:a<b→b-a=b-a-1+1:=dk [b,a] [] 0x99e2522d22b2c0acb06b0c8f
theorem ag4:a≤b→b-a<c+1→¬(a=b)→b-(a+1)<c:=dk [c,b,a] [] 0x269a66b02894b4caa7b2d1a252c0ad325b2d18
theorem ag3:a+1≤b→a≤b:=dk [a,b] [] 0x996cb05b2252c09
theorem ag2:a≤b→a-c<b+1:=dk [a,b,c] [] 0x99a252c8ad305b2c0b
theorem ag1:a<b→b=0→False:=dk [a,b] [] 0x9a6b1f4326b2c09
theorem ag0:a+(b+1)≤c→a-1<c:=dk [a,b,c] [] 0x99ad0b4b05b42094b2c0d
theorem af9:a<b→a+1+(b-a-1)≤b:=dk [a,b] [] 0x996c882d22b0c894b06b2c0f
theorem af8:a<b→b≠a:=dk [a,b] [] 0x26a9ec326b2c08
theorem af7:a+1≤b→a<b:=dk [a,b] [] 0x99acb05b2252c09
theorem af6:a-b=c+1→b<a:=dk [a,b,c] [] 0x99ac327894b42b2c0b
theorem af5:a-b=c+1→a-(b+1)=c:=dk [c,a,b] [] 0x99ec0a252d327894b02b4c8f
theorem af4:a-0=a:=dk [a] [] 0x7b02d0c05
theorem af3:a≤100000→b=a→(b:Int)<2^63:=dk [a,b] [] 0x2699d0000000000000000110c9ec325800000000000c35004c0c
theorem Tp:Int.toNat ((a:Int)-(b:Int))=a-b:=dk [a,b] [] 0x1e2b2c12290c90c0a
theorem af2:a-b=c+d→b≤a→b+c≤a:=dk [a,b,c,d] [] 0x9a65b0234c96c32788db42b2c11
theorem af1:a≤b→c=a+(b-a)→c=b:=dk [a,b,c] [] 0x9a67b2d1e20ac32c345b2c0f
theorem af0:a≤b→b<a+c→b-a<c:=dk [a,b,c] [] 0x9a66b42b0c9a234c325b2c0f
theorem ae9:a=b→c=b→c=a:=dk [a,b,c] [] 0x9a67b0d1ecb47b2c0b
theorem ae8:a≤b→min a b=a:=dk [a,b] [] 0x99ec0ccb05b2c09
theorem ae7:a≤b→c=a→c+(b-a+0)=b:=dk [a,b,c] [] 0x9a67b220940ac32d1ec345b2c11
theorem ae6:a≤b→a+(b-a)=b:=dk [a,b] [] 0x99ec882b0cb05b2c0b
theorem ae5:a≤b→c=a→c+(0+(b-a))=b:=dk [a,b,c] [] 0x9a67b22082b0cd0d1ec345b2c11
theorem ae4:a≤b→b≤c→a≤min b c:=dk [a,b,c] [] 0x9a658cd32c16d325b2c0d
theorem To:a≤b→¬(a<c)→c≤b:=dk [a,b,c] [] 0x26996cb4a9ad305b2c0c
theorem Ru:a<b→a≤b+c:=dk [a,b,c] [] 0x996234cb06b2c09
theorem ae3:(0:Nat)<a→a+b=c→a-1<c:=dk [a,b,c] [] 0x9a66b42d2c1ed08cb06b140f
theorem ae2:a+b<c→a-1<c:=dk [a,b,c] [] 0x99ad0b4b06b4232c0b
theorem ae1:a+0+b=c+0+b→a=c:=dk [a,b,c] [] 0x99ed30788c89434232250c0f
theorem ae0:Int.toNat x+0+a=Int.toNat y+0+a→(0:Int)≤x→(0:Int)≤y→x=y:=dk [a] [x,y] 0x9a69a0cb0633418c50788c09412c88c09412c19
theorem ad9:((0:Nat)<0→(0:Nat)<0∨(0:Nat)<0):=dk [] [] 0x9a46d141b4506d140b
theorem ad8:a<b∧c<d→a+1≤b:=dk [a,b,c,d] [] 0x996c894b089adb46b2c0d
theorem ad7:a<b∧c<d→c+1≤d:=dk [a,b,c,d] [] 0x996d894b489adb46b2c0d
theorem ad6:a≤6→b≤6→c≤a-0+(b-0)→c≤12:=dk [a,b,c] [] 0x9a6997a345882d0c8b430d177325dcc15
theorem ad5:a≤6→b≤6→c+d≤a∧e+d≤b→c≤100∧e≤100∧d≤100:=dk [a,b,c,d,e] [] 0x269a68a258c80b658c80b858c80b4896c88db85b0236d177325dcc1f
theorem ad4:a≤16→b≤a+2→b≤100:=dk [a,b] [] 0x269963202c96254c325f0c0d
theorem ad3:a=0→a≤3:=dk [a] [] 0x9975b07d0c07
theorem ad2:a=1→a≤3:=dk [a] [] 0x9975b07d2c07
theorem ad1:a=2→a≤3:=dk [a] [] 0x9975b07d4c07
theorem ad0:a=3→a≤3:=dk [a] [] 0x9975b07d6c07
theorem ac9:a≤12→a≤100:=dk [a] [] 0x2658c80b05e8c07
theorem ac8:a<2^63→¬((a:Int)≥2^63):=dk [a] [] 0x9aa610c4000000000000000046c00000000000000004c09
theorem ac7:x<y→¬(y<x):=dk [] [x,y] 0x26a9cc32732c08
theorem ac6:a<b→¬(b<a):=dk [a,b] [] 0x26a9ac326b2c08
theorem ac5:a=b→c=b→¬(a<c):=dk [a,b,c] [] 0x269aa6b4c1ecb47b2c0c
theorem ac4:(2:Nat)≤a→b=a→(0:Nat)<b:=dk [a,b] [] 0x9a66b341ec325b150b
theorem ac3:a=b+c→d=b→e=c→a≤d+e:=dk [a,b,c,d,e] [] 0x9a6996238db07b4e1ecb6788d32c13
theorem ac2:a=b+c→d=b→e=c→d+e≤a:=dk [a,b,c,d,e] [] 0x9a6996c08e367b4e1ecb6788d32c13
theorem ac1:a≤100→x≤(a:Int)→x≤100:=dk [a] [x] 0x269983202c18430c163202c0c
theorem ac0:a≤b→x≤(a:Int)→x≤(b:Int):=dk [a,b] [x] 0x9a6610cb0610c305b2c0d
theorem ab9:x≤(a:Int)→x+1≤((a+1:Nat):Int):=dk [a] [x] 0x9984094b0252c18430c0d
theorem ab8:x≤(a:Int)→x≤((a+1:Nat):Int):=dk [a] [x] 0x9984094b0c18430c0b
theorem ab7:(0:Int)≤x∧x<2→x≤1:=dk [] [x] 0x9994b089d53063140b
theorem ab6:a≤b→c≤d→a+c≤d+b:=dk [a,b,c,d] [] 0x9a6588cb6234c16db45b2c0f
theorem ab5:a≤6→b≤220*a→b≤10000:=dk [a,b] [] 0x9a65800000000000138804c966e06c325dcc0c
theorem ab4:a≤6→b≤220*a→b≤100000:=dk [a,b] [] 0x9a65800000000000c35004c966e06c325dcc0c
theorem ab3:a≤6→b≤220*a→c≤b+2*a→c≤100000:=dk [a,b,c] [] 0x9a69960000000000030d401345880106c32d166e06c325dcc13
theorem ab2:a≤2→b≤2*c→c≤d→a+b≤2+2*d:=dk [a,b,c,d] [] 0x9a699620041b7508cb05b6d160106d325d4c15
theorem ab1:a<100→a<500:=dk [a] [] 0x99afa02c1a3202c07
theorem ab0:a≤63→a≤16777216:=dk [a] [] 0x265800000000080000004c161f82c07
theorem aa9:a≤24→8+a≤16777216:=dk [a] [] 0x2658000000000800000042318160c02c09
theorem aa8:a≤24→8+a≤40:=dk [a] [] 0x99614022318160c02c09
theorem aa7:a≤40→a≤16777216:=dk [a] [] 0x265800000000080000004c161402c07
theorem aa6:(0:Int)≤x∧x<3→Int.toNat x≤2:=dk [] [x] 0x265d44b089d5b063140c
theorem aa5:(0:Nat)≤3:=dk [] [] 0x5d7403
theorem aa4:(0:Int)≤x∧x<3→Int.toNat x<3:=dk [] [x] 0x266d64b089d5b063140c
theorem aa3:a≤3→a≤10:=dk [a] [] 0x9979305d6c07
theorem aa2:a<100→a+1<470:=dk [a] [] 0x99aeb02252c1a3202c09
theorem aa1:Int.toNat ((-1)+((a+1:Nat):Int))=a:=dk [a] [] 0x1ec12210252c1548a
theorem aa0:a≤4→b=a→1+b≤16777216:=dk [a,b] [] 0x9a6580000000008000000423349ec325d8c0d
theorem ZZ:a+1≤a+5:=dk [a] [] 0x5896b0252c07
theorem ZY:a<100→a+5<300:=dk [a] [] 0x99a960225ac1a3202c09
theorem ZX:a≤100→b≤2+2*a→b≤16777216:=dk [a,b] [] 0x2699600000000020000001325880106c54c963202c0e
theorem ZW:a<100→a+1<490:=dk [a] [] 0x99af502252c1a3202c09
theorem ZV:a<100→a+1+1<480:=dk [a] [] 0x99af002252252c1a3202c0b
theorem ZU:a≤6→b≤a→b≤10:=dk [a,b] [] 0x9a65e4c96c325dcc0b
theorem ZT:a≤4→b=a→b+1≤16777216:=dk [a,b] [] 0x9a65800000000080000004252c9ec325d8c0d
theorem ZS:a≤b→b≤3→c=a→c+1≤4:=dk [a,b,c] [] 0x9a69976094b47b0d175b25b2c11
theorem ZR:a≤b→c=a→c+1≤b+1:=dk [a,b,c] [] 0x9a65894b2252d1ec345b2c0f
theorem ZQ:x<1→Int.toNat x=0:=dk [] [x] 0x267d04b0752c08
theorem ZP:(0:Int)≤x→Int.toNat (x+1)=Int.toNat x+1:=dk [] [x] 0x99e2524b04894b063140d
theorem ZO:(1:Int)≤x→(0:Int)≤x:=dk [] [x] 0x998c50631487
theorem ZN:(1:Int)≤x→Int.toNat x=Int.toNat x-1+1:=dk [] [x] 0x99e2522d24b04b063148d
theorem ZM:a<400→a+4+1<480:=dk [a] [] 0x99af002252258c1ac802c0b
theorem ZL:a≤13→a≤100000:=dk [a] [] 0x9960000000000030d401305eac07
theorem ZK:a≤b→1+a≤b+1:=dk [a,b] [] 0x996252c88c525b2c0b
theorem ZJ:a<380→a<500:=dk [a] [] 0x99afa02c1abe02c07
theorem ZI:a<380→a+1<470:=dk [a] [] 0x99aeb02252c1abe02c09
theorem Tn:a≤13→a≤16777216:=dk [a] [] 0x99600000000020000001305eac07
theorem ZH:¬(a=0)→b≤c→c+a≤d→e≤2*(c-b)+1→f≤2*(d-(c+a))+1→g+e+f<g+(2*(d-b)+1):=dk [f,d,e,c,g,b,a] [] 0x269a69a668825201062bacb8230234e162520106288f36cb0589480418aeb6d16c88f365b6eaa7d0f31
theorem ZG:a≤13→a=b+(2*(c-d)+1)→¬(e=0)→d≤f→f+e≤c→g≤2*(f-d)+1→k≤2*(c-(f+e))+1→b+g+k≤13:=dk [b,g,k,c,a,e,d,f] [] 0x269a69a69a65ea234232c162520106288ebedb4589480418af3ec96d88ebe5bef2a7d0e9e209480418af36c385eae39
theorem ZF:a+(0+b)+(c+d+e)=a+(c+(d+(e+b))):=dk [a,b,c,d,e] [] 0x788208232e36d30208e08db4208cd0c15
theorem ZE:a<380→100+20*(a+1+1)<9900:=dk [a] [] 0x99a0000000000004d581080a06252252c0c809abe02c0e
theorem ZD:a+b≤c→(0:Nat)<b→¬((a:Int)=(c:Int)):=dk [a,b,c] [] 0x269aa810d10c1acd05b4232c10
theorem ZC:a+b≤c→(0:Nat)<b→(a:Int)<(c:Int):=dk [a,b,c] [] 0x9a6710d10c1acd05b4232c0f
theorem ZB:a≤6→b≤a+1→b≤16777216:=dk [a,b] [] 0x9a65800000000080000004c96252c325dcc0d
theorem ZA:a<380→a+1<400:=dk [a] [] 0x99ac802252c1abe02c09
theorem Z9:a≤6→b≤a+1→b+1≤16777216:=dk [a,b] [] 0x9a65800000000080000004252c96252c325dcc0f
theorem Z8:a≤30→a+1≤60:=dk [a] [] 0x9961e02252c160f02c09
theorem Z7:Int.toNat ((a:Int)-0)=a:=dk [a] [] 0x7b048b410c07
theorem Z6:(a:Int)-(b:Int)≤(c:Int)→a≤c+b:=dk [a,b,c] [] 0x26588cb4c18434290c90c0e
theorem Z5:(a:Int)≤(b:Int)+(c:Int)→a≤b+c:=dk [a,b,c] [] 0x26588d32c18210d10c90c0e
theorem Z4:a≤b∧c≤a+d→(c:Int)≤(a:Int)+(d:Int):=dk [a,b,c,d] [] 0x26608436430434896236c345b2c12
theorem Z3:¬((a:Int)-(b:Int)≤(c:Int))→¬(a≤c+b∧c≤d):=dk [a,b,c,d] [] 0x26aa25b6d16232d30a98434290c90c14
theorem Z2:((a:Int)=(b:Int)↔a=b):=dk [a,b] [] 0xa1ecb0810c90c09
theorem Z1:(a:Int)=((0:Nat):Int)-1→False:=dk [a] [] 0x9ac80b491410c09
theorem Z0:((a+1:Nat):Int)-1=(a:Int):=dk [a] [] 0x810c0b490252c09
theorem Zz:a≤100→a≤100:=dk [a] [] 0x9963202c163202c07
theorem Zy:a≤100→a≤16777216:=dk [a] [] 0x265800000000080000004c163202c07
theorem Zx:¬(x≤y)→y<x:=dk [] [x,y] 0x26730caa632c08
theorem Zw:a+1+b=b+(a+1):=Nat.add_comm _ _
theorem Zv:a+b=c+(d+1)→b<d→a=a-1+1:=dk [d,b,a,c] [] 0x9a678948b4b4d1ac32788252c36232d15
theorem Zu:a+1+b=c→a+(b+1)=c:=dk [a,b,c] [] 0x99ed08252cb07b4232252c0f
theorem Zt:a≤100→a≤900:=dk [a] [] 0x997c202c163202c07
theorem Zs:a≤100→min b a≤900:=dk [a,b] [] 0x997c202330c963202c09
theorem Zr:a≤100→min b a-c≤900:=dk [a,b,c] [] 0x997c2022b4330c963202c0b
theorem Zq:a≤30→b=1→b+a≤16777216:=dk [a,b] [] 0x269960000000002000000108c327d2c960f02c0d
theorem Zp:a≤30→b=1→c=2→b+a+c≤16777216:=dk [a,b,c] [] 0x269a65800000000080000004234230c9f5347d2c960f02c13
theorem Zo:a≤30→b≤30→c=1→d=2→c+a+d+b≤16777216:=dk [a,b,c,d] [] 0x9a69a65800000000080000004232236230d1f5367d2d160f02c960f02c19
theorem Zn:a≤30→b≤30→c=1→d=2→e=3→e+(c+a+d+b)≤16777216:=dk [a,b,c,d,e] [] 0x9a69a69960000000002000000108232236230d387d6e1f5367d2d160f02c960f02c1f
theorem Zm:a≤30→b≤30→c=1→d=2→e=3→f=4→e+(c+a+d+b)+f≤16777216:=dk [a,b,c,d,e,f] [] 0x9a69a69a6580000000008000000423a208c88d88c34e1f63a7d6e1f5367d2d160f02c960f02c25
theorem Zl:a≤100→b≤2*a→c≤2→c+b≤16777216:=dk [a,b,c] [] 0x269a65800000000080000004232d1753458041b0c963202c12
theorem Zk:a≤220→b≤1→b+a≤16777216:=dk [a,b] [] 0x269960000000002000000108c325d2c966e02c0d
theorem Zj:a≤100→b≤2*a→c≤2→d≤1→c+b+d≤16777216:=dk [a,b,c,d] [] 0x269a69960000000002000000108d88cb45d2d9753458041b0c963202c18
theorem Zi:(a+1=0→b=c∧d=e):=dk [a,b,c,d,e] [] 0x9a27b8d9ed327d0252c0d
theorem Zh:(a+1=0→b=0):=dk [a,b] [] 0x99f4327d0252c09
theorem Zg:a+b+1≤c∧d+b+1≤e∧c<f∧e<g→a+(b+1)≤c∧d+(b+1)≤e∧c<f∧e<g:=dk [g,f,c,e,a,b,d] [] 0x9a28a26b0d9acb45b62094baf16d08252eb88a289ac366b2d16d89488ebc5b425223ae2f
theorem Tm:((1:Nat)=0→a=b∧c=d):=dk [a,b,c,d] [] 0x9a27b6d1ecb07d148b
theorem Zf:((1:Nat)=0→a=0):=dk [a] [] 0x99f4307d1487
theorem Ze:a≤b→c≤d→¬(a=b∧c=d)→a<b∨c<d:=dk [a,b,c,d] [] 0x269a691adb46b2c2a89edb47b2c16db45b2c18
theorem Zd:((1:Nat)=0→(1:Nat)=0):=dk [] [] 0x99f4527d1487
theorem Zc:a≤b→¬(a>b):=dk [a,b] [] 0x26a9ac325b2c08
theorem Zb:a≤100000→(a:Int)<10^10:=dk [a] [] 0x267000000012a05f200044305800000000000c35004c08
theorem Za:a≤10→a≤30:=dk [a] [] 0x26583c0b05e4c07
theorem YZ:a≤10→b≤10→c=1→a+c+b≤30:=dk [a,b,c] [] 0x269a6583c088c88d307d2d179325e4c13
theorem YY:a≤900→b≤a→b<2^62:=dk [a,b] [] 0x2699a80000000000000001325b0c97c202c0b
theorem YX:a≤900→min b a≤16777216:=dk [a,b] [] 0x265800000000080000004330c97c202c09
theorem YW:a≤900→min b a-c≤16777216:=dk [a,b,c] [] 0x2658000000000800000042b4330c97c202c0b
theorem YV:¬(a=1)→¬((a:Int)=1):=dk [a] [] 0x26aa1490c2a7d2c0a
theorem YU:(1:Nat)<a→(1:Int)<(a:Int):=dk [a] [] 0x26710c526b1488
theorem YT:(1:Nat)<a→¬(a=0):=dk [a] [] 0x26a9f4306b1488
theorem YS:a≤900→a+1≤100000:=dk [a] [] 0x265800000000000c35004252c17c202c09
theorem YR:¬((1:Nat)<a)→(a:Int)≤1:=dk [a] [] 0x999490c2a6b1489
theorem YQ:¬(a=1)→¬((1:Nat)<a)→a=0:=dk [a] [] 0x9a67d0c2a6b14aa7d2c0d
theorem YO:¬((1:Nat)<a)→a≤100000:=dk [a] [] 0x265800000000000c35004c2a6b1488
theorem YN:¬((1:Nat)<a)→a≤1900:=dk [a] [] 0x26580000000000003b604c2a6b1488
theorem YM:a<Int.toNat x→(a:Int)<x:=dk [a] [x] 0x99cc10c1a4b0c09
theorem YL:x<y→(0:Int)<((Int.toNat y:Nat):Int)-x:=dk [] [x,y] 0x99c2b0412cd0732c0b
theorem YK:x+(a:Int)+1=x+((a+1:Nat):Int):=dk [a] [x] 0x8084094b0c09488430c0d
theorem YJ:x-(a:Int)-1=x-((a+1:Nat):Int):=dk [a] [x] 0x80a4094b0c0b48a430c0d
theorem YI:a≤b→(a:Int)-(b:Int)≤0:=dk [a,b] [] 0x99940a4324305b2c0b
theorem YH:(-(a:Int))≤x→a≤16777216→((-2^63):Int)≤x:=dk [a] [x] 0x26998c1500000000000000001160000000002000000130630510c0e
theorem YG:x<0→(-(a:Int))≤x→b=a→Int.toNat (x+(b:Int))<b:=dk [a,b] [x] 0x9a699ac92210cb07b0c98c14430750c15
theorem YF:a=1→400+b+0+a≤400+(b+1):=dk [a,b] [] 0x9962094b2c802230250232c8027d2c11
theorem YE:a=3→100+20*b+0+a≤100+20*(b+1):=dk [a,b] [] 0x99620281894b2320223025020281b232027d6c13
theorem YD:a≤2*b→b≤10→c≤1→a+c≤16777216:=dk [a,b,c] [] 0x9a69960000000002000000108d305d2d1793258041b2c12
theorem YC:a≤2*b→c≤1→a+c+1≤2*(b+1):=dk [a,b,c] [] 0x9a658041894b2252234c174b458041b2c13
theorem YB:a≤25→a≤100:=dk [a] [] 0x9963202c160c82c07
theorem YA:a≤25→a+1≤30:=dk [a] [] 0x9960f02252c160c82c09
theorem Y9:a<100→a<2^63:=dk [a] [] 0x266c00000000000000004c1a3202c07
theorem Y8:a≤2*b→b≤10→a≤16777216:=dk [a,b] [] 0x9a65800000000080000004c1793258041b2c0c
theorem Y7:a≤2*b→c≤1→a+c≤2*(b+1):=dk [a,b,c] [] 0x9a658041894b2234c174b458041b2c11
theorem Y6:(0:Nat)<100:=dk [] [] 0x1a3203403
theorem Y5:a+1+1+b=a+1+b+1:=Nat.add_right_comm _ _ _
theorem Y4:a≤b→c≤a→b=c→a=b:=dk [a,b,c] [] 0x9a699ecb07b4c96c345b2c0f
theorem Y3:a-b=c+(0+1+d)→e=a→b+c+1≤e:=dk [a,b,c,d,e] [] 0x9a65b8252234c9ec387882362534342b2c17
theorem Y2:a+b+1-a=b+1:=dk [a,b] [] 0x7894b22b0252232c0b
theorem Y1:a≤50→a<2^62:=dk [a] [] 0x266a00000000000000004c161902c07
theorem Y0:a≤50→¬((a:Int)≥200):=dk [a] [] 0x9aa610c1900961902c09
theorem Yz:a≤50→b≤a→b≤100:=dk [a,b] [] 0x9a658c80b25b0c961902c0b
theorem Yy:a≤50→a≤50:=dk [a] [] 0x9961902c161902c07
theorem Yx:a≤50→a≤16777216:=dk [a] [] 0x265800000000080000004c161902c07
theorem Yw:a≤30→a+1≤100:=dk [a] [] 0x9963202252c160f02c09
theorem Yv:a≤30→a+1+1≤100:=dk [a] [] 0x9963202252252c160f02c0b
theorem Yu:a<3→a<3:=dk [a] [] 0x99b5b06d6c07
theorem Yt:a≤10000→a+b*0≤16777216:=dk [a,b] [] 0x99600000000020000001080000cb05800000000000138804c0a
theorem Ys:a<440→a<500:=dk [a] [] 0x99afa02c1adc02c07
theorem Yr:(0:Nat)≤100:=dk [] [] 0x163203403
theorem Yq:(0+1:Nat)≤100:=dk [] [] 0x163202253405
theorem Yp:(0+1+1:Nat)≤100:=dk [] [] 0x163202252253407
theorem Yo:(0+1+1+1:Nat)≤100:=dk [] [] 0x163202252252253409
theorem Yn:a<440→a+1<450:=dk [a] [] 0x99ae102252c1adc02c09
theorem Ym:(0+1+1+1+1:Nat)≤10:=dk [] [] 0x5e425225225225340b
theorem Yl:a≤900→(a:Int)-x=1→x+1≤1000:=dk [a] [x] 0x26999f402252c2148ac10c17c202c10
theorem Yk:(a:Int)-(b:Int)=1→a-b=1:=dk [a,b] [] 0x99f48acb0852290c90c0d
theorem Yj:a≤b→(b:Int)-(a:Int)=((b-a:Nat):Int):=dk [a,b] [] 0x268102b0c8a4304325b2c0e
theorem Yi:(0:Int)≤(a:Int)+1-1:=dk [a] [] 0x182d2252431408
theorem Yh:a≤900→(a:Int)-x=0→x+1-1≤1000:=dk [a] [x] 0x26999f4022d2252c2140ac10c17c202c12
theorem Yg:x=0→(0:Int)≤x:=dk [] [x] 0x998c50850c07
theorem Ye:x=0→x≤1000:=dk [] [x] 0x2667d00b0850c07
theorem Yd:(a:Int)-(b:Int)=0→¬(a-b=1):=dk [a,b] [] 0x26a9f48acb0850290c90c0e
theorem Yc:(a:Int)-(b:Int)=0→a-b=0:=dk [a,b] [] 0x99f40acb0850290c90c0d
theorem Yb:x+1-1=x:=dk [] [x] 0x8302d2252c07
theorem XZ:a≤900→(a:Int)-x=(b:Int)→x+1≤1000:=dk [a,b] [x] 0x9a667d00894b0810c8ac10c17c202c11
theorem XY:x=(a:Int)→(0:Int)≤x:=dk [a] [x] 0x26631420430c08
theorem XX:a≤900→(a:Int)-(b:Int)≤1000:=dk [a,b] [] 0x999f402290c90c17c202c0b
theorem XW:¬((a:Int)-(b:Int)=1)→¬(a-b=1):=dk [a,b] [] 0x9aa7d22b2c2a852290c90c0f
theorem XV:x=(a:Int)→¬(x=0)→¬(a=0):=dk [a] [x] 0x269aa7d0c2a850c20430c0e
theorem XU:a<b→¬(b=a):=dk [a,b] [] 0x26a9ec326b2c08
theorem XT:¬(a<b)→a<b+1→a=b:=dk [a,b] [] 0x2699ecb06894b2c2a6b2c0e
theorem XS:¬(a≤b)→min c b≤a:=dk [a,b,c] [] 0x265b0332d2a5b2c0a
theorem XR:a-b≤0→¬(b<a∧c<d):=dk [a,b,c,d] [] 0x26aa26b6d1ac325d02b2c0e
theorem XQ:a<b→c+a<c+b∧d+a<d+b:=dk [a,b,c,d] [] 0x9a2688cb6230d9a232d08c346b2c13
theorem XO:a≤b∧b<c∧d≤e∧e<f→g≤k∧k<l∧m≤n∧n<p→c≤g∧f≤m→b<k∧e<n:=dk [p,c,l,k,g,f,n,a,m,e,b,d] [] 0x9a69a26bd09adc489703a5b8ca28a26b0f16f406b4d96db88a289aec25c319acc45c4faf
theorem XN:a≤b∧b<c∧d≤e∧e<f→c≤g→f≤k→b<g∧e<k:=dk [a,b,c,d,e,f,g,k] [] 0x9a69a26bee1af325bee96f348a289aeb85b8d9ad325b2c1f
theorem XM:¬(a=0)→b≤c→c+a≤d→c-b<d-b:=dk [d,c,b,a] [] 0x269a668ad302b4c96c08db25b2d2a7d0d96
theorem XL:a+b≤c∧d+b≤e→(0:Nat)<b→a<c∧d<e:=dk [a,b,c,d,e] [] 0x9a689ae366b4c1acd0896e08cb65b4232c17
theorem XK:a-b<a-b+1:=Nat.lt_succ_self _
theorem XJ:a≤b∧b<c→d≤c-(b+1)→d+1≤c-a:=dk [d,a,c,b] [] 0x9a658acb4252c162894b6d3089ad365b6c97
theorem XI:¬(a=0)→b≤c→c+a≤d→d-(c+a)<d-b:=dk [b,d,c,a] [] 0x269a668ac32288db4c96c88db45b4c2a7d0d98
theorem XH:a+b≤c→(0:Nat)<b→a<c:=dk [a,b,c] [] 0x9a66b4c1acd05b4232c0d
theorem XG:a+b=c∧d=e→a+(b+f)=c+f:=dk [a,b,c,d,e,f] [] 0x99e23ad0823acb089ee367b4232c13
theorem XF:a-(b+c)<a-(b+c)+1:=Nat.lt_succ_self _
theorem XE:a+1+1=1+(a+1):=Nat.add_comm _ _
theorem XD:a-b≤c+1→¬(d=0)→e+d≤a→e-b≤c:=dk [a,b,e,c,d] [] 0x269a65b62b2d16c08e34a9f4385894b62b2c18
theorem XC:a=b∧c+d=e→c+(d+f)=e+f:=dk [a,b,c,d,e,f] [] 0x99e23ae0823adb489ee08db47b2c13
theorem XB:(0:Nat)<a→a=a-1+1:=dk [a] [] 0x99e2522d2c306b140b
theorem XA:1+(a+1)=a+1+1:=Nat.add_comm _ _
theorem X9:a-b≤c+1→¬(d=0)→b≤e→a-(e+d)≤c:=dk [e,a,b,c,d] [] 0x269a65b6288e30c96c34a9f4385894b62b4c98
theorem X8:(0:Int)≤x∧x<2→x≤100:=dk [] [x] 0x2660c80b089d53063140b
theorem X7:(0:Int)<(a:Int)+1:=dk [a] [] 0x1c252431406
theorem X6:(0:Int)≤x∧x<(a:Int)+1→Int.toNat x≤a∧((Int.toNat x:Nat):Int)=x:=dk [a] [x] 0x9a2830412c16c12c22709490c30631415
theorem X5:a≤1→min b c+a+(c-(b+1))≤c+1:=dk [a,b,c] [] 0x996252d082894b2d08c0cd325d2c13
theorem X4:a≤1→min b c+a+(c-b)≤c+1:=dk [a,b,c] [] 0x996252d082b2d08c0cd325d2c11
theorem X3:a≤b+c→b≤d+1→a≤d+(c+1):=dk [a,b,c,d] [] 0x9a6588252d36c16252db2588d32c13
theorem X2:(0:Int)≤x∧x<4→x<2^63:=dk [] [x] 0x99d000000000000000013089d63063140b
theorem X1:a≤10→b≤50→c≤a+b→c<2^62:=dk [a,b,c] [] 0x269a66a00000000000000004d16232c3458640b25e4c11
theorem X0:(a:Int)+1≠0:=dk [a] [] 0xaa1409490c07
theorem Xz:a≤1→a≤16777216:=dk [a] [] 0x99600000000020000001305d2c07
theorem Xy:(0:Int)≤(-1)+((a+(0+1):Nat):Int)∧(-1)+((a+(0+1):Nat):Int)<((a+(0+1):Nat):Int):=dk [a] [] 0x227102094d0c0840825343055260840825343055341c
theorem Xx:Int.toNat ((-1)+((a+(0+1):Nat):Int))=a:=dk [a] [] 0x1ec122102094d0c1548c
theorem Xw:a+1≤b→a≤b+1:=dk [a,b] [] 0x996252cb05b2252c0b
theorem Xv:a≤200→b≤10→a+b+1≤220:=dk [a,b] [] 0x9a659b8089488cb05e4c966402c0f
theorem Xu:(0:Int)≤x→((-2^63):Int)≤x:=dk [] [x] 0x266305400000000000000004631408
theorem Xs:a≤200→b≤10→a+b≤16777216:=dk [a,b] [] 0x269960000000002000000108cb05e4c966402c0d
theorem Xr:a≤200→b≤10→a+b+1≤16777216:=dk [a,b] [] 0x269960000000002000000109488cb05e4c966402c0f
theorem Xq:a=0→a≤b:=dk [a,b] [] 0x996cb07d0c07
theorem Xp:a-1<b→a≤b:=dk [a,b] [] 0x996cb06b22d2c09
theorem Xo:Int.toNat (a:Int)=a:=Int.toNat_natCast _
theorem Xn:¬(x=(a:Int))→¬(x<0)→¬(Int.toNat x=a):=dk [a] [x] 0x269aa7b04b0a9d430aa0430c10
theorem Xm:¬(a=0)→¬((a:Int)-1<0):=dk [a] [] 0x26a9d40b490c2a7d0c0c
theorem Xl:a=0→a≤b∧a≤c:=dk [a,b,c] [] 0x9a25b4c16cb07d0c0b
theorem Xk:a<b→b-a=b-(a+1)+1:=dk [a,b] [] 0x99e2522894b0c8ac326b2c0f
theorem Xj:a≤b→(b:Int)≥(a:Int):=dk [a,b] [] 0x9984324305b2c09
theorem Xi:¬(a≤b)→¬((b:Int)≥(a:Int)):=dk [a,b] [] 0x9aa610c90c2a5b2c0b
theorem Xh:(0:Nat)≤a∧(0:Nat)≤b:=dk [a,b] [] 0x896cd05b1407
theorem Xg:¬(a=0)→b≤c∧b≤a-1+1→b≤c∧b≤a:=dk [c,b,a] [] 0x269a25b4c96c328962522d2d325b0caa7d0d18
theorem Xf:a<b+1→(a:Int)<(b:Int)+1:=dk [a,b] [] 0x99c2524324306894b2c0d
theorem Xe:a≤b∧a≤c→(c:Int)-((a:Int)+1)+1=((c+1-(a+1):Nat):Int):=dk [a,b,c] [] 0x268102894b0252d0948a252430434896d305b2c1a
theorem Xd:¬(a<b+1)→¬((a:Int)<(b:Int)+1):=dk [a,b] [] 0x9aa709490c90c2a6894b2c0f
theorem Xc:a≤b→c≤d→e=0→f=a→g=c→a≤f∧c≤g∧f+e≤b∧g+e≤d:=dk [b,a,f,d,c,g,e] [] 0x9a69a69a28a25b623ce96c08f345bae16d327b8e9ecb47d0f16db85b0ca7
theorem Xb:a≤b→c≤d→e≤f→g≤k→a≤b∧c≤d∧e≤f∧g≤k:=dk [a,b,c,d,e,f,g,k] [] 0x9a69a68a2896fbc5bae16db45b2c16fbc5bae16db45b2c1f
theorem Xa:a≤50→b≤a→c≤d∧e≤f∧d+g≤b∧k≤l→(d:Int)-1<2^63:=dk [a,b,c,d,e,f,g,k,l] [] 0x9a699d000000000000000010b490da28a25c0f96c88f365bae16db45b0c961902c20
theorem WZ:a≤400+b→a≤400+(b+1):=dk [a,b] [] 0x9962094b2c802c16232c802c0d
theorem WY:a≤100+20*b→a+1≤100+20*(b+1):=dk [a,b] [] 0x99620281894b23202252c1620281b23202c11
theorem WX:a+(b+1)≤c→a+(0+1)+b≤c:=dk [a,b,c] [] 0x996d08c882534305b42094b2c11
theorem WW:a+2≤a+4:=dk [a] [] 0x589630254c07
theorem WU:(0:Nat)<16777216:=dk [] [] 0x6800000000080000005403
theorem WS:(1:Nat)≤16777216:=dk [] [] 0x5800000000080000005483
theorem WR:a≤6→a≤16777216+1:=dk [a] [] 0x99625200000000020000001305dcc09
theorem WQ:(2:Nat)≤a→¬(a<2):=dk [a] [] 0x26a9b5305b1508
theorem WP:a≤6→a<64:=dk [a] [] 0x2668800b05dcc07
theorem WO:a=b→b=c→d<a→d<c:=dk [a,b,c,d] [] 0x9a699ad366b0d9ed327b2c0f
theorem WN:a=b→¬(c<a)→b≤c:=dk [a,b,c] [] 0x26996d32a9ac347b2c0c
theorem WM:a≤b+1→c≤a+1→c≤b+2:=dk [a,b,c] [] 0x9a6589532d16252c345894b2c11
theorem WK:a≤a+b+1:=dk [a,b] [] 0x589488cb0c07
theorem WJ:a+b≤c∧d≤e→f+g=a∧k=l→f+(g+b)≤c:=dk [a,b,c,d,e,f,g,k,l] [] 0x9a65b4208cbcea27c0f9ec08f3a896e365b4232c1b
theorem WI:a≤1+b+1→a≤c+(b+1)+1:=dk [a,b,c] [] 0x9962522094b2d30589488cd2c11
theorem WH:a≤b∧c+d≤e→f=g∧k+l=c→k+(l+d)≤e:=dk [a,b,c,d,e,f,g,k,l] [] 0x9a65b8208dc0fa27b4240f9ef3a896e08db45b2c1b
theorem WG:a≤b+1+c+1→a≤b+(c+1)+1:=dk [a,b,c] [] 0x9962522094b4cb0589488d094b2c13
theorem WE:a+b≤c→d+b≤e→f=a∧g=d→f≤c∧g≤e:=dk [a,b,c,d,e,f,g] [] 0x9a69a25b8f16d3a89edbc7b0e96e08cb65b4232c1b
theorem WD:a-b+(c-d)≤a-b+(c-d):=Nat.le_refl _
theorem WC:(1:Nat)≤2:=dk [] [] 0x5d5483
theorem WA:(2:Nat)≤2:=dk [] [] 0x5d5503
theorem W9:a≤b→c≤d→b<e→d<f→g≤e-(b+1)+(f-(d+1))→b-a+(d-c)+(g+1)≤e-a+(f-c):=dk [f,g,d,c,e,a,b] [] 0x9a69a699620adb02bae08252c882b6d0aebc5882894b4c0a252f38c9ac346b8f16d365bceb1
theorem W8:a≤6→b≤c+1→c≤a→b+1≤8:=dk [a,b,c] [] 0x9a69978094b25b0d16252d325dcc13
theorem W7:¬(a+3=0):=dk [a] [] 0x2a7d0256c06
theorem W6:a<350→a<500:=dk [a] [] 0x99afa02c1aaf02c07
theorem W5:a<350→a+2<470:=dk [a] [] 0x99aeb02254c1aaf02c09
theorem W4:(8:Nat)≤10:=dk [] [] 0x5e5803
theorem W3:(14:Nat)≤25:=dk [] [] 0x160c83b03
theorem W2:a<350→a+2+1<380:=dk [a] [] 0x99abe02252254c1aaf02c0b
theorem W1:a≤16→a≤100000:=dk [a] [] 0x9960000000000030d401305f0c07
theorem W0:¬(a+a<b-c)→¬((a:Int)+(a:Int)<(b:Int)-(c:Int)):=dk [a,b,c] [] 0x9aa70a434432210c10c2a68ad32230c15
theorem Wz:a+a<b-c→(a:Int)+(a:Int)<(b:Int)-(c:Int):=dk [a,b,c] [] 0x99c290d10c8843043068ad32230c13
theorem Wy:a≤17→a≤100000:=dk [a] [] 0x9960000000000030d401305f2c07
theorem Wx:a≤16→a+1<4611686018427387904:=dk [a] [] 0x99a80000000000000001094b05f0c09
theorem Ww:a=1→(a:Int)=1:=dk [a] [] 0x268524307d2c08
theorem Wv:¬(a=1)→(a:Int)≠1:=dk [a] [] 0x26aa1490c2a7d2c0a
theorem Wu:a≤b→400+a≤400+b:=dk [a,b] [] 0x996232c802230c8025b2c0b
theorem Wt:a≤b→100+20*a≤100+20*b:=dk [a,b] [] 0x99620281b2320220281b032025b2c0d
theorem Ws:400+a+1≤400+(a+1):=dk [a] [] 0x588252c320089488c32008b
theorem Wr:100+20*a+3≤100+20*(a+1):=dk [a] [] 0x5880a06252c0c80895880a06c0c808d
theorem Wq:400+a≤400+(a+1):=dk [a] [] 0x588252c320088c320089
theorem Wp:100+20*a+1≤100+20*(a+1):=dk [a] [] 0x5880a06252c0c80894880a06c0c808d
theorem Wo:a<450→a<500:=dk [a] [] 0x99afa02c1ae102c07
theorem Wn:a<450→a+1<490:=dk [a] [] 0x99af502252c1ae102c09
theorem Wm:a≤10→a≤50:=dk [a] [] 0x2658640b05e4c07
theorem Wl:a<450→a+1<460:=dk [a] [] 0x99ae602252c1ae102c09
theorem Wj:a≤10→a+3≤20:=dk [a] [] 0x997e095b05e4c09
theorem Wi:(a:Int)+((b+1:Nat):Int)=((a+1:Nat):Int)+(b:Int):=dk [a,b] [] 0x8084324094b0210252c90c0f
theorem Wh:a≤b→b≤16777216→(a:Int)<2^62:=dk [a,b] [] 0x2699c8000000000000000110c1600000000020000001325b2c0c
theorem Wg:a≤16777216→(a:Int)<2^62:=dk [a] [] 0x2672000000000000000044305800000000080000004c08
theorem Tl:a≤6→b≤a→b≤16777216:=dk [a,b] [] 0x9a65800000000080000004c96c325dcc0b
theorem Wf:a≤6→b≤a→c+d<b→7-(d+1)<7-d:=dk [a,b,c,d] [] 0x9a699a2b778a252dde6b2236d16c325dcc17
theorem We:a+1≤13→a+2≤16777216:=dk [a] [] 0x99600000000020000001095305ea252c0b
theorem Wd:a≤6→b+c=a→b≤16777216:=dk [a,b,c] [] 0x9a65800000000080000004c9ec08d325dcc0d
theorem Wc:a+1≤13→b≤1→a+b≤16777216:=dk [a,b] [] 0x9a65800000000080000004232c174b25ea252c0f
theorem VX:a+1≤13→a≤16777216:=dk [a] [] 0x99600000000020000001305ea252c09
theorem Wb:a≤50→b≤a→b≤16777216:=dk [a,b] [] 0x2699600000000020000001325b0c961902c0b
theorem Wa:a≤50→b≤a→c<b→(c:Int)<2^63:=dk [a,b,c] [] 0x9a699d0000000000000000110d1acb45b0c961902c10
theorem VZ:a≤b→b<50→a≤16777216:=dk [a,b] [] 0x26996000000000200000013068640b25b2c0b
theorem VY:a≤b-c∧a≤d→(b:Int)-((a:Int)+1)+1=((b+1-(a+1):Nat):Int):=dk [d,c,b,a] [] 0x268102894b6252d0948a252436434896c3658acb4d9c
theorem VW:a≤100→min b a≤100:=dk [a,b] [] 0x9963202330c963202c09
theorem VV:a≤50→min b a≤50:=dk [a,b] [] 0x9961902330c961902c09
theorem Tk:a≤b→(0:Nat)<c→a<b+c:=dk [a,b,c] [] 0x9a6688d32c1ad505b2c0d
theorem VU:(0:Nat)<a→b+a-1<b+a:=dk [a,b] [] 0x99a230c8b488c326b140d
theorem VT:(0:Nat)<a→b≤b+a-1:=dk [a,b] [] 0x9962d2230cb26b140b
theorem VS:(0:Nat)<a→(0:Nat)<b+a:=dk [a,b] [] 0x99a230cd06b1409
theorem VR:a+b<c→d+d<b→a+d≤c:=dk [a,b,c,d] [] 0x9a65b4236c1ac88db66b4232c11
theorem Tj:a<b→a<b+c:=dk [a,b,c] [] 0x99a234cb06b2c09
theorem VQ:¬(a+a<min b (c+a)-c):=dk [a,b,c] [] 0x2a68ad0c230d32230c0c
theorem VP:a≤b→a=c→¬(b<c):=dk [a,b,c] [] 0x269aa6b4c9ed305b2c0c
theorem VO:(0:Nat)<a→b+a≤c→b<c:=dk [a,b,c] [] 0x9a66b4c96d08c326b140d
theorem VN:(0:Nat)<a→b<b+a:=dk [a,b] [] 0x99a230cb26b1409
theorem VM:a+a<b→c≥d+b→¬(c<d+a):=dk [a,b,c,d] [] 0x269aa688c36d16d08cb66b2230c12
theorem Ti:a≤b→c<a→d≤c→¬(b<d):=dk [a,b,c,d] [] 0x269a6a9adb25b4d9ac345b2c10
theorem VL:a<b→b≤c→a≤c:=dk [a,b,c] [] 0x9a65b4c16d326b2c0b
theorem VK:a+a<b→c+b≤d→c+a<d:=dk [a,b,c,d] [] 0x9a66b6230d16d88cb46b2230c11
theorem Rt:(0:Nat)<a→(0:Nat)<0+a:=dk [a] [] 0x99a2314506b1409
theorem VJ:(0:Nat)<a→0+a-1<0+a:=dk [a] [] 0x99a23140b488c506b140d
theorem VI:(0:Nat)≤a:=dk [a] [] 0x5b1403
theorem VH:(0+a≤b+c↔0+(a-c)≤b):=dk [a,b,c] [] 0xa16c882b4c50588d3223140f
theorem VG:a<b→¬((0:Nat)=b):=dk [a,b] [] 0x26a9ecd06b2c08
end
end
section
open PySem PySem.W PyProof.Rows PySem.Calls PySem.SeqAt PySem.MeetsSeq Builtin Builtin.ObjectAttr
theorem Fj:Slot "map" "__init__" "object.__init__":=
 .of (owner:="object") (n:="__init__") (by rw[typeLookup_type,builtinLookup_eq_fast];kernel_rfl) (by decide+kernel) (by decide+kernel) (by decide+kernel)
  (by first| exact .inl (by decide+kernel)| exact .inr (by decide+kernel)) (by rw[isSubtype_type];kernel_rfl)
theorem CR:Slot "map" "__iter__" "map.__iter__":=
 .of (owner:="map") (n:="__iter__") (by rw[typeLookup_type,builtinLookup_eq_fast];kernel_rfl) (by decide+kernel) (by decide+kernel) (by decide+kernel)
  (by first| exact .inl (by decide+kernel)| exact .inr (by decide+kernel)) (by rw[isSubtype_type];kernel_rfl)
theorem AV:Slot "map" "__next__" "map.__next__":=
 .of (owner:="map") (n:="__next__") (by rw[typeLookup_type,builtinLookup_eq_fast];kernel_rfl) (by decide+kernel) (by decide+kernel) (by decide+kernel)
  (by first| exact .inl (by decide+kernel)| exact .inr (by decide+kernel)) (by rw[isSubtype_type];kernel_rfl)
theorem ES:entryFor table "map.__iter__"=some Builtin.«dict_keyiterator.__iter__»:=
 entryFor_alias (id':="dict_keyiterator.__iter__") (by kernel_rfl) (by first| rfl| decide+kernel| (unfold String.splitOn;simp+decide [String.splitOnAux])) (by decide+kernel) (by kernel_rfl)
theorem C7:entryFor table "map.__next__"=some Builtin.«map.__next__»:=entryFor_of_tree (by kernel_rfl)
theorem Fs:entryFor table "map.__new__"=some Builtin.«map.__new__»:=entryFor_of_tree (by kernel_rfl)
theorem Fv(a:Value):argsOk "map.__iter__" ⟨[a],[]⟩:=by unfold argsOk;kernel_rfl
theorem CU(a:Value):argsOk "map.__next__" ⟨[a],[]⟩:=by unfold argsOk;kernel_rfl
theorem Jf:mroOf (.type "map")=pure [.type "map",.type "object"]:=by rw[mroOf_type];kernel_rfl
theorem EF:typeLookup (.type "map") "__new__"=pure (some (.builtin "map.__new__")):=by rw[typeLookup_type,builtinLookup_eq_fast];kernel_rfl
theorem IL:TypeCalled "map" "map.__new__" "object.__init__":=
 ⟨by decide+kernel,by decide+kernel,⟨_,_,Jf⟩,madeBy_type Jf EF (by decide+kernel),by decide+kernel,by rw[isSubtype_type];kernel_rfl,Fj⟩
theorem Er(a b:Value):checkTypeCall "map" ⟨[a,b],[]⟩=pure ():=by kernel_rfl
theorem Fn(a b:Value):checkBuiltinCall "map.__new__" ⟨[.type "map",a,b],[]⟩=pure ():=by kernel_rfl
theorem MT:isSubtype (.type "map") (.type "map")=pure true:=by rw[isSubtype_type];kernel_rfl
theorem I9:typeLookup (.type "map") "__len__"=pure none:=by rw[typeLookup_type,builtinLookup_eq_fast];kernel_rfl
theorem H0:typeLookup (.type "map") "__length_hint__"=pure none:=by rw[typeLookup_type,builtinLookup_eq_fast];kernel_rfl
noncomputable abbrev C5(na:Addr)(i:Nat):Obj:={cls:=.type "list_iterator",data:=.fields #[.ref na,.int i 0]}
noncomputable abbrev F0(it:Addr):Obj:={cls:=.type "tuple",data:=.seq #[.ref it]}
noncomputable abbrev Gv(ti b:Addr):Obj:={cls:=.type "map",data:=.fields #[.ref ti,.ref b]}
open AutoSeq1 (wpAny_loadPart')
theorem Fp (b l:Addr) (items:Array Value) (n:Nat) (dct:Option Addr) (sl:Array (Option Value)):
  Meets (Builtin.«map.__new__» ⟨[.type "map",.ref b,.ref l],[]⟩) (fun O R s=>s.heap.get? l=some {cls:=.type "list",dict:=dct,data:=.seq items n,slots:=sl}∧
   R (.ok (.ret (.ref ((s.heap.push (C5 l 0)).push (F0 s.heap.objs.size)).objs.size)))
    {s with heap:=((s.heap.push (C5 l 0)).push (F0 s.heap.objs.size)).push (Gv (s.heap.push (C5 l 0)).objs.size b)}):=
 .of_wp fun prog w A R s h=>by
  obtain⟨hp,g,d,tk,os⟩:=s;obtain⟨hl,h⟩:=h;have hsub:=MT
  have hL:Heap.IsList (Shared.heap ⟨hp,g,d,tk,os⟩) l items:=⟨_,hl,rfl,n,rfl⟩
  wp_walk using wpAny_loadPart' hl,wpAny_pyIter_list hL
  exact⟨_,rfl,h⟩
end
section
local macro_rules
 | `(tactic| obtain $p:rcasesPatMed := $h) => zV (zL p h)
local macro_rules
 | `(tactic| rintro $ps:rintroPat*) => zV (if ps.any fun p => p.raw.getKind != ``Lean.Parser.Tactic.rintroPat.one then none else some (zP (ps.toList.flatMap fun p => zR p.raw)))
local macro_rules
 | `(tactic| have $n:ident : $t := $p) => zV (some (zP [zr (zq (zu (zA t (za "_"))) [p]), zI [n]]))
local macro_rules
 | `(tactic| cases $h:ident) => zV (some (zC h))
local macro_rules
 | `(tactic| refine $t) => zV (zX "refine" t)
local macro_rules
 | `(tactic| exact $t) => zV (zX "exact" t)
local macro_rules
 | `(tactic| rw [$rs,*]) => zV (some (zP (rs.getElems.toList.map (fun r => zW r.raw) ++ [zt "Tactic.tacticTry_" [zy "try", zs [zt "Tactic.withReducible" [zy "with_reducible", zs [zl]]]]])))
local macro_rules
 | `(tactic| show $t) => zV (some (zF [[zr (zu t)], [zt "Tactic.change" [zy "change", t, z0 []]]]))
section
open PySem PySem.W PyProof.Rows PySem.Calls
theorem As{n:Nat}(h:Nat.ble n 16777216=true):n≤sizeLine:=Nat.le_of_ble_eq_true h
inductive PV where
 | none
 | bool (b:Bool)
 | int (i:Int)
 | str (s:Str)
 | tup (l:List PV)
 | mat (l:List PV)
 | lst (l:List PV)
 | rng (a b:Int)
 | raw (v:Value)
noncomputable abbrev ED:Value:=.ref 143
mutual
inductive Is (ad:List Addr)(h:Heap):PV→Value→Prop
 | none:Is ad h .none .none
 | bool (b:Bool):Is ad h (.bool b) (.bool b)
 | int (i:Int) (t:Tok):Is ad h (.int i) (.int i t)
 | str (s:Str) (t:Tok):Is ad h (.str s) (.str s t)
 | tup {a:Addr} {o:Obj} {vs:List Value} {n:Nat} {l:List PV}:h.get? a=some o→o.cls=.type "tuple"→o.data=.seq vs.toArray n→a∉ad→IsAll ad h l vs→Is ad h (.tup l) (.ref a)
 | mat {a:Addr} {o:Obj} {vs:List Value} {n:Nat} {l:List PV}:h.get? a=some o→o.cls=ED→o.data=.seq vs.toArray n→a∉ad→IsAll ad h l vs→Is ad h (.mat l) (.ref a)
 | lst {a:Addr} {o:Obj} {vs:List Value} {n:Nat} {l:List PV}:h.get? a=some o→o.cls=.type "list"→o.dict=Option.none→o.data=.seq vs.toArray n→a∉ad→IsAll ad h l vs→Is ad h (.lst l) (.ref a)
 | rng {r:Addr} {a b:Int} {t u v:Tok}:IsRange h r a b 1 t u v→r∉ad→Is ad h (.rng a b) (.ref r)
 | raw (v:Value):Is ad h (.raw v) v
inductive IsAll (ad:List Addr)(h:Heap):List PV→List Value→Prop
 | nil:IsAll ad h [] []
 | cons {x:PV} {v:Value} {l:List PV} {vs:List Value}:Is ad h x v→IsAll ad h l vs→IsAll ad h (x::l) (v::vs)
end
noncomputable def Ad(ad:List Addr)(h:Heap)(ad':List Addr)(h':Heap):Prop:=∀b o,h.get? b=some o→b∉ad→h'.get? b=some o∧b∉ad'
theorem Ad.refl(ad:List Addr)(h:Heap):Ad ad h ad h:=fun O O e n=>⟨e,n⟩
theorem Ad.trans{a1 a2 a3:List Addr}{h1 h2 h3:Heap}(x:Ad a1 h1 a2 h2)(y:Ad a2 h2 a3 h3):Ad a1 h1 a3 h3:=
 fun b o e n=>y b o (x b o e n).1 (x b o e n).2
theorem Is.keep{ad ad':List Addr}{h h':Heap}(k:Ad ad h ad' h'){x:PV}{v:Value}(i:Is ad h x v):Is ad' h' x v:=
 Is.rec (motive_1:=fun x v O=>Is ad' h' x v) (motive_2:=fun l vs O=>IsAll ad' h' l vs) .none .bool .int .str
  (fun e c d n O r=>.tup (k _ _ e n).1 c d (k _ _ e n).2 r) (fun e c d n O r=>.mat (k _ _ e n).1 c d (k _ _ e n).2 r)
  (fun e c q d n O r=>.lst (k _ _ e n).1 c q d (k _ _ e n).2 r) (fun e n=>.rng (k _ _ e n).1 (k _ _ e n).2) .raw .nil (fun O O a r=>.cons a r) i
theorem IsAll.ind{ad:List Addr}{h:Heap}{P:List PV→List Value→Prop}(n:P [] [])(c:∀{x v l vs},Is ad h x v→IsAll ad h l vs→P l vs→P (x::l) (v::vs)){l:List PV}{vs:List Value}(i:IsAll ad h l vs):P l vs:=
 IsAll.rec (motive_1:=fun O O O=>True) (motive_2:=fun l vs O=>P l vs) trivial (fun O=>trivial) (fun O O=>trivial) (fun O O=>trivial) (fun O O O O O O=>trivial) (fun O O O O O O=>trivial)
  (fun O O O O O O O=>trivial) (fun O O=>trivial) (fun O=>trivial) n (fun a r O h=>c a r h) i
theorem IsAll.keep{ad ad':List Addr}{h h':Heap}(k:Ad ad h ad' h'){x:List PV}{v:List Value}(i:IsAll ad h x v):IsAll ad' h' x v:=i.ind .nil fun a O r=>.cons (a.keep k) r
theorem Is.vNone{ad:List Addr}{h:Heap}{v:Value}(i:Is ad h .none v):v=.none:=by cases(i);rfl
theorem Is.vBool{ad:List Addr}{h:Heap}{v:Value}{b:Bool}(i:Is ad h (.bool b) v):v=.bool b:=by cases(i);rfl
theorem Is.vInt{ad:List Addr}{h:Heap}{v:Value}{b:Int}(i:Is ad h (.int b) v):∃t,v=.int b t:=by cases(i);exact⟨_,rfl⟩
theorem Is.vStr{ad:List Addr}{h:Heap}{v:Value}{b:Str}(i:Is ad h (.str b) v):∃t,v=.str b t:=by cases(i);exact⟨_,rfl⟩
theorem Is.vTup{ad:List Addr}{h:Heap}{v:Value}{l:List PV}(i:Is ad h (.tup l) v):∃a o vs n,v=.ref a∧h.get? a=some o∧o.cls=.type "tuple"∧o.data=.seq vs.toArray n∧a∉ad∧IsAll ad h l vs:=by
 cases(i)
 exact⟨_,_,_,_,rfl,by assumption,by assumption,by assumption,by assumption,by assumption⟩
theorem Is.vRaw{ad:List Addr}{h:Heap}{v w:Value}(i:Is ad h (.raw w) v):v=w:=by cases(i);rfl
theorem IsAll.vNil{ad:List Addr}{h:Heap}{v:List Value}(i:IsAll ad h [] v):v=[]:=by cases(i);rfl
theorem IsAll.vCons{ad:List Addr}{h:Heap}{v:List Value}{x:PV}{l:List PV}(i:IsAll ad h (x::l) v):∃u us,Is ad h x u∧IsAll ad h l us∧v=u::us:=by
 cases(i)
 exact⟨_,_,by assumption,by assumption,rfl⟩
theorem IsAll.length{ad:List Addr}{h:Heap}{l:List PV}{vs:List Value}(i:IsAll ad h l vs):vs.length=l.length:=
 i.ind (P:=fun l vs=>vs.length=l.length) rfl fun O O h=>congrArg Nat.succ h
theorem IsAll.append{ad:List Addr}{h:Heap}{k:List PV}{ws:List Value}(y:IsAll ad h k ws){l:List PV}{vs:List Value}(i:IsAll ad h l vs):IsAll ad h (l++k) (vs++ws):=
 i.ind (P:=fun l vs=>IsAll ad h (l++k) (vs++ws)) y fun a O r=>.cons a r
theorem IsAll.get{ad:List Addr}{h:Heap}{l:List PV}{vs:List Value}(i:IsAll ad h l vs):∀{k:Nat} {x:PV},l[k]? =some x→∃v,vs[k]? =some v∧Is ad h x v:=
 i.ind (P:=fun l vs=>∀{k:Nat} {x:PV},l[k]? =some x→∃v,vs[k]? =some v∧Is ad h x v) (fun e=>by cases(e)) fun a r ih k x e=>by
  cases k with
  | zero=>cases e;exact⟨_,rfl,a⟩
  | succ k=>exact ih e
inductive Bf (ad:List Addr)(h:Heap):Option PV→Option Value→Prop
 | none:Bf ad h none none
 | some {x:PV} {v:Value}:Is ad h x v→Bf ad h (some x) (some v)
theorem Bf.keep{ad ad':List Addr}{h h':Heap}(k:Ad ad h ad' h'){x:Option PV}{v:Option Value}(i:Bf ad h x v):Bf ad' h' x v:=by
 cases i with
 | none=>exact .none
 | some a=>exact .some (a.keep k)
noncomputable def B8(ad:List Addr)(h:Heap)(x:Option PV)(v:Option Value):Prop:=∀y,x=some y→∃u,v=some u∧Is ad h y u
theorem B8.none{ad:List Addr}{h:Heap}{v:Option Value}:B8 ad h .none v:=fun O e=>nomatch e
theorem B8.some{ad:List Addr}{h:Heap}{x:PV}{v:Value}(i:Is ad h x v):B8 ad h (.some x) (.some v):=fun O e=>⟨v,rfl,Option.some.inj e▸i⟩
theorem B8.keep{ad ad':List Addr}{h h':Heap}(k:Ad ad h ad' h'){x:Option PV}{v:Option Value}(i:B8 ad h x v):B8 ad' h' x v:=fun y e=>Exists.elim (i y e) fun u q=>⟨u,q.1,q.2.keep k⟩
structure Cx where
 w:World
 os:OsState
noncomputable def hq(P:Params):Heap:=hideAll (hz P) [24,292]
noncomputable def Eh(ad:List Addr)(h:Heap)(q:Str)(c:Addr):Prop:=c∉ad∧∃oc vs t,h.get? c=some oc∧oc.data=.fields vs∧oc.cls=.type "code"∧vs[1]? =some (.str q t)
theorem Eh.keep{ad ad':List Addr}{h h':Heap}{q:Str}{c:Addr}(k:Ad ad h ad' h')(x:Eh ad h q c):Eh ad' h' q c:=by
 obtain⟨n,oc,vs,t,e,r⟩:=x;exact⟨(k _ _ e n).2,oc,vs,t,(k _ _ e n).1,r⟩
inductive PO where
 | list (l:List PV)
 | ns (m:List (Str×PV))
 | fld (k:Nat) (m:List (Str×PV))
 | cell (v:Option PV)
 | dictS (n:Nat) (f:Str→Option PV)
 | dictI (n:Nat) (f:Int→Option PV)
 | set0
 | inst (C:Addr) (d:Addr)
 | ext (P:Obj→Prop)
 | iter (x:PV) (P:Value→Obj→Prop)
 | tab (q:Str)
 | lam (f:Value→FuncData) (q:Str)
noncomputable abbrev md(X:Cx):Model:=model pw X.w
noncomputable def IsO(X:Cx)(ad:List Addr)(h:Heap)(a:Addr):PO→Prop
 | .list l=>∃vs,Heap.PlainList h a vs.toArray∧IsAll ad h l vs
 | .ns m=>∃f,h.Ns a f∧∀x,B8 ad h (m.lookup x) (f x)
 | .fld k m=>∃f,h.Ns a f∧h.DictLe a k∧∀x,Bf ad h (m.lookup x) (f x)
 | .cell v=>∃v',h.IsCell a v'∧Bf ad h v v'
 | .dictS n f=>∃g,Heap.MapOf (strKind pw X.w) h a g∧h.DictLe a n∧∀x,Bf ad h (f x) (g x)
 | .dictI n f=>∃g,Heap.MapOf (intKind pw X.w) h a g∧h.DictLe a n∧∀x,Bf ad h (f x) (g x)
 | .set0=>Heap.SetOf (strKind pw X.w) h a (fun O=>false) 0
 | .inst C d=>∃o,h.get? a=some o∧o.cls=.ref C∧o.dict=some d∧o.data=.plain
 | .ext P=>∃o,h.get? a=some o∧P o
 | .iter x P=>∃o v,h.get? a=some o∧Is ad h x v∧P v o
 | .tab q=>∃ps,h.get? a=some (tabObj ps)∧TriplesOk ps.toList∧∀pos cv,codeAmong pos ps.toList=some cv→∃c,cv=.ref c∧Eh ad h q c
 | .lam f q=>∃o c,h.get? a=some o∧o.data=.func (f (.ref c))∧o.cls=.type "function"∧Eh ad h q c
theorem PlainList.of_get{h h':Heap}{a:Addr}{vs:Array Value}(e:h'.get? a=h.get? a)(x:Heap.PlainList h a vs):Heap.PlainList h' a vs:=by
 obtain⟨n,ho⟩:=x;exact⟨n,e▸ho⟩
theorem Ns.of_get{h h':Heap}{a:Addr}{f}(e:h'.get? a=h.get? a)(x:h.Ns a f):h'.Ns a f:=by
 obtain⟨o,es,n,ho,r⟩:=x;exact⟨o,es,n,e▸ho,r⟩
theorem IsO.keep{X:Cx}{ad ad':List Addr}{h h':Heap}{a:Addr}{p:PO}(k:Ad ad h ad' h')(e:h'.get? a=h.get? a)(x:IsO X ad h a p):IsO X ad' h' a p:=by
 cases p with
 | list l=>obtain⟨vs,p,q⟩:=x;exact⟨vs,PlainList.of_get e p,q.keep k⟩
 | ns m=>obtain⟨f,p,q⟩:=x;exact⟨f,Ns.of_get e p,fun y=>(q y).keep k⟩
 | fld n m=>obtain⟨f,p,z,q⟩:=x;exact⟨f,Ns.of_get e p,fun o es ep h1 h2=>z o es ep (e▸h1) h2,fun y=>(q y).keep k⟩
 | cell v=>obtain⟨v',⟨o,ho,r⟩,q⟩:=x;exact⟨v',⟨o,e▸ho,r⟩,q.keep k⟩
 | dictS n f=>obtain⟨g,p,z,q⟩:=x;exact⟨g,by obtain⟨o,r⟩:=p;exact⟨o,by rw[e];exact r⟩,fun o es ep h1 h2=>z o es ep (e▸h1) h2,fun y=>(q y).keep k⟩
 | dictI n f=>obtain⟨g,p,z,q⟩:=x;exact⟨g,by obtain⟨o,r⟩:=p;exact⟨o,by rw[e];exact r⟩,fun o es ep h1 h2=>z o es ep (e▸h1) h2,fun y=>(q y).keep k⟩
 | set0=>obtain⟨o,es,ep,t,ho,r⟩:=x;exact⟨o,es,ep,t,e▸ho,r⟩
 | inst C d=>obtain⟨o,ho,r⟩:=x;exact⟨o,e▸ho,r⟩
 | ext P=>obtain⟨o,ho,r⟩:=x;exact⟨o,e▸ho,r⟩
 | iter y P=>obtain⟨o,v,ho,i,r⟩:=x;exact⟨o,v,e▸ho,i.keep k,r⟩
 | tab q=>obtain⟨ps,ho,t,r⟩:=x;exact⟨ps,e▸ho,t,fun pos cv hc=>by obtain⟨c,e1,i⟩:=r pos cv hc;exact⟨c,e1,i.keep k⟩⟩
 | lam f q=>obtain⟨o,c,ho,d,cl,r⟩:=x;exact⟨o,c,e▸ho,d,cl,r.keep k⟩
theorem IsO.some{X:Cx}{ad:List Addr}{h:Heap}{a:Addr}{p:PO}(x:IsO X ad h a p):∃o,h.get? a=some o:=by
 cases p with
 | list l=>obtain⟨vs,⟨n,ho⟩,q⟩:=x;exact⟨_,ho⟩
 | ns m=>obtain⟨f,⟨o,es,n,ho,_⟩,q⟩:=x;exact⟨o,ho⟩
 | fld n m=>obtain⟨f,⟨o,es,n,ho,_⟩,q⟩:=x;exact⟨o,ho⟩
 | cell v=>obtain⟨v',⟨o,ho,r⟩,q⟩:=x;exact⟨o,ho⟩
 | dictS k f=>obtain⟨g,⟨o,es,n,ho,_⟩,q⟩:=x;exact⟨o,ho⟩
 | dictI k f=>obtain⟨g,⟨o,es,n,ho,_⟩,q⟩:=x;exact⟨o,ho⟩
 | set0=>obtain⟨o,es,ep,t,ho,r⟩:=x;exact⟨o,ho⟩
 | inst C d=>obtain⟨o,ho,r⟩:=x;exact⟨o,ho⟩
 | ext P=>obtain⟨o,ho,r⟩:=x;exact⟨o,ho⟩
 | iter y P=>obtain⟨o,v,ho,i,r⟩:=x;exact⟨o,ho⟩
 | tab q=>obtain⟨ps,ho,r⟩:=x;exact⟨_,ho⟩
 | lam f q=>obtain⟨o,c,ho,r⟩:=x;exact⟨o,ho⟩
noncomputable abbrev Own:=List (Addr×PO)
noncomputable abbrev ads(o:Own):List Addr:=o.map Prod.fst
structure PS where
 own:Own
 gens:Array GenState
structure St (X:Cx)(σ:PS)(s:Shared):Prop where
 stat:∀b o,(hq X.w.params).get? b=some o→s.heap.get? b=some o∧b∉ads σ.own
 nodup:(ads σ.own).Nodup
 own:∀a p,(a,p)∈σ.own→IsO X (ads σ.own) s.heap a p
 gens:s.gens=σ.gens
 os:s.os=X.os
noncomputable abbrev Al(σ:PS)(s:Shared)(σ':PS)(s':Shared):Prop:=Ad (ads σ.own) s.heap (ads σ'.own) s'.heap
theorem St.off{X:Cx}{σ:PS}{s:Shared}(x:St X σ s):s.heap.objs.size∉ads σ.own:=fun hm=>by
 obtain⟨⟨a,p⟩,hp,e⟩:=List.mem_map.mp hm;obtain⟨o,ho⟩:=(x.own a p hp).some;have:=Heap.lt_size ho;exact absurd e (Nat.ne_of_lt this)
theorem St.push{X:Cx}{σ:PS}{s s':Shared}(x:St X σ s)(o:Obj)(eh:s'.heap=s.heap.push o)(eg:s'.gens=s.gens)(eo:s'.os=s.os):St X σ s'∧Al σ s σ s'∧(o.isFreed=false→s'.heap.get? s.heap.objs.size=some o)∧s.heap.objs.size∉ads σ.own:=by
 have k:Al σ s σ s':=fun b ob e n=>⟨by rw[eh];exact Heap.get?_push_of_some o e,n⟩
 refine⟨⟨fun b ob e=>?_,x.nodup,fun a p hp=>?_,eg.trans x.gens,eo.trans x.os⟩,k,fun hf=>by rw[eh];exact Heap.get?_push_size _ hf,x.off⟩
 ·obtain⟨u,n⟩:=x.stat b ob e
  exact k b ob u n
 ·obtain⟨ob,ho⟩:=(x.own a p hp).some
  refine(x.own a p hp).keep k ?_;rw[ho,eh];exact Heap.get?_push_of_some o ho
theorem St.same{X:Cx}{σ:PS}{s s':Shared}(x:St X σ s)(eh:s'.heap=s.heap)(eg:s'.gens=s.gens)(eo:s'.os=s.os):St X σ s'∧Al σ s σ s':=by
 have k:Al σ s σ s':=fun b ob e n=>⟨by rw[eh];exact e,n⟩
 exact⟨⟨fun b ob e=>by rw[eh];exact x.stat b ob e,x.nodup,fun a p hp=>by rw[eh];exact x.own a p hp,eg.trans x.gens,eo.trans x.os⟩,k⟩
theorem St.grow{X:Cx}{σ:PS}{s s':Shared}(x:St X σ s)(eh:∀b o,s.heap.get? b=some o→s'.heap.get? b=some o)(eg:s'.gens=s.gens)(eo:s'.os=s.os):St X σ s'∧Al σ s σ s':=by
 have k:Al σ s σ s':=fun b ob e n=>⟨eh _ _ e,n⟩
 refine⟨⟨fun b ob e=>?_,x.nodup,fun a p hp=>?_,eg.trans x.gens,eo.trans x.os⟩,k⟩
 ·obtain⟨u,n⟩:=x.stat b ob e
  exact k b ob u n
 ·obtain⟨ob,ho⟩:=(x.own a p hp).some
  exact(x.own a p hp).keep k ((eh _ _ ho).trans ho.symm)
theorem St.new{X:Cx}{σ:PS}{s s':Shared}(x:St X σ s){a:Addr}{p:PO}(ha:s.heap.get? a=none)(eh:∀b o,s.heap.get? b=some o→s'.heap.get? b=some o)(eg:s'.gens=s.gens)(eo:s'.os=s.os)(hp:IsO X (a::ads σ.own) s'.heap a p):St X ⟨(a,p)::σ.own,σ.gens⟩ s'∧Al σ s ⟨(a,p)::σ.own,σ.gens⟩ s':=by
 have hna:a∉ads σ.own:=fun hm=>by
  obtain⟨⟨b,q⟩,hq,e⟩:=List.mem_map.mp hm;obtain⟨o,ho⟩:=(x.own b q hq).some;simp only at e;subst e;rw[ha]at ho;cases ho
 have k:Al σ s ⟨(a,p)::σ.own,σ.gens⟩ s':=fun b ob e n=>⟨eh _ _ e,fun hm=>by
  rcases List.mem_cons.mp hm with rfl| hm
  ·exact absurd (ha.symm.trans e) (by simp)
  ·exact n hm⟩
 refine⟨⟨fun b ob e=>?_,List.nodup_cons.mpr ⟨hna,x.nodup⟩,fun b q hq=>?_,eg.trans x.gens,eo.trans x.os⟩,k⟩
 ·obtain⟨u,n⟩:=x.stat b ob e
  exact k b ob u n
 ·rcases List.mem_cons.mp hq with e| hq
  ·cases e;exact hp
  ·obtain⟨ob,ho⟩:=(x.own b q hq).some
   exact(x.own b q hq).keep k ((eh _ _ ho).trans ho.symm)
inductive Upd:Own→Addr→PO→Own→Prop
 | here {a:Addr} {p q:PO} {r:Own}:Upd ((a,p)::r) a q ((a,q)::r)
 | there {a:Addr} {q:PO} {x:Addr×PO} {r r':Own}:Upd r a q r'→Upd (x::r) a q (x::r')
theorem Upd.ads{o o':Own}{a:Addr}{q:PO}(u:Upd o a q o'):ads o'=ads o:=by
 induction u with
 | here=>rfl
 | there _ ih=>simp only[Mine.ads,List.map_cons]at ih ⊢;rw[ih]
theorem Upd.mem_addr{o o':Own}{a:Addr}{q:PO}(u:Upd o a q o'):a∈Mine.ads o:=by
 induction u with
 | here=>simp
 | there _ ih=>simp only[Mine.ads,List.map_cons,List.mem_cons]at ih ⊢;exact .inr ih
theorem Upd.mem{o o':Own}{a:Addr}{q:PO}(u:Upd o a q o')(nd:(Mine.ads o).Nodup):∀b p,(b,p)∈o'→(b=a∧p=q)∨(b≠a∧(b,p)∈o):=by
 induction u with
 | here=>
  intro b p hm
  rcases List.mem_cons.mp hm with e| hm
  ·cases e;exact .inl ⟨rfl,rfl⟩
  ·simp only[Mine.ads,List.map_cons,List.nodup_cons]at nd
   exact .inr ⟨fun e=>nd.1 (e▸List.mem_map.mpr ⟨(b,p),hm,rfl⟩),List.mem_cons_of_mem _ hm⟩
 | there u ih=>
  rename_i a x r r';intro b p hm;simp only[Mine.ads,List.map_cons,List.nodup_cons]at nd
  rcases List.mem_cons.mp hm with e| hm
  ·subst e
   exact .inr ⟨fun e=>nd.1 (by simp only at e ⊢;rw[e];exact u.mem_addr),List.mem_cons_self⟩
  ·rcases ih nd.2 b p hm with h| ⟨h,h'⟩
   ·exact .inl h
   ·exact .inr ⟨h,List.mem_cons_of_mem _ h'⟩
theorem St.upd{X:Cx}{o o':Own}{g:Array GenState}{s s':Shared}{a:Addr}{q:PO}(x:St X ⟨o,g⟩ s)(u:Upd o a q o')(eh:Heap.SameBut a s.heap s'.heap)(eg:s'.gens=s.gens)(eo:s'.os=s.os)(hq:IsO X (ads o) s'.heap a q):St X ⟨o',g⟩ s'∧Al ⟨o,g⟩ s ⟨o',g⟩ s':=by
 have k:Al ⟨o,g⟩ s ⟨o',g⟩ s':=fun b ob e n=>by
  simp only[u.ads];exact⟨(eh.2 b fun e=>n (by rw[e];exact u.mem_addr)).trans e,n⟩
 refine⟨⟨fun b ob e=>?_,by simp only[u.ads];exact x.nodup,fun b p hp=>?_,eg.trans x.gens,eo.trans x.os⟩,k⟩
 ·obtain⟨u,n⟩:=x.stat b ob e
  exact k b ob u n
 ·rcases u.mem x.nodup b p hp with⟨rfl,rfl⟩| ⟨hb,hm⟩
  ·simp only[u.ads];exact hq
  ·exact(x.own b p hm).keep k (eh.2 b hb)
theorem St.perm{X:Cx}{o o':Own}{g:Array GenState}{s:Shared}(x:St X ⟨o,g⟩ s)(p:o.Perm o'):St X ⟨o',g⟩ s∧Al ⟨o,g⟩ s ⟨o',g⟩ s:=by
 have pa:(ads o).Perm (ads o'):=p.map _
 have k:Al ⟨o,g⟩ s ⟨o',g⟩ s:=fun b ob e n=>⟨e,fun h=>n (pa.mem_iff.mpr h)⟩
 exact⟨⟨fun b ob e=>k b ob (x.stat b ob e).1 (x.stat b ob e).2,pa.nodup_iff.mp x.nodup,fun b q hq=>(x.own b q (p.mem_iff.mpr hq)).keep k rfl,x.gens,x.os⟩,k⟩
theorem St.drop{X:Cx}{o o':Own}{g:Array GenState}{s:Shared}(x:St X ⟨o,g⟩ s)(p:o'.Sublist o):St X ⟨o',g⟩ s∧Al ⟨o,g⟩ s ⟨o',g⟩ s:=by
 have pa:(ads o').Sublist (ads o):=p.map _
 have k:Al ⟨o,g⟩ s ⟨o',g⟩ s:=fun b ob e n=>⟨e,fun h=>n (pa.subset h)⟩
 exact⟨⟨fun b ob e=>k b ob (x.stat b ob e).1 (x.stat b ob e).2,x.nodup.sublist pa,fun b q hq=>(x.own b q (p.subset hq)).keep k rfl,x.gens,x.os⟩,k⟩
theorem St.freeze{X:Cx}{o:Own}{g:Array GenState}{s:Shared}{a:Addr}{l:List PV}(x:St X ⟨(a,.list l)::o,g⟩ s):St X ⟨o,g⟩ s∧Al ⟨(a,.list l)::o,g⟩ s ⟨o,g⟩ s∧Is (ads o) s.heap (.lst l) (.ref a):=by
 obtain⟨y,k⟩:=x.drop (List.sublist_cons_self _ _);refine⟨y,k,?_⟩;obtain⟨vs,⟨n,ho⟩,q⟩:=x.own a _ List.mem_cons_self;exact .lst ho rfl rfl rfl (by have:=x.nodup;simp only[ads,List.map_cons,List.nodup_cons]at this;exact this.1) (q.keep k)
inductive Po {α β:Type}(X:Cx)(R:List Addr→Heap→β→α→Prop)(Q:β→PS→Prop)(σ:PS)(s:Shared)(r:α)(s':Shared):Prop where
 | mk (b:β) (σ':PS) (i:R (ads σ'.own) s'.heap b r) (t:St X σ' s') (k:Al σ s σ' s') (q:Q b σ'):Po X R Q σ s r s'
theorem Po.from{α β:Type}{X:Cx}{R:List Addr→Heap→β→α→Prop}{Q:β→PS→Prop}{σ σ₁:PS}{s s₁:Shared}{r:α}{s':Shared}(k:Al σ s σ₁ s₁)(p:Po X R Q σ₁ s₁ r s'):Po X R Q σ s r s':=by
 obtain⟨b,σ',i,t,k',q⟩:=p;exact⟨b,σ',i,t,k.trans k',q⟩
theorem Po.mono{α β:Type}{X:Cx}{R:List Addr→Heap→β→α→Prop}{Q Q':β→PS→Prop}{σ:PS}{s:Shared}{r:α}{s':Shared}(p:Po X R Q σ s r s')(m:∀b σ',Q b σ'→Q' b σ'):Po X R Q' σ s r s':=by
 obtain⟨b,σ',i,t,k',q⟩:=p;exact⟨b,σ',i,t,k',m _ _ q⟩
noncomputable abbrev NoE:Value→Shared→Prop:=fun O O=>False
noncomputable def W{α β:Type}(X:Cx)(A:Around)(R:List Addr→Heap→β→α→Prop)(t:Sem α)(Q:β→PS→Prop)(σ:PS):Prop:=
 ∀s,St X σ s→wpAny (md X) A t (Po X R Q σ s) NoE s
theorem W.run{α β:Type}{X:Cx}{A:Around}{R:List Addr→Heap→β→α→Prop}{t:Sem α}{Q:β→PS→Prop}{σ:PS}{s:Shared}{P:α→Shared→Prop}{E:Value→Shared→Prop}(h:W X A R t Q σ)(hs:St X σ s)(f:∀r s' b σ',R (ads σ'.own) s'.heap b r→St X σ' s'→Al σ s σ' s'→Q b σ'→P r s'):wpAny (md X) A t P E s:=
 wpAny_mono (h s hs) (fun r s' t2=>by obtain⟨b,σ',i,t,k,q⟩:=t2;exact f r s' b σ' i t k q) fun O O e=>e.elim
theorem W.mono{α β:Type}{X:Cx}{A:Around}{R:List Addr→Heap→β→α→Prop}{t:Sem α}{Q Q':β→PS→Prop}{σ:PS}(h:W X A R t Q σ)(m:∀b σ',Q b σ'→Q' b σ'):W X A R t Q' σ:=
 fun s hs=>wpAny_mono (h s hs) (fun O O p=>p.mono m) fun O O e=>e
noncomputable abbrev WV(X:Cx)(A:Around)(t:Sem Value)(Q:PV→PS→Prop)(σ:PS):Prop:=W X A Is t Q σ
noncomputable def RE{α:Type}(_:List Addr)(_:Heap)(b a:α):Prop:=a=b
noncomputable abbrev WB(X:Cx)(A:Around)(t:Sem Bool)(Q:Bool→PS→Prop)(σ:PS):Prop:=W X A RE t Q σ
inductive PF where
 | next| brk| cont| ret (v:PV)
inductive IsF (ad:List Addr)(h:Heap):PF→Flow→Prop
 | next:IsF ad h .next .next
 | brk:IsF ad h .brk .brk
 | cont:IsF ad h .cont .cont
 | ret {x:PV} {v:Value}:Is ad h x v→IsF ad h (.ret x) (.ret v)
noncomputable abbrev WF(X:Cx)(A:Around)(t:Sem Flow)(Q:PF→PS→Prop)(σ:PS):Prop:=W X A IsF t Q σ
noncomputable abbrev WL(X:Cx)(A:Around)(t:Sem (List Value))(Q:List PV→PS→Prop)(σ:PS):Prop:=W X A IsAll t Q σ
noncomputable def O1{α β:Type}(X:Cx)(A:Around)(R:List Addr→Heap→β→α→Prop)(f:Value→Sem α)(a:PV)(Q:β→PS→Prop)(σ:PS):Prop:=
 ∀s va,St X σ s→Is (ads σ.own) s.heap a va→wpAny (md X) A (f va) (Po X R Q σ s) NoE s
noncomputable def O2{α β:Type}(X:Cx)(A:Around)(R:List Addr→Heap→β→α→Prop)(f:Value→Value→Sem α)(a b:PV)(Q:β→PS→Prop)(σ:PS):Prop:=
 ∀s va vb,St X σ s→Is (ads σ.own) s.heap a va→Is (ads σ.own) s.heap b vb→wpAny (md X) A (f va vb) (Po X R Q σ s) NoE s
noncomputable def ON{α β:Type}(X:Cx)(A:Around)(R:List Addr→Heap→β→α→Prop)(f:List Value→Sem α)(l:List PV)(Q:β→PS→Prop)(σ:PS):Prop:=
 ∀s vs,St X σ s→IsAll (ads σ.own) s.heap l vs→wpAny (md X) A (f vs) (Po X R Q σ s) NoE s
theorem O1.run{α β:Type}{X:Cx}{A:Around}{R:List Addr→Heap→β→α→Prop}{f:Value→Sem α}{a:PV}{Q:β→PS→Prop}{σ:PS}{s:Shared}{va:Value}{P:α→Shared→Prop}{E:Value→Shared→Prop}(h:O1 X A R f a Q σ)(hs:St X σ s)(ia:Is (ads σ.own) s.heap a va)(k:∀r s' b σ',R (ads σ'.own) s'.heap b r→St X σ' s'→Al σ s σ' s'→Q b σ'→P r s'):wpAny (md X) A (f va) P E s:=
 wpAny_mono (h s va hs ia) (fun r s' t2=>by obtain⟨b,σ',i,t,ke,q⟩:=t2;exact k r s' b σ' i t ke q) fun O O e=>e.elim
theorem O2.run{α β:Type}{X:Cx}{A:Around}{R:List Addr→Heap→β→α→Prop}{f:Value→Value→Sem α}{a b:PV}{Q:β→PS→Prop}{σ:PS}{s:Shared}{va vb:Value}{P:α→Shared→Prop}{E:Value→Shared→Prop}(h:O2 X A R f a b Q σ)(hs:St X σ s)(ia:Is (ads σ.own) s.heap a va)(ib:Is (ads σ.own) s.heap b vb)(k:∀r s' b σ',R (ads σ'.own) s'.heap b r→St X σ' s'→Al σ s σ' s'→Q b σ'→P r s'):wpAny (md X) A (f va vb) P E s:=
 wpAny_mono (h s va vb hs ia ib) (fun r s' t2=>by obtain⟨b,σ',i,t,ke,q⟩:=t2;exact k r s' b σ' i t ke q) fun O O e=>e.elim
theorem ON.run{α β:Type}{X:Cx}{A:Around}{R:List Addr→Heap→β→α→Prop}{f:List Value→Sem α}{l:List PV}{Q:β→PS→Prop}{σ:PS}{s:Shared}{vs:List Value}{P:α→Shared→Prop}{E:Value→Shared→Prop}(h:ON X A R f l Q σ)(hs:St X σ s)(ia:IsAll (ads σ.own) s.heap l vs)(k:∀r s' b σ',R (ads σ'.own) s'.heap b r→St X σ' s'→Al σ s σ' s'→Q b σ'→P r s'):wpAny (md X) A (f vs) P E s:=
 wpAny_mono (h s vs hs ia) (fun r s' t2=>by obtain⟨b,σ',i,t,ke,q⟩:=t2;exact k r s' b σ' i t ke q) fun O O e=>e.elim
theorem Ge(P:Params)(a:Addr)(o:Obj)(ha:a<328)(e:(tz pw P).get a=some o)(hf:o.isFreed=false):(hz P).get? a=some o:=by
 refine Heap.get?_some_iff.mpr ⟨?_,hf⟩;unfold hz;rw[absHeap_at,if_pos ha,e];rfl
theorem Aa (P:Params) (a:Addr) (o:Obj) (ha:a<328) (e:(tz pw P).get a=some o) (hf:o.isFreed=false) (hn:a∉([24,292]:List Addr):=by decide):(hq P).get? a=some o:=
 hideAll_get _ (Ge P a o ha e hf) hn
theorem Jq(P:Params):(hq P).get? 3=some (Gj pw P):=Aa P 3 _ (by decide) (by kernel_rfl) rfl
theorem O7(P:Params):(hq P).get? 0=some (LH pw P):=Aa P 0 _ (by decide) (by kernel_rfl) rfl
theorem O8(P:Params):(hq P).get? 2=some (Nb pw P):=Aa P 2 _ (by decide) (by kernel_rfl) rfl
noncomputable def frg(P:Params):Frag:=[(3,Gj pw P),(0,LH pw P)]
theorem II(P:Params):(frg P).In (hq P):=by
 intro a o e;simp only[frg,List.lookup]at e;split at e
 ·rename_i q;cases e;rw[beq_iff_eq.mp q];exact Jq P
 ·split at e
  ·rename_i q;cases e;rw[beq_iff_eq.mp q];exact O7 P
  ·cases e
theorem St.hz{X:Cx}{σ:PS}{s:Shared}(x:St X σ s):∀b o,(hq X.w.params).get? b=some o→s.heap.get? b=some o:=fun b o e=>(x.stat b o e).1
theorem St.lim{X:Cx}{σ:PS}{s:Shared}(x:St X σ s):s.heap.NoLimit:=by
 refine Heap.NoLimit.keeps (h:=Mine.hq X.w.params) ?_ x.hz;refine⟨fun O=>none,⟨_,_,_,O8 _,rfl,fun e he=>absurd he (by simp),fun x=>rfl⟩,rfl⟩
theorem Rx{X:Cx}{A:Around}{env:Env}{x:Str}{v:Value}{Q:PV→PS→Prop}{σ:PS}(q:Q (.raw v) σ)(e:nsIn (frg X.w.params) 3 x=some (some v))(hg:env.globals=3):WV X A (loadGlobal env x) Q σ:=by
 intro s hs;unfold loadGlobal;rw[hg];refine wpAny_bind (((looks_nsIn (II _) e).keeps hs.hz).here ?_);exact wpAny_pure ⟨_,σ,.raw v,hs,Ad.refl _ _,q⟩
theorem Vb{X:Cx}{A:Around}{env:Env}{x:Str}{v:Value}{Q:PV→PS→Prop}{σ:PS}(q:Q (.raw v) σ)(e:nsIn (frg X.w.params) 3 x=some none)(e':nsIn (frg X.w.params) 0 x=some (some v))(hg:env.globals=3)(hb:env.builtins=0):WV X A (loadGlobal env x) Q σ:=by
 intro s hs;unfold loadGlobal;rw[hg,hb];refine wpAny_bind (((looks_nsIn (II _) e).keeps hs.hz).here ?_);refine wpAny_bind (((looks_nsIn (II _) e').keeps hs.hz).here ?_);exact wpAny_pure ⟨_,σ,.raw v,hs,Ad.refl _ _,q⟩
example (X:Cx):nsIn (frg X.w.params) 3 (Str.ofString "_law_line")=some (some (.ref 283)):=by rfl
example (X:Cx):nsIn (frg X.w.params) 3 "len"=some none:=by rfl
example (X:Cx):nsIn (frg X.w.params) 0 "len"=some (some (.builtin "len")):=by rfl
theorem HV{X:Cx}{A:Around}{env:Env}{x:Str}{pos:Pos}{v:Value}{Q:PV→PS→Prop}{σ:PS}(q:Q (.raw v) σ)(hk:env.scope.kind=.function)(hl:env.kindOf x=some .globalImplicit)(e:nsIn (frg X.w.params) 3 x=some (some v))(hg:env.globals=3)(hd:(x==("__debug__":Str))=false):WV X A (eval (.Name x pos) env) Q σ:=by
 intro s hs;refine wpAny_Name ?_ hd;rw[PyProof.Rows.loadName_read hk hl];exact Rx q e hg s hs
theorem IQ{X:Cx}{A:Around}{env:Env}{x:Str}{pos:Pos}{v:Value}{Q:PV→PS→Prop}{σ:PS}(q:Q (.raw v) σ)(hk:env.scope.kind=.function)(hl:env.kindOf x=some .globalImplicit)(e:nsIn (frg X.w.params) 3 x=some none)(e':nsIn (frg X.w.params) 0 x=some (some v))(hg:env.globals=3)(hb:env.builtins=0)(hd:(x==("__debug__":Str))=false):WV X A (eval (.Name x pos) env) Q σ:=by
 intro s hs;refine wpAny_Name ?_ hd;rw[PyProof.Rows.loadName_read hk hl];exact Vb q e e' hg hb s hs
noncomputable def Ao:List (Str×PV)→Str→PV→List (Str×PV)
 | [],x,v=>[(x,v)]
 | (y,w)::r,x,v=>if x==y then(y,v)::r else(y,w)::Ao r x v
theorem Bq:∀(m:List (Str×PV)) (x:Str) (v:PV) (y:Str),(Ao m x v).lookup y=if y=x then some v else m.lookup y
 | [],x,v,y=>by
  simp only[Ao,List.lookup_cons,List.lookup_nil];by_cases h:y=x
  ·subst h;simp
  ·rw[if_neg h,beq_eq_false_iff_ne.mpr h]
 | (z,w)::r,x,v,y=>by
  unfold Ao;by_cases hx:x=z
  ·subst hx
   rw[if_pos (beq_self_eq_true _)];by_cases h:y=x
   ·subst h;simp
   ·simp only[List.lookup_cons,beq_eq_false_iff_ne.mpr h,if_neg h]
  ·rw[if_neg (by simpa using hx)]
   simp only[List.lookup_cons,Bq r x v y];by_cases h:y=z
   ·subst h;simp[Ne.symm hx]
   ·rw[beq_eq_false_iff_ne.mpr h]
theorem Rz{X:Cx}{A:Around}{env:Env}{x:Str}{pos:Pos}{v:PV}{m:List (Str×PV)}{o:Own}{g:Array GenState}{Q:PV→PS→Prop}(q:Q v ⟨(env.locals,.ns m)::o,g⟩)(hk:env.scope.kind=.function)(hl:env.kindOf x=some .local)(hm:m.lookup x=some v)(hd:(x==("__debug__":Str))=false):WV X A (eval (.Name x pos) env) Q ⟨(env.locals,.ns m)::o,g⟩:=by
 intro s hs;refine wpAny_Name ?_ hd;obtain⟨f,hn,hf⟩:=hs.own _ _ List.mem_cons_self;obtain⟨u,hfx,i⟩:=hf x v hm;exact wpAny_loadName_local hk hl hn hfx ⟨v,_,i,hs,Ad.refl _ _,q⟩
theorem GM{X:Cx}{A:Around}{env:Env}{x:Str}{v:PV}{m:List (Str×PV)}{o:Own}{g:Array GenState}{Q:Unit→PS→Prop}(hk:env.scope.kind=.function)(hl:env.kindOf x=some .local)(q:Q () ⟨(env.locals,.ns (Ao m x v))::o,g⟩):O1 X A RE (storeName env x) v Q ⟨(env.locals,.ns m)::o,g⟩:=by
 intro s va hs iv;obtain⟨f,hn,hf⟩:=hs.own _ _ List.mem_cons_self;refine wpAny_storeName_local hl hn (fun h' hn' hs'=>?_) (by rw[hk];rfl)
 have k₀:Ad (ads ((env.locals,PO.ns m)::o)) s.heap (ads ((env.locals,PO.ns m)::o)) h':=fun b ob e n=>⟨(hs'.2 b fun e=>n (by rw[e];exact List.mem_cons_self)).trans e,n⟩
 obtain⟨t,k⟩:=hs.upd (s':={s with heap:=h',toks:=s.toks+1}) (q:=.ns (Ao m x v)) .here hs' rfl rfl ⟨_,hn',fun y=>by
  rw[Bq];by_cases h:y=x
  ·rw[if_pos h,if_pos h];exact .some (iv.keep k₀)
  ·rw[if_neg h,if_neg h];exact(hf y).keep k₀⟩
 exact⟨(),_,rfl,t,k,q⟩
noncomputable def AR(n:Nat):Around:={handled:=none,depth:=400+n,frames:=none,guards:=none,units:=100+20*n}
structure Around.Le (A B:Around):Prop where
 h:A.handled=B.handled
 d:A.depth≤B.depth
 f:B.frames=none
 g:B.guards=none
 u:A.units≤B.units
theorem Aq{α:Type}{M:Model}{A B:Around}(le:Around.Le A B){t:Sem α}{Q:α→Shared→Prop}{E:Value→Shared→Prop}{s:Shared}(h:wpAny M B t Q E s):wpAny M A t Q E s:=
 fun Γ p hΓ=>h Γ p (by
  refine⟨hΓ.1.trans le.h,Nat.le_trans hΓ.2.1 le.d,?_,?_,Nat.le_trans hΓ.2.2.2.2 le.u⟩
  ·intro l hl;rw[le.f]at hl;cases hl
  ·intro l hl;rw[le.g]at hl;cases hl)
theorem AR.le{n m:Nat}(h:n≤m):Around.Le (AR n) (AR m):=⟨rfl,by simp only[AR];exact Wu h,rfl,rfl,by simp only[AR];exact Wt h⟩
theorem AR.deeper{n:Nat}{env:Env}:Around.Le ((AR n).deeper env) (AR (n+1)):=⟨rfl,by simp only[AR,Around.deeper];exact Ws,rfl,rfl,by simp only[AR,Around.deeper];exact Wr⟩
theorem AR.in1{n:Nat}:Around.Le (AR n).in1 (AR (n+1)):=⟨rfl,by simp only[AR];exact Wq,rfl,rfl,by simp only[AR];exact Wp⟩
section
variable {X:Cx}{A:Around}{env:Env}{σ:PS}{Q:PV→PS→Prop}{P:PF→PS→Prop}
theorem W_int{i:Int}{k:Nat}{pos:Pos}(q:Q (.int i) σ):WV X A (eval (.Constant (.int i) k pos) env) Q σ:=by
 intro s hs;obtain⟨t,ke⟩:=hs.same (s':={s with toks:=s.toks+1}) rfl rfl rfl;exact wpAny_Constant_int ⟨_,σ,.int i _,t,ke,q⟩
theorem W_str{i:Str}{k:Nat}{pos:Pos}(q:Q (.str i) σ):WV X A (eval (.Constant (.str i) k pos) env) Q σ:=by
 intro s hs;obtain⟨t,ke⟩:=hs.same (s':={s with toks:=s.toks+1}) rfl rfl rfl;rw[eval_Constant];show wpAny _ _ (mkText i) _ _ _;exact wpAny_mkText ⟨_,σ,.str i _,t,ke,q⟩
theorem W_none{k:Nat}{pos:Pos}(q:Q .none σ):WV X A (eval (.Constant .none k pos) env) Q σ:=by
 intro s hs;rw[eval_Constant];exact wpAny_pure ⟨_,σ,.none,hs,Ad.refl _ _,q⟩
theorem W_bool{b:Bool}{k:Nat}{pos:Pos}(q:Q (.bool b) σ):WV X A (eval (.Constant (.bool b) k pos) env) Q σ:=by
 intro s hs;rw[eval_Constant];exact wpAny_pure ⟨_,σ,.bool b,hs,Ad.refl _ _,q⟩
theorem W_BinOp{l r:Expr}{op:Operator}{pos:Pos}(h:WV X A (eval l env) (fun a σ₁=>WV X A (eval r env) (fun b σ₂=>O2 X A Is (binaryOp op) a b Q σ₂) σ₁) σ):WV X A (eval (.BinOp l op r pos) env) Q σ:=fun s hs=>
 wpAny_BinOp (h.run hs fun va s₁ a σ₁ ia hs₁ k₁ h₁=>h₁.run hs₁ fun vb s₂ b σ₂ ib hs₂ k₂ h₂=>h₂.run hs₂ (ia.keep k₂) ib fun r s₃ c σ₃ ic hs₃ k₃ q=>
  ⟨c,σ₃,ic,hs₃,(k₁.trans k₂).trans k₃,q⟩)
theorem add_ii{a b:Int}(q:Q (.int (a+b)) σ):O2 X A Is (binaryOp .Add) (.int a) (.int b) Q σ:=by
 intro s va vb hs ia ib
 cases ia;cases ib
 obtain⟨t,ke⟩:=hs.same (s':={s with toks:=s.toks+1}) rfl rfl rfl;exact PyProof.Rows.add_int ⟨_,σ,.int _ _,t,ke,q⟩
theorem sub_ii{a b:Int}(q:Q (.int (a-b)) σ):O2 X A Is (binaryOp .Sub) (.int a) (.int b) Q σ:=by
 intro s va vb hs ia ib
 cases ia;cases ib
 obtain⟨t,ke⟩:=hs.same (s':={s with toks:=s.toks+1}) rfl rfl rfl;exact PyProof.Rows.sub_int ⟨_,σ,.int _ _,t,ke,q⟩
theorem Da{a b:Int}(hb:b≠0)(q:Q (.int (a.fmod b)) σ):O2 X A Is (binaryOp .Mod) (.int a) (.int b) Q σ:=by
 intro s va vb hs ia ib
 cases ia;cases ib
 obtain⟨t,ke⟩:=hs.same (s':={s with toks:=s.toks+1}) rfl rfl rfl;exact PyProof.Rows.mod_int' hb ⟨_,σ,.int _ _,t,ke,q⟩
theorem Bm{a b:Str}(hsz:a.length+b.length≤sizeLine)(q:Q (.str (a++b)) σ):O2 X A Is (binaryOp .Add) (.str a) (.str b) Q σ:=by
 intro s va vb hs ia ib
 cases ia;cases ib
 refine PyProof.Rows.add_str (fun t' tk=>?_) hsz;obtain⟨t,ke⟩:=hs.same (s':={s with toks:=tk}) rfl rfl rfl;exact⟨_,σ,.str _ _,t,ke,q⟩
theorem QN{a:Str}{n:Int}(h:MulOk a n)(q:Q (.str (Txt.mul a n)) σ):O2 X A Is (binaryOp .Mult) (.str a) (.int n) Q σ:=by
 intro s va vb hs ia ib
 cases ia;cases ib
 refine SB.mul h (fun t' tk=>?_);obtain⟨t,ke⟩:=hs.same (s':={s with toks:=tk}) rfl rfl rfl;exact⟨_,σ,.str _ _,t,ke,q⟩
theorem W_Sub{value slice:Expr}{pos:Pos}(h:WV X A (eval value env) (fun a σ₁=>WV X A (eval slice env) (fun b σ₂=>O2 X A Is (subscriptTail value slice) a b Q σ₂) σ₁) σ):WV X A (eval (.Subscript value slice pos) env) Q σ:=fun s hs=>
 PyProof.Rows.Subscript_ (h.run hs fun va s₁ a σ₁ ia hs₁ k₁ h₁=>h₁.run hs₁ fun vb s₂ b σ₂ ib hs₂ k₂ h₂=>h₂.run hs₂ (ia.keep k₂) ib fun r s₃ c σ₃ ic hs₃ k₃ q=>
  ⟨c,σ₃,ic,hs₃,(k₁.trans k₂).trans k₃,q⟩)
theorem A4{value slice:Expr}{l:List PV}{k:Int}{j:Nat}{x:PV}(hj:seqIndex? k l.length=some j)(hx:l[j]? =some x)(hlo: -(2 ^ 63)≤k)(hhi:k<2 ^ 63)(hs:∀t u,subscripted slice false (.ref t) (.int k u)=operate [.ref t,.int k u] (getItem (.ref t) (.int k u)))(q:Q x σ):O2 X A Is (subscriptTail value slice) (.tup l) (.int k) Q σ:=by
 intro s va vb hst ia ib
 cases ib
 cases ia with
 | tup ho hc hd hn ia=>
  obtain⟨v,hv,iv⟩:=ia.get hx;exact PyProof.Rows.item_tupleT ⟨_,ho,hc,_,hd⟩ hlo hhi (by rw[ia.length];exact hj) hv ⟨_,σ,iv,hst,Ad.refl _ _,q⟩ (hs _ _)
theorem W_ret{e:Expr}{pos:Pos}(h:WV X A (eval e env) (fun v=>P (.ret v)) σ):WF X A (exec (.Return (some e) pos) env) P σ:=fun s hs=>
 wpAny_Return_some (h.run hs fun v s' b σ' i t k q=>⟨.ret b,σ',.ret i,t,k,q⟩)
theorem W_nil(q:P .next σ):WF X A (execs [] env) P σ:=fun s hs=>wpAny_execs_nil ⟨.next,σ,.next,hs,Ad.refl _ _,q⟩
theorem Ry {st:Stmt} {rest:List Stmt} (h:WF X A (exec st env) (fun f σ'=>match f with | .next=>WF X A (execs rest env) P σ'| f=>P f σ') σ):WF X A (execs (st::rest) env) P σ:=fun s hs=>
 wpAny_execs_cons (h.run hs fun f s' b σ' i t k q=>by
  cases i with
  | next=>exact wpAny_mono (q s' t) (fun O O p=>p.from k) fun O O e=>e
  | brk=>exact⟨_,_,.brk,t,k,q⟩
  | cont=>exact⟨_,_,.cont,t,k,q⟩
  | ret i=>exact⟨_,_,.ret i,t,k,q⟩)
end
inductive Lv:PV→PS→PV→PS→Prop
 | refl {v σ}:Lv v σ v σ
 | drop {v o o' g}:o'.Sublist o→Lv v ⟨o,g⟩ v ⟨o',g⟩
 | perm {v o o' g}:o.Perm o'→Lv v ⟨o,g⟩ v ⟨o',g⟩
 | freeze {a l o g}:Lv (.raw (.ref a)) ⟨(a,.list l)::o,g⟩ (.lst l) ⟨o,g⟩
 | trans {v σ v' σ' v'' σ''}:Lv v σ v' σ'→Lv v' σ' v'' σ''→Lv v σ v'' σ''
theorem Lv.go{X:Cx}{v v':PV}{σ σ':PS}(l:Lv v σ v' σ'):∀{s:Shared} {r:Value},St X σ s→Is (ads σ.own) s.heap v r→St X σ' s∧Al σ s σ' s∧Is (ads σ'.own) s.heap v' r:=by
 induction l with
 | refl=>exact fun hs i=>⟨hs,Ad.refl _ _,i⟩
 | drop p=>exact fun hs i=>⟨(hs.drop p).1,(hs.drop p).2,i.keep (hs.drop p).2⟩
 | perm p=>exact fun hs i=>⟨(hs.perm p).1,(hs.perm p).2,i.keep (hs.perm p).2⟩
 | freeze=>exact fun hs i=>by cases i;exact hs.freeze
 | trans _ _ ih₁ ih₂=>
  intro s r hs i;obtain⟨a,b,c⟩:=ih₁ hs i;obtain⟨a',b',c'⟩:=ih₂ a c;exact⟨a',b.trans b',c'⟩
noncomputable def PF.val:PF→PV
 | .ret v=>v
 | _=>.none
noncomputable def V9:Flow→Value
 | .ret v=>v
 | _=>.none
theorem IsF.val{ad:List Addr}{h:Heap}{b:PF}{f:Flow}(i:IsF ad h b f):Is ad h b.val (V9 f):=by
 cases i with
 | ret i=>exact i
 | _=>exact .none
noncomputable def Lvs(Q:PV→PS→Prop)(v:PV)(σ:PS):Prop:=∃v' σ',Lv v σ v' σ'∧Q v' σ'
noncomputable def Bg(X:Cx)(fd:FuncData)(kw:List (Str×Value))(args:List PV)(bs:List (Str×PV)):Prop:=
 ∀σ s vs,St X σ s→IsAll (ads σ.own) s.heap args vs→∃binds:List (Str×Value),BindsTo s fd ⟨vs,kw⟩ binds∧binds.map Prod.fst=bs.map Prod.fst∧IsAll (ads σ.own) s.heap (bs.map Prod.snd) (binds.map Prod.snd)
theorem Dd{ad:List Addr}{h:Heap}:∀{bs:List (Str×PV)} {binds:List (Str×Value)},binds.map Prod.fst=bs.map Prod.fst→IsAll ad h (bs.map Prod.snd) (binds.map Prod.snd)→∀x,B8 ad h (bs.lookup x) (binds.lookup x):=by
 intro bs
 induction bs with
 | nil=>exact fun O O O=>.none
 | cons b r ih=>
  intro binds e i x
  cases binds with
  | nil=>cases e
  | cons b' r'=>
   obtain⟨u,us,i,j,e'⟩:=IsAll.vCons i;have e1:b'.1=b.1:=List.head_eq_of_cons_eq e;have e2:b'.2=u:=List.head_eq_of_cons_eq e';rw[List.lookup_cons,List.lookup_cons,e1,e2]
   cases x==b.1 with
   | true=>exact .some i
   | false=>exact ih (List.tail_eq_of_cons_eq e) ((List.tail_eq_of_cons_eq e').symm▸j) x
theorem IsAll.reverse{ad:List Addr}{h:Heap}{l:List PV}{vs:List Value}(i:IsAll ad h l vs):IsAll ad h l.reverse vs.reverse:=
 i.ind (P:=fun l vs=>IsAll ad h l.reverse vs.reverse) .nil fun a O r=>by rw[List.reverse_cons,List.reverse_cons];exact IsAll.append (.cons a .nil) r
noncomputable def OC(X:Cx)(A:Around)(f:Value)(kw:List (Str×Value))(args:List PV)(Q:PV→PS→Prop)(σ:PS):Prop:=
 ∀s vs,St X σ s→IsAll (ads σ.own) s.heap args vs→codeAny (md X) A (.call f ⟨vs,kw⟩) (fun r s'=>match r with | .ok (.ret v)=>Po X Is Q σ s v s'| .ok _=>False| .error e=>False) s
theorem OC.on{X:Cx}{A:Around}{f:Value}{kw:List (Str×Value)}{args:List PV}{Q:PV→PS→Prop}{σ:PS}(h:OC X A f kw args Q σ):ON X A Is (fun vs=>call f vs kw) args Q σ:=fun s vs hs i=>wpAny_call (h s vs hs i)
theorem EX{X:Cx}{n:Nat}{a:Addr}{o:Obj}{fd:FuncData}{body:List Stmt}{kw:List (Str×Value)}{args:List PV}{bs:List (Str×PV)}{Q:PV→PS→Prop}{σ:PS}(ho:(Mine.hq X.w.params).get? a=some o)(hdata:o.data=.func fd)(hcd:(Mine.hq X.w.params).CodeRec fd.code fd.qualname)(hbody:fd.body=.stmts body)(hbind:Bg X fd kw args bs)(hcell:∀x∈fd.scope.names,x.2≠.cell)(hloc:∀x∈bs.map Prod.fst,fd.scope.names.lookup x=some .local)(hco:fd.scope.isCoroutine=false)(hgen:fd.scope.isGenerator=false)(hk:fd.scope.kind=.function)(hn:n<500)(h:∀L,WF X (AR (n+1)) (execs body (callEnv fd L a)) (fun f σ'=>Lvs Q f.val σ') ⟨(L,.ns bs.reverse)::σ.own,σ.gens⟩):OC X (AR n) (.ref a) kw args Q σ:=by
 intro s vs hs iv;obtain⟨binds,hb,hf,hi⟩:=hbind σ s vs hs iv;refine codeAny_mono (R:=fun r s'=>match r with | .ok (.ret v)=>Po X Is Q σ s v s'| .ok _=>False| .error e=>False) (codeAny_call_def (by show 400+n<recursionLimit;unfold recursionLimit;exact a34 hn) (hs.hz _ _ ho) hdata hs.lim (hcd.keeps hs.hz) hbody hb hcell (fun x hx=>hloc _ (hf▸List.mem_map.mpr ⟨x,hx,rfl⟩)) (fun h₀ hns hk₀=>?_) hco hgen hk) (fun O O q=>q)
 have k₀:Ad (ads σ.own) s.heap (s.heap.objs.size::ads σ.own) h₀:=fun b ob e m=>⟨hk₀ b ob e,fun hm=>by
  rcases List.mem_cons.mp hm with rfl| hm
  ·exact absurd (Heap.lt_size e) (Nat.lt_irrefl _)
  ·exact m hm⟩
 have hnone:s.heap.get? s.heap.objs.size=none:=by
  cases e:s.heap.get? s.heap.objs.size with
  | none=>rfl
  | some o=>exact absurd (Heap.lt_size e) (Nat.lt_irrefl _)
 obtain⟨t,ke⟩:=hs.new (s':={s with heap:=h₀,toks:=s.toks+binds.length}) (p:=.ns bs.reverse) hnone hk₀ rfl rfl
  ⟨_,hns,fun x=>Dd (by rw[List.map_reverse,List.map_reverse,hf]) (by rw[List.map_reverse,List.map_reverse];exact(hi.keep k₀).reverse) x⟩
 refine Aq AR.deeper ?_;refine(h _).run t fun f s' b σ' i t' k' q=>?_;obtain⟨v',σ'',lv,q⟩:=q;obtain⟨t'',k'',i''⟩:=lv.go t' (IsF.val i);exact⟨v',σ'',i'',t'',(ke.trans k').trans k'',q⟩
section
variable {X:Cx}{A:Around}{env:Env}{σ:PS}{Q:PV→PS→Prop}{P:PF→PS→Prop}{B:Bool→PS→Prop}{l:List PV}
noncomputable def WEs(X:Cx)(A:Around)(env:Env)(es:List Expr)(Q:List PV→PS→Prop)(σ:PS):Prop:=∀pos,WL X A (spliced (backTo pos (starEach es env))) Q σ
theorem Es_nil{Q:List PV→PS→Prop}(q:Q [] σ):WEs X A env [] Q σ:=fun pos s hs=>Calls.spliced_nil ⟨[],σ,.nil,hs,Ad.refl _ _,q⟩
theorem Es_cons{e:Expr}{es:List Expr}{Q:List PV→PS→Prop}(h:WV X A (eval e env) (fun v σ₁=>WEs X A env es (fun vs σ₂=>Q (v::vs) σ₂) σ₁) σ)(hst:starEach (e::es) env=(false,eval e env)::starEach es env):WEs X A env (e::es) Q σ:=fun pos s hs=>by
 rw[hst];exact Calls.spliced_cons (h.run hs fun v s₁ x σ₁ i t k h₁=>(h₁ pos).run t fun vs s₂ xs σ₂ is t₂ k₂ q=>⟨_,σ₂,.cons (i.keep k₂) is,t₂,k.trans k₂,q⟩)
theorem St.newTup {s:Shared} (hs:St X σ s) {vs:List Value} (i:IsAll (ads σ.own) s.heap l vs):
  St X σ {s with heap:=s.heap.push {cls:=.type "tuple",data:=.seq vs.toArray}}∧Al σ s σ {s with heap:=s.heap.push {cls:=.type "tuple",data:=.seq vs.toArray}}∧
   Is (ads σ.own) (s.heap.push {cls:=.type "tuple",data:=.seq vs.toArray}) (.tup l) (.ref s.heap.objs.size):=by
 obtain⟨t,k,e,n⟩:=hs.push (s':={s with heap:=s.heap.push {cls:=.type "tuple",data:=.seq vs.toArray}}) {cls:=.type "tuple",data:=.seq vs.toArray} rfl rfl rfl;exact⟨t,k,.tup (e rfl) rfl rfl n (i.keep k)⟩
theorem St.newFrozen {s:Shared} (hs:St X σ s) {vs:List Value} (i:IsAll (ads σ.own) s.heap l vs):
  St X σ {s with heap:=s.heap.push {cls:=.type "list",data:=.seq vs.toArray}}∧Al σ s σ {s with heap:=s.heap.push {cls:=.type "list",data:=.seq vs.toArray}}∧
   Is (ads σ.own) (s.heap.push {cls:=.type "list",data:=.seq vs.toArray}) (.lst l) (.ref s.heap.objs.size):=by
 obtain⟨t,k,e,n⟩:=hs.push (s':={s with heap:=s.heap.push {cls:=.type "list",data:=.seq vs.toArray}}) {cls:=.type "list",data:=.seq vs.toArray} rfl rfl rfl;exact⟨t,k,.lst (e rfl) rfl rfl rfl n (i.keep k)⟩
theorem Ax(h:Heap):h.get? h.objs.size=none:=by
 cases e:h.get? h.objs.size with
 | none=>rfl
 | some o=>exact absurd (Heap.lt_size e) (Nat.lt_irrefl _)
theorem St.pushOwn{s s':Shared}(hs:St X σ s){o:Obj}(hf:o.isFreed=false)(eh:s'.heap=s.heap.push o)(eg:s'.gens=s.gens)(eo:s'.os=s.os){p:PO}(hp:Al σ s ⟨(s.heap.objs.size,p)::σ.own,σ.gens⟩ s'→s'.heap.get? s.heap.objs.size=some o→IsO X (s.heap.objs.size::ads σ.own) s'.heap s.heap.objs.size p):St X ⟨(s.heap.objs.size,p)::σ.own,σ.gens⟩ s'∧Al σ s ⟨(s.heap.objs.size,p)::σ.own,σ.gens⟩ s':=by
 have g:∀b ob,s.heap.get? b=some ob→s'.heap.get? b=some ob:=fun b ob e=>by rw[eh];exact Heap.get?_push_of_some _ e
 have k:Al σ s ⟨(s.heap.objs.size,p)::σ.own,σ.gens⟩ s':=fun b ob e n=>⟨g _ _ e,fun hm=>by
  rcases List.mem_cons.mp hm with rfl| hm
  ·exact absurd (Heap.lt_size e) (Nat.lt_irrefl _)
  ·exact n hm⟩
 exact hs.new (Ax _) g eg eo (hp k (by rw[eh];exact Heap.get?_push_size _ hf))
theorem St.newList {s:Shared} {x:Addr×PO} {o:Own} {g:Array GenState} (hs:St X ⟨x::o,g⟩ s) {vs:List Value} (i:IsAll (ads (x::o)) s.heap l vs):
  St X ⟨x::(s.heap.objs.size,.list l)::o,g⟩ {s with heap:=s.heap.push {cls:=.type "list",data:=.seq vs.toArray}}∧Al ⟨x::o,g⟩ s ⟨x::(s.heap.objs.size,.list l)::o,g⟩ {s with heap:=s.heap.push {cls:=.type "list",data:=.seq vs.toArray}}:=by
 obtain⟨t,k⟩:=hs.pushOwn (o:={cls:=.type "list",data:=.seq vs.toArray}) (s':={s with heap:=s.heap.push {cls:=.type "list",data:=.seq vs.toArray}}) rfl rfl rfl rfl (p:=.list l)
  fun k e=>⟨vs,⟨_,e⟩,i.keep k⟩
 obtain⟨t',k'⟩:=t.perm (List.Perm.swap _ _ _);exact⟨t',k.trans k'⟩
theorem I2(hsz:l.length≤sizeLine)(q:Q (.tup l) σ):ON X A Is newTuple l Q σ:=fun s vs hs i=>by
 obtain⟨t,k,i'⟩:=hs.newTup i;exact wpAny_newTuple ⟨_,σ,i',t,k,q⟩ (by rw[i.length];exact hsz)
theorem Hx(hsz:l.length≤sizeLine)(q:Q (.lst l) σ):ON X A Is newList l Q σ:=fun s vs hs i=>by
 obtain⟨t,k,i'⟩:=hs.newFrozen i;exact wpAny_newList ⟨_,σ,i',t,k,q⟩ (by rw[i.length];exact hsz)
theorem FD{x:Addr×PO}{o:Own}{g:Array GenState}(hsz:l.length≤sizeLine)(q:∀a,Q (.raw (.ref a)) ⟨x::(a,.list l)::o,g⟩):ON X A Is newList l Q ⟨x::o,g⟩:=fun s vs hs i=>by
 obtain⟨t,k⟩:=hs.newList i;exact wpAny_newList ⟨_,_,.raw _,t,k,q _⟩ (by rw[i.length];exact hsz)
theorem W_Tuple{es:List Expr}{k:Nat}{pos:Pos}(h:WEs X A env es (fun vs σ'=>vs.length≤sizeLine∧Q (.tup vs) σ') σ):WV X A (eval (.Tuple es k pos) env) Q σ:=fun s hs=>by
 rw[arm_eval_Tuple];refine wpAny_bind (wpAny_standAt (wpAny_bind ((h pos).run hs fun vs s₁ xs σ₁ i t k q=>?_)));exact wpAny_mono (I2 q.1 q.2 s₁ vs t i) (fun O O p=>p.from k) fun O O e=>e
theorem AN{es:List Expr}{pos:Pos}(h:WEs X A env es (fun vs σ'=>vs.length≤sizeLine∧Q (.lst vs) σ') σ):WV X A (eval (.List es pos) env) Q σ:=fun s hs=>by
 rw[arm_eval_List];refine wpAny_bind (wpAny_standAt (wpAny_bind ((h pos).run hs fun vs s₁ xs σ₁ i t k q=>?_)));exact wpAny_mono (Hx q.1 q.2 s₁ vs t i) (fun O O p=>p.from k) fun O O e=>e
theorem AX{pos:Pos}{x:Addr×PO}{o:Own}{g:Array GenState}(q:∀a,Q (.raw (.ref a)) ⟨x::(a,.list [])::o,g⟩):WV X A (eval (.List [] pos) env) Q ⟨x::o,g⟩:=fun s hs=>by
 rw[arm_eval_List];refine wpAny_bind (wpAny_standAt (wpAny_bind (Calls.spliced_nil ?_)));exact FD (by decide) q s [] hs .nil
theorem GN{es:List Expr}{pos:Pos}(h:WEs X A env es (fun vs σ'=>vs.length≤sizeLine∧∃x o g,σ'=⟨x::o,g⟩∧∀a,Q (.raw (.ref a)) ⟨x::(a,.list vs)::o,g⟩) σ):WV X A (eval (.List es pos) env) Q σ:=fun s hs=>by
 rw[arm_eval_List];refine wpAny_bind (wpAny_standAt (wpAny_bind ((h pos).run hs fun vs s₁ xs σ₁ i t k q=>?_)));obtain⟨hsz,x,o,g,rfl,q⟩:=q;exact wpAny_mono (FD hsz q s₁ vs t i) (fun O O p=>p.from k) fun O O e=>e
theorem truthy_int{i:Int}(q:B (i != 0) σ):O1 X A RE truthy (.int i) B σ:=by
 intro s v hs iv
 cases iv
 exact PyProof.Rows.truthy_int ⟨_,σ,rfl,hs,Ad.refl _ _,q⟩
theorem truthy_bool{b:Bool}(q:B b σ):O1 X A RE truthy (.bool b) B σ:=by
 intro s v hs iv
 cases iv
 exact wpAny_truthy_bool ⟨_,σ,rfl,hs,Ad.refl _ _,q⟩
theorem truthy_none(q:B false σ):O1 X A RE truthy .none B σ:=by
 intro s v hs iv
 cases iv
 exact wpAny_of_eq rfl ⟨_,σ,rfl,hs,Ad.refl _ _,q⟩
theorem truthy_str{x:Str}(hsz:x.length<2 ^ 63)(q:B ((x.length:Int) != 0) σ):O1 X A RE truthy (.str x) B σ:=by
 intro s v hs iv
 cases iv
 obtain⟨t,k⟩:=hs.same (s':={s with toks:=s.toks+1+1}) rfl rfl rfl;exact PySem.P.truthy_str (by exact ac8 hsz) ⟨_,σ,rfl,t,k,q⟩
inductive LstV (σ:PS):PV→List PV→Prop
 | frozen {l:List PV}:LstV σ (.lst l) l
 | own {a:Addr} {l:List PV}:(a,.list l)∈σ.own→LstV σ (.raw (.ref a)) l
theorem LstV.at{v:PV}{r:Value}{s:Shared}(h:LstV σ v l)(hs:St X σ s)(i:Is (ads σ.own) s.heap v r):∃a vs,r=.ref a∧PlainL s.heap a vs.toArray∧IsAll (ads σ.own) s.heap l vs∧s.heap.IsList a vs.toArray:=by
 cases h with
 | frozen=>cases i with | lst ho hc hd he hn r=>exact⟨_,_,rfl,⟨_,_,ho,hc,hd,he⟩,r,⟨_,ho,hc,_,he⟩⟩
 | own hm=>
  cases i
  obtain⟨vs,⟨n,ho⟩,r⟩:=hs.own _ _ hm;exact⟨_,vs,rfl,⟨_,n,ho,rfl,rfl,rfl⟩,r,⟨_,ho,rfl,n,rfl⟩⟩
noncomputable def WT(X:Cx)(A:Around)(env:Env)(e:Expr)(B:Bool→PS→Prop)(σ:PS):Prop:=WB X A (isTrue e env (eval e env)) B σ
theorem WT_plain {e:Expr} (he:isTrue e env (eval e env)=(do let v ←eval e env;standAt e.pos;holding [v] (truthy v))) (h:WV X A (eval e env) (fun v σ'=>O1 X A RE truthy v B σ') σ):WT X A env e B σ:=fun s hs=>by
 rw[he];exact wpAny_bind (h.run hs fun v s₁ x σ₁ i t k h₁=>wpAny_bind (wpAny_standAt (wpAny_holding (h₁.run t i fun b s₂ b' σ₂ e t₂ k₂ q=>⟨_,σ₂,e,t₂,k.trans k₂,q⟩))))
theorem WT_not{x:Expr}{pos:Pos}(h:WT X A env x (fun b σ'=>B (!b) σ') σ):WT X A env (.UnaryOp .Not x pos) B σ:=fun s hs=>
 wpAny_isTrue_Not (h.run hs fun b s₁ b' σ₁ e t k q=>⟨_,σ₁,by cases e;rfl,t,k,q⟩)
theorem WT_cmp{l r:Expr}{op:CmpOp}{pos:Pos}(h:WV X A (eval l env) (fun a σ₁=>WV X A (eval r env) (fun b σ₂=>O2 X A Is (compareOp op) a b (fun c σ₃=>O1 X A RE truthy c B σ₃) σ₂) σ₁) σ)(hm:behindInMarks op r=false):WT X A env (.Compare l [op] [r] pos) B σ:=fun s hs=>
 wpAny_isTrue_Compare1 (h.run hs fun va s₁ a σ₁ ia t₁ k₁ h₁=>h₁.run t₁ fun vb s₂ b σ₂ ib t₂ k₂ h₂=>h₂.run t₂ (ia.keep k₂) ib fun vc s₃ c σ₃ ic t₃ k₃ h₃=>
  h₃.run t₃ ic fun r s₄ b σ₄ e t₄ k₄ q=>⟨_,σ₄,e,t₄,((k₁.trans k₂).trans k₃).trans k₄,q⟩) hm
theorem W_cmp{l r:Expr}{op:CmpOp}{pos:Pos}(h:WV X A (eval l env) (fun a σ₁=>WV X A (eval r env) (fun b σ₂=>O2 X A Is (compareOp op) a b Q σ₂) σ₁) σ)(hm:behindInMarks op r=false):WV X A (eval (.Compare l [op] [r] pos) env) Q σ:=fun s hs=>
 wpAny_Compare1 (h.run hs fun va s₁ a σ₁ ia t₁ k₁ h₁=>h₁.run t₁ fun vb s₂ b σ₂ ib t₂ k₂ h₂=>h₂.run t₂ (ia.keep k₂) ib fun vc s₃ c σ₃ ic t₃ k₃ q=>
  ⟨_,σ₃,ic,t₃,(k₁.trans k₂).trans k₃,q⟩) hm
theorem WT_BoolOp{op:BoolOp}{es:List Expr}{pos:Pos}(h:WB X A (allTrue op es env) B σ):WT X A env (.BoolOp op es pos) B σ:=fun s hs=>by
 show wpAny _ _ (allTrue op es env) _ _ _;exact h s hs
theorem Ob{e:Expr}{es:List Expr}:allTrue .And (e::es) env=(PySem.isTrue e env (eval e env) >>= fun b=>bif b then allTrue .And es env else pure false):=
 congrArg (PySem.isTrue e env (eval e env) >>= ·) (funext fun b=>by cases b<;>rfl)
theorem all_nil{op:BoolOp}(q:B (op==.And) σ):WB X A (allTrue op [] env) B σ:=fun s hs=>wpAny_pure ⟨_,σ,rfl,hs,Ad.refl _ _,q⟩
theorem and_cons{e:Expr}{es:List Expr}(h:WT X A env e (fun b σ'=>if b then WB X A (allTrue .And es env) B σ' else B false σ') σ):WB X A (allTrue .And (e::es) env) B σ:=fun s hs=>by
 rw[Ob];refine wpAny_bind (h.run hs fun b s₁ b' σ₁ e t k q=>?_)
 cases e
 cases b with
 | false=>exact wpAny_pure ⟨_,σ₁,rfl,t,k,q⟩
 | true=>exact wpAny_mono (q s₁ t) (fun O O p=>p.from k) fun O O e=>e
theorem W_IfExp{test body orelse:Expr}{pos:Pos}(h:WT X A env test (fun b σ'=>if b then WV X A (eval body env) Q σ' else WV X A (eval orelse env) Q σ') σ):WV X A (eval (.IfExp test body orelse pos) env) Q σ:=fun s hs=>
 wpAny_IfExp (h.run hs fun b s₁ b' σ₁ e t k q=>by
  cases e
  cases b with
  | true=>exact wpAny_mono (q s₁ t) (fun O O p=>p.from k) fun O O e=>e
  | false=>exact wpAny_mono (q s₁ t) (fun O O p=>p.from k) fun O O e=>e)
theorem Vc{x y:Expr}{pos:Pos}(h:WV X A (eval x env) (fun v σ₁=>O1 X A RE truthy v (fun t σ₂=>if t then WV X A (eval y env) Q σ₂ else Q v σ₂) σ₁) σ):WV X A (eval (.BoolOp .And [x,y] pos) env) Q σ:=fun s hs=>
 wpAny_And2 (h.run hs fun va s₁ a σ₁ ia t₁ k₁ h₁=>h₁.run t₁ ia fun b s₂ b' σ₂ e t₂ k₂ q=>by
  cases e
  cases b with
  | true=>exact wpAny_mono (q s₂ t₂) (fun O O p=>p.from (k₁.trans k₂)) fun O O e=>e
  | false=>exact⟨_,_,ia.keep k₂,t₂,k₁.trans k₂,q⟩)
theorem W_not{x:Expr}{pos:Pos}(h:WV X A (eval x env) (fun v σ₁=>O1 X A RE truthy v (fun t σ₂=>Q (.bool (!t)) σ₂) σ₁) σ):WV X A (eval (.UnaryOp .Not x pos) env) Q σ:=fun s hs=>
 wpAny_UnaryOp (h.run hs fun va s₁ a σ₁ ia t₁ k₁ h₁=>by
  exact PyProof.Rows.not_of (h₁.run t₁ ia fun b s₂ b' σ₂ e t₂ k₂ q=>⟨_,σ₂,by cases e;exact Is.bool _,t₂,k₁.trans k₂,q⟩))
end
section
variable {X:Cx}{A:Around}{env:Env}{σ:PS}{Q:PV→PS→Prop}{P:PF→PS→Prop}{B:Bool→PS→Prop}{l:List PV}
noncomputable def A9(env:Env):List Expr→Prop
 | []=>True
 | e::es=>starEach (e::es) env=(false,eval e env)::starEach es env
theorem Dy{args:List Expr}{f:Value}{pos:Pos}{Q':List PV→PS→Prop}{s:Shared}{R:Args→Shared→Prop}(ha:A9 env args)(h:WEs X A env args Q' σ)(hs:St X σ s)(k:∀vs s' xs σ',IsAll (ads σ'.own) s'.heap xs vs→St X σ' s'→Al σ s σ' s'→Q' xs σ'→R ⟨vs,[]⟩ s'):wpAny (md X) A (evalArgs f true (backTo pos (starEach args env)) []) R NoE s:=by
 cases args with
 | nil=>
  unfold evalArgs;show wpAny _ A (spliced [] >>= _) R NoE s;refine wpAny_bind ((h pos).run hs fun vs s' xs σ' i t ke q=>?_);refine wpAny_bind (wpAny_pure ?_);refine wpAny_holding ?_;exact wpAny_bind (wpAny_pure (wpAny_bind (wpAny_pure (wpAny_pure (k vs s' xs σ' i t ke q)))))
 | cons e es=>
  have ha':starEach (e::es) env=(false,eval e env)::starEach es env:=ha
  have hb:backTo pos (starEach (e::es) env)=(false,eval e env)::backTo pos (starEach es env):=by rw[ha'];rfl
  rw[hb];refine Calls.evalArgs_plain ?_;rw[←hb];exact(h pos).run hs fun vs s' xs σ' i t ke q=>k vs s' xs σ' i t ke q
noncomputable def Kept(X:Cx)(σ:PS)(f:PV):Prop:=∀s v,St X σ s→Is (ads σ.own) s.heap f v→∃k,(k=Keeper.frame∨k=Keeper.machine∨k=Keeper.boundFrame)∧Looks (md X) s.heap (keeperOf v) k
noncomputable def CW(X:Cx)(A:Around)(env:Env)(pos:Pos)(args:List Expr)(f:PV)(first:List PV)(Q:PV→PS→Prop)(σ:PS):Prop:=
 ∀s v vs,St X σ s→Is (ads σ.own) s.heap f v→IsAll (ads σ.own) s.heap first vs→wpAny (md X) A (callWith pos v vs (backTo pos (starEach args env)) []) (Po X Is Q σ s) NoE s
theorem Vg{pos:Pos}{args:List Expr}{f:PV}{first:List PV}(ha:A9 env args)(hp:∀pos,((backTo pos (starEach args env)).any (·.1))=false)(h:WEs X A env args (fun xs σ'=>Kept X σ' f∧∀s v,St X σ' s→Is (ads σ'.own) s.heap f v→ON X A Is (fun l=>call v l) (first++xs) Q σ') σ):CW X A env pos args f first Q σ:=by
 intro s v vs hs iv ifs;refine callWith_of (P:=fun h=>∃k,(k=Keeper.frame∨k=Keeper.machine∨k=Keeper.boundFrame)∧Looks (md X) h (keeperOf v) k) (by rw[hp];rfl) (fun O x=>x) ?_
 refine Dy ha h hs fun us s' xs σ' i t k q=>⟨q.1 s' v t (iv.keep k),?_⟩
 exact wpAny_mono (q.2 s' v t (iv.keep k) s' _ t (IsAll.append i (ifs.keep k))) (fun O O p=>p.from k) fun O O e=>e
theorem Kept.blt{id:String}:Kept X σ (.raw (.builtin id)):=fun s v hs i=>by cases i;exact⟨.machine,.inr (.inl rfl),Looks.now⟩
theorem Kept.type{T:String}:Kept X σ (.raw (.type T)):=fun s v hs i=>by cases i;exact⟨.machine,.inr (.inl rfl),Looks.now⟩
theorem Kept.fn{a:Addr}{o:Obj}{fd:FuncData}(ho:(Mine.hq X.w.params).get? a=some o)(hd:o.data=.func fd):Kept X σ (.raw (.ref a)):=fun s v hs i=>by
 cases i
 refine⟨.frame,.inl rfl,?_⟩;unfold keeperOf;refine(Looks.ld (part:=none) (hs.hz _ _ ho)).andThen ?_;rw[hd];exact .now
theorem CW_raw{pos:Pos}{args:List Expr}{v:Value}{first:List PV}(ha:A9 env args)(hp:∀pos,((backTo pos (starEach args env)).any (·.1))=false)(h:WEs X A env args (fun xs σ'=>Kept X σ' (.raw v)∧ON X A Is (fun l=>call v l) (first++xs) Q σ') σ):CW X A env pos args (.raw v) first Q σ:=
 Vg ha hp (fun pos=>(h pos).mono fun xs σ' q=>⟨q.1,fun s v' hs i=>by cases i;exact q.2⟩)
theorem W_Call {func:Expr} {args:List Expr} {pos:Pos} (h:WV X A (eval func env) (fun f σ'=>CW X A env pos args f [] Q σ') σ)
  (he:eval (.Call func args [] pos) env=(do callWith pos (←eval func env) [] (backTo pos (starEach args env)) (backToKw pos (keywordEach [] env)))):WV X A (eval (.Call func args [] pos) env) Q σ:=fun s hs=>by
 rw[he];exact wpAny_bind (h.run hs fun v s' f σ' i t k q=>wpAny_mono (q s' v [] t i .nil) (fun O O p=>p.from k) fun O O e=>e)
noncomputable def D8(X:Cx)(σ:PS)(v:PV)(T:String):Prop:=∀s r,St X σ s→Is (ads σ.own) s.heap v r→s.TypeIs r T∧∀a,r=.ref a→∃ob,s.heap.get? a=some ob∧ob.dict=none
theorem D8.str{x:Str}:D8 X σ (.str x) "str":=fun s r hs i=>by cases i;exact⟨rfl,fun a e=>by cases e⟩
theorem D8.lst{v:PV}(h:LstV σ v l):D8 X σ v "list":=fun s r hs i=>by
 obtain⟨a,vs,rfl,⟨o,n,ho,hc,hd,he⟩,_,il⟩:=h.at hs i;exact⟨il.typeIs,fun b e=>by cases e;exact⟨o,ho,hd⟩⟩
theorem D8.dictS{a:Addr}{n:Nat}{f:Str→Option PV}(h:(a,.dictS n f)∈σ.own):D8 X σ (.raw (.ref a)) "dict":=fun s r hs i=>by
 cases i
 obtain⟨g,⟨o,es,n,ho,⟨hc,hd,_⟩,_⟩,_⟩:=hs.own _ _ h;exact⟨⟨o,ho,hc⟩,fun b e=>by cases e;exact⟨o,ho,hd⟩⟩
theorem Ch{o:Expr}{name:Str}{apos pos:Pos}{args:List Expr}{T id:String}(hbase:attributeBase o name env (eval o env)=eval o env)(hfew:((backTo pos (starEach args env)).all (fun x=> !x.1)&&(backToKw pos (keywordEach [] env)).all (fun x=>x.1.isSome)&&decide (args.length+([]:List Keyword).length+(if([]:List Keyword).isEmpty then 0 else 1)<30))=true)(hline:(apos.endLine==pos.line)=true)(pa:PlainAttrs T)(slot:Slot T name id)(hty:typeOf (.builtin id)=pure (.type "method_descriptor"))(ha:A9 env args)(hp:∀pos,((backTo pos (starEach args env)).any (·.1))=false)(h:WV X A (eval o env) (fun ov σ₁=>D8 X σ₁ ov T∧WEs X A env args (fun xs σ₂=>ON X A Is (fun l=>call (.builtin id) l) (ov::xs) Q σ₂) σ₁) σ):WV X A (eval (.Call (.Attribute o name apos) args [] pos) env) Q σ:=fun s hs=>by
 refine wpAny_Call_method hbase hfew hline pa slot hty (h.run hs fun v s' f σ' i t k q=>⟨(q.1 s' v t i).1,(q.1 s' v t i).2,?_⟩);refine wpAny_mono ((CW_raw (first:=[f]) ha hp (fun pos=>(q.2 pos).mono fun xs σ' q=>⟨.blt,q⟩)) s' _ [v] t (.raw _) (.cons i .nil)) (fun O O p=>p.from k) fun O O e=>e
theorem eq_ii{a b:Int}(q:Q (.bool (a==b)) σ):O2 X A Is (compareOp .Eq) (.int a) (.int b) Q σ:=by
 intro s va vb hs ia ib
 cases ia;cases ib
 exact PyProof.Rows.eq_int ⟨_,σ,.bool _,hs,Ad.refl _ _,q⟩
theorem ne_ii{a b:Int}(q:Q (.bool (a != b)) σ):O2 X A Is (compareOp .NotEq) (.int a) (.int b) Q σ:=by
 intro s va vb hs ia ib
 cases ia;cases ib
 exact PyProof.Rows.ne_int ⟨_,σ,.bool _,hs,Ad.refl _ _,q⟩
theorem lt_ii{a b:Int}(q:Q (.bool (decide (a<b))) σ):O2 X A Is (compareOp .Lt) (.int a) (.int b) Q σ:=by
 intro s va vb hs ia ib
 cases ia;cases ib
 exact PyProof.Rows.lt_int ⟨_,σ,.bool _,hs,Ad.refl _ _,q⟩
theorem gt_ii{a b:Int}(q:Q (.bool (decide (b<a))) σ):O2 X A Is (compareOp .Gt) (.int a) (.int b) Q σ:=by
 intro s va vb hs ia ib
 cases ia;cases ib
 exact PyProof.Rows.gt_int ⟨_,σ,.bool _,hs,Ad.refl _ _,q⟩
end
noncomputable def AG(o:Obj):Prop:=(∀vs n,o.data=.seq vs n→o.cls≠.type "tuple"∧o.cls≠ED∧o.cls≠.type "list")∧(∀vs,o.data=.fields vs→o.cls≠.type "range"∧o.cls≠.type "code")
theorem AG.of_cls{o:Obj}(h:o.cls≠.type "tuple"∧o.cls≠ED∧o.cls≠.type "list"∧o.cls≠.type "range"∧o.cls≠.type "code"):AG o:=⟨fun O O O=>⟨h.1,h.2.1,h.2.2.1⟩,fun O O=>h.2.2.2⟩
theorem AG.of_dict{o:Obj}{es n}(h:o.data=.dict es n):AG o:=⟨fun O O e=>(by rw[h]at e;cases e),fun O e=>(by rw[h]at e;cases e)⟩
noncomputable def AI(it:Addr)(h h':Heap):Prop:=∀b o,b≠it→h.get? b=some o→h'.get? b=some o
theorem Is.but{ad:List Addr}{h h':Heap}{it:Addr}(d:∀o,h.get? it=some o→AG o)(k:AI it h h'){x:PV}{v:Value}(i:Is ad h x v):Is ad h' x v:=
 Is.rec (motive_1:=fun x v O=>Is ad h' x v) (motive_2:=fun l vs O=>IsAll ad h' l vs) .none .bool .int .str
  (fun e c dd n O r=>.tup (k _ _ (fun q=>((d _ (q▸e)).1 _ _ dd).1 c) e) c dd n r)
  (fun e c dd n O r=>.mat (k _ _ (fun q=>((d _ (q▸e)).1 _ _ dd).2.1 c) e) c dd n r)
  (fun e c q dd n O r=>.lst (k _ _ (fun q=>((d _ (q▸e)).1 _ _ dd).2.2 c) e) c q dd n r)
  (fun e n=>.rng (k _ _ (fun q=>((d _ (q▸e)).2 _ rfl).1 rfl) e) n) .raw .nil (fun O O a r=>.cons a r) i
theorem IsAll.but{ad:List Addr}{h h':Heap}{it:Addr}(d:∀o,h.get? it=some o→AG o)(k:AI it h h'){x:List PV}{v:List Value}(i:IsAll ad h x v):IsAll ad h' x v:=i.ind .nil fun a O r=>.cons (a.but d k) r
theorem Eh.but{ad:List Addr}{h h':Heap}{it c:Addr}{q:Str}(d:∀o,h.get? it=some o→AG o)(k:AI it h h')(x:Eh ad h q c):Eh ad h' q c:=by
 obtain⟨n,oc,vs,t,e,dd,cl,r⟩:=x;exact⟨n,oc,vs,t,k _ _ (fun q=>((d _ (q▸e)).2 _ dd).2 cl) e,dd,cl,r⟩
theorem Bf.but{ad:List Addr}{h h':Heap}{it:Addr}(d:∀o,h.get? it=Option.some o→AG o)(k:AI it h h'){x:Option PV}{v:Option Value}(i:Bf ad h x v):Bf ad h' x v:=by
 cases i with
 | none=>exact .none
 | some a=>exact .some (a.but d k)
theorem B8.but{ad:List Addr}{h h':Heap}{it:Addr}(d:∀o,h.get? it=Option.some o→AG o)(k:AI it h h'){x:Option PV}{v:Option Value}(i:B8 ad h x v):B8 ad h' x v:=fun y e=>Exists.elim (i y e) fun u q=>⟨u,q.1,q.2.but d k⟩
theorem IsO.but{X:Cx}{ad:List Addr}{h h':Heap}{a it:Addr}{p:PO}(d:∀o,h.get? it=Option.some o→AG o)(k:AI it h h')(e:h'.get? a=h.get? a)(x:IsO X ad h a p):IsO X ad h' a p:=by
 cases p with
 | list l=>obtain⟨vs,p,q⟩:=x;exact⟨vs,PlainList.of_get e p,q.but d k⟩
 | ns m=>obtain⟨f,p,q⟩:=x;exact⟨f,Ns.of_get e p,fun y=>(q y).but d k⟩
 | fld n m=>obtain⟨f,p,z,q⟩:=x;exact⟨f,Ns.of_get e p,fun o es ep h1 h2=>z o es ep (e▸h1) h2,fun y=>(q y).but d k⟩
 | cell v=>obtain⟨v',⟨o,ho,r⟩,q⟩:=x;exact⟨v',⟨o,e▸ho,r⟩,q.but d k⟩
 | dictS n f=>obtain⟨g,p,z,q⟩:=x;exact⟨g,by obtain⟨o,r⟩:=p;exact⟨o,by rw[e];exact r⟩,fun o es ep h1 h2=>z o es ep (e▸h1) h2,fun y=>(q y).but d k⟩
 | dictI n f=>obtain⟨g,p,z,q⟩:=x;exact⟨g,by obtain⟨o,r⟩:=p;exact⟨o,by rw[e];exact r⟩,fun o es ep h1 h2=>z o es ep (e▸h1) h2,fun y=>(q y).but d k⟩
 | set0=>obtain⟨o,es,ep,t,ho,r⟩:=x;exact⟨o,es,ep,t,e▸ho,r⟩
 | inst C d=>obtain⟨o,ho,r⟩:=x;exact⟨o,e▸ho,r⟩
 | ext P=>obtain⟨o,ho,r⟩:=x;exact⟨o,e▸ho,r⟩
 | iter y P=>obtain⟨o,v,ho,i,r⟩:=x;exact⟨o,v,e▸ho,i.but d k,r⟩
 | tab q=>obtain⟨ps,ho,t,r⟩:=x;exact⟨ps,e▸ho,t,fun pos cv hc=>by obtain⟨c,e1,i⟩:=r pos cv hc;exact⟨c,e1,i.but d k⟩⟩
 | lam f q=>obtain⟨o,c,ho,dd,cl,r⟩:=x;exact⟨o,c,e▸ho,dd,cl,r.but d k⟩
theorem St.iter{X:Cx}{σ:PS}{s s':Shared}{it:Addr}(x:St X σ s)(hn:it∉ads σ.own)(hzn:∀o,(Mine.hq X.w.params).get? it≠some o)(d:∀o,s.heap.get? it=some o→AG o)(k:AI it s.heap s'.heap)(eg:s'.gens=s.gens)(eo:s'.os=s.os):St X σ s':=by
 refine⟨fun b ob e=>?_,x.nodup,fun a p hp=>?_,eg.trans x.gens,eo.trans x.os⟩
 ·obtain⟨u,n⟩:=x.stat b ob e
  exact⟨k b ob (fun q=>hzn ob (q▸e)) u,n⟩
 ·obtain⟨ob,ho⟩:=(x.own a p hp).some
  exact(x.own a p hp).but d k ((k a ob (fun q=>hn (by rw[←q];exact List.mem_map.mpr ⟨(a,p),hp,rfl⟩)) ho).trans ho.symm)
section
variable {X:Cx}{A:Around}{env:Env}{σ:PS}{Q:PV→PS→Prop}{P:PF→PS→Prop}{B:Bool→PS→Prop}{l:List PV}{U:Unit→PS→Prop}
noncomputable def TG(X:Cx)(A:Around)(env:Env)(t:Expr)(v:PV)(U:Unit→PS→Prop)(σ:PS):Prop:=O1 X A RE (assign t env) v U σ
theorem Og{x:Str}{pos:Pos}{v:PV}{m:List (Str×PV)}{o:Own}{g:Array GenState}(hk:env.scope.kind=.function)(hl:env.kindOf x=some .local)(q:U () ⟨(env.locals,.ns (Ao m x v))::o,g⟩):TG X A env (.Name x pos) v U ⟨(env.locals,.ns m)::o,g⟩:=fun s va hs i=>
 wpAny_assign_Name (GM hk hl q s va hs i)
noncomputable def TGs(X:Cx)(A:Around)(ts:List (Value→Sem Unit))(vs:List PV)(U:Unit→PS→Prop)(σ:PS):Prop:=ON X A RE (assignInOrder ts) vs U σ
theorem TGs_nil(q:U () σ):TGs X A [] [] U σ:=fun s vs hs i=>by
 cases i
 exact wpAny_assignInOrder_none ⟨(),σ,rfl,hs,Ad.refl _ _,q⟩
theorem TGs_cons{t:Value→Sem Unit}{ts:List (Value→Sem Unit)}{v:PV}{vs:List PV}(h:O1 X A RE t v (fun O σ'=>TGs X A ts vs U σ') σ):TGs X A (t::ts) (v::vs) U σ:=fun s us hs i=>by
 cases i with
 | cons i is=>
  exact wpAny_assignInOrder_more (h.run hs i fun r s' b σ' e t k q=>wpAny_mono (q s' _ t (is.keep k)) (fun O O p=>p.from k) fun O O e=>e)
theorem Az{elts:List Expr}{k:Nat}{pos:Pos}(hh:A.handled=none)(hn:(assignEach elts env).length=l.length)(hstar:(assignEach elts env).findIdx? (·.1)=none)(h:TGs X A ((assignEach elts env).map (·.2)) l U σ):TG X A env (.Tuple elts k pos) (.tup l) U σ:=fun s va hs i=>by
 cases i with
 | tup ho hc hd hm il=>
  refine wpAny_assign_Tuple hh ⟨_,ho,hc,_,hd⟩ (by rw[List.size_toArray,il.length];exact hn) hstar fun h' hk=>?_;obtain⟨t,ke⟩:=hs.grow (s':={s with heap:=h'}) (fun b o e=>hk b o (Nat.ne_of_lt (Heap.lt_size e)) e) rfl rfl;exact wpAny_mono (h _ _ t (by simpa using il.keep ke)) (fun O O p=>p.from ke) fun O O e=>e
noncomputable def TA(X:Cx)(A:Around)(env:Env)(ts:List (Value→Sem Unit))(v:PV)(U:Unit→PS→Prop)(σ:PS):Prop:=O1 X A RE (fun v=>assignAll v ts) v U σ
theorem TA_one{t:Value→Sem Unit}{v:PV}(h:O1 X A RE t v U σ):TA X A env [t] v U σ:=fun s va hs i=>by
 show wpAny _ _ (t va) _ _ _;exact h s va hs i
theorem TA_cons{t t':Value→Sem Unit}{ts:List (Value→Sem Unit)}{v:PV}(h:O1 X A RE t v (fun O σ'=>TA X A env (t'::ts) v U σ') σ):TA X A env (t::t'::ts) v U σ:=fun s va hs i=>by
 show wpAny _ _ (do holding [va] (t va);assignAll va (t'::ts)) _ _ _;exact wpAny_bind (wpAny_holding (h.run hs i fun r s' b σ' e t k q=>wpAny_mono (q s' _ t (i.keep k)) (fun O O p=>p.from k) fun O O e=>e))
theorem Fa{targets:List Expr}{pos:Pos}{value:Expr}(h:WV X A (eval value env) (fun v σ₁=>TA X A env ((assignEach targets env).map (·.2)) v (fun O σ₂=>P .next σ₂) σ₁) σ)(hs:swapsWithSole targets value pos.line env=pure false)(hw:swappedStores targets value env=pure none):WF X A (exec (.Assign targets value pos) env) P σ:=fun s hst=>
 wpAny_Assign_stores (h.run hst fun v s' a σ' i t k q=>q.run t i fun r s₂ b σ₂ e t₂ k₂ q=>⟨.next,σ₂,.next,t₂,k.trans k₂,q⟩) hs hw
theorem D5{targets:List Expr}{pos:Pos}{value:Expr}{names:List Str}(hh:A.handled=none)(h:WV X A (eval value env) (fun v σ₁=>∃l,v=.tup l∧names.length=l.length∧TGs X A (names.reverse.map fun n=>bindName env n) l.reverse (fun O σ₂=>P .next σ₂) σ₁) σ)(hs:swapsWithSole targets value pos.line env=pure false)(hw:swappedStores targets value env=pure (some names)):WF X A (exec (.Assign targets value pos) env) P σ:=fun s hst=>by
 rw[exec_Assign_arm];refine wpAny_bind (wpAny_standAt ?_);rw[hs];refine wpAny_bind (wpAny_pure ?_);rw[if_neg (by decide)];refine wpAny_bind (h.run hst fun v s' a σ' i t k q=>?_);rw[hw];refine wpAny_bind (wpAny_pure ?_);obtain⟨l,rfl,hn,q⟩:=q
 cases i with
 | tup ho hc hd hm il=>
  unfold assignStores;refine wpAny_bind (wpAny_rule ?_);rw[hn,←il.length];refine wpAny_bind ?_;rename_i ta to vs n;have:=wpAny_unpackItems_tuple (prog:=pw) (w:=X.w) (A:=A) (E:=NoE) (s:=s') (t:=ta) (items:=vs.toArray) (Q:=fun items s''=>wpAny (md X) A (do assignInOrder (names.reverse.map fun n=>bindName env n) items.reverse;pure Flow.next) (Po X IsF P σ s) NoE s'') hh ⟨_,ho,hc,_,hd⟩;rw[List.size_toArray]at this;refine this fun h' hk=>?_;obtain⟨t',ke⟩:=t.grow (s':={s' with heap:=h'}) (fun b o e=>hk b o (Nat.ne_of_lt (Heap.lt_size e)) e) rfl rfl;refine wpAny_bind (q.run t' (il.keep ke).reverse fun r s₂ b σ₂ e t₂ k₂ q=>wpAny_pure ⟨.next,σ₂,.next,t₂,(k.trans ke).trans k₂,q⟩)
theorem Rn{x:Str}{v:PV}{m:List (Str×PV)}{o:Own}{g:Array GenState}(hk:env.scope.kind=.function)(hl:env.kindOf x=some .local)(q:U () ⟨(env.locals,.ns (Ao m x v))::o,g⟩):O1 X A RE (bindName env x) v U ⟨(env.locals,.ns m)::o,g⟩:=fun s va hs i=>
 wpAny_bindName (GM hk hl q s va hs i)
theorem IR{e:Expr}{pos:Pos}(h:WV X A (eval e env) (fun O σ'=>P .next σ') σ)(hi:interactive env=false)(hs:swapsWith e none pos.line env=pure false):WF X A (exec (.Expr e pos) env) P σ:=fun s hst=>
 wpAny_Expr_any (h.run hst fun v s' a σ' i t k q=>⟨.next,σ',.next,t,k,q⟩) hi hs
theorem W_If{test:Expr}{body orelse:List Stmt}{pos:Pos}(h:WT X A env test (fun b σ'=>if b then WF X A (execs body env) P σ' else WF X A (execs orelse env) P σ') σ):WF X A (exec (.If test body orelse pos) env) P σ:=fun s hs=>
 wpAny_If (h.run hs fun b s₁ b' σ₁ e t k q=>by
  cases e
  cases b with
  | true=>exact wpAny_mono (q s₁ t) (fun O O p=>p.from k) fun O O e=>e
  | false=>exact wpAny_mono (q s₁ t) (fun O O p=>p.from k) fun O O e=>e)
theorem W_break{pos:Pos}(q:P .brk σ):WF X A (exec (.Break pos) env) P σ:=fun s hs=>wpAny_Break ⟨.brk,σ,.brk,hs,Ad.refl _ _,q⟩
theorem W_continue{pos:Pos}(q:P .cont σ):WF X A (exec (.Continue pos) env) P σ:=fun s hs=>wpAny_Continue ⟨.cont,σ,.cont,hs,Ad.refl _ _,q⟩
theorem K7{x:Str}{pos' pos:Pos}{op:Operator}{value:Expr}{v:PV}{m:List (Str×PV)}{o:Own}{g:Array GenState}(hk:env.scope.kind=.function)(hl:env.kindOf x=some .local)(hm:m.lookup x=some v)(h:WV X A (eval value env) (fun u σ₁=>O2 X A Is (inplaceOp op) v u (fun r σ₂=>O1 X A RE (storeName env x) r (fun O σ₃=>P .next σ₃) σ₂) σ₁) ⟨(env.locals,.ns m)::o,g⟩):WF X A (exec (.AugAssign (.Name x pos') op value pos) env) P ⟨(env.locals,.ns m)::o,g⟩:=fun s hs=>by
 obtain⟨f,hn,hf⟩:=hs.own _ _ List.mem_cons_self;obtain⟨y,hfx,i⟩:=hf x v hm
 exact wpAny_AugAssign_Name (wpAny_loadName_local hk hl hn hfx (h.run hs fun u s₁ b σ₁ ib t₁ k₁ q₁=>q₁.run t₁ (i.keep k₁) ib fun r s₂ c σ₂ ic t₂ k₂ q₂=>q₂.run t₂ ic fun O s₃ O σ₃ e t₃ k₃ q=>
  ⟨.next,σ₃,.next,t₃,(k₁.trans k₂).trans k₃,q⟩))
noncomputable def Br{ι:Type}(I:ι→PS→Prop)(r:ι)(P:PF→PS→Prop):PF→PS→Prop
 | .next,σ=>I r σ
 | .cont,σ=>I r σ
 | .brk,σ=>P .next σ
 | .ret v,σ=>P (.ret v) σ
theorem JF{test:Expr}{body:List Stmt}{pos:Pos}(I:Nat→PS→Prop)(n:Nat)(h0:I n σ)(turn:∀n σ,I n σ→WT X A env test (fun b σ'=>if b then WF X A (execs body env) (Br (fun(_:Unit) σ''=>∃m,m<n∧I m σ'') () P) σ' else P .next σ') σ):WF X A (exec (.While test body [] pos) env) P σ:=fun s hs=>by
 refine wpAny_While (codeAny_whileLoop (fun n s'=>∃σ',I n σ'∧St X σ' s'∧Al σ s σ' s') ?_ n ⟨σ,h0,hs,Ad.refl _ _⟩);rintro n s₁ ⟨σ₁,hI,t₁,k₁⟩;refine(turn n σ₁ hI).run t₁ fun b s₂ b' σ₂ e t₂ k₂ q=>?_
 cases e
 cases b with
 | true=>
  refine W.run q t₂ fun f s₃ f' σ₃ i t₃ k₃ q=>?_;have k:=(k₁.trans k₂).trans k₃
  cases i with
  | next=>obtain⟨m,hm,hI⟩:=q;exact⟨m,hm,σ₃,hI,t₃,k⟩
  | cont=>obtain⟨m,hm,hI⟩:=q;exact⟨m,hm,σ₃,hI,t₃,k⟩
  | brk=>exact⟨_,_,.next,t₃,k,q⟩
  | ret i=>exact⟨_,_,.ret i,t₃,k,q⟩
 | false=>
  exact wpAny_execs_nil ⟨_,_,.next,t₂,k₁.trans k₂,q⟩
end
section
variable {X:Cx}{A:Around}{env:Env}{σ:PS}{Q:PV→PS→Prop}{P:PF→PS→Prop}{B:Bool→PS→Prop}{l:List PV}{U:Unit→PS→Prop}
structure ItK (X:Cx)(A:Around)(it:Addr)(l:List PV)(x:PV)(vx:Value)(Pi:Nat→Obj→Prop)(Src:PS→Prop):Prop where
 dull:∀i o,Pi i o→AG o
 nx:∀i v σ s,l[i]? =some v→Src σ→St X σ s→Is (ads σ.own) s.heap x vx→(∃o,s.heap.get? it=some o∧Pi i o)→it∉ads σ.own→∀Q E,
  (∀va s',Is (ads σ.own) s'.heap v va→AI it s.heap s'.heap→s'.gens=s.gens→s'.os=s.os→(∃o,s'.heap.get? it=some o∧Pi (i+1) o)→Q (some va) s')→wpAny (md X) A (pyNext (.ref it)) Q E s
 en:∀i σ s,l[i]? =none→Src σ→St X σ s→Is (ads σ.own) s.heap x vx→(∃o,s.heap.get? it=some o∧Pi i o)→it∉ads σ.own→∀Q E,
  (∀s',AI it s.heap s'.heap→s'.gens=s.gens→s'.os=s.os→Q none s')→wpAny (md X) A (pyNext (.ref it)) Q E s
 lg:∀target i o s va Q E,s.heap.get? it=some o→Pi i o→Q () s→wpAny (md X) A (letOwnedTupleGo target (.ref it) va) Q E s
theorem A0{α:Type}{l:List α}{i:Nat}{v:α}(h:l[i]? =some v):l.drop i=v::l.drop (i+1):=by
 obtain⟨hi,rfl⟩:=List.getElem?_eq_some_iff.mp h;exact List.drop_eq_getElem_cons hi
theorem Fg {target:Expr} {body:List Stmt} {it:Addr} {x:PV} {vx:Value} {Pi:Nat→Obj→Prop} {Src:PS→Prop} (K:ItK X A it l x vx Pi Src)
  {I:List PV→PS→Prop} (src:∀r σ,I r σ→Src σ)
  (step:∀v r σ,I (v::r) σ→TG X A env target v (fun O σ'=>WF X A (execs body env) (Br I r P) σ') σ)
  (fin:∀σ,I [] σ→P .next σ) {σ₀ σ₁:PS} {s₀ s₁:Shared}
  (h0:I l σ₁) (t₁:St X σ₁ s₁) (hit:∃o,s₁.heap.get? it=some o∧Pi 0 o) (hn:it∉ads σ₁.own) (hzn:∀o,(Mine.hq X.w.params).get? it≠some o) (ix:Is (ads σ₁.own) s₁.heap x vx)
  (k₀:Al σ₀ s₀ σ₁ s₁) (h₀:s₀.heap.get? it=none):
  codeAny (md X) A (.forLoop target (.ref it) body [] env) (fun r s'=>match r with | .ok f=>Po X IsF P σ₀ s₀ f s'| .error e=>cameBackBy (md X) A env NoE e s') s₁:=by
 refine codeAny_forLoop_any (fun n s=>∃i σ,n=l.length+1-i∧i≤l.length∧I (l.drop i) σ∧St X σ s∧(∃o,s.heap.get? it=some o∧Pi i o)∧it∉ads σ.own∧Is (ads σ.own) s.heap x vx∧Al σ₀ s₀ σ s) ?_ (l.length+1)
  ⟨0,σ₁,rfl,Nat.zero_le _,h0,t₁,hit,hn,ix,k₀⟩
 rintro n s ⟨i,σ,rfl,hi,hI,t,hit,hn,ix,k⟩
 have dl:∀o,s.heap.get? it=some o→AG o:=fun o e=>by
  obtain⟨o',e',p⟩:=hit;rw[e]at e';cases e';exact K.dull _ _ p
 cases hv:l[i]? with
 | none=>
  refine K.en i σ s hv (src _ _ hI) t ix hit hn _ _ fun s' kb eg eo=>?_;have t':=t.iter hn hzn dl kb eg eo
  have hil:i=l.length:=by have:=List.getElem?_eq_none_iff.mp hv;exact a44 hi this
  subst hil;rw[List.drop_length]at hI;exact wpAny_execs_nil ⟨_,σ,.next,t',fun b o e m=>⟨kb b o (fun q=>by rw[q,h₀]at e;cases e) (k b o e m).1,(k b o e m).2⟩,fin σ hI⟩
 | some v=>
  have hlt:i<l.length:=(List.getElem?_eq_some_iff.mp hv).1;refine K.nx i v σ s hv (src _ _ hI) t ix hit hn _ _ fun va s' iv kb eg eo hit'=>?_;have t':=t.iter hn hzn dl kb eg eo
  have k':Al σ₀ s₀ σ s':=fun b o e m=>⟨kb b o (fun q=>by rw[q,h₀]at e;cases e) (k b o e m).1,(k b o e m).2⟩
  have ix':Is (ads σ.own) s'.heap x vx:=ix.but dl kb;obtain⟨o',e',p'⟩:=hit';refine K.lg target (i+1) o' s' va _ _ e' p' ?_;rw[A0 hv]at hI;refine(step v _ σ hI).run t' iv fun O s₂ O σ₂ O t₂ k₂ q=>?_;refine W.run q t₂ fun f s₃ f' σ₃ i₃ t₃ k₃ q=>?_;have kk:=(k'.trans k₂).trans k₃;have hlive:=(k₂.trans k₃) it o' e' hn
  have again:I (l.drop (i+1)) σ₃→∃m,m<l.length+1-i∧∃i σ,m=l.length+1-i∧i≤l.length∧I (l.drop i) σ∧St X σ s₃∧(∃o,s₃.heap.get? it=some o∧Pi i o)∧it∉ads σ.own∧Is (ads σ.own) s₃.heap x vx∧Al σ₀ s₀ σ s₃:=fun hI=>
   ⟨l.length+1-(i+1),by exact a45 hlt,i+1,σ₃,rfl,hlt,hI,t₃,⟨o',hlive.1,p'⟩,hlive.2,ix'.keep (k₂.trans k₃),kk⟩
  cases i₃ with
  | next=>exact again q
  | cont=>exact again q
  | brk=>exact⟨_,_,.next,t₃,kk,q⟩
  | ret i=>exact⟨_,_,.ret i,t₃,kk,q⟩
theorem H2{M:Model}{target:Expr}{it:Addr}{o:Obj}{s:Shared}{va:Value}{Q:Unit→Shared→Prop}{E:Value→Shared→Prop}(e:s.heap.get? it=some o)(hc:∀n,o.cls=.type n→["enumerate","zip","dict_itemiterator","dict_reverseitemiterator","odict_iterator","itertools.zip_longest","itertools.pairwise"].contains n=false)(q:Q () s):wpAny M A (letOwnedTupleGo target (.ref it) va) Q E s:=by
 cases target with
 | Tuple| List=>
  cases va with
  | ref a=>
   refine wpAny_bind (wpAny_load e ?_)
   revert hc
   generalize o.cls=c
   generalize o.data=d
   intro hc
   cases c with
   | type n=>cases d with
    | fields vs=>show wpAny _ _ (ite _ _ _) _ _ _;rw[hc _ rfl];exact wpAny_pure q
    | _=>exact wpAny_pure q
   | _=>exact wpAny_pure q
  | _=>exact wpAny_pure q
 | _=>exact wpAny_pure q
theorem ItK.list(hh:A.handled=none){it a:Addr}{x:PV}:ItK X A it l x (.ref a) (fun i o=>o.cls=.type "list_iterator"∧o.data=.fields #[.ref a,.int i 0]) (fun σ=>LstV σ x l) where
 dull i o p:=by
  obtain⟨p,_⟩:=p
  refine AG.of_cls ⟨?_,?_,?_,?_,?_⟩<;>rw[p]<;>decide
 nx i v σ s hv hs t ix hit hn Q E k:=by
  obtain⟨o,e,p⟩:=hit;obtain⟨a',vs,ea,_,il,hl⟩:=hs.at t ix
  cases ea
  obtain⟨va,hva,iv⟩:=il.get hv
  have hne:a≠it:=fun q=>by
   obtain⟨ol,hol,hcl,_⟩:=hl;rw[q,e]at hol;cases hol;rw[p.1]at hcl;exact absurd hcl (by decide)
  refine wpAny_pyNext_list_item (x:=va) (i:=i) ⟨o,e,p⟩ hl (by simpa using hva) fun h' hi hsb=>?_;have kb:AI it s.heap h':=fun b ob hb eb=>(hsb.2 b hb).trans eb;refine k va _ (iv.but (fun o' eo'=>?_) kb) kb rfl rfl ?_
  ·rw[e]at eo';cases eo'
   refine AG.of_cls ⟨?_,?_,?_,?_,?_⟩<;>rw[p.1]<;>decide
  ·obtain⟨o',e',p'⟩:=hi
   exact⟨o',e',p'⟩
 en i σ s hv hs t ix hit hn Q E k:=by
  obtain⟨o,e,p⟩:=hit;obtain⟨a',vs,ea,_,il,hl⟩:=hs.at t ix
  cases ea
  refine wpAny_pyNext_list_end (i:=i) hh ⟨o,e,p⟩ hl (by
   rw[List.getElem?_toArray]
   exact List.getElem?_eq_none (by rw[il.length];exact List.getElem?_eq_none_iff.mp hv)) fun h' hk=>k _ (fun b ob hb eb=>hk b ob hb eb) rfl rfl
 lg target i o s va Q E e p q:=H2 e (fun n hn=>by rw[p.1]at hn;cases hn;decide) q
theorem MH{target iter:Expr}{body:List Stmt}{pos:Pos}(hh:A.handled=none)(h:WV X A (eval iter env) (fun x σ₁=>∃(l:List PV) (I:List PV→PS→Prop),(∀r σ,I r σ→LstV σ x l)∧I l σ₁∧(∀v r σ,I (v::r) σ→TG X A env target v (fun O σ'=>WF X A (execs body env) (Br I r P) σ') σ)∧(∀σ,I [] σ→P .next σ)) σ)(hs:∀x,foldedSetIterable iter env x=pure x):WF X A (exec (.For target iter body [] pos) env) P σ:=fun s hst=>by
 refine wpAny_For (h.run hst fun vx s₁ x σ₁ ix t₁ k₁ q=>?_) hs;obtain⟨l,I,hsrc,h0,step,fin⟩:=q;obtain⟨a,vs,rfl,_,il,hl⟩:=(hsrc _ _ h0).at t₁ ix;refine wpAny_pyIter_list hl ?_;obtain⟨t₂,k₂,e₂,n₂⟩:=t₁.push (s':={s₁ with heap:=s₁.heap.push {cls:=.type "list_iterator",data:=.fields #[.ref a,.int 0 0]}}) _ rfl rfl rfl
 have hzn:∀o,(Mine.hq X.w.params).get? s₁.heap.objs.size≠some o:=fun o e=>by
  have:=t₁.hz _ _ e;rw[Ax]at this;cases this
 have:=Fg (body:=body) (env:=env) (P:=P) (ItK.list (X:=X) (l:=l) hh) hsrc step fin h0 t₂ ⟨_,e₂ rfl,rfl,rfl⟩ n₂ hzn (ix.keep k₂) k₂ (Ax _) (target:=target);refine codeAny_mono this fun r s' hr=>?_
 cases r with
 | error e=>exact hr
 | ok f=>exact Po.from k₁ hr
noncomputable def Bp(a b:Int):List PV:=(List.range (b-a).toNat).map fun(i:Nat)=>PV.int (a+(i:Int))
theorem Co(a b:Int):(Bp a b).length=(b-a).toNat:=by simp[Bp]
theorem KA{a b:Int}{i:Nat}{v:PV}(h:(Bp a b)[i]? =some v):v=.int (a+i)∧(i:Int)<b-a:=by
 obtain⟨hi,e⟩:=List.getElem?_eq_some_iff.mp h;rw[Co]at hi;simp only[Bp,List.getElem_map,List.getElem_range]at e;exact⟨e.symm,by exact YM hi⟩
theorem C9{b:Int}(q:Q (.rng 0 b) σ):ON X A Is (fun l=>call (.type "range") l) [.int b] Q σ:=fun s vs hs i=>by
 cases i with
 | cons i i'=>
  cases i;cases i'
  refine call_range_1 ?_;obtain⟨t,k,e,n⟩:=hs.push (s':={s with heap:=s.heap.push {cls:=.type "range",data:=.fields #[.int 0 s.toks,.int b _,.int 1 (s.toks+1)]},toks:=s.toks+1+1}) _ rfl rfl rfl;exact⟨_,σ,.rng (e rfl) n,t,k,q⟩
theorem BI{a b:Int}(q:Q (.rng a b) σ):ON X A Is (fun l=>call (.type "range") l) [.int a,.int b] Q σ:=fun s vs hs i=>by
 cases i with
 | cons i i'=>
  cases i;cases i' with
  | cons i i'=>
   cases i;cases i'
   refine call_range_2 ?_;obtain⟨t,k,e,n⟩:=hs.push (s':={s with heap:=s.heap.push {cls:=.type "range",data:=.fields #[.int a _,.int b _,.int 1 s.toks]},toks:=s.toks+1}) _ rfl rfl rfl;exact⟨_,σ,.rng (e rfl) n,t,k,q⟩
theorem ItK.range(hh:A.handled=none){it:Addr}{x:PV}{vx:Value}{a b:Int}:ItK X A it (Bp a b) x vx (fun i o=>o={cls:=.type "range_iterator",dict:=none,data:=.fields #[rawInt (a+i),rawInt ((b-a).toNat-(i:Int)),rawInt 1],slots:= #[]}) (fun σ=>True) where
 dull i o p:=by
  subst p
  refine AG.of_cls ⟨?_,?_,?_,?_,?_⟩<;>(show Value.type "range_iterator"≠_;decide)
 nx i v σ s hv hs t ix hit hn Q E k:=by
  obtain⟨o,e,rfl⟩:=hit;obtain⟨rfl,hlt⟩:=KA hv;refine wpAny_pyNext_range_item (x:=a+i) (left:=(b-a).toNat-(i:Int)) (step:=1) e (by exact YL hlt) fun h' hi hsb=>?_;have kb:AI it s.heap h':=fun b ob hb eb=>(hsb.2 b hb).trans eb;refine k _ _ (.int _ _) kb rfl rfl ⟨_,hi,?_⟩
  have e1:a+(i:Int)+1=a+((i+1:Nat):Int):=by exact YK
  have e2:((b-a).toNat:Int)-(i:Int)-1=(b-a).toNat-((i+1:Nat):Int):=by exact YJ
  rw[e1,e2]
 en i σ s hv hs t ix hit hn Q E k:=by
  obtain⟨o,e,rfl⟩:=hit;have:=List.getElem?_eq_none_iff.mp hv;rw[Co]at this;exact wpAny_pyNext_range_end (x:=a+i) (left:=(b-a).toNat-(i:Int)) (step:=1) hh e (by exact YI this) fun h' hk=>k _ (fun b ob hb eb=>hk b ob hb eb) rfl rfl
 lg target i o s va Q E e p q:=H2 e (fun n hn=>by rw[p]at hn;cases hn;decide) q
theorem R1{target iter:Expr}{body:List Stmt}{pos:Pos}(hh:A.handled=none)(h:WV X A (eval iter env) (fun x σ₁=>∃(a b:Int) (I:List PV→PS→Prop),x=.rng a b∧ -(2 ^ 62)≤a∧a<2 ^ 62∧ -(2 ^ 62)≤b∧b<2 ^ 62∧I (Bp a b) σ₁∧(∀v r σ,I (v::r) σ→TG X A env target v (fun O σ'=>WF X A (execs body env) (Br I r P) σ') σ)∧(∀σ,I [] σ→P .next σ)) σ)(hs:∀x,foldedSetIterable iter env x=pure x):WF X A (exec (.For target iter body [] pos) env) P σ:=fun s hst=>by
 refine wpAny_For (h.run hst fun vx s₁ x σ₁ ix t₁ k₁ q=>?_) hs;obtain⟨a,b,I,rfl,ha,ha',hb,hb',h0,step,fin⟩:=q
 cases ix with
 | rng e n=>
  refine wpAny_pyIter_range e (small_one ha ha' hb hb') ?_;obtain⟨t₂,k₂,e₂,n₂⟩:=t₁.push (s':={s₁ with heap:=s₁.heap.push {cls:=.type "range_iterator",data:=.fields #[rawInt a,rawInt (Builtin.Range.rangeSize a b 1),rawInt 1]}}) _ rfl rfl rfl
  have hzn:∀o,(Mine.hq X.w.params).get? s₁.heap.objs.size≠some o:=fun o e=>by
   have:=t₁.hz _ _ e;rw[Ax]at this;cases this
  have hsz:Builtin.Range.rangeSize a b 1=((b-a).toNat:Int)-((0:Nat):Int):=by rw[rangeSize_one];split<;>(first| exact a64 (by assumption)| exact a65 (by assumption))
  have:=Fg (body:=body) (env:=env) (P:=P) (ItK.range (X:=X) (x:=.none) (vx:=.none) (a:=a) (b:=b) hh) (fun O O O=>trivial) step fin h0 t₂ ⟨_,e₂ rfl,by rw[hsz];simp⟩ n₂ hzn .none k₂ (Ax _) (target:=target);refine codeAny_mono this fun r s' hr=>?_
  cases r with
  | error e=>exact hr
  | ok f=>exact Po.from k₁ hr
end
section
variable {X:Cx}{A:Around}{env:Env}{σ:PS}{Q:PV→PS→Prop}{P:PF→PS→Prop}{B:Bool→PS→Prop}{l:List PV}{U:Unit→PS→Prop}
theorem GG {elt target iter:Expr} {ifs:List Expr} {scope:Scope} {pos:Pos} {it acc:Value} {env:Env} {R:Result→Shared→Prop} {s:Shared} (I:Nat→Shared→Prop)
  (turn:∀n s,I n s→wpAny (md X) A (pyNext it) (fun r s₁=>match r with
   | none=>R (.ok .next) s₁
   | some v=>wpAny (md X) A (letOwnedTupleGo target it v) (fun O s₁'=>wpAny (md X) A (assign target env v) (fun O s₂=>
     wpAny (md X) A (forIn ifs true fun c r=>if r=true then do let ok ←isTrue c env (eval c env);pure (ForInStep.yield ok)else pure (ForInStep.yield r)) (fun ok s₃=>
      if ok=true then wpAny (md X) A (eval elt env) (fun x s₄=>
       wpAny (md X) A (call (.builtin "list.append") [acc,x]) (fun O s₅=>∃m,m<n∧I m s₅) NoE s₄) NoE s₃
      else∃m,m<n∧I m s₃) NoE s₂) NoE s₁') NoE s₁) NoE s)
  (n:Nat) (h:I n s):
  codeAny (md X) A (.compLoop (.ListComp elt [⟨target,iter,ifs,0⟩] scope pos) 0 it acc env) R s:=by
 refine codeAny_loop rfl I (fun n s hI=>?_) n h;show wpAny _ A ((compTurn (.ListComp elt [⟨target,iter,ifs,0⟩] scope pos) 0 it acc env).onRaise (fun x=>do noteFrame x env;theTreesLotGoes x)) _ _ s;refine wpAny_noted ?_;rw[compTurn_list];refine wpAny_bind (wpAny_standAt (wpAny_bind (wpAny_mono (turn n s hI) (fun r s₁ h₁=>?_) fun O O h'=>h'.elim)))
 cases r with
 | none=>exact wpAny_pure h₁
 | some v=>
  refine wpAny_bind (wpAny_mono h₁ (fun O s₁' h₁'=>?_) fun O O h'=>h'.elim);refine wpAny_bind (wpAny_mono h₁' (fun O s₂ h₂=>wpAny_bind (wpAny_mono h₂ (fun ok s₃ h₃=>?_) fun O O h'=>h'.elim)) fun O O h'=>h'.elim)
  cases ok with
  | false=>exact wpAny_pure ⟨rfl,h₃⟩
  | true=>
   exact wpAny_bind (wpAny_bind (wpAny_mono h₃ (fun x s₄ h₄=>wpAny_bind (wpAny_mono h₄ (fun O s₅ h₅=>wpAny_pure (wpAny_pure ⟨rfl,h₅⟩)) fun O O h'=>h'.elim)) fun O O h'=>h'.elim))
noncomputable def WTs(X:Cx)(A:Around)(env:Env)(ifs:List Expr)(B:Bool→PS→Prop)(σ:PS):Prop:=
 WB X A (forIn ifs true fun c r=>if r=true then do let ok ←isTrue c env (eval c env);pure (ForInStep.yield ok)else pure (ForInStep.yield r)) B σ
theorem Dh(q:B true σ):WTs X A env [] B σ:=fun s hs=>by
 rw[List.forIn_nil];exact wpAny_pure ⟨true,σ,rfl,hs,Ad.refl _ _,q⟩
theorem GP{c:Expr}(h:WT X A env c B σ):WTs X A env [c] B σ:=fun s hs=>by
 rw[List.forIn_cons];simp only[if_true];refine wpAny_bind (wpAny_bind (h.run hs fun b s' b' σ' e t k q=>wpAny_pure ?_))
 cases e
 simp only[List.forIn_nil];exact wpAny_pure ⟨b,σ',rfl,t,k,q⟩
theorem EY{a:Addr}{ys:List PV}{o o':Own}{g:Array GenState}{y:PV}(hm:(a,.list ys)∈o)(u:Upd o a (.list (ys++[y])) o')(hsz:ys.length≤sizeLine)(q:Q .none ⟨o',g⟩):ON X A Is (fun l=>call (.builtin "list.append") l) [.raw (.ref a),y] Q ⟨o,g⟩:=fun s vs hs i=>by
 cases i with
 | cons i i'=>
  cases i;cases i' with
  | cons iy i'=>
   cases i'
   obtain⟨vs,pl,iv⟩:=hs.own _ _ hm;refine wpAny_list_append_plain pl (fun h' pl' hsb=>?_) (by rw[List.size_toArray,iv.length];exact hsz)
   have k:Ad (ads o) s.heap (ads o) h':=fun b ob e n=>⟨(hsb.2 b fun e=>n (by rw[e];exact u.mem_addr)).trans e,n⟩
   obtain⟨t,ke⟩:=hs.upd (s':={s with heap:=h'}) u hsb rfl rfl ⟨vs++[_],by simpa using pl',IsAll.append (.cons (iy.keep k) .nil) (iv.keep k)⟩;exact⟨.none,_,.none,t,ke,q⟩
theorem Gc{elt target iter:Expr}{ifs:List Expr}{scope:Scope}{pos:Pos}{BN:Env}{it D:Addr}{x:PV}{vx:Value}{Pi:Nat→Obj→Prop}{Src:PS→Prop}{fr:Option PV→List PV→Own}{g:Array GenState}{p:PV→Bool}{f:PV→PV}(K:ItK X A it l x vx Pi Src)(src:∀ov ys,Src ⟨fr ov ys,g⟩)(hD:∀ov ys,(D,.list ys)∈fr ov ys)(hU:∀ov ys ys',Upd (fr ov ys) D (.list ys') (fr ov ys'))(hsz:l.length≤sizeLine)(step:∀ov ys v,v∈l→TG X A BN target v (fun O σ'=>σ'=⟨fr (some v) ys,g⟩) ⟨fr ov ys,g⟩)(tests:∀ys v,v∈l→WTs X A BN ifs (fun b σ'=>b=p v∧σ'=⟨fr (some v) ys,g⟩) ⟨fr (some v) ys,g⟩)(helt:∀ys v,v∈l→p v=true→WV X A (eval elt BN) (fun y σ'=>y=f v∧σ'=⟨fr (some v) ys,g⟩) ⟨fr (some v) ys,g⟩){σ₀:PS}{s₀ s₁:Shared}{R:Result→Shared→Prop}(t₁:St X ⟨fr none [],g⟩ s₁)(hit:∃o,s₁.heap.get? it=some o∧Pi 0 o)(hn:it∉ads (fr none []))(hzn:∀o,(Mine.hq X.w.params).get? it≠some o)(ix:Is (ads (fr none [])) s₁.heap x vx)(k₀:Al σ₀ s₀ ⟨fr none [],g⟩ s₁)(h₀:s₀.heap.get? it=none)(hR:∀ov s',St X ⟨fr ov ((l.filter p).map f),g⟩ s'→Al σ₀ s₀ ⟨fr ov ((l.filter p).map f),g⟩ s'→R (.ok .next) s'):codeAny (md X) A (.compLoop (.ListComp elt [⟨target,iter,ifs,0⟩] scope pos) 0 (.ref it) (.ref D) BN) R s₁:=by
 refine GG (fun n s=>∃i ov,n=l.length+1-i∧i≤l.length∧St X ⟨fr ov (((l.take i).filter p).map f),g⟩ s∧(∃o,s.heap.get? it=some o∧Pi i o)∧it∉ads (fr ov (((l.take i).filter p).map f))∧
   Is (ads (fr ov (((l.take i).filter p).map f))) s.heap x vx∧Al σ₀ s₀ ⟨fr ov (((l.take i).filter p).map f),g⟩ s) ?_ (l.length+1)
  ⟨0,none,rfl,Nat.zero_le _,t₁,hit,hn,ix,k₀⟩
 rintro n s ⟨i,ov,rfl,hi,t,hit,hn,ix,k⟩
 have dl:∀o,s.heap.get? it=some o→AG o:=fun o e=>by
  obtain⟨o',e',p⟩:=hit;rw[e]at e';cases e';exact K.dull _ _ p
 cases hv:l[i]? with
 | none=>
  refine K.en i _ s hv (src _ _) t ix hit hn _ _ fun s' kb eg eo=>?_;have t':=t.iter hn hzn dl kb eg eo
  have hil:i=l.length:=by have:=List.getElem?_eq_none_iff.mp hv;exact a44 hi this
  subst hil;rw[List.take_length]at t' k
  exact hR ov s' t' fun b o e m=>⟨kb b o (fun q=>by rw[q,h₀]at e;cases e) (k b o e m).1,(k b o e m).2⟩
 | some v=>
  have hlt:i<l.length:=(List.getElem?_eq_some_iff.mp hv).1;have hvm:v∈l:=List.mem_of_getElem? hv;refine K.nx i v _ s hv (src _ _) t ix hit hn _ _ fun va s' iv kb eg eo hit'=>?_;have t':=t.iter hn hzn dl kb eg eo
  have k':Al σ₀ s₀ _ s':=fun b o e m=>⟨kb b o (fun q=>by rw[q,h₀]at e;cases e) (k b o e m).1,(k b o e m).2⟩
  have ix':=ix.but dl kb;obtain⟨o',e',p'⟩:=hit';refine K.lg target (i+1) o' s' va _ _ e' p' ?_
  have htk:l.take (i+1)=l.take i++[v]:=by rw[List.take_add_one,hv];rfl
  refine(step ov _ v hvm).run t' iv fun O s₂ O σ₂ O t₂ k₂ q=>?_;subst q;refine W.run (tests _ v hvm) t₂ fun b s₃ b' σ₃ e t₃ k₃ q=>?_;obtain⟨hb,rfl⟩:=q
  cases e
  have k13:=k₂.trans k₃
  cases hp:p v with
  | false=>
   rw[hp]at hb;subst hb;have hlive:=k13 it o' e' hn
   have hl:((l.take (i+1)).filter p).map f=((l.take i).filter p).map f:=by rw[htk,List.filter_append];simp[hp]
   exact⟨l.length+1-(i+1),by exact a45 hlt,i+1,some v,rfl,hlt,by rw[hl];exact t₃,⟨o',hlive.1,p'⟩,by rw[hl];exact hlive.2,by rw[hl];exact ix'.keep k13,by rw[hl];exact k'.trans k13⟩
  | true=>
   rw[hp]at hb;subst hb;refine(helt _ v hvm hp).run t₃ fun va₄ s₄ y σ₄ iy t₄ k₄ q=>?_;obtain⟨rfl,rfl⟩:=q;have k14:=k13.trans k₄
   have hl:((l.take (i+1)).filter p).map f=((l.take i).filter p).map f++[f v]:=by rw[htk,List.filter_append];simp[hp]
   refine ON.run (EY (X:=X) (A:=A) (Q:=fun O σ'=>σ'=⟨fr (some v) (((l.take i).filter p).map f++[f v]),g⟩) (hD _ _) (hU _ _ _) (by
    have h1:(((l.take i).filter p).map f).length≤(l.take i).length:=by rw[List.length_map];exact List.length_filter_le _ _
    have h2:(l.take i).length≤l.length:=by rw[List.length_take];exact a97
    exact av6 hsz h1 h2) rfl) t₄ (.cons (.raw _) (.cons iy .nil)) fun r s₅ b σ₅ e t₅ k₅ q=>?_
   subst q;have k15:=k14.trans k₅;have hlive:=k15 it o' e' hn;exact⟨l.length+1-(i+1),by exact a45 hlt,i+1,some v,rfl,hlt,by rw[hl];exact t₅,⟨o',hlive.1,p'⟩,by rw[hl];exact hlive.2,by rw[hl];exact ix'.keep k15,by rw[hl];exact k'.trans k15⟩
noncomputable def mko(mk:PV→List (Str×PV)):Option PV→List (Str×PV)
 | none=>[]
 | some v=>mk v
structure Bs (X:Cx)(A:Around)(BN:Env)(target:Expr)(ifs:List Expr)(elt:Expr)(l:List PV)(p:PV→Bool)(f:PV→PV)(fr:Option PV→List PV→Own)(g:Array GenState):Prop where
 step:∀ov ys v,v∈l→TG X A BN target v (fun O σ'=>σ'=⟨fr (some v) ys,g⟩) ⟨fr ov ys,g⟩
 tests:∀ys v,v∈l→WTs X A BN ifs (fun b σ'=>b=p v∧σ'=⟨fr (some v) ys,g⟩) ⟨fr (some v) ys,g⟩
 elt:∀ys v,v∈l→p v=true→WV X A (eval elt BN) (fun y σ'=>y=f v∧σ'=⟨fr (some v) ys,g⟩) ⟨fr (some v) ys,g⟩
theorem DU {Lc D:Addr} {m:List (Str×PV)} {ys:List PV} {o o':Own} {g:Array GenState} {s':Shared} {h':Heap} {σ₀:PS} {s₀:Shared} (t:St X ⟨(Lc,.ns m)::(D,.list ys)::o',g⟩ s') (ho:o.Sublist o') (k:Al σ₀ s₀ ⟨(Lc,.ns m)::(D,.list ys)::o',g⟩ s') (h₀:s₀.heap.get? Lc=none)
  (hs:Heap.SameBut Lc s'.heap h'):St X ⟨o,g⟩ {s' with heap:=h'}∧Is (ads o) h' (.lst ys) (.ref D)∧Al σ₀ s₀ ⟨o,g⟩ {s' with heap:=h'}:=by
 obtain⟨t₁,k₁⟩:=t.drop (List.sublist_cons_self _ _);obtain⟨t₂,k₂,i₂⟩:=t₁.freeze;obtain⟨t₃,k₃⟩:=t₂.drop ho;obtain⟨f,⟨ob,es,n,hob,hd,_⟩,_⟩:=t.own _ _ List.mem_cons_self
 have nL:Lc∉ads o:=fun hm=>by
  have:=t.nodup;simp only[ads,List.map_cons,List.nodup_cons]at this;exact this.1 (List.mem_cons_of_mem _ ((ho.map _).subset hm))
 have nz:∀o,(Mine.hq X.w.params).get? Lc≠some o:=fun o e=>(t.stat _ _ e).2 List.mem_cons_self
 have d:∀o,s'.heap.get? Lc=some o→AG o:=fun o e=>by
  rw[hob]at e;cases e;exact .of_dict hd
 have kb:AI Lc s'.heap h':=fun b o hb e=>(hs.2 b hb).trans e;refine⟨t₃.iter nL nz d kb rfl rfl,(i₂.keep k₃).but d kb,fun b o e n=>?_⟩;have:=(((k.trans k₁).trans k₂).trans k₃) b o e n;exact⟨kb b o (fun q=>by rw[q,h₀]at e;cases e) this.1,this.2⟩
theorem Fh {elt target iter:Expr} {ifs:List Expr} {scope:Scope} {cl:List (Str×Addr)} {pos:Pos} {it:Addr} {x:PV} {vx:Value} {Pi:Nat→Obj→Prop} {Src:PS→Prop} {o:Own} {g:Array GenState} {p:PV→Bool} {f:PV→PV} {mk:PV→List (Str×PV)} {use:Option (Value→Sem Unit)} {Qr:Value→Shared→Prop}
  (hcell:∀y∈scope.names,y.2≠.cell) (hkind:scope.kind=.function)
  (K:ItK X A it l x vx Pi Src) (hself:∀s Q E,(∃o,s.heap.get? it=some o∧Pi 0 o)→Q (.ref it) s→wpAny (md X) A (pyIter (.ref it)) Q E s)
  (src:∀a b,Src ⟨a::b::o,g⟩) (hsz:l.length≤sizeLine)
  (body:∀Lc D,Bs X A (compEnvC scope cl Lc env) target ifs elt l p f (fun ov ys=>(Lc,.ns (mko mk ov))::(D,.list ys)::o) g)
  {σ₀:PS} {s₀ s₂:Shared} (t₂:St X ⟨o,g⟩ s₂) (hit:∃o,s₂.heap.get? it=some o∧Pi 0 o) (hn:it∉ads o) (hzn:∀o,(Mine.hq X.w.params).get? it≠some o) (ix:Is (ads o) s₂.heap x vx)
  (k₀:Al σ₀ s₀ ⟨o,g⟩ s₂) (h₀:s₀.heap.get? it=none) (hgr:s₀.heap.objs.size≤s₂.heap.objs.size)
  (fin:∀Lc D m s',St X ⟨(Lc,.ns m)::(D,.list ((l.filter p).map f))::o,g⟩ s'→Al σ₀ s₀ ⟨(Lc,.ns m)::(D,.list ((l.filter p).map f))::o,g⟩ s'→s₀.heap.get? Lc=none→compPost (md X) A NoE use Qr (.ref D) Lc (.ok .next) s'):
  wpAny (md X) A (newList []) (fun acc s₃=>wpAny (md X) A (newFunctionEnv scope env.globals cl [] env.qual none .none (some env)) (fun BN s₄=>
   codeAny (md X) A (.compStart (.ListComp elt [⟨target,iter,ifs,0⟩] scope pos) 0 (.ref it) acc {BN with scope:=relabel scope env}) (compPost (md X) A NoE use Qr acc BN.locals) s₄) NoE s₃) NoE s₂:=by
 refine PySem.wpAny_newList (items:=[]) ?_ (by decide)
 obtain⟨t₃,k₃⟩:=t₂.pushOwn (o:={cls:=.type "list",data:=.seq ([]:List Value).toArray}) (s':={s₂ with heap:=s₂.heap.push {cls:=.type "list",data:=.seq ([]:List Value).toArray}}) rfl rfl rfl rfl (p:=.list [])
  fun k e=>⟨[],⟨_,e⟩,.nil⟩
 refine wpAny_newFunctionEnv hcell (by intro y hy;simp at hy) (fun h₁ hns₁ hsb₁=>?_) hkind
 generalize hs3:({s₂ with heap:=s₂.heap.push {cls:=.type "list",data:=.seq ([]:List Value).toArray}}:Shared)=s₃ at*
 have sz:s₃.heap.objs.size=s₂.heap.objs.size+1:=by rw[←hs3];exact Heap.size_push ..
 have old:∀b o,s₃.heap.get? b=some o→h₁.get? b=some o:=fun b o e=>hsb₁.extBut b o (Nat.ne_of_lt (Heap.lt_size e)) (Heap.get?_push_of_some _ e);obtain⟨t₄,k₄⟩:=t₃.new (s':={s₃ with heap:=h₁,toks:=s₃.toks+([]:List (Str×Value)).length}) (a:=s₃.heap.objs.size) (p:=.ns []) (Ax _) old rfl rfl ⟨_,hns₁,fun y=>.none⟩;have k₂₄:=k₃.trans k₄;obtain⟨o',e',p'⟩:=hit;have live:=k₂₄ it o' e' hn
 have hLc:s₀.heap.get? s₃.heap.objs.size=none:=by
  cases e:s₀.heap.get? s₃.heap.objs.size with
  | none=>rfl
  | some o=>exact absurd (Heap.lt_size e) (Nat.not_lt.mpr (by exact a63 hgr sz))
 have loop:codeAny (md X) A (.compLoop (.ListComp elt [⟨target,iter,ifs,0⟩] scope pos) 0 (.ref it) (.ref s₂.heap.objs.size) (compEnvC scope cl s₃.heap.objs.size env)) (compPost (md X) A NoE use Qr (.ref s₂.heap.objs.size) s₃.heap.objs.size) {s₃ with heap:=h₁,toks:=s₃.toks+([]:List (Str×Value)).length}:=by
  refine Gc (σ₀:=σ₀) (s₀:=s₀) (g:=g) (p:=p) (f:=f) (x:=x) (vx:=vx) (fr:=fun ov ys=>(s₃.heap.objs.size,.ns (mko mk ov))::(s₂.heap.objs.size,.list ys)::o) K (fun O O=>src _ _) (fun O O=>.tail _ (.head _)) (fun O O O=>.there .here) hsz
   (body _ _).step (body _ _).tests (body _ _).elt t₄ ⟨o',live.1,p'⟩ live.2 hzn (ix.keep k₂₄) (k₀.trans k₂₄) h₀ fun ov s' t' k'=>fin _ _ _ s' t' k' hLc
 exact codeAny_compStart_list loop (hself _ _ _ ⟨o',live.1,p'⟩ loop)
theorem JW{it a:Addr}:∀s (Q:Value→Shared→Prop) (E:Value→Shared→Prop),(∃o:Obj,s.heap.get? it=some o∧(o.cls=.type "list_iterator"∧o.data=.fields #[.ref a,.int (0:Nat) 0]))→Q (.ref it) s→wpAny (md X) A (pyIter (.ref it)) Q E s:=
 fun s Q E t3 q=>by obtain⟨o,e,p⟩:=t3;exact wpAny_pyIter_listiter (i:=0) ⟨o,e,p⟩ q
theorem E0{it:Addr}{a b:Int}:∀s (Q:Value→Shared→Prop) (E:Value→Shared→Prop),(∃o:Obj,s.heap.get? it=some o∧o={cls:=.type "range_iterator",dict:=none,data:=.fields #[rawInt (a+(0:Nat)),rawInt ((b-a).toNat-((0:Nat):Int)),rawInt 1],slots:= #[]})→Q (.ref it) s→wpAny (md X) A (pyIter (.ref it)) Q E s:=
 fun s Q E t3 q=>by obtain⟨o,e,p⟩:=t3;subst p;exact wpAny_pyIter_rangeiter e q
inductive Fc (X:Cx):PV→List PV→Own→Prop
 | list {x:PV} {l:List PV} {o:Own}:(∀g,LstV ⟨o,g⟩ x l)→Fc X x l o
 | range {a b:Int} {o:Own}: -(2 ^ 62)≤a→a<2 ^ 62→ -(2 ^ 62)≤b→b<2 ^ 62→Fc X (.rng a b) (Bp a b) o
theorem LstV.more{x:PV}{o:Own}{g:Array GenState}{a b:Addr×PO}(h:LstV ⟨o,g⟩ x l):LstV ⟨a::b::o,g⟩ x l:=by
 cases h with
 | frozen=>exact .frozen
 | own hm=>exact .own (.tail _ (.tail _ hm))
theorem Ig {elt target iter:Expr} {ifs:List Expr} {scope:Scope} {cl:List (Str×Addr)} {pos:Pos} {x:PV} {vx:Value} {o:Own} {g:Array GenState} {p:PV→Bool} {f:PV→PV} {mk:PV→List (Str×PV)} {use:Option (Value→Sem Unit)} {Qr:Value→Shared→Prop}
  (hh:A.handled=none) (hcell:∀y∈scope.names,y.2≠.cell) (hkind:scope.kind=.function)
  (hsrc:Fc X x l o) (hsz:l.length≤sizeLine)
  (body:∀Lc D,Bs X A (compEnvC scope cl Lc env) target ifs elt l p f (fun ov ys=>(Lc,.ns (mko mk ov))::(D,.list ys)::o) g)
  {s₁:Shared} (t₁:St X ⟨o,g⟩ s₁) (ix:Is (ads o) s₁.heap x vx)
  (fin:∀Lc D m s',St X ⟨(Lc,.ns m)::(D,.list ((l.filter p).map f))::o,g⟩ s'→Al ⟨o,g⟩ s₁ ⟨(Lc,.ns m)::(D,.list ((l.filter p).map f))::o,g⟩ s'→s₁.heap.get? Lc=none→compPost (md X) A NoE use Qr (.ref D) Lc (.ok .next) s'):
  wpAny (md X) A (pyIter vx) (fun it s₂=>wpAny (md X) A (newList []) (fun acc s₃=>wpAny (md X) A (newFunctionEnv scope env.globals cl [] env.qual none .none (some env)) (fun BN s₄=>
   codeAny (md X) A (.compStart (.ListComp elt [⟨target,iter,ifs,0⟩] scope pos) 0 it acc {BN with scope:=relabel scope env}) (compPost (md X) A NoE use Qr acc BN.locals) s₄) NoE s₃) NoE s₂) NoE s₁:=by
 have hzn:∀o,(Mine.hq X.w.params).get? s₁.heap.objs.size≠some o:=fun o e=>by
  have:=t₁.hz _ _ e;rw[Ax]at this;cases this
 cases hsrc with
 | list hl=>
  obtain⟨a,vs,rfl,_,il,hil⟩:=(hl g).at t₁ ix;refine wpAny_pyIter_list hil ?_;obtain⟨t₂,k₂,e₂,n₂⟩:=t₁.push (s':={s₁ with heap:=s₁.heap.push {cls:=.type "list_iterator",data:=.fields #[.ref a,.int 0 0]}}) _ rfl rfl rfl;exact Fh (it:=s₁.heap.objs.size) hcell hkind (ItK.list (X:=X) (l:=l) hh) JW (fun O O=>(hl g).more) hsz body t₂ ⟨_,e₂ rfl,rfl,rfl⟩ n₂ hzn (ix.keep k₂) k₂ (Ax _) (by simp[Heap.size_push]) fin
 | range ha ha' hb hb'=>
  rename_i a b
  cases ix with
  | rng e n=>
   refine wpAny_pyIter_range e (small_one ha ha' hb hb') ?_;obtain⟨t₂,k₂,e₂,n₂⟩:=t₁.push (s':={s₁ with heap:=s₁.heap.push {cls:=.type "range_iterator",data:=.fields #[rawInt a,rawInt (Builtin.Range.rangeSize a b 1),rawInt 1]}}) _ rfl rfl rfl
   have hs:Builtin.Range.rangeSize a b 1=((b-a).toNat:Int)-((0:Nat):Int):=by rw[rangeSize_one];split<;>(first| exact a64 (by assumption)| exact a65 (by assumption))
   exact Fh (it:=s₁.heap.objs.size) hcell hkind (ItK.range (X:=X) (x:=.none) (vx:=.none) (a:=a) (b:=b) hh) E0 (fun O O=>trivial) hsz body t₂ ⟨_,e₂ rfl,by rw[hs];simp⟩ n₂ hzn .none k₂ (Ax _) (by simp[Heap.size_push]) fin
theorem R3{elt target iter:Expr}{ifs:List Expr}{scope:Scope}{cl:List (Str×Addr)}{pos:Pos}(hh:A.handled=none)(p:PV→Bool)(f:PV→PV)(mk:PV→List (Str×PV))(hclos:closureFor scope env=pure cl)(hcell:∀y∈scope.names,y.2≠.cell)(hkind:scope.kind=.function)(hnames:∀y∈scope.names,y.2=.local→scope.names.lookup y.1=some .local)(h:WV X A (eval iter env) (fun x σ₁=>∃l o g,σ₁=⟨o,g⟩∧Fc X x l o∧l.length≤sizeLine∧(∀Lc D,Bs X A (compEnvC scope cl Lc env) target ifs elt l p f (fun ov ys=>(Lc,.ns (mko mk ov))::(D,.list ys)::o) g)∧Q (.lst ((l.filter p).map f)) ⟨o,g⟩) σ)(hs:∀x,foldedSetIterable iter env x=pure x):WV X A (eval (.ListComp elt [⟨target,iter,ifs,0⟩] scope pos) env) Q σ:=fun s hst=>by
 rw[eval_ListComp];refine wpAny_comprehension_free (use:=none) rfl hs hclos hkind hnames (h.run hst fun vx s₁ x σ₁ ix t₁ k₁ q=>?_);obtain⟨l,o,g,rfl,hsrc,hsz,body,q⟩:=q;refine Ig hh hcell hkind hsrc hsz body t₁ ix fun Lc D m s' t' k' hLc=>?_;obtain⟨fm,hn,_⟩:=t'.own _ _ List.mem_cons_self;refine⟨fm,hn,fun h' hsb=>?_⟩;obtain⟨t'',i'',k''⟩:=DU t' (List.Sublist.refl _) k' hLc hsb;exact⟨_,⟨o,g⟩,i'',t'',k₁.trans k'',q⟩
theorem GO{elt target iter:Expr}{y:Str}{py:Pos}{ifs:List Expr}{scope:Scope}{cl:List (Str×Addr)}{pos spos:Pos}(hh:A.handled=none)(p:PV→Bool)(f:PV→PV)(mk:PV→List (Str×PV))(hsw:swapsWith (.ListComp elt [⟨target,iter,ifs,0⟩] scope pos) (some (.Name y py)) spos.line env=pure true)(hclos:closureFor scope env=pure cl)(hcell:∀y∈scope.names,y.2≠.cell)(hkind:scope.kind=.function)(hnames:∀y∈scope.names,y.2=.local→scope.names.lookup y.1=some .local)(h:WV X A (eval iter env) (fun x σ₁=>∃l o g,σ₁=⟨o,g⟩∧Fc X x l o∧l.length≤sizeLine∧(∀Lc D,Bs X A (compEnvC scope cl Lc env) target ifs elt l p f (fun ov ys=>(Lc,.ns (mko mk ov))::(D,.list ys)::o) g)∧TG X A env (.Name y py) (.lst ((l.filter p).map f)) (fun O σ'=>P .next σ') ⟨o,g⟩) σ)(hs:∀x,foldedSetIterable iter env x=pure x):WF X A (exec (.Assign [.Name y py] (.ListComp elt [⟨target,iter,ifs,0⟩] scope pos) spos) env) P σ:=fun s hst=>by
 rw[exec_Assign_Name_used _ _ _ _ hsw];refine wpAny_bind (wpAny_standAt (wpAny_bind ?_));show wpAny _ A (do let _ ←comprehension (.ListComp elt [⟨target,iter,ifs,0⟩] scope pos) scope env _ (newList []) false (eval iter env) (some (assign (.Name y py) env))) _ _ s
 refine wpAny_bind (wpAny_mono (wpAny_comprehension_free (use:=some (assign (.Name y py) env)) (Q:=fun O s'=>Po X IsF P σ s .next s') (E:=NoE) rfl hs hclos hkind hnames
  (h.run hst fun vx s₁ x σ₁ ix t₁ k₁ q=>?_)) (fun O s' hq=>wpAny_pure (wpAny_pure hq)) fun O O e=>e)
 obtain⟨l,o,g,rfl,hsrc,hsz,body,q⟩:=q;refine Ig hh hcell hkind hsrc hsz body t₁ ix fun Lc D m s' t' k' hLc=>?_;obtain⟨fm,hn,_⟩:=t'.own _ _ List.mem_cons_self;obtain⟨t₂,i₂,k₂⟩:=DU t' (List.Sublist.refl _) k' hLc (Heap.SameBut.refl Lc s'.heap)
 have nL:Lc∉ads o:=fun hm=>by
  have:=t'.nodup;simp only[ads,List.map_cons,List.nodup_cons]at this;exact this.1 (List.mem_cons_of_mem _ hm)
 have nz:∀o,(Mine.hq X.w.params).get? Lc≠some o:=fun o e=>(t'.stat _ _ e).2 List.mem_cons_self;show wpAny _ _ (assign (.Name y py) env (.ref D)) _ _ _;refine O1.run (q:O1 X A RE _ _ _ _) t₂ i₂ fun O s₃ O σ₃ O t₃ k₃ q=>?_;obtain⟨ob,es,n,hob,hd,hr⟩:=hn;have live:=k₃ Lc ob hob nL;refine⟨fm,⟨ob,es,n,live.1,hd,hr⟩,fun h' hsb=>?_⟩;have kb:AI Lc s₃.heap h':=fun b o hb e=>(hsb.2 b hb).trans e;have t₄:=t₃.iter (s':={s₃ with heap:=h'}) live.2 nz (fun o e=>by rw[live.1]at e;cases e;exact .of_dict hd) kb rfl rfl;refine⟨.next,σ₃,.next,t₄,k₁.trans fun b o e n=>?_,q⟩;have:=(k₂.trans k₃) b o e n;exact⟨kb b o (fun q=>by rw[q,hLc]at e;cases e) this.1,this.2⟩
end
end
section
open PySem PySem.W PyProof.Rows PySem.Calls PySem.SeqAt PySem.MeetsSeq
section
variable {X:Cx}{A:Around}{env:Env}{σ:PS}{Q:PV→PS→Prop}{P:PF→PS→Prop}{B:Bool→PS→Prop}{l l':List PV}{U:Unit→PS→Prop}{v v':PV}
theorem An{value slice:Expr}{k:Int}{x:PV}(h:LstV σ v l)(h0:0≤k)(hx:l[k.toNat]? =some x)(hfit:k<2 ^ 63)(hs:∀t u,subscripted slice false (.ref t) (.int k u)=operate [.ref t,.int k u] (getItem (.ref t) (.int k u)))(q:Q x σ):O2 X A Is (subscriptTail value slice) v (.int k) Q σ:=by
 intro s va vb hst ia ib
 cases ib
 obtain⟨a,vs,rfl,_,il,hl⟩:=h.at hst ia;obtain⟨u,hu,iu⟩:=il.get hx;exact tail_any hl.typeIs slot_list_getitem.lookup (wpAny_getItem_list (x:=u) hl h0 hfit (by simpa using hu) ⟨_,σ,iu,hst,Ad.refl _ _,q⟩) (hs _ _)
theorem C4{value slice:Expr}{k:Int}{x:PV}(h:LstV σ v l)(h0:k<0)(h1: -(l.length:Int)≤k)(hx:l[(k+l.length).toNat]? =some x)(hfit: -(2 ^ 63)≤k)(hs:∀t u,subscripted slice false (.ref t) (.int k u)=operate [.ref t,.int k u] (getItem (.ref t) (.int k u)))(q:Q x σ):O2 X A Is (subscriptTail value slice) v (.int k) Q σ:=by
 intro s va vb hst ia ib
 cases ib
 obtain⟨a,vs,rfl,_,il,hl⟩:=h.at hst ia;obtain⟨u,hu,iu⟩:=il.get hx;have e:=il.length;exact tail_any hl.typeIs slot_list_getitem.lookup (wpAny_getItem_list_neg (x:=u) hl h0 (by rw[List.size_toArray,e];exact h1) hfit (by rw[List.size_toArray,e];simpa using hu) ⟨_,σ,iu,hst,Ad.refl _ _,q⟩) (hs _ _)
noncomputable def pick(l:List PV)(lo hi st:Option Int):List PV:=
 (sliceRange (sliceBounds lo hi st l.length).1 (sliceBounds lo hi st l.length).2.1 (sliceBounds lo hi st l.length).2.2).filterMap (l[·]?)
theorem IsAll.pickIdx{ad:List Addr}{h:Heap}{vs:List Value}(i:IsAll ad h l vs):∀idx:List Nat,IsAll ad h (idx.filterMap (l[·]?)) (idx.filterMap (vs[·]?))
 | []=>.nil
 | k::r=>by
  cases e:l[k]? with
  | none=>
   have:vs[k]? =none:=List.getElem?_eq_none (by rw[i.length];exact List.getElem?_eq_none_iff.mp e);simp only[List.filterMap_cons,e,this];exact i.pickIdx r
  | some x=>
   obtain⟨u,hu,iu⟩:=i.get e;simp only[List.filterMap_cons,e,hu];exact .cons iu (i.pickIdx r)
theorem IsAll.pick{ad:List Addr}{h:Heap}{vs:List Value}(i:IsAll ad h l vs)(lo hi st:Option Int):∃ws:List Value,slicePick vs.toArray lo hi st=ws.toArray∧IsAll ad h (Mine.pick l lo hi st) ws:=by
 refine⟨_,rfl,?_⟩;have:=i.pickIdx (sliceRange (sliceBounds lo hi st l.length).1 (sliceBounds lo hi st l.length).2.1 (sliceBounds lo hi st l.length).2.2)
 simpa [Mine.pick,i.length] using this
inductive Di:PV→Option Int→Prop
 | none:Di .none none
 | int (i:Int):Di (.int i) (some i)
theorem Di.is{p:PV}{k:Option Int}{u:Value}{ad:List Addr}{h:Heap}(x:Di p k)(i:Is ad h p u):IsPart u k:=by
 cases x<;>cases i<;>constructor
noncomputable def MJ(X:Cx)(A:Around)(env:Env)(e:Option Expr)(Q:PV→PS→Prop)(σ:PS):Prop:=WV X A (valueOrNone (evalOpt e env)) Q σ
theorem Opt_none(q:Q .none σ):MJ X A env none Q σ:=fun s hs=>wpAny_pure ⟨_,σ,.none,hs,Ad.refl _ _,q⟩
theorem Opt_some{e:Expr}(h:WV X A (eval e env) Q σ):MJ X A env (some e) Q σ:=h
theorem W_Slice{value:Expr}{lo hi st:Option Expr}{p pos:Pos}(h:WV X A (eval value env) (fun v σ₁=>MJ X A env lo (fun a σ₂=>MJ X A env hi (fun b σ₃=>MJ X A env st (fun c σ₄=>∃l x y z,LstV σ₄ v l∧l.length≤sizeLine∧Di a x∧Di b y∧Di c z∧z≠some 0∧Q (.lst (pick l x y z)) σ₄) σ₃) σ₂) σ₁) σ)(hs:∃f:Value→Value→List Value,∀t u,subscripted (.Slice lo hi st p) false t u=operate (f t u) (getItem t u)):WV X A (eval (.Subscript value (.Slice lo hi st p) pos) env) Q σ:=fun s hst=>by
 refine PyProof.Rows.Subscript_ (h.run hst fun va s₁ a σ₁ ia t₁ k₁ h₁=>?_);rw[arm_eval_Slice];refine wpAny_bind (W.run h₁ t₁ fun v2 s₂ b σ₂ i₂ t₂ k₂ h₂=>wpAny_bind (wpAny_holding (W.run h₂ t₂ fun v3 s₃ c σ₃ i₃ t₃ k₃ h₃=>wpAny_bind (wpAny_holding (W.run h₃ t₃ fun v4 s₄ d σ₄ i₄ t₄ k₄ h₄=>?_)))));obtain⟨l,x,y,z,hl,hsz,p1,p2,p3,hz,q⟩:=h₄;unfold newFields;refine wpAny_newObj_type ?_;obtain⟨t₅,k₅,e₅,n₅⟩:=t₄.push (s':={s₄ with heap:=s₄.heap.push {cls:=.type "slice",data:=.fields #[v2,v3,v4]}}) _ rfl rfl rfl;obtain⟨a,vs,rfl,_,il,hil⟩:=hl.at t₅ ((((ia.keep k₂).keep k₃).keep k₄).keep k₅);obtain⟨f,hf⟩:=hs;obtain⟨ws,hw,iw⟩:=il.pick x y z;refine tail_any hil.typeIs slot_list_getitem.lookup (wpAny_getItem_list_slice hil (lo:=x) (hi:=y) (st:=z) ⟨_,e₅ rfl,rfl,rfl⟩ (p1.is ((i₂.keep k₃).keep k₄)) (p2.is (i₃.keep k₄)) (p3.is i₄) hz ?_ (by rw[List.size_toArray,il.length];exact hsz)) (hf _ _);rw[hw];obtain⟨t₆,k₆,i₆⟩:=t₅.newFrozen iw;exact⟨_,σ₄,i₆,t₆,((((k₁.trans k₂).trans k₃).trans k₄).trans k₅).trans k₆,q⟩
theorem Cg(h:LstV σ v l)(h':LstV σ v' l')(hsz:l.length+l'.length≤sizeLine)(q:Q (.lst (l++l')) σ):O2 X A Is (binaryOp .Add) v v' Q σ:=by
 intro s va vb hst ia ib;obtain⟨a,vs,rfl,⟨⟨c1,d1,dt1,sl1⟩,n1,ho1,hc1,_,hd1⟩,il,hl⟩:=h.at hst ia;obtain⟨b,ws,rfl,⟨⟨c2,d2,dt2,sl2⟩,n2,ho2,hc2,_,hd2⟩,il',hl'⟩:=h'.at hst ib;simp only at hc1 hd1 hc2 hd2;subst hc1 hd1 hc2 hd2;refine concat_meets ⟨_,ho1,rfl⟩ ⟨_,ho2,rfl⟩ noFill_list_add seq_list_add PySem.F.slot_list_add PySem.F.entry_list_add (PySem.F.args_list_add_2 _ _) (list_addW a b vs.toArray ws.toArray n1 n2 d1 d2 sl1 sl2 (by simp[il.length,il'.length];exact hsz)) ⟨ho1,ho2,?_⟩;rw[show vs.toArray++ws.toArray=(vs++ws).toArray by simp];obtain⟨t,k,i⟩:=hst.newFrozen (IsAll.append il' il);exact⟨_,σ,i,t,k,q⟩
theorem Cl(h:LstV σ v l)(hsz:l.length<2 ^ 62)(q:Q (.int l.length) σ):ON X A Is (fun l=>call (.builtin "len") l) [v] Q σ:=by
 intro s vs hst i
 cases i with
 | cons i i'=>
  cases i'
  obtain⟨a,vs,rfl,_,il,hl⟩:=h.at hst i;obtain⟨t,k⟩:=hst.same (s':={s with toks:=s.toks+1+1}) rfl rfl rfl
  have e:(vs.toArray.size:Int)=l.length:=by rw[List.size_toArray,il.length]
  refine call_len_list hl (by rw[e];exact ax8 hsz) ?_;rw[e];exact⟨_,σ,.int _ _,t,k,q⟩
theorem Th{a:Addr}{ys:List PV}{o o':Own}{g:Array GenState}{y:PV}(hm:(a,.list ys)∈o)(hsz:ys.length≤sizeLine)(u:Upd o a (.list (ys++[y])) o')(q:Q .none ⟨o',g⟩):ON X A Is (fun l=>call (.builtin "list.append") l) [.raw (.ref a),y] Q ⟨o,g⟩:=EY hm u hsz q
end
end
section
open PySem PySem.W PyProof.Rows PySem.Calls
structure En (env:Env)(ns:List (Str×NameKind))(cs:List (Str×Addr)):Prop where
 k:env.scope.kind=.function
 n:∀x,env.kindOf x=ns.lookup x
 c:env.cells=cs
 g:env.globals=3
 b:env.builtins=0
theorem En.inter{env:Env}{ns:List (Str×NameKind)}{cs:List (Str×Addr)}(he:En env ns cs):interactive env=false:=by
 unfold interactive;rw[he.k];rfl
section
variable {X:Cx}{A:Around}{env:Env}{σ:PS}{Q:PV→PS→Prop}{P:PF→PS→Prop}{B:Bool→PS→Prop}{l:List PV}{U:Unit→PS→Prop}{ns:List (Str×NameKind)}{cs:List (Str×Addr)}{x:Str}{pos:Pos}{v:PV}{m:List (Str×PV)}{o:Own}{g:Array GenState}
theorem En.name(he:En env ns cs)(hl:ns.lookup x=some .local)(hm:m.lookup x=some v)(hd:(x==("__debug__":Str))=false)(q:Q v ⟨(env.locals,.ns m)::o,g⟩):WV X A (eval (.Name x pos) env) Q ⟨(env.locals,.ns m)::o,g⟩:=Rz q he.k ((he.n x).trans hl) hm hd
theorem En.glob(he:En env ns cs){u:Value}(hl:ns.lookup x=some .globalImplicit)(e:nsIn (frg X.w.params) 3 x=some (some u))(hd:(x==("__debug__":Str))=false)(q:Q (.raw u) σ):WV X A (eval (.Name x pos) env) Q σ:=HV q he.k ((he.n x).trans hl) e he.g hd
theorem En.blt(he:En env ns cs){u:Value}(hl:ns.lookup x=some .globalImplicit)(e:nsIn (frg X.w.params) 3 x=some none)(e':nsIn (frg X.w.params) 0 x=some (some u))(hd:(x==("__debug__":Str))=false)(q:Q (.raw u) σ):WV X A (eval (.Name x pos) env) Q σ:=IQ q he.k ((he.n x).trans hl) e e' he.g he.b hd
theorem En.cell{c:Addr}(he:En env ns cs)(hl:ns.lookup x=some .cell)(hc:cs.lookup x=some c)(hm:(c,.cell (some v))∈σ.own)(hd:(x==("__debug__":Str))=false)(q:Q v σ):WV X A (eval (.Name x pos) env) Q σ:=fun s hs=>by
 refine wpAny_Name ?_ hd;obtain⟨v',hc',i⟩:=hs.own _ _ hm
 cases i with
 | some i=>exact wpAny_loadName_cell he.k ((he.n x).trans hl) (he.c▸hc) hc' ⟨v,σ,i,hs,Ad.refl _ _,q⟩
theorem En.store(he:En env ns cs)(hl:ns.lookup x=some .local)(q:U () ⟨(env.locals,.ns (Ao m x v))::o,g⟩):TG X A env (.Name x pos) v U ⟨(env.locals,.ns m)::o,g⟩:=
 Og he.k ((he.n x).trans hl) q
theorem En.bind(he:En env ns cs)(hl:ns.lookup x=some .local)(q:U () ⟨(env.locals,.ns (Ao m x v))::o,g⟩):O1 X A RE (bindName env x) v U ⟨(env.locals,.ns m)::o,g⟩:=
 Rn he.k ((he.n x).trans hl) q
theorem En.storeN(he:En env ns cs)(hl:ns.lookup x=some .local)(q:U () ⟨(env.locals,.ns (Ao m x v))::o,g⟩):O1 X A RE (storeName env x) v U ⟨(env.locals,.ns m)::o,g⟩:=
 GM he.k ((he.n x).trans hl) q
theorem Ce{c:Addr}{w:Option PV}{o o':Own}(he:En env ns cs)(hl:ns.lookup x=some .cell)(hc:cs.lookup x=some c)(hm:(c,.cell w)∈o)(u:Upd o c (.cell (some v)) o')(q:U () ⟨o',g⟩):O1 X A RE (storeName env x) v U ⟨o,g⟩:=fun s va hs i=>by
 obtain⟨v',hc',_⟩:=hs.own _ _ hm;refine wpAny_storeName_cell he.k ((he.n x).trans hl) (he.c▸hc) hc' fun h' hcell hsb=>?_
 have k:Ad (ads o) s.heap (ads o) h':=fun b ob e n=>⟨(hsb.2 b fun e=>n (by rw[e];exact u.mem_addr)).trans e,n⟩
 obtain⟨t,ke⟩:=hs.upd (s':={s with heap:=h'}) u hsb rfl rfl ⟨_,hcell,.some (i.keep k)⟩;exact⟨(),_,rfl,t,ke,q⟩
theorem En.storeC{c:Addr}{w:Option PV}{o o':Own}(he:En env ns cs)(hl:ns.lookup x=some .cell)(hc:cs.lookup x=some c)(hm:(c,.cell w)∈o)(u:Upd o c (.cell (some v)) o')(q:U () ⟨o',g⟩):TG X A env (.Name x pos) v U ⟨o,g⟩:=fun s va hs i=>wpAny_assign_Name (Ce he hl hc hm u q s va hs i)
end
theorem Bg.plain{X:Cx}{fd:FuncData}{args:List PV}{ns:List Str}(h:∀vs:List Value,vs.length=args.length→bindArgs fd ⟨vs,[]⟩=pure (ns.zip vs))(hl:ns.length=args.length):Bg X fd [] args (ns.zip args):=by
 intro σ s vs hs iv;refine⟨ns.zip vs,.of_eq (h vs iv.length),?_,?_⟩
 ·rw[List.map_fst_zip (by rw[iv.length];exact a11 hl),List.map_fst_zip (by exact a11 hl)]
 ·rw[List.map_snd_zip (by exact a46 hl),List.map_snd_zip (by rw[iv.length];exact a46 hl)];exact iv
theorem AM{X:Cx}{n:Nat}{a:Addr}{o:Obj}{fd:FuncData}{body:List Stmt}{ns:List Str}{args:List PV}{Q:PV→PS→Prop}{σ:PS}(ho:(Mine.hq X.w.params).get? a=some o)(hdata:o.data=.func fd)(hcd:(Mine.hq X.w.params).CodeRec fd.code fd.qualname)(hbody:fd.body=.stmts body)(hbind:∀vs:List Value,vs.length=args.length→bindArgs fd ⟨vs,[]⟩=pure (ns.zip vs))(hlen:ns.length=args.length)(hcell:∀x∈fd.scope.names,x.2≠.cell)(hloc:∀x∈ns,fd.scope.names.lookup x=some .local)(hco:fd.scope.isCoroutine=false)(hgen:fd.scope.isGenerator=false)(hk:fd.scope.kind=.function)(hg:fd.globals=3)(hb:fd.builtins=0)(hc:fd.closure=[])(hn:n<500)(h:∀env,En env fd.scope.names []→WF X (AR (n+1)) (execs body env) (fun f σ'=>Lvs Q f.val σ') ⟨(env.locals,.ns (ns.zip args).reverse)::σ.own,σ.gens⟩):OC X (AR n) (.ref a) [] args Q σ:=
 EX (kw:=[]) ho hdata hcd hbody (.plain hbind hlen) hcell (by rw[List.map_fst_zip (by exact a11 hlen)];exact hloc) hco hgen hk hn fun L=>
  h _ ⟨hk,fun O=>rfl,hc,hg,hb⟩
noncomputable def Seq(X:Cx)(A:Around)(rest:List Stmt)(env:Env)(P:PF→PS→Prop):PF→PS→Prop
 | .next,σ=>WF X A (execs rest env) P σ
 | f,σ=>P f σ
theorem Seq_next{X:Cx}{A:Around}{env:Env}{σ:PS}{P:PF→PS→Prop}{rest:List Stmt}(h:WF X A (execs rest env) P σ):Seq X A rest env P .next σ:=h
theorem Seq_brk{X:Cx}{A:Around}{env:Env}{σ:PS}{P:PF→PS→Prop}{rest:List Stmt}(h:P .brk σ):Seq X A rest env P .brk σ:=h
theorem Seq_cont{X:Cx}{A:Around}{env:Env}{σ:PS}{P:PF→PS→Prop}{rest:List Stmt}(h:P .cont σ):Seq X A rest env P .cont σ:=h
theorem Seq_ret{X:Cx}{A:Around}{env:Env}{σ:PS}{P:PF→PS→Prop}{rest:List Stmt}{v:PV}(h:P (.ret v) σ):Seq X A rest env P (.ret v) σ:=h
theorem W_seq{X:Cx}{A:Around}{env:Env}{σ:PS}{P:PF→PS→Prop}{st:Stmt}{rest:List Stmt}(h:WF X A (exec st env) (Seq X A rest env P) σ):WF X A (execs (st::rest) env) P σ:=
 Ry (W.mono h fun b σ' q=>by cases b<;>exact q)
theorem Lvs.drop{Q:PV→PS→Prop}{v:PV}{o o':Own}{g:Array GenState}(h:o'.Sublist o)(q:Q v ⟨o',g⟩):Lvs Q v ⟨o,g⟩:=⟨v,_,.drop h,q⟩
theorem Lvs.freeze{Q:PV→PS→Prop}{a:Addr}{l:List PV}{o o':Own}{g:Array GenState}(p:o.Perm ((a,.list l)::o'))(h:Lvs Q (.lst l) ⟨o',g⟩):Lvs Q (.raw (.ref a)) ⟨o,g⟩:=by
 obtain⟨v',σ',lv,q⟩:=h;exact⟨v',σ',.trans (.perm p) (.trans .freeze lv),q⟩
end
section
open PySem PySem.W PyProof.Rows PySem.Calls PySem.SeqAt PySem.MeetsSeq
section
variable {X:Cx}{A:Around}{env:Env}{σ:PS}{Q:PV→PS→Prop}{P:PF→PS→Prop}{B:Bool→PS→Prop}{l l':List PV}{U:Unit→PS→Prop}{v v':PV}
theorem le_ii{a b:Int}(q:Q (.bool (decide (a≤b))) σ):O2 X A Is (compareOp .LtE) (.int a) (.int b) Q σ:=by
 intro s va vb hs ia ib
 cases ia;cases ib
 exact PySem.P.le_int ⟨_,σ,.bool _,hs,Ad.refl _ _,q⟩
theorem ge_ii{a b:Int}(q:Q (.bool (decide (a≥b))) σ):O2 X A Is (compareOp .GtE) (.int a) (.int b) Q σ:=by
 intro s va vb hs ia ib
 cases ia;cases ib
 exact PySem.P.ge_int ⟨_,σ,.bool _,hs,Ad.refl _ _,q⟩
theorem eq_ss{a b:Str}(q:Q (.bool (a==b)) σ):O2 X A Is (compareOp .Eq) (.str a) (.str b) Q σ:=by
 intro s va vb hs ia ib
 cases ia;cases ib
 exact PyProof.Rows.eq_str ⟨_,σ,.bool _,hs,Ad.refl _ _,q⟩
theorem ne_ss{a b:Str}(q:Q (.bool (a != b)) σ):O2 X A Is (compareOp .NotEq) (.str a) (.str b) Q σ:=by
 intro s va vb hs ia ib
 cases ia;cases ib
 exact PyProof.Rows.ne_str ⟨_,σ,.bool _,hs,Ad.refl _ _,q⟩
noncomputable def isNone:PV→Bool
 | .none=>true
 | _=>false
noncomputable def LJ:PV→Bool
 | .raw (.builtin _)=>false
 | .raw .none=>false
 | _=>true
theorem Eb{ad:List Addr}{h:Heap}{u:Value}(i:Is ad h v u)(hb:LJ v=true):plainIs u .none=true∧(u==.none)=isNone v:=by
 cases i with
 | raw u=>cases u<;>first| (cases hb;done)| exact⟨rfl,rfl⟩
 | _=>exact⟨rfl,rfl⟩
theorem Kp(hb:LJ v=true)(q:Q (.bool (isNone v)) σ):O2 X A Is (compareOp .Is) v .none Q σ:=by
 intro s va vb hs ia ib
 cases ib
 obtain⟨a,b⟩:=Eb ia hb;exact wpAny_is_plain a ⟨_,σ,b▸.bool _,hs,Ad.refl _ _,q⟩
theorem Jo(hb:LJ v=true)(q:Q (.bool (!isNone v)) σ):O2 X A Is (compareOp .IsNot) v .none Q σ:=by
 intro s va vb hs ia ib
 cases ib
 obtain⟨a,b⟩:=Eb ia hb;exact wpAny_isNot_plain a ⟨_,σ,b▸.bool _,hs,Ad.refl _ _,q⟩
theorem BE{a b:Int}(hb:b≠0)(hb':b.natAbs.log2<9000)(q:Q (.int (a.fdiv b)) σ):O2 X A Is (binaryOp .FloorDiv) (.int a) (.int b) Q σ:=by
 intro s va vb hs ia ib
 cases ia;cases ib
 obtain⟨t,ke⟩:=hs.same (s':={s with toks:=s.toks+1}) rfl rfl rfl;exact PyProof.Rows.floordiv_int hb ⟨_,σ,.int _ _,t,ke,q⟩ (Or.inl (PyProof.noPylong_of_log2 hb'))
theorem RA{a:Int}(ha:a.natAbs.log2<1920)(q:Q (.str (toString a)) σ):ON X A Is (fun l=>call (.type "str") l) [.int a] Q σ:=fun s vs hs i=>by
 cases i with
 | cons i i'=>
  cases i;cases i'
  obtain⟨t,k⟩:=hs.same (s':={s with toks:=s.toks+1}) rfl rfl rfl;exact PySem.P.str_of_int ha ⟨_,σ,.str _ _,t,k,q⟩
theorem Jh{a b:Int}(hh:A.handled=none)(q:Q (.int (max a b)) σ):ON X A Is (fun l=>call (.builtin "max") l) [.int a,.int b] Q σ:=fun s vs hs i=>by
 cases i with
 | cons i i'=>
  cases i;cases i' with
  | cons i i'=>
   cases i;cases i'
   refine max_two_ints hh fun h' tk hk=>?_;obtain⟨t,k⟩:=hs.grow (s':={s with heap:=h',toks:=tk}) hk rfl rfl;refine⟨_,σ,?_,t,k,q⟩;by_cases hab:b > a
   ·rw[if_pos hab,show max a b=b by exact am9 hab];exact .int _ _
   ·rw[if_neg hab,show max a b=a by exact am8 hab];exact .int _ _
theorem Jg{a b:Int}(hh:A.handled=none)(q:Q (.int (min a b)) σ):ON X A Is (fun l=>call (.builtin "min") l) [.int a,.int b] Q σ:=fun s vs hs i=>by
 cases i with
 | cons i i'=>
  cases i;cases i' with
  | cons i i'=>
   cases i;cases i'
   refine min_two_ints hh fun h' tk hk=>?_;obtain⟨t,k⟩:=hs.grow (s':={s with heap:=h',toks:=tk}) hk rfl rfl;refine⟨_,σ,?_,t,k,q⟩;by_cases hab:b<a
   ·rw[if_pos hab,show min a b=b by exact am7 hab];exact .int _ _
   ·rw[if_neg hab,show min a b=a by exact am6 hab];exact .int _ _
theorem Me{a:Str}(q:Q (.bool true) σ):ON X A Is (fun l=>call (.builtin "isinstance") l) [.str a,.raw (.type "str")] Q σ:=fun s vs hs i=>by
 cases i with
 | cons i i'=>
  cases i;cases i' with
  | cons i i'=>
   cases i;cases i'
   exact IsiPair.str_str ⟨_,σ,.bool _,hs,Ad.refl _ _,q⟩
theorem Ko{a:Str}(q:Q (.bool (Txt.isspace a)) σ):ON X A Is (fun l=>call (.builtin "str.isspace") l) [.str a] Q σ:=fun s vs hs i=>by
 cases i with
 | cons i i'=>
  cases i;cases i'
  exact SC.isspace ⟨_,σ,.bool _,hs,Ad.refl _ _,q⟩
theorem Gh{a b:Str}(q:Q (.bool (Txt.startswith a b)) σ):ON X A Is (fun l=>call (.builtin "str.startswith") l) [.str a,.str b] Q σ:=fun s vs hs i=>by
 cases i with
 | cons i i'=>
  cases i;cases i' with
  | cons i i'=>
   cases i;cases i'
   exact SC.startswith ⟨_,σ,.bool _,hs,Ad.refl _ _,q⟩
noncomputable def Ac(l:List Str):List PV:=l.map .str
theorem IsAll.strsAre{ad:List Addr}{h:Heap}:∀{ys:List Str} {vs:List Value},IsAll ad h (Ac ys) vs→StrsAre vs ys:=by
 intro ys
 induction ys with
 | nil=>intro vs i;cases i;exact .nil
 | cons y ys ih=>
  intro vs i;obtain⟨a,us,ia,r,rfl⟩:=IsAll.vCons i;obtain⟨t,rfl⟩:=Is.vStr ia;exact .cons _ _ (ih r)
theorem Mc{x:Str}{ys:List Str}(h:LstV σ v (Ac ys))(hok:(ys.map (·.length)).sum+ys.length*x.length≤16777216)(q:Q (.str (Txt.join x ys)) σ):ON X A Is (fun l=>call (.builtin "str.join") l) [.str x,v] Q σ:=fun s vs hs i=>by
 cases i with
 | cons i i'=>
  cases i;cases i' with
  | cons i i'=>
   cases i'
   obtain⟨a,vs,rfl,_,il,hl⟩:=h.at hs i;refine join_list hl (by simpa using il.strsAre) hok fun t' k=>?_;obtain⟨t,ke⟩:=hs.same (s':={s with toks:=k}) rfl rfl rfl;exact⟨_,σ,.str _ _,t,ke,q⟩
theorem WT_chain{a r r':Expr}{op op':CmpOp}{pos:Pos}(h:WV X A (eval a env) (fun x σ₁=>WV X A (eval r env) (fun y σ₂=>O2 X A Is (compareOp op) x y (fun c σ₃=>O1 X A RE truthy c (fun t σ₄=>if t then WV X A (eval r' env) (fun z σ₅=>O2 X A Is (compareOp op') y z (fun c σ₆=>O1 X A RE truthy c B σ₆) σ₅) σ₄ else B false σ₄) σ₃) σ₂) σ₁) σ)(hm:lastMarks [op,op'] [r,r']=false):WT X A env (.Compare a [op,op'] [r,r'] pos) B σ:=fun s hs=>
 PyProof.Rows.isTrue_chain (h.run hs fun vx s₁ x σ₁ ix t₁ k₁ h₁=>PyProof.Rows.test_link (h₁.run t₁ fun vy s₂ y σ₂ iy t₂ k₂ h₂=>h₂.run t₂ (ix.keep k₂) iy fun vc s₃ c σ₃ ic t₃ k₃ h₃=>h₃.run t₃ ic fun b s₄ b' σ₄ e t₄ k₄ h₄=>by
  cases e
  cases b with
  | false=>exact⟨_,σ₄,rfl,t₄,((k₁.trans k₂).trans k₃).trans k₄,h₄⟩
  | true=>
   refine PyProof.Rows.test_last (W.run h₄ t₄ fun vz s₅ z σ₅ iz t₅ k₅ h₅=>h₅.run t₅ ((iy.keep (k₃.trans k₄)).keep k₅) iz fun vd s₆ d σ₆ id t₆ k₆ h₆=>h₆.run t₆ id fun e s₇ e' σ₇ he t₇ k₇ q=>
    ⟨_,σ₇,he,t₇,(((((k₁.trans k₂).trans k₃).trans k₄).trans k₅).trans k₆).trans k₇,q⟩))) hm
end
section
variable {X:Cx}{A:Around}{env:Env}{σ:PS}{Q:PV→PS→Prop}{P:PF→PS→Prop}{B:Bool→PS→Prop}{l l':List PV}{U:Unit→PS→Prop}{v v':PV}
theorem Is.boolEq{ad:List Addr}{h:Heap}{b b':Bool}(e:b'=b):Is ad h (.bool b) (.bool b'):=e▸.bool _
theorem MY{a b:Int}{x y:Str}(hu:A.units<cLine)(q:Q (.bool (a==b&&x==y)) σ):O2 X A Is (compareOp .Eq) (.tup [.int a,.str x]) (.tup [.int b,.str y]) Q σ:=by
 intro s va vb hs ia ib
 cases ia with
 | tup ho hc hd hn ia=>
  cases ib with
  | tup ho' hc' hd' hn' ib=>
   cases ia with
   | cons i1 ia=>cases ia with
    | cons i2 ia=>
     cases ia;cases i1;cases i2
     cases ib with
     | cons j1 ib=>cases ib with
      | cons j2 ib=>
       cases ib;cases j1;cases j2
       refine eq_tupleAt (e:=fun j=>if j=0 then a==b else x==y) ⟨_,ho,hc,_,hd⟩ ⟨_,ho',hc',_,hd'⟩ hu (fun j h1 h2=>?_) ⟨_,σ,?_,hs,Ad.refl _ _,q⟩
       ·simp only[List.size_toArray,List.length_cons,List.length_nil]at h1
        rcases j with _| _| j
        ·exact(EqGives.int _ _ _ _).at _ _
        ·exact(PyProof.Rows.eqGives_str _ _ _ _).at _ _
        ·omega
       ·exact Is.boolEq (by simp[List.range,List.range.loop])
theorem GX{ad:List Addr}{h:Heap}{ys:List Str}{vs:List Value}(i:IsAll ad h (Ac ys) vs){j:Nat}(hj:j<vs.length)(hj':j<ys.length):∃t,vs[j]=.str ys[j] t:=by
 have e:(Ac ys)[j]? =some (.str ys[j]):=by simp[Ac,hj']
 obtain⟨u,hu,iu⟩:=i.get e;rw[List.getElem?_eq_getElem hj]at hu
 injection hu with hu
 rw[hu]
 cases iu
 exact⟨_,rfl⟩
theorem At{ys:List Str}:(Ac ys).length=ys.length:=by simp[Ac]
theorem Jd{ys zs:List Str}(hu:A.units<cLine)(h:LstV σ v (Ac ys))(h':LstV σ v' (Ac zs))(q:Q (.bool (!decide (ys=zs))) σ):O2 X A Is (compareOp .NotEq) v v' Q σ:=by
 intro s va vb hs ia ib;obtain⟨a,vs,rfl,_,il,hl⟩:=h.at hs ia;obtain⟨b,ws,rfl,_,il',hl'⟩:=h'.at hs ib;have e1:=il.length;have e2:=il'.length;rw[At]at e1 e2;by_cases hsz:ys.length=zs.length
 ·refine RcNeAt.lists (e:=fun j=>ys[j]? ==zs[j]?) hl hl' (by simp[e1,e2,hsz]) hu (fun j h1 h2=>?_) _ _ _ _ ⟨_,σ,?_,hs,Ad.refl _ _,q⟩
  ·simp only[List.size_toArray]at h1 h2
   have j1:j<ys.length:=by exact Tz e1 h1
   have j2:j<zs.length:=by exact WO e1 hsz h1
   obtain⟨t,et⟩:=GX il h1 j1;obtain⟨u,eu⟩:=GX il' h2 j2;simp only[List.getElem_toArray,et,eu];have:=(PyProof.Rows.eqGives_str ys[j] zs[j] t u).at A.in1 s
   rwa [show(ys[j]==zs[j])=(ys[j]? ==zs[j]?)by rw[List.getElem?_eq_getElem j1,List.getElem?_eq_getElem j2];rfl]at this
  ·have:(List.range vs.toArray.size).all (fun j=>ys[j]? ==zs[j]?)=decide (ys=zs):=by
    rw[List.size_toArray,e1];by_cases hq:ys=zs
    ·subst hq;simp
    ·rw[decide_eq_false hq]
     refine Bool.eq_false_iff.mpr fun hall=>hq ?_;refine List.ext_getElem? fun j=>?_;by_cases hj:j<ys.length
     ·exact eq_of_beq (List.all_eq_true.mp hall j (List.mem_range.mpr hj))
     ·rw[List.getElem?_eq_none (by exact a12 hj),List.getElem?_eq_none (by exact WN hsz hj)]
   rw[this];exact .bool _
 ·refine RcNeAt.lists_lengths hl hl' (by simp only[List.size_toArray,e1,e2];exact bne_iff_ne.mpr hsz) hu _ _ _ _ ⟨_,σ,?_,hs,Ad.refl _ _,q⟩
  rw[decide_eq_false (fun e=>hsz (by rw[e]))];exact .bool _
theorem I3(hu:A.units<cLine)(h:LstV σ v l)(h':LstV σ v' [])(q:Q (.bool (!l.isEmpty)) σ):O2 X A Is (compareOp .NotEq) v v' Q σ:=by
 intro s va vb hs ia ib;obtain⟨a,vs,rfl,_,il,hl⟩:=h.at hs ia;obtain⟨b,ws,rfl,_,il',hl'⟩:=h'.at hs ib;have e1:=il.length;have e2:=il'.length
 cases l with
 | nil=>
  refine RcNeAt.lists (e:=fun O=>true) hl hl' (by simp[e1,e2]) hu (fun j h1 h2=>?_) _ _ _ _ ⟨_,σ,?_,hs,Ad.refl _ _,q⟩
  ·simp only[List.size_toArray,List.length_nil]at h1 h2 e1;omega
  ·have:(List.range vs.toArray.size).all (fun O=>true)=true:=by simp
   rw[this];exact .bool _
 | cons x l=>
  exact RcNeAt.lists_lengths hl hl' (by simp only[List.size_toArray,e1,e2];rfl) hu _ _ _ _ ⟨_,σ,.bool _,hs,Ad.refl _ _,q⟩
noncomputable def Aj(l:List Int):List PV:=l.map .int
theorem EK{ad:List Addr}{h:Heap}{k:Int}:∀{ns:List Int} {vs:List Value},IsAll ad h (Aj ns) vs→vs.any (Value.isInt k)=ns.contains k∧∀y∈vs,∃n t,y=.int n t
 | [],_,i=>by cases i;exact⟨rfl,fun y hy=>by cases hy⟩
 | n::ns,_,i=>by
  cases i with
  | cons a r=>
   cases a
   obtain⟨e,f⟩:=EK (k:=k) r;refine⟨?_,fun y hy=>?_⟩
   ·simp only[List.any_cons,List.contains_cons,e,Value.isInt]
    congr 1
    by_cases hk:n=k
    ·subst hk;simp
    ·rw[beq_eq_false_iff_ne.mpr hk,beq_eq_false_iff_ne.mpr (Ne.symm hk)]
   ·rcases List.mem_cons.mp hy with rfl| hy
    ·exact⟨_,_,rfl⟩
    ·exact f y hy
theorem Nr{k:Int}{ns:List Int}(h:LstV σ v (Aj ns))(q:Q (.bool (ns.contains k)) σ):O2 X A Is (compareOp .In) (.int k) v Q σ:=by
 intro s va vb hs ia ib
 cases ia
 obtain⟨a,vs,rfl,_,il,hl⟩:=h.at hs ib;obtain⟨e,f⟩:=EK (k:=k) il;refine in_listAt (Value.isInt k) hl (fun y hy=>?_) ⟨_,σ,?_,hs,Ad.refl _ _,q⟩
 ·obtain⟨n,t,rfl⟩:=f y (by simpa using hy)
  exact(EqGives.int n k _ _).at _ _
 ·rw[List.any_toArray,e];exact .bool _
theorem I1{k:Int}{ns:List Int}(h:LstV σ v (Aj ns))(q:Q (.bool (!ns.contains k)) σ):O2 X A Is (compareOp .NotIn) (.int k) v Q σ:=by
 intro s va vb hs ia ib
 cases ia
 obtain⟨a,vs,rfl,_,il,hl⟩:=h.at hs ib;obtain⟨e,f⟩:=EK (k:=k) il;refine notIn_listAt (Value.isInt k) hl (fun y hy=>?_) ⟨_,σ,?_,hs,Ad.refl _ _,q⟩
 ·obtain⟨n,t,rfl⟩:=f y (by simpa using hy)
  exact(EqGives.int n k _ _).at _ _
 ·rw[List.any_toArray,e];exact .bool _
theorem GZ{ad:List Addr}{h:Heap}{x:Str}:∀{ys:List Str} {vs:List Value},IsAll ad h (Ac ys) vs→vs.any (PyProof.Rows.isStrOf x)=ys.contains x∧∀y∈vs,∃n t,y=.str n t
 | [],_,i=>by cases i;exact⟨rfl,fun y hy=>by cases hy⟩
 | n::ns,_,i=>by
  cases i with
  | cons a r=>
   cases a
   obtain⟨e,f⟩:=GZ (x:=x) r;refine⟨?_,fun y hy=>?_⟩
   ·simp only[List.any_cons,List.contains_cons,e,PyProof.Rows.isStrOf]
    congr 1
    by_cases hk:n=x
    ·subst hk;simp
    ·rw[beq_eq_false_iff_ne.mpr hk,beq_eq_false_iff_ne.mpr (Ne.symm hk)]
   ·rcases List.mem_cons.mp hy with rfl| hy
    ·exact⟨_,_,rfl⟩
    ·exact f y hy
theorem QW{x:Str}{ys:List Str}(q:Q (.bool (ys.contains x)) σ):O2 X A Is (compareOp .In) (.str x) (.tup (Ac ys)) Q σ:=by
 intro s va vb hs ia ib
 cases ia
 cases ib with
 | tup ho hc hd hn il=>
  obtain⟨e,f⟩:=GZ (x:=x) il;refine in_tupleAt (PyProof.Rows.isStrOf x) ⟨_,ho,hc,_,hd⟩ (fun y hy=>?_) ⟨_,σ,?_,hs,Ad.refl _ _,q⟩
  ·obtain⟨n,t,rfl⟩:=f y (by simpa using hy)
   exact(PyProof.Rows.eqGives_str n x _ _).at _ _
  ·rw[List.any_toArray,e];exact .bool _
end
section
variable {X:Cx}{A:Around}{env:Env}{σ:PS}{Q:PV→PS→Prop}{P:PF→PS→Prop}{B:Bool→PS→Prop}{l l':List PV}{U:Unit→PS→Prop}{v v':PV}
theorem Ks{l:List PV}{vs:List Value}{ad:List Addr}{h:Heap}(i:IsAll ad h l vs){x:PV}{r:List PV}(e:l=r++[x]):∃ws u,vs=ws++[u]∧IsAll ad h r ws∧Is ad h x u:=by
 subst e
 induction r generalizing vs with
 | nil=>
  cases i with
  | cons a b=>cases b;exact⟨[],_,rfl,.nil,a⟩
 | cons y r ih=>
  cases i with
  | cons a b=>
   obtain⟨ws,u,rfl,iw,iu⟩:=ih b;exact⟨_::ws,u,rfl,.cons a iw,iu⟩
theorem OV {M:Model} {A:Around} {s:Shared} {a:Addr} {vs:List Value} {u:Value} {n:Nat} {R:Value→Shared→Prop} {E:Value→Shared→Prop} (ho:s.heap.get? a=some {cls:=.type "list",data:=.seq (vs++[u]).toArray n}) (hsz:vs.length+1≤sizeLine)
  (h:R u {s with heap:=s.heap.update a (Obj.mapSeq fun xs=>xs.eraseIdxIfInBounds vs.length)}):
  wpAny M A (Builtin.«list.pop» ⟨[.ref a],[]⟩) (fun fin s'=>∃v,fin=.done (.ret v)∧R v s') E s:=by
 unfold Builtin.«list.pop»;refine wpAny_bind (wpAny_of_eq (a:=(.ref a,[])) rfl ?_);refine wpAny_bind (wpAny_of_eq (a:=(-1:Int)) rfl ?_);show wpAny M A (Builtin.List.listItems (.ref a) >>= _) _ _ _;unfold Builtin.List.listItems;refine wpAny_bind (wpAny_bind (wpAny_seqItems ho rfl (wpAny_pure ?_)));rw[if_neg (by simp)]
 have hk:seqIndex? (-1) (vs++[u]).toArray.size=some vs.length:=by
  unfold seqIndex?;simp only[List.size_toArray,List.length_append,List.length_cons,List.length_nil];rw[if_pos (show(-1:Int)<0 by decide)];rw[if_pos (by simp only[Bool.and_eq_true,decide_eq_true_eq];exact Xy)]
  congr 1;exact Xx
 have he:(vs++[u]).toArray.eraseIdxIfInBounds vs.length=vs.toArray:=by
  unfold Array.eraseIdxIfInBounds;rw[dif_pos (by simp)];apply Array.ext';simp only[List.eraseIdx_toArray];rw[List.eraseIdx_append_of_length_le (Nat.le_refl _)];simp
 have hb:((seqIndex? (-1) (vs++[u]).toArray.size).bind fun k=>(vs++[u]).toArray[k]?.map (k,·))=some (vs.length,u):=by
  rw[hk];simp
 rw[hb];show wpAny M A (updateSeq a (fun xs=>xs.eraseIdxIfInBounds vs.length) >>= fun O=>ret u) _ _ _;exact wpAny_bind (wpAny_updateSeq ho rfl (wpAny_pure ⟨u,rfl,h⟩) (by simp;exact a7 hsz) (by rw[he];simp;exact Xw hsz))
theorem AA{vs ws:List Value}{n:Nat}{f:Array Value→Array Value}(hf:f vs.toArray=ws.toArray):∃n',Obj.mapSeq f {cls:=.type "list",data:=.seq vs.toArray n}={cls:=.type "list",data:=.seq ws.toArray n'}:=by
 refine⟨if(f vs.toArray).size==vs.toArray.size then n else n+1,?_⟩;simp[Obj.mapSeq,hf]
theorem RH{a:Addr}{r:List PV}{x:PV}{o o':Own}{g:Array GenState}(hm:(a,.list (r++[x]))∈o)(hsz:r.length+1≤sizeLine)(u:Upd o a (.list r) o')(q:Q x ⟨o',g⟩):ON X A Is (fun l=>call (.builtin "list.pop") l) [.raw (.ref a)] Q ⟨o,g⟩:=fun s vs hs i=>by
 cases i with
 | cons i i'=>
  cases i;cases i'
  obtain⟨vs,⟨n,ho⟩,iv⟩:=hs.own _ _ hm;obtain⟨ws,y,rfl,iw,iy⟩:=Ks iv rfl;refine wpAny_call_entry PySem.F.slot_list_pop ⟨_,ho,rfl⟩ PySem.F.entry_list_pop (OV ho (by rw[iw.length];exact hsz) ?_) (PySem.F.args_list_pop_1 _)
  have he:(ws++[y]).toArray.eraseIdxIfInBounds ws.length=ws.toArray:=by
   unfold Array.eraseIdxIfInBounds;rw[dif_pos (by simp)];apply Array.ext';simp only[List.eraseIdx_toArray];rw[List.eraseIdx_append_of_length_le (Nat.le_refl _)];simp
  obtain⟨n',hn'⟩:=AA (n:=n) (f:=fun xs=>xs.eraseIdxIfInBounds ws.length) he;have hsb:=Heap.SameBut.update s.heap a (Obj.mapSeq fun xs=>xs.eraseIdxIfInBounds ws.length)
  have k:Ad (ads o) s.heap (ads o) (s.heap.update a (Obj.mapSeq fun xs=>xs.eraseIdxIfInBounds ws.length)):=fun b ob e n=>⟨(hsb.2 b fun e=>n (by rw[e];exact u.mem_addr)).trans e,n⟩
  obtain⟨t,ke⟩:=hs.upd (s':={s with heap:=s.heap.update a (Obj.mapSeq fun xs=>xs.eraseIdxIfInBounds ws.length)}) u hsb rfl rfl ⟨ws,⟨n',by rw[Heap.get?_update_self _ ho (by rw[hn'];rfl),hn']⟩,iw.keep k⟩;exact⟨x,_,iy.keep ke,t,ke,q⟩
theorem IF:seqSlot? (.type "list") (dunderI "add")=pure (some (.builtin "list.__iadd__")):=PySem.seqSlot_of PySem.F.slot_list_iadd.lookup (by decide+kernel)
theorem G1{a:Addr}{r:List PV}{o o':Own}{g:Array GenState}(hm:(a,.list r)∈o)(h:LstV ⟨o,g⟩ v l)(hne:v≠.raw (.ref a))(hsz:r.length+l.length≤sizeLine)(u:Upd o a (.list (r++l)) o')(q:Q (.raw (.ref a)) ⟨o',g⟩):O2 X A Is (inplaceOp .Add) (.raw (.ref a)) v Q ⟨o,g⟩:=fun s va vb hs ia ib=>by
 cases ia
 obtain⟨vs,⟨n,ho⟩,iv⟩:=hs.own _ _ hm;obtain⟨b,ws,rfl,⟨ob,n2,hob,hcb,_,hdb⟩,iw,hl⟩:=h.at hs ib
 have hT:s.TypeIs (.ref a) "list":=⟨_,ho,rfl⟩
 have hTb:s.TypeIs (.ref b) "list":=hl.typeIs;unfold inplaceOp;refine wpAny_holding ?_
 have hfi:fillsInplaceSlot (.type "list") "add" (Operator.Add==.Add)=pure false:=by
  unfold fillsInplaceSlot;show(typeLookup (.type "list") (dunderI "add") >>= fun fi=>pure (fi.isSome&& !isSeqSlot fi))=pure false;rw[PySem.F.slot_list_iadd.lookup];rw[pure_bind];rw[show((some (Value.builtin "list.__iadd__")).isSome&& !isSeqSlot (some (Value.builtin "list.__iadd__")))=false by decide+kernel]
 refine wpAny_bind (wpAny_typeOf hT (wpAny_bind (wpAny_of_eq hfi ?_)));show wpAny _ A (if false=true then _ else _) _ _ s;rw[if_neg Bool.false_ne_true];refine wpAny_bind (wpAny_binaryOp1_none (nm:="add") hT hTb noFill_list_add ?_);refine wpAny_bind (wpAny_of_eq IF ?_);refine wpAny_bind (wpAny_rule ?_);refine wpAny_call_entry PySem.F.slot_list_iadd hT PySem.F.entry_list_iadd ?_ (PySem.F.args_list_iadd_2 _ _);unfold Builtin.«list.__iadd__»;refine wpAny_bind (wpAny_of_eq (a:=(.ref a,[.ref b])) rfl ?_);show wpAny _ A.in1 (Builtin.List.listExtendWith (.ref a) (.ref b) (.ref a)) _ _ _;unfold Builtin.List.listExtendWith;refine wpAny_bind (wpAny_typeOf hTb ?_);rw[if_pos (by simp)];unfold Builtin.List.listItems;refine wpAny_bind (wpAny_bind (wpAny_seqItems hob hdb (wpAny_pure ?_)));refine wpAny_bind (wpAny_bind (wpAny_seqItems ho rfl (wpAny_pure ?_)))
 have hlen:vs.length+ws.length≤sizeLine:=by rw[iv.length,iw.length];exact hsz
 rw[if_neg (by simp[Builtin.List.listTooLong];intro _;exact a7 hlen)]
 have he:vs.toArray++ws.toArray=(vs++ws).toArray:=by simp
 obtain⟨n',hn'⟩:=AA (n:=n) (f:=fun xs=>xs++ws.toArray) he;have hsb:=Heap.SameBut.update s.heap a (Obj.mapSeq fun xs=>xs++ws.toArray)
 have k:Ad (ads o) s.heap (ads o) (s.heap.update a (Obj.mapSeq fun xs=>xs++ws.toArray)):=fun b ob e n=>⟨(hsb.2 b fun e=>n (by rw[e];exact u.mem_addr)).trans e,n⟩
 obtain⟨t,ke⟩:=hs.upd (s':={s with heap:=s.heap.update a (Obj.mapSeq fun xs=>xs++ws.toArray)}) u hsb rfl rfl ⟨vs++ws,⟨n',by rw[Heap.get?_update_self _ ho (by rw[hn'];rfl),hn']⟩,IsAll.append (iw.keep k) (iv.keep k)⟩;show wpAny _ A.in1 (updateSeq a (fun xs=>xs++ws.toArray) >>= fun O=>ret (.ref a) >>= pure) _ _ _;exact wpAny_bind (wpAny_updateSeq ho rfl (wpAny_bind (wpAny_pure (wpAny_pure ⟨_,rfl,_,_,.raw _,t,ke,q⟩))) (by simp;exact ay1 hlen) (by rw[he];simp;exact a53 hlen))
end
end
section
open PySem PySem.W PyProof.Rows PySem.Calls PySem.SeqAt PySem.MeetsSeq Builtin Builtin.ObjectAttr
noncomputable def kf(P:Params):Frag:=[(250,Iw pw P),(249,Ix pw P),(168,E9 pw P),(175,Gp pw P),(182,Go pw P),(189,Gn pw P),(196,Gm pw P),(204,E8 pw P),(211,Gl pw P),(218,Gk pw P),(226,E7 pw P),
 (143,Gq pw P),(142,Iz pw P),(90,Jb pw P),(97,Ja pw P),(144,Iy pw P),(99,KZ pw P),(3,Gj pw P),(0,LH pw P),(2,Nb pw P)]
theorem SR(P:Params):(kf P).In (hq P):=by
 refine Frag.in_of (as:=(kf P).map (·.1)) rfl ?_;show[(hq P).get? 250,(hq P).get? 249,(hq P).get? 168,(hq P).get? 175,(hq P).get? 182,(hq P).get? 189,(hq P).get? 196,(hq P).get? 204,(hq P).get? 211,(hq P).get? 218,(hq P).get? 226,(hq P).get? 143,(hq P).get? 142,(hq P).get? 90,(hq P).get? 97,(hq P).get? 144,(hq P).get? 99,(hq P).get? 3,(hq P).get? 0,(hq P).get? 2]=_
 rw[Aa P 250 (Iw pw P) (by decide) (by kernel_rfl) rfl,Aa P 249 (Ix pw P) (by decide) (by kernel_rfl) rfl,Aa P 168 (E9 pw P) (by decide) (by kernel_rfl) rfl,Aa P 175 (Gp pw P) (by decide) (by kernel_rfl) rfl,
  Aa P 182 (Go pw P) (by decide) (by kernel_rfl) rfl,Aa P 189 (Gn pw P) (by decide) (by kernel_rfl) rfl,Aa P 196 (Gm pw P) (by decide) (by kernel_rfl) rfl,Aa P 204 (E8 pw P) (by decide) (by kernel_rfl) rfl,
  Aa P 211 (Gl pw P) (by decide) (by kernel_rfl) rfl,Aa P 218 (Gk pw P) (by decide) (by kernel_rfl) rfl,Aa P 226 (E7 pw P) (by decide) (by kernel_rfl) rfl,Aa P 143 (Gq pw P) (by decide) (by kernel_rfl) rfl,
  Aa P 142 (Iz pw P) (by decide) (by kernel_rfl) rfl,Aa P 90 (Jb pw P) (by decide) (by kernel_rfl) rfl,Aa P 97 (Ja pw P) (by decide) (by kernel_rfl) rfl,Aa P 144 (Iy pw P) (by decide) (by kernel_rfl) rfl,Aa P 99 (KZ pw P) (by decide) (by kernel_rfl) rfl,Jq,O7,O8]
 rfl
theorem St.kf{X:Cx}{σ:PS}{s:Shared}(x:St X σ s):(Mine.kf X.w.params).In s.heap:=(SR _).keeps x.hz
theorem Ns.lookIn{h:Heap}{a:Addr}{f:Str→Option Value}{o:Obj}(hn:h.Ns a f)(e:h.get? a=some o)(x:Str):lookIn x o=some (f x):=by
 obtain⟨o',es,n,ho,hd,hk,hf⟩:=hn;rw[e]at ho;cases ho;unfold PySem.W.lookIn;rw[hd]
 dsimp only
 have:=hf x;unfold nsFind findBy at this;rw[←Array.find?_toList]at this
 cases hc:es.toList.find? (fun e=>e.key.isStr x)with
 | some en=>rw[hc]at this;rw[←this];rfl
 | none=>
  rw[hc]at this;rw[←this]
  have:es.toList.any (fun e=>e.refKey)=false:=by
   rw[List.any_eq_false];intro en hen;obtain⟨nm,t,hkey⟩:=hk en (by simpa using hen);simp[DictEntry.refKey,hkey]
  rw[this];rfl
section
variable {X:Cx}{A:Around}{env:Env}{σ:PS}{Q:PV→PS→Prop}{P:PF→PS→Prop}{B:Bool→PS→Prop}{l l':List PV}{U:Unit→PS→Prop}{v v':PV}{x dx C:Addr}{m:List (Str×PV)}{name:Str}{n:Nat}
noncomputable def G4:PV→Bool
 | .raw (.builtin _)=>false
 | _=>true
theorem G4.in{ad:List Addr}{h:Heap}{u:Value}(e:G4 v=true)(i:Is ad h v u):handedIn u=true:=by
 cases i with
 | raw u=>cases u<;>first| rfl| cases e
 | _=>rfl
theorem St.inst{s:Shared}(hs:St X σ s)(hi:(x,.inst C dx)∈σ.own)(hd:(dx,.fld n m)∈σ.own):∃ox od f,InstAt s.heap x ox C (some od)∧ox.dict=some dx∧s.heap.get? dx=some od∧s.heap.Ns dx f∧s.heap.DictLe dx n∧∀y,Bf (ads σ.own) s.heap (m.lookup y) (f y):=by
 obtain⟨ox,hox,hc,hdx,hp⟩:=hs.own _ _ hi;obtain⟨f,hn,hsz,hf⟩:=hs.own _ _ hd;obtain⟨od,es,n,hod,hdd,r⟩:=id hn;refine⟨ox,od,f,⟨hox,hc,by unfold notCls;rw[hp],?_⟩,hdx,hod,hn,hsz,hf⟩;rw[hdx];exact hod
theorem AD(hi:(x,.inst 250 dx)∈σ.own)(hd:(dx,.fld n m)∈σ.own)(hm:m.lookup name=some v)(hv:G4 v=true)(hc:findIn (kf X.w.params) (.ref 250) name=some none){expr:Bool}(q:Q v σ):O1 X A Is (fun ov=>getAttr ov name expr) (.raw (.ref x)) Q σ:=fun s va hs i=>by
 cases i
 obtain⟨ox,od,f,I,hdx,hod,hn,hsz,hf⟩:=hs.inst hi hd;have i:=hf name;rw[hm]at i
 cases hfx:f name with
 | none=>rw[hfx]at i;cases i
 | some y=>
  rw[hfx]at i
  cases i with
  | some i=>
   have hl:=Ns.lookIn hn hod name;rw[hfx]at hl;obtain⟨t,k⟩:=hs.same (s':={s with toks:=s.toks+1}) rfl rfl rfl;refine get_value (K:=kf X.w.params) hs.kf I rfl ?_ (G4.in hv i) ⟨v,σ,i,t,k,q⟩;unfold findObj;rw[show clsIn (kf X.w.params) 250=some _ from rfl,Option.bind_some,hc,Option.bind_some]
   dsimp only
   rw[Option.bind_some,Option.bind_some]
   dsimp only
   unfold PySem.W.ownOf;rw[if_pos rfl]
   dsimp only
   rw[hl,Option.bind_some]
theorem W_Attr{value:Expr}{attr:Str}{pos:Pos}(hb:attributeBase value attr env (eval value env)=eval value env)(ht:∀o r,letTemporaryGo value o r=pure ())(h:WV X A (eval value env) (fun v σ₁=>O1 X A Is (fun ov=>getAttr ov attr true) v Q σ₁) σ):WV X A (eval (.Attribute value attr pos) env) Q σ:=fun s hs=>by
 rw[arm_eval_Attribute,hb];refine wpAny_bind (h.run hs fun va s₁ a σ₁ ia t₁ k₁ h₁=>wpAny_bind (wpAny_standAt (wpAny_bind (wpAny_holding (h₁.run t₁ ia fun vb s₂ b σ₂ ib t₂ k₂ q=>?_)))));rw[ht];exact wpAny_bind (wpAny_pure (wpAny_pure ⟨b,σ₂,ib,t₂,k₁.trans k₂,q⟩))
theorem FB {M:Model} {Γ:Ctx} {p:Pos} {s:Shared} {a:Addr} {o:Obj} {es:Array DictEntry} {ep:Nat} {name:Str} {v:Value} {E:Value→Pos→Shared→Prop} (Q:Unit→Pos→Shared→Prop) (ho:s.heap.get? a=some o) (hd:o.data=.dict es ep) (hk:StrKeys es):
  Sem.wp M Γ (nsSet a name v) Q E p s=((s.heap.get? a).isSome∧Q () p {s with heap:=s.heap.update a (Obj.putName name (PyData.keyHash M.w.params name) (.str name s.toks) v),toks:=s.toks+1}):=by
 simp only[nsSet,strHash,Sem.wp_bind',Sem.wp_cmd_ask,Sem.wp_pure',Sem.wp_cmd_mkText];rw[Sem.wp_loadPart_of M Γ E p {s with toks:=s.toks+1} (o:=o) _ ho]
 have hany:es.any (·.refKey)=false:=by
  rw[Array.any_eq_false'];intro e he;obtain⟨n,t,h⟩:=hk e he;simp[DictEntry.refKey,h]
 simp only[hd,aRefKeyMayBeTheName_eq,aRefKeyMayBeTheNameByArray,hany,Bool.and_false,Bool.false_eq_true,if_false,Sem.wp_cmd_updatePart]
 rfl
theorem Do{o:Obj}{es:Array DictEntry}{ep:Nat}{name:Str}{h:Int}{key v:Value}(hd:o.data=.dict es ep):∃es' ep',(Obj.putName name h key v o).data=.dict es' ep'∧es'.size≤es.size+1:=by
 obtain⟨c,d,dt,sl⟩:=o;subst hd
 cases hi:es.findIdx? (·.key.isStr name)with
 | some i=>exact⟨_,_,by simp only[Obj.putName_eq,Obj.putNameByArray,hi];rfl,by simp⟩
 | none=>exact⟨_,_,by simp only[Obj.putName_eq,Obj.putNameByArray,hi];rfl,by simp⟩
theorem Hw {M:Model} {s:Shared} {a:Addr} {f:Str→Option Value} {k:Nat} {name:Str} {v:Value} {Q:Unit→Shared→Prop} {E:Value→Shared→Prop} (hn:s.heap.Ns a f) (hsz:s.heap.DictLe a k)
  (h:∀h',h'.Ns a (fun x=>if x=name then some v else f x)→Heap.SameBut a s.heap h'→h'.DictLe a (k+1)→Q () {s with heap:=h',toks:=s.toks+1}):wpAny M A (nsSet a name v) Q E s:=fun Γ p hΓ=>by
 obtain⟨o,es,ep,ho,hd,hk,hf⟩:=id hn;rw[FB _ ho hd hk];have:=Sem.wp_nsSet M Γ (fun O O O=>False) p s hn name v (fun O O s'=>s'.heap.Ns a (fun x=>if x=name then some v else f x)) (fun h' a O=>a);rw[FB _ ho hd hk]at this;refine⟨this.1,h _ this.2 (Heap.SameBut.update ..) fun o' es' ep' e1 e2=>?_⟩
 have hf':(Obj.putName name (PyData.keyHash M.w.params name) (.str name s.toks) v o).isFreed=false:=by
  obtain⟨es2,ep2,h2,_⟩:=Do (name:=name) (h:=PyData.keyHash M.w.params name) (key:=.str name s.toks) (v:=v) hd;exact Obj.isFreed_of_dict h2
 rw[Heap.get?_update_self _ ho hf']at e1
 cases e1
 obtain⟨es2,ep2,h2,h3⟩:=Do (name:=name) (h:=PyData.keyHash M.w.params name) (key:=.str name s.toks) (v:=v) hd;rw[h2]at e2
 cases e2
 have:=hsz o es ep ho hd;exact ax4 h3 this
theorem A1{o o':Own}{g:Array GenState}(hi:(x,.inst 250 dx)∈o)(hd:(dx,.fld n m)∈o)(hc:findIn (kf X.w.params) (.ref 250) name=some none)(hz:n≤100)(u:Upd o dx (.fld (n+1) (Ao m name v)) o')(q:U () ⟨o',g⟩):O2 X A RE (fun ov v=>setAttr ov name v) (.raw (.ref x)) v U ⟨o,g⟩:=fun s va vb hs ia ib=>by
 cases ia
 have hs₁:=(hs.same (s':={s with toks:=s.toks+1}) rfl rfl rfl).1;obtain⟨ox,od,f,I,hdx,hod,hn,hsz,hf⟩:=hs₁.inst hi hd;refine set_plain (K:=kf X.w.params) hs.kf I rfl ?_;refine osa_open (K:=kf X.w.params) (r:=none) (s:={s with toks:=s.toks+1}) hs₁.kf I rfl (by unfold takerIn;rw[hc];rfl) fun b=>?_;obtain⟨hx,hcl,hnn,-⟩:=I;obtain⟨oc,odi,oda,osl⟩:=ox
 dsimp only at hcl hdx
 subst hcl hdx;refine wpAny_bind (wpAny_pure (wpAny_bind (wpAny_bind (wpAny_loadPart hx (wpAny_bind ((looks_clsIn hs₁.kf (C:=250) rfl).here ?_))))));refine wpAny_pure (a:=some dx) (wpAny_bind (wpAny_pure (wpAny_bind ?_)));refine Hw hn hsz fun h' hn' hsb hsz'=>?_
 have k:Ad (ads o) s.heap (ads o) h':=fun b ob e n=>⟨(hsb.2 b fun e=>n (by rw[e];exact u.mem_addr)).trans e,n⟩
 obtain⟨t,ke⟩:=hs.upd (s':={s with heap:=h',toks:=s.toks+1+1}) u hsb rfl rfl ⟨_,hn',hsz',fun y=>by
  rw[Bq];by_cases h:y=name
  ·rw[if_pos h,if_pos h];exact .some (ib.keep k)
  ·rw[if_neg h,if_neg h];exact(hf y).keep k⟩
 obtain⟨ob,es,ep,hob,hobd,_⟩:=hn';refine wpAny_bind (wpAny_lookBehind hob (by rw[hobd];exact pastItsLine_dict (by have:=hsz' ob es ep hob hobd;rw[sizeLine_eq];exact ax3 hz this)) ?_);exact wpAny_pure ⟨(),_,rfl,t,ke,q⟩
theorem TG_Attr{e:Expr}{attr:Str}{pos:Pos}(h:WV X A (eval e env) (fun ov σ₁=>O2 X A RE (fun ov v=>setAttr ov attr v) ov v U σ₁) σ):TG X A env (.Attribute e attr pos) v U σ:=fun s va hs i=>by
 rw[arm_assign_Attribute];refine wpAny_bind (wpAny_holding (h.run hs fun vo s₁ o σ₁ io t₁ k₁ h₁=>wpAny_bind (wpAny_standAt (wpAny_bind (wpAny_holding (h₁.run t₁ io (i.keep k₁) fun O s₂ O σ₂ O t₂ k₂ q=>?_))))));exact wpAny_release ⟨(),σ₂,rfl,t₂,k₁.trans k₂,q⟩
theorem BK {e:Expr} {apos pos:Pos} {args:List Expr} {f:Addr}
  (he:eval (.Call (.Attribute e name apos) args [] pos) env=(do
   let ov ←eval e env
   standAt apos.atName
   let(f,first) ←holding [ov] (getMethod ov name (do return (←importBound e env).getD true))
   callWith pos f first (backTo pos (starEach args env)) (backToKw pos (keywordEach [] env))))
  (ha:A9 env args) (hp:∀pos,((backTo pos (starEach args env)).any (·.1))=false) (hf:findIn (kf X.w.params) (.ref 250) name=some (some (.ref f))) (hft:typeIn (kf X.w.params) (.ref f)=some (.type "function"))
  {fo:Obj} {fd:FuncData} (hfo:(Mine.hq X.w.params).get? f=some fo) (hfd:fo.data=.func fd)
  (h:WV X A (eval e env) (fun ov σ₁=>∃x dx n m,ov=.raw (.ref x)∧(x,.inst 250 dx)∈σ₁.own∧(dx,.fld n m)∈σ₁.own∧m.lookup name=none∧
   WEs X A env args (fun xs σ₂=>ON X A Is (fun l=>call (.ref f) l) (.raw (.ref x)::xs) Q σ₂) σ₁) σ):
  WV X A (eval (.Call (.Attribute e name apos) args [] pos) env) Q σ:=fun s hs=>by
 refine methodCall_KW (pl:=(do return (←importBound e env).getD true)) (h.run hs fun vo s₁ o σ₁ io t₁ k₁ h₁=>?_) he;obtain⟨x,dx,n,m,rfl,hi,hd,hm,h₁⟩:=h₁
 cases io
 obtain⟨ox,od,fm,I,hdx,hod,hn,hsz,hfm⟩:=t₁.inst hi hd;have hl:=Ns.lookIn hn hod name
 have hnone:fm name=none:=by
  have i:=hfm name;rw[hm]at i
  cases hfx:fm name with
  | none=>rfl
  | some y=>rw[hfx]at i;cases i
 refine method_fn (K:=kf X.w.params) t₁.kf I rfl rfl hf hft (by show Option.map (·.isSome) (PySem.W.lookIn name od)=some false;rw[hl,hnone];rfl) ?_;exact wpAny_mono ((CW_raw (first:=[.raw (.ref x)]) ha hp (fun pos=>(h₁ pos).mono fun xs σ' q=>⟨.fn hfo hfd,q⟩)) s₁ _ [.ref x] t₁ (.raw _) (.cons (.raw _) .nil)) (fun O O p=>p.from k₁) fun O O e=>e
end
theorem AR.under{n:Nat}{rest:List Value}{kw:List (Str×Value)}{C:Addr}:Around.Le ((AR n).under (.builtin "type.__call__" ⟨.ref C::rest,kw⟩)) (AR (n+1)):=
 ⟨rfl,Nat.le_of_eq rfl,rfl,rfl,by
  show 100+20*n+(1+3*(Code.builtin "type.__call__" ⟨.ref C::rest,kw⟩).frames)≤100+20*(n+1);have:(Code.builtin "type.__call__" ⟨.ref C::rest,kw⟩).frames=0:=rfl
  exact ai4 this⟩
theorem EV{M:Model}{A B:Around}(le:Around.Le A B){c:Code}{R:Result→Shared→Prop}{s:Shared}(h:codeAny M B c R s):codeAny M A c R s:=
 fun Γ p hc hΓ=>h Γ p hc (by
  refine⟨hΓ.1.trans le.h,Nat.le_trans hΓ.2.1 le.d,?_,?_,Nat.le_trans hΓ.2.2.2.2 le.u⟩
  ·intro l hl;rw[le.f]at hl;cases hl
  ·intro l hl;rw[le.g]at hl;cases hl)
section
variable {X:Cx}{A:Around}{env:Env}{σ:PS}{Q:PV→PS→Prop}{P:PF→PS→Prop}{B:Bool→PS→Prop}{l l':List PV}{U:Unit→PS→Prop}{v v':PV}{x dx C:Addr}{m:List (Str×PV)}{name:Str}{n:Nat}
theorem Kept.cls:Kept X σ (.raw (.ref 250)):=fun s v hs i=>by
 cases i
 obtain⟨k,a,b⟩:=looks_keep (M:=md X) (K:=kf X.w.params) (f:=.ref 250) (by rfl) hs.kf;exact⟨k,a.elim .inl (fun e=>.inr (.inl e)),b⟩
theorem Nk{args:List PV}{hd:Addr×PO}{r:Own}{g:Array GenState}(h:∀x dx,OC X (AR (n+1)) (.ref 168) [] (.raw (.ref x)::args) (fun v σ'=>v=.none∧Q (.raw (.ref x)) σ') ⟨hd::(x,.inst 250 dx)::(dx,.fld 0 [])::r,g⟩):OC X (AR n) (.ref 250) [] args Q ⟨hd::r,g⟩:=fun s vs hs i=>by
 obtain⟨hh,gg,d,t,os⟩:=s;refine make_core (makes_of (K:=kf X.w.params) hs.kf (by rfl)) (looks_findIn (r:=some (.ref 168)) hs.kf (by rfl)) (fun self=>bind_fn hs.kf self (by rfl)) (.inl rfl) ?_
 obtain⟨t₁,k₁⟩:=hs.pushOwn (o:=emptyDict) (s':=⟨hh.push emptyDict,gg,d,t,os⟩) rfl rfl rfl rfl (p:=.fld 0 []) fun k e=>⟨fun O=>none,⟨_,#[],0,e,rfl,fun e he=>by simp at he,fun x=>rfl⟩,fun o es ep e1 e2=>by rw[e]at e1;cases e1;cases e2;exact Nat.le_refl _,fun y=>.none⟩
 have sz:(hh.push emptyDict).objs.size=hh.objs.size+1:=Heap.size_push ..
 obtain⟨t₂,k₂⟩:=t₁.pushOwn (o:=instObj 250 hh.objs.size) (s':=⟨(hh.push emptyDict).push (instObj 250 hh.objs.size),gg,d,t,os⟩) rfl rfl rfl rfl (p:=.inst 250 hh.objs.size) fun k e=>⟨_,e,rfl,rfl,rfl⟩
 have p1:List.Perm (((hh.push emptyDict).objs.size,PO.inst 250 hh.objs.size)::(hh.objs.size,PO.fld 0 [])::hd::r) (hd::((hh.push emptyDict).objs.size,PO.inst 250 hh.objs.size)::(hh.objs.size,PO.fld 0 [])::r):=
  List.perm_middle (l₁:=[((hh.push emptyDict).objs.size,PO.inst 250 hh.objs.size),(hh.objs.size,PO.fld 0 [])])
 obtain⟨t₃,k₃⟩:=t₂.perm p1;have kk:=(k₁.trans k₂).trans k₃;have key:=h (hh.push emptyDict).objs.size hh.objs.size _ (.ref (hh.push emptyDict).objs.size::vs) t₃ (.cons (.raw _) (i.keep kk));rw[show hh.objs.size+1=(hh.push emptyDict).objs.size from sz.symm];refine EV AR.under (codeAny_mono key fun r s' z=>?_);unfold InitBack;split at z
 ·obtain⟨b,σ',ib,t',k',hb,q⟩:=z
  subst hb
  cases ib
  exact⟨rfl,_,σ',.raw _,t',kk.trans k',q⟩
 ·exact z.elim
 ·exact z.elim
end
section
variable {X:Cx}{A:Around}{env:Env}{σ:PS}{Q:PV→PS→Prop}{P:PF→PS→Prop}{B:Bool→PS→Prop}{l l':List PV}{U:Unit→PS→Prop}{v v':PV}{x dx C:Addr}{m:List (Str×PV)}{name:Str}{n:Nat}
theorem St.look{α:Type}{s:Shared}(hs:St X σ s){t:Sem α}{r:α}(e:peek (Mine.kf X.w.params) ⟨pw,X.w.params⟩ t=some r):Looks (md X) s.heap t r:=Looks.of_peek hs.kf e
theorem Ee(X:Cx)(u:Value):peek (kf X.w.params) ⟨pw,X.w.params⟩ (checkBuiltinCall "tuple.__new__" ⟨[.ref 143,u],[]⟩)=some ():=by kernel_rfl
theorem Gu(X:Cx):peek (kf X.w.params) ⟨pw,X.w.params⟩ (isType (.ref 143))=some true:=by kernel_rfl
theorem Kg(X:Cx):peek (kf X.w.params) ⟨pw,X.w.params⟩ (isSubtype (.ref 143) (.type "tuple"))=some true:=by kernel_rfl
theorem I7(X:Cx):peek (kf X.w.params) ⟨pw,X.w.params⟩ (Bind.madeHere "tuple.__new__" (.ref 143))=some ():=by kernel_rfl
theorem Dc(X:Cx):findIn (kf X.w.params) (.ref 143) "__init__"=some (some (.builtin "object.__init__")):=by kernel_rfl
theorem EB(X:Cx):peek (kf X.w.params) ⟨pw,X.w.params⟩ (Bind.madeBy (.ref 143))=some none:=by kernel_rfl
theorem Ki(X:Cx):findCls (kf X.w.params) (.ref 143) (.type "type") "__new__"=some (.get (.builtin "staticmethod.__get__") (.ref 144) .none (.ref 143)):=by kernel_rfl
theorem I6(X:Cx):findCls (kf X.w.params) (.ref 143) (.type "type") "_make"=some (.get (.builtin "classmethod.__get__") (.ref 99) .none (.ref 143)):=by kernel_rfl
theorem DY(X:Cx):readsIn (kf X.w.params) 143 (.type "type")=true:=by kernel_rfl
theorem J6(P:Params):(hq P).get? 143=some (Gq pw P):=Aa P 143 _ (by decide) (by kernel_rfl) rfl
theorem LT(X:Cx):peek (kf X.w.params) ⟨pw,X.w.params⟩ (isSubtype (.ref 143) (.ref 143))=some true:=by kernel_rfl
theorem I8(X:Cx):specialIn (kf X.w.params) (.ref 143) "__call__"=some (some (.builtin "type.__call__")):=by kernel_rfl
theorem Kj(X:Cx):peek (kf X.w.params) ⟨pw,X.w.params⟩ (mroOf (.ref 143))=some [.ref 143,.type "tuple",.type "object"]:=by kernel_rfl
theorem I5(X:Cx):peek (kf X.w.params) ⟨pw,X.w.params⟩ (isInstance (.ref 143) (.type "type"))=some true:=by kernel_rfl
theorem OQ(X:Cx):recIn (kf X.w.params) 144 "staticmethod"=some [.ref 90]:=by rfl
theorem Kh(X:Cx):peek (kf X.w.params) ⟨pw,X.w.params⟩ (isSubtype (.ref 143) (.type "object"))=some true:=by kernel_rfl
theorem KY(a b c d:Value):argsOk "object.__init__" ⟨[a,b,c,d],[]⟩:=by unfold argsOk;kernel_rfl
theorem KH:plainId "tuple.__new__"=true:=by decide+kernel
theorem Fz(q:Q (.mat l) σ)(hsz:l.length≤sizeLine)(hl:LstV σ v l∨v=.tup l):ON X A Is (fun l=>call (.builtin "tuple.__new__") l) [.raw (.ref 143),v] Q σ:=fun s vs hs i=>by
 cases i with
 | cons i i'=>
  cases i;cases i' with
  | cons i i'=>
   cases i'
   obtain⟨a,us,rfl,hc,il⟩:∃a us,‹Value› =Value.ref a∧(s.heap.IsList a us.toArray∨s.heap.IsTuple a us.toArray)∧IsAll (ads σ.own) s.heap l us:=by
    rcases hl with h| rfl
    ·obtain⟨a,us,rfl,_,il,hil⟩:=h.at hs i
     exact⟨a,us,rfl,.inl hil,il⟩
    ·cases i with
     | tup ho hc hd hn il=>exact⟨_,_,rfl,.inr ⟨_,ho,hc,_,hd⟩,il⟩
   refine wpAny_call (codeAny_call_builtin KH PySem.F.entry_tuple_new ((hs.look (Ee X _)).here ?_));unfold Builtin.«tuple.__new__»;refine wpAny_bind ((hs.look (Gu X)).here ?_);rw[if_neg (by decide)];refine wpAny_bind ((hs.look (Kg X)).here ?_);rw[if_neg (by decide)];show wpAny _ _ (Bind.madeHere "tuple.__new__" (.ref 143) >>= _) _ _ _;refine wpAny_bind ((hs.look (I7 X)).here ?_);refine wpAny_bind ((looks_findIn hs.kf (Dc X)).here ?_);rw[if_pos (by decide)];refine wpAny_bind (wpAny_of_eq (a:=()) rfl ?_);refine wpAny_bind (wpAny_of_eq (a:=()) rfl ?_);show wpAny _ _ (if(Value.ref 143==Value.type "tuple")=true then _ else _) _ _ _;rw[if_neg (by decide)]
   have fin:∀h':Heap,(∀b o,s.heap.get? b=some o→h'.get? b=some o)→wpAny (md X) A.in1 (do
     let d ←alloc {cls:=.type "dict",data:=.dict #[]}
     ret (←newObj (.ref 143) (.seq us.toArray) (some d))) (fun fin s'=>match fin with
      | .done f=>(match(Except.ok f:Result)with | .ok (.ret v)=>Po X Is Q σ s v s'| .ok _=>False| .error e=>NoE e s')
      | .again c'=>c'.quiet=true∧codeAny (md X) A c' (fun r s'=>match r with | .ok (.ret v)=>Po X Is Q σ s v s'| .ok _=>False| .error e=>NoE e s') s') (fun e s'=>NoE e s') {s with heap:=h'}:=by
    intro h' hk;obtain⟨t₁,k₁⟩:=hs.grow (s':={s with heap:=h'}) hk rfl rfl;refine wpAny_bind (wpAny_alloc ?_);obtain⟨t₂,k₂,e₂,n₂⟩:=t₁.push (s':={s with heap:=h'.push {cls:=.type "dict",data:=.dict #[]}}) {cls:=.type "dict",data:=.dict #[]} rfl rfl rfl;unfold newObj;refine wpAny_bind ?_;show wpAny _ _ (if us.toArray.size > sizeLine then _ else newObjAsIs (.ref 143) (.seq us.toArray) (some h'.objs.size)) _ _ _;rw[if_neg (by simp only[List.size_toArray,il.length];exact Zc hsz)];unfold newObjAsIs classHasDel;obtain⟨t₃,k₃,e₃,n₃⟩:=t₂.push (s':={s with heap:=(h'.push {cls:=.type "dict",data:=.dict #[]}).push {cls:=.ref 143,dict:=some h'.objs.size,data:=.seq us.toArray}}) {cls:=.ref 143,dict:=some h'.objs.size,data:=.seq us.toArray} rfl rfl rfl;refine wpAny_bind (wpAny_alloc (wpAny_bind (wpAny_bind (wpAny_load (t₃.hz _ _ (J6 _)) (wpAny_pure ?_)))));rw[if_neg (by decide)];refine wpAny_pure (wpAny_pure ?_);exact⟨_,σ,.mat (e₃ rfl) rfl rfl n₃ (((il.keep k₁).keep k₂).keep k₃),t₃,(k₁.trans k₂).trans k₃,q⟩
   rcases hc with⟨o,ho,hcl,n,hd⟩| ⟨o,ho,hcl,n,hd⟩
   ·refine wpAny_bind (wpAny_collect_seq a (.inl rfl) ho hcl hd (fun h' hk=>?_) (by rw[List.size_toArray,il.length];exact hsz))
    exact fin h' hk
   ·refine wpAny_bind (wpAny_collect_seq a (.inr rfl) ho hcl hd (fun h' hk=>?_) (by rw[List.size_toArray,il.length];exact hsz))
    exact fin h' hk
end
section
variable {X:Cx}{A:Around}{env:Env}{σ:PS}{Q:PV→PS→Prop}{P:PF→PS→Prop}{B:Bool→PS→Prop}{l l':List PV}{U:Unit→PS→Prop}{v v':PV}{x dx C:Addr}{m:List (Str×PV)}{name:Str}{n:Nat}
theorem Fr.nil{s:Shared}{L:Addr}{f:Str→Option Value}(hn:s.heap.Ns L f):Fr {} L s.heap f:=⟨hn,fun b o e=>(by simp[Heap.get?]at e),Nat.zero_le _⟩
theorem JH {e:Expr} {apos pos:Pos} {args:List Expr} {T id:String}
  (he:eval (.Call (.Attribute e name apos) args [] pos) env=(do
   let ov ←eval e env
   standAt apos.atName
   let(f,first) ←holding [ov] (getMethod ov name (do return (←importBound e env).getD true))
   callWith pos f first (backTo pos (starEach args env)) (backToKw pos (keywordEach [] env))))
  (ha:A9 env args) (hp:∀pos,((backTo pos (starEach args env)).any (·.1))=false) (ht:typeOf (.type T)=pure (.type "type")) (hs:Manifest.isStub T=false)
  (hf:findCls [] (.type T) (.type "type") name=some (.val (.builtin id))) (hh:handedIn (.builtin id)=true)
  (h:WV X A (eval e env) (fun ov σ₁=>ov=.raw (.type T)∧(∃L m o g,σ₁=⟨(L,.ns m)::o,g⟩)∧WEs X A env args (fun xs σ₂=>ON X A Is (fun l=>call (.builtin id) l) xs Q σ₂) σ₁) σ):
  WV X A (eval (.Call (.Attribute e name apos) args [] pos) env) Q σ:=fun s hs'=>by
 refine methodCall_KW (pl:=(do return (←importBound e env).getD true)) (h.run hs' fun vo s₁ o σ₁ io t₁ k₁ h₁=>?_) he;obtain⟨rfl,⟨L,m,o,g,rfl⟩,h₁⟩:=h₁
 cases io
 obtain⟨f,hn,_⟩:=t₁.own _ _ List.mem_cons_self;refine method_type (K:=[]) (Fr.nil hn) (fun a o e=>(by simp at e)) ht hs hf hh ?_;obtain⟨t₂,k₂⟩:=t₁.same (s':={s₁ with toks:=s₁.toks+1}) rfl rfl rfl;exact wpAny_mono ((CW_raw (first:=[]) ha hp (fun pos=>(h₁ pos).mono fun xs σ' q=>⟨.blt,q⟩)) _ _ [] t₂ (.raw _) .nil) (fun O O p=>p.from (k₁.trans k₂)) fun O O e=>e
theorem Cj:findCls [] (.type "tuple") (.type "type") "__new__"=some (.val (.builtin "tuple.__new__")):=by kernel_rfl
theorem Es:Manifest.isStub "tuple"=false:=by decide+kernel
end
section
variable {X:Cx}{A:Around}{env:Env}{σ:PS}{Q:PV→PS→Prop}{P:PF→PS→Prop}{B:Bool→PS→Prop}{l l':List PV}{U:Unit→PS→Prop}{v v':PV}{n:Nat}
noncomputable def Fd(h:Heap)(t:Addr)(items:Array Value):Prop:=∃o n,h.get? t=some o∧o.data=.seq items n
theorem Fd.ext{h h':Heap}{a b:Addr}{items:Array Value}(x:Fd h a items)(hs:Heap.ExtBut b h h')(hab:a≠b):Fd h' a items:=by
 obtain⟨o,n,ho,r⟩:=x;exact⟨o,n,hs a o hab ho,r⟩
theorem Fd.push{h:Heap}{a:Addr}{items:Array Value}(x:Fd h a items)(o:Obj):Fd (h.push o) a items:=by
 obtain⟨o',n,ho,r⟩:=x;exact⟨o',n,Heap.get?_push_of_some o ho,r⟩
theorem FC {s:Shared} {E:Value→Shared→Prop} {it t:Addr} {i:Nat} {items:Array Value} {x:Value} {Q:Option Value→Shared→Prop} (hit:s.heap.IsTupleIter it t i)
  (ht:Fd s.heap t items) (hx:items[i]? =some x)
  (hQ:∀h',h'.IsTupleIter it t (i+1)→Heap.SameBut it s.heap h'→Q (some x) {s with heap:=h'}):
  wpAny (md X) A (pyNext (.ref it)) Q E s:=by
 obtain⟨o,ho,hc,hd⟩:=id hit;obtain⟨ol,nl,hol,hdl⟩:=ht;unfold pyNext
 refine wpAny_bind (wpAny_attempt (wpAny_callSpecial?_slot (name:=Str.ofString "__next__") hit.typeIs F.slot_tuple_iterator_next
  (wpAny_call_entry F.slot_tuple_iterator_next hit.typeIs F.entry_tuple_iterator_next ?_ (F.args_tuple_iterator_next_1 _))))
 show wpAny _ _ (field (.ref it) 0 >>= _) _ _ s;refine wpAny_bind (wpAny_field ho hd (x:=.ref t) rfl ?_);show wpAny _ _ (if(Value.ref t==Value.none)=true then _ else _) _ _ s;rw[if_neg (show¬((Value.ref t==Value.none)=true)from Bool.false_ne_true)];show wpAny _ _ (field (.ref it) 1 >>= _) _ _ s;refine wpAny_bind (wpAny_field ho hd (x:=.int i 0) rfl ?_);show wpAny _ _ (seqItems? (.ref t) >>= _) _ _ s;refine wpAny_bind (wpAny_seqItems hol hdl ?_);simp only[Int.toNat_natCast,hx];refine wpAny_bind (wpAny_setField ho hd (by simp) (wpAny_pure ⟨x,rfl,wpAny_pure (hQ _ ?_ (Heap.SameBut.update ..))⟩))
 exact⟨_,Heap.get?_update_self _ ho (Obj.isFreed_of_fields (Obj.data_mapFields hd _)),(Obj.cls_mapFields ..).trans hc,by
  rw[Obj.data_mapFields hd];simp[rawInt]⟩
theorem HI {s:Shared} {E:Value→Shared→Prop} {it t:Addr} {i:Nat} {items:Array Value} {Q:Option Value→Shared→Prop} (hh:A.handled=none)
  (hit:s.heap.IsTupleIter it t i) (ht:Fd s.heap t items) (hx:items[i]? =none)
  (hQ:∀h',Heap.ExtBut it s.heap h'→Q none {s with heap:=h'}):wpAny (md X) A (pyNext (.ref it)) Q E s:=by
 obtain⟨o,ho,hc,hd⟩:=id hit;obtain⟨ol,nl,hol,hdl⟩:=ht;unfold pyNext
 refine wpAny_bind (wpAny_attempt (wpAny_callSpecial?_slot (name:=Str.ofString "__next__") hit.typeIs F.slot_tuple_iterator_next
  (wpAny_call_entry F.slot_tuple_iterator_next hit.typeIs F.entry_tuple_iterator_next ?_ (F.args_tuple_iterator_next_1 _))))
 show wpAny _ _ (field (.ref it) 0 >>= _) _ _ s;refine wpAny_bind (wpAny_field ho hd (x:=.ref t) rfl ?_);show wpAny _ _ (if(Value.ref t==Value.none)=true then _ else _) _ _ s;rw[if_neg (show¬((Value.ref t==Value.none)=true)from Bool.false_ne_true)];show wpAny _ _ (field (.ref it) 1 >>= _) _ _ s;refine wpAny_bind (wpAny_field ho hd (x:=.int i 0) rfl ?_);show wpAny _ _ (seqItems? (.ref t) >>= _) _ _ s;refine wpAny_bind (wpAny_seqItems hol hdl ?_);simp only[Int.toNat_natCast,hx];refine wpAny_bind (wpAny_rule (wpAny_bind (wpAny_setField ho hd (by simp) ?_)));show wpAny _ _ (newExc (.type "StopIteration") [] >>= _) _ _ _;refine wpAny_bind ?_;simp only[newExc,newTuple];refine wpAny_bind (wpAny_newObj_type ?_ (by size_fits));refine wpAny_bind (m:=firstArgMember _ _) (wpAny_of_eq (a:=Value.none) (by first| rfl| (simp only[firstArgMember];rfl)) ?_);refine wpAny_newObj_type ?_ (by size_fits);simp only[raiseNew];refine wpAny_bind (wpAny_handled ?_)
 first| rw[show A.in1.handled=none from hh]| rw[hh]
 refine wpAny_bind (wpAny_pure (wpAny_throw ?_));refine wpAny_bind (wpAny_isInstance (T:="StopIteration") (b:=true) ⟨_,Heap.get?_push_size _ rfl,rfl⟩ isSubtype_stop ?_);exact wpAny_pure (hQ _ (((Heap.SameBut.update ..).extBut.push _).push _))
theorem FW {it t:Addr} {E:Value→Shared→Prop} {items:Array Value} (hne:t≠it):∀(n i:Nat) (s:Shared) (Q:List Value→Shared→Prop),s.heap.IsTupleIter it t i→Fd s.heap t items→i+n≤items.size→
  (∀h',h'.IsTupleIter it t (i+n)→Heap.SameBut it s.heap h'→Q ((items.toList.drop i).take n) {s with heap:=h'})→wpAny (md X) A (draw (.ref it) n) Q E s
 | 0,i,s,Q,hit,_,_,hQ=>by
  show wpAny _ _ (pure []) Q E s;exact wpAny_pure (by simpa using hQ s.heap hit (Heap.SameBut.refl ..))
 | n+1,i,s,Q,hit,ht,hle,hQ=>by
  have hlt:i<items.size:=by exact a42 hle
  show wpAny _ _ (pyNext (.ref it) >>= _) Q E s;refine wpAny_bind (FC hit ht (x:=items[i]) (by simp[hlt]) fun h₁ hit₁ hs₁=>?_);refine wpAny_bind (wpAny_holding (FW hne n (i+1) _ _ hit₁ (ht.ext hs₁.extBut hne) (by exact a43 hle) fun h₂ hit₂ hs₂=>wpAny_pure ?_))
  have hd:items.toList.drop i=items[i]::items.toList.drop (i+1):=by simp[List.drop_eq_getElem_cons,hlt]
  have:=hQ h₂ (by rw[show i+(n+1)=i+1+n by exact a96];exact hit₂) (hs₁.trans hs₂);rw[hd,List.take_succ_cons]at this;exact this
theorem EC(X:Cx):findIn (kf X.w.params) (.ref 143) "__iter__"=some (some (.builtin "tuple.__iter__")):=by kernel_rfl
theorem CI(X:Cx):peek (kf X.w.params) ⟨pw,X.w.params⟩ (isSubtype (.ref 143) (.type "tuple"))=some true:=by kernel_rfl
theorem KM:plainId "tuple.__iter__"=true:=by decide+kernel
theorem MS:builtinKind "tuple.__iter__"=some .slot:=by decide+kernel
theorem KL:splitId "tuple.__iter__"=some ("tuple","__iter__"):=by decide+kernel
theorem Ed{s:Shared}{xa:Addr}{o:Obj}(ho:s.heap.get? xa=some o)(hc:o.cls=.ref 143):Looks (md X) s.heap (typeOf (.ref xa)) (.ref 143):=by
 have:=(Looks.ld (M:=md X) (part:=none) ho).andThen (f:=fun o=>pure o.cls) .now;rw[hc]at this;exact this
theorem Md {s:Shared} (hs:St X σ s) {xa:Addr} {o:Obj} {items:Array Value} {n:Nat} (ho:s.heap.get? xa=some o) (hc:o.cls=.ref 143) (hd:o.data=.seq items n) {Q:Value→Shared→Prop} {E:Value→Shared→Prop}
  (hQ:Q (.ref s.heap.objs.size) {s with heap:=s.heap.push {cls:=.type "tuple_iterator",data:=.fields #[.ref xa,.int 0 0]}}):wpAny (md X) A (pyIter (.ref xa)) Q E s:=by
 have TI:=Ed (X:=X) ho hc;have SI:Looks (md X) s.heap (specialOf (.ref xa) "__iter__") (some (.builtin "tuple.__iter__")):=TI.andThen (looks_findIn hs.kf (EC X));have TT:Looks (md X) s.heap (isInstance (.ref xa) (.type "tuple")) true:=TI.andThen (hs.look (CI X))
 have hcall:wpAny (md X) A (call (.builtin "tuple.__iter__") [.ref xa]) (fun it s'=>∃T' r,s'.TypeIs it T'∧typeLookup (.type T') "__next__"=pure (some r)∧Q it s') E s:=by
  refine wpAny_call (codeAny_call_builtin KM F.entry_tuple_iter ?_);refine @check_slot (md X) _ _ s "tuple.__iter__" "tuple" "__iter__" (.ref xa) [] [] _ MS KL TT (F.args_tuple_iter_1 _) ?_;show wpAny _ _ (do ret (←newFields "tuple_iterator" [.ref xa,rawInt 0])) _ _ s;exact wpAny_bind (wpAny_newObj_type (wpAny_pure ⟨"tuple_iterator",_,⟨_,Heap.get?_push_size _ rfl,rfl⟩,F.slot_tuple_iterator_next.lookup,hQ⟩))
 unfold pyIter;refine wpAny_bind (SI.here ?_);show wpAny _ A (callSpecialIfBoundUnlessNone? (.ref xa) "__iter__" _ >>= _) Q E s;refine wpAny_bind ?_;simp only[callSpecialIfBoundUnlessNone?,bindSpecialIfBound?];refine wpAny_holding (wpAny_bind (wpAny_bind (SI.here ?_)));simp only[F.slot_tuple_iter.bind];refine wpAny_bind (wpAny_askSetting (wpAny_ite ?_))
 have fin:∀refuse:Sem Value,wpAny (md X) A (if(Value.builtin "tuple.__iter__"==Value.none)=true then(refuse >>= fun v=>pure (some v))else(call (.builtin "tuple.__iter__") [.ref xa] >>= fun v=>pure (some v)))
   (fun r s₁=>wpAny (md X) A (match r with | some it=>(do match ←specialOf it "__next__" with | none=>rule "iter.non-iterator";raiseError "TypeError" s!"iter() returned non-iterator of type '{← typeNameOf it}'" | some _=>pure it)| none=>(do match ←bindSpecialIfBound? (.ref xa) "__getitem__" with
   | none=>rule "iter.not-iterable";raiseError "TypeError" s!"'{← typeNameOf (.ref xa)}' object is not iterable"
   | some _=>rule "iter.getitem-fallback";newFields "iterator" [.ref xa,←mkInt 0])) Q E s₁) E s:=by
  intro refuse;simp only[builtin_beq_none,Bool.false_eq_true,if_false];refine wpAny_bind (wpAny_mono hcall (fun it s' h'=>wpAny_pure ?_) fun O O h'=>h');obtain⟨T',r,hT',hl,hQ⟩:=h';exact wpAny_bind (wpAny_specialOf hT' hl (wpAny_pure hQ))
 split
 ·exact wpAny_bind (wpAny_pure (wpAny_pure (fin _)))
 ·exact wpAny_tryCatch (wpAny_bind (wpAny_pure (wpAny_pure (fin _))))
theorem Ij {s:Shared} (hs:St X σ s) (hh:A.handled=none) {t:Addr} {o:Obj} {items:Array Value} {n:Nat} (ho:s.heap.get? t=some o) (hc:o.cls=.ref 143) (hd:o.data=.seq items n) {Q:List Value→Shared→Prop} {E:Value→Shared→Prop}
  (hQ:∀h',Heap.ExtBut s.heap.objs.size s.heap h'→Q items.toList {s with heap:=h'}):wpAny (md X) A (unpackItems (.ref t) items.size none) Q E s:=by
 have hlt:t≠s.heap.objs.size:=Nat.ne_of_lt (Heap.lt_size ho)
 have ht:Fd s.heap t items:=⟨_,_,ho,hd⟩
 unfold unpackItems;refine wpAny_bind ?_
 ·unfold notIterableAtAll
  refine wpAny_bind (((Ed (X:=X) ho hc).andThen (looks_findIn hs.kf (EC X))).here ?_);refine wpAny_pure ?_;simp only[Bool.false_eq_true,if_false];refine wpAny_bind (wpAny_holding (Md hs ho hc hd ?_));refine wpAny_bind (wpAny_holding (FW hlt items.size 0 _ _ ⟨_,Heap.get?_push_size _ rfl,rfl,rfl⟩ (ht.push _) (by exact av9) fun h₁ hit₁ hs₁=>?_))
  have hall:List.take items.size (List.drop 0 items.toList)=items.toList:=by
   rw[List.drop_zero];exact List.take_of_length_le (by simp)
  rw[hall];rw[if_neg (by simp)];have ht₁:Fd h₁ t items:=(ht.push _).ext hs₁.extBut hlt;refine wpAny_bind (wpAny_holding (HI hh hit₁ ht₁ (by simp) fun h₂ he₂=>?_));simp only[Option.isSome_none,Bool.false_eq_true,if_false];refine wpAny_pure (hQ h₂ fun b o hb e=>he₂ b o hb (hs₁.extBut b o hb (Heap.get?_push_of_some _ e)))
theorem IU{elts:List Expr}{k:Nat}{pos:Pos}(hh:A.handled=none)(hn:(assignEach elts env).length=l.length)(hstar:(assignEach elts env).findIdx? (·.1)=none)(h:TGs X A ((assignEach elts env).map (·.2)) l U σ):TG X A env (.Tuple elts k pos) (.mat l) U σ:=fun s va hs i=>by
 cases i with
 | mat ho hc hd hm il=>
  rw[arm_assign_Tuple];refine wpAny_bind (wpAny_standAt ?_);unfold unpack
  have e:(assignEach elts env).length=(List.toArray ‹List Value›).size:=by rw[List.size_toArray,il.length];exact hn
  rw[e,hstar];refine wpAny_bind (wpAny_holding (Ij hs hh ho hc hd fun h' hk=>?_));obtain⟨t,ke⟩:=hs.grow (s':={s with heap:=h'}) (fun b o e=>hk b o (Nat.ne_of_lt (Heap.lt_size e)) e) rfl rfl;exact wpAny_mono (h _ _ t (by simpa using il.keep ke)) (fun O O p=>p.from ke) fun O O e=>e
end
section
variable {K:Type}[DecidableEq K]{w:World}{knd:KeyKind pw w K}{A:Around}{E:Value→Shared→Prop}{s:Shared}{d:Addr}{k:K}{key:Value}{f:K→Option Value}{n:Nat}
theorem Km {h:Heap} {o:Obj} {es:Array DictEntry} {ep:Nat} (ho:h.get? d=some o) (hd:o.data=.dict es ep) (hz:h.DictLe d n) (i:Nat) (v:Value):
  (h.update d (Obj.mapDict fun es=>es.modify i fun e=>{e with val:=v})).DictLe d (n+1):=fun o' es' ep' e1 e2=>by
 rw[Heap.get?_update_self _ ho (Obj.isFreed_of_dict (Obj.data_mapDict hd _))]at e1
 cases e1
 rw[Obj.data_mapDict hd]at e2
 cases e2
 have:=hz o es ep ho hd;rw[Array.size_modify];exact a53 this
theorem Jk{h:Heap}{o:Obj}{es:Array DictEntry}{ep:Nat}(ho:h.get? d=some o)(hd:o.data=.dict es ep)(hz:h.DictLe d n)(e:DictEntry):(h.update d (Obj.mapDictKeys fun es=>es.push e)).DictLe d (n+1):=fun o' es' ep' e1 e2=>by
 rw[Heap.get?_update_self _ ho (Obj.isFreed_of_dict (Obj.data_mapDictKeys hd _))]at e1
 cases e1
 rw[Obj.data_mapDictKeys hd]at e2
 cases e2
 have:=hz o es ep ho hd;rw[Array.size_push];exact a67 this
theorem Ft {v:Value} {Q:Unit→Shared→Prop} (hkey:knd.is k key=true) (hm:s.heap.MapOf knd d f) (hz:s.heap.DictLe d n) (hn:n≤sizeLine)
  (hQ:∀h',h'.MapOf knd d (fun x=>if x=k then some v else f x)→Heap.SameBut d s.heap h'→h'.DictLe d (n+1)→Q () {s with heap:=h',toks:=s.toks+1}):
  wpAny (model pw w) A (dictSet d key v) Q E s:=by
 obtain⟨o,es,ep,ho,hc,hd,hk,hf⟩:=hm;unfold dictSet
 try with_reducible refine wpAny_holding ?_
 refine wpAny_bind (knd.pyHash hkey ?_);unfold dictSetHashed
 try with_reducible refine wpAny_holding ?_
 refine wpAny_bind (wpAny_dictFind_of (s:={s with toks:=s.toks+1}) hkey ho hd hk ?_)
 cases hi:es.findIdx? fun e=>knd.is k e.key with
 | some i=>
  refine wpAny_bind (wpAny_rule (wpAny_bind (wpAny_updateDict (s:={s with toks:=s.toks+1}) ho hd (wpAny_point (hQ _ ⟨_,_,ep,Heap.get?_update_self _ ho (Obj.isFreed_of_dict (Obj.data_mapDict hd _)),
   hc.mapDict _,Obj.data_mapDict hd _,hk.modify _ _,fun x=>?_⟩ (Heap.SameBut.update ..) (Km ho hd hz i v))))))
  rw[findBy_modify knd.is knd.inj es k x v i hi,hf]
 | none=>
  refine wpAny_bind (wpAny_rule (wpAny_updateDictKeys (hz:=Nat.le_trans (hz _ _ _ ho hd) hn) (s:={s with toks:=s.toks+1}) ho hd (hQ _ ⟨_,_,ep+1,Heap.get?_update_self _ ho (Obj.isFreed_of_dict (Obj.data_mapDictKeys hd _)),
   hc.mapDictKeys _,Obj.data_mapDictKeys hd _,hk.push hkey _,fun x=>?_⟩ (Heap.SameBut.update ..) (Jk ho hd hz _))))
  rw[findBy_push knd.is es k x _ _ v (KeyKind.is_eq_decide hkey) hi,hf]
theorem Fk {v:Value} {Q:Unit→Shared→Prop} (hkey:knd.is k key=true) (hm:s.heap.MapOf knd d f) (hz:s.heap.DictLe d n) (hn:n≤sizeLine)
  (hQ:∀h',h'.MapOf knd d (fun x=>if x=k then some v else f x)→Heap.SameBut d s.heap h'→h'.DictLe d (n+1)→Q () {s with heap:=h',toks:=s.toks+1}):
  wpAny (model pw w) A (setItem (.ref d) key v) Q E s:=by
 unfold setItem
 try with_reducible refine wpAny_holding ?_
 refine wpAny_bind (wpAny_sequenceKey hm.typeIs (by decide) ?_)
 refine wpAny_bind (wpAny_callSpecial?_slot (name:=Str.ofString "__setitem__") hm.typeIs slot_dict_setitem
  (wpAny_call_entry slot_dict_setitem hm.typeIs entry_dict_setitem ?_ (args_dict_setitem _ _ _)))
 show wpAny _ _ (Builtin.Dict.notOrdered "__setitem__" ⟨[.ref d,key,v],[]⟩ >>= _) _ _ s;refine wpAny_bind (wpAny_notOrdered_dict hm.typeIs ?_);show wpAny _ _ (dictSet d key v >>= _) _ _ s;exact wpAny_bind (Ft hkey hm hz hn fun h' hm' hs' hz'=>wpAny_pure ⟨.none,rfl,wpAny_pure (hQ h' hm' hs' hz')⟩)
theorem DE {dflt:Value} {Q:Value→Shared→Prop} (hkey:knd.is k key=true) (hm:s.heap.MapOf knd d f) (hz:s.heap.DictLe d n) (hn:n≤sizeLine)
  (hthere:∀v,f k=some v→Q v {s with toks:=s.toks+1})
  (hnew:f k=none→∀h',h'.MapOf knd d (fun x=>if x=k then some dflt else f x)→Heap.SameBut d s.heap h'→h'.DictLe d (n+1)→Q dflt {s with heap:=h',toks:=s.toks+1}):
  wpAny (model pw w) A (dictSetDefault d key dflt) Q E s:=by
 obtain⟨o,es,ep,ho,hc,hd,hk,hf⟩:=hm;unfold dictSetDefault
 try with_reducible refine wpAny_holding ?_
 refine wpAny_bind (knd.pyHash hkey ?_);refine wpAny_bind (wpAny_dictFind_of (s:={s with toks:=s.toks+1}) hkey ho hd hk ?_)
 cases hi:es.findIdx? fun e=>knd.is k e.key with
 | some i=>
  have hfk:f k=(es[i]?).map (·.val):=by rw[←hf k,findBy_of_findIdx?,hi]
  refine wpAny_bind (wpAny_dictEntries (s:={s with toks:=s.toks+1}) ho hd ?_)
  cases he:es[i]? with
  | none=>
   exfalso
   have:=Array.findIdx?_eq_some_iff_findIdx_eq.mp hi;have hlt:i<es.size:=this.1;rw[Array.getElem?_eq_getElem hlt]at he;exact nomatch he
  | some e=>
   rw[he]at hfk;exact wpAny_bind (wpAny_rule (wpAny_pure (hthere e.val hfk)))
 | none=>
  have hfk:f k=none:=by rw[←hf k,findBy_of_findIdx?,hi]
  refine wpAny_bind (wpAny_rule (wpAny_bind (wpAny_updateDictKeys (hz:=Nat.le_trans (hz _ _ _ ho hd) hn) (s:={s with toks:=s.toks+1}) ho hd (wpAny_pure (hnew hfk _ ⟨_,_,ep+1,Heap.get?_update_self _ ho (Obj.isFreed_of_dict (Obj.data_mapDictKeys hd _)),
   hc.mapDictKeys _,Obj.data_mapDictKeys hd _,hk.push hkey _,fun x=>?_⟩ (Heap.SameBut.update ..) (Jk ho hd hz _))))))
  rw[findBy_push knd.is es k x _ _ dflt (KeyKind.is_eq_decide hkey) hi,hf]
end
section
variable {X:Cx}{A:Around}{env:Env}{σ:PS}{Q:PV→PS→Prop}{P:PF→PS→Prop}{B:Bool→PS→Prop}{l l':List PV}{U:Unit→PS→Prop}{v v':PV}{n:Nat}
theorem SV(P:Params):(hq P).get? 1=some (PL pw P):=Aa P 1 _ (by decide) (by kernel_rfl) rfl
theorem St.notMods{s:Shared}{a:Addr}{p:PO}{o:Own}{g:Array GenState}(hs:St X ⟨o,g⟩ s)(hm:(a,p)∈o):(a==sysModules)=false:=by
 refine beq_eq_false_iff_ne.mpr fun e=>?_;have:=(hs.stat 1 _ (SV _)).2;exact this (by rw[show(1:Addr)=a from e.symm];exact List.mem_map.mpr ⟨(a,p),hm,rfl⟩)
theorem Of{pos:Pos}{x:Addr×PO}{o:Own}{g:Array GenState}(q:∀a,Q (.raw (.ref a)) ⟨x::(a,.dictS 0 fun O=>none)::o,g⟩):WV X A (eval (.Dict [] [] pos) env) Q ⟨x::o,g⟩:=fun s hs=>by
 rw[eval_Dict_empty];refine wpAny_bind (wpAny_standAt (wpAny_newObj_type ?_))
 obtain⟨t,k⟩:=hs.pushOwn (o:={cls:=.type "dict",data:=.dict #[]}) (s':={s with heap:=s.heap.push {cls:=.type "dict",data:=.dict #[]}}) rfl rfl rfl rfl (p:=.dictS 0 fun O=>none)
  fun k e=>⟨_,Heap.MapOf.new _,Heap.DictLe.new _,fun O=>.none⟩
 obtain⟨t',k'⟩:=t.perm (List.Perm.swap _ _ _);exact⟨_,_,.raw _,t',k.trans k',q _⟩
theorem JG{pos:Pos}{x:Addr×PO}{o:Own}{g:Array GenState}(q:∀a,Q (.raw (.ref a)) ⟨x::(a,.dictI 0 fun O=>none)::o,g⟩):WV X A (eval (.Dict [] [] pos) env) Q ⟨x::o,g⟩:=fun s hs=>by
 rw[eval_Dict_empty];refine wpAny_bind (wpAny_standAt (wpAny_newObj_type ?_))
 obtain⟨t,k⟩:=hs.pushOwn (o:={cls:=.type "dict",data:=.dict #[]}) (s':={s with heap:=s.heap.push {cls:=.type "dict",data:=.dict #[]}}) rfl rfl rfl rfl (p:=.dictI 0 fun O=>none)
  fun k e=>⟨_,Heap.MapOf.new _,Heap.DictLe.new _,fun O=>.none⟩
 obtain⟨t',k'⟩:=t.perm (List.Perm.swap _ _ _);exact⟨_,_,.raw _,t',k.trans k',q _⟩
theorem HQ{x:Addr×PO}{o:Own}{g:Array GenState}(q:∀a,Q (.raw (.ref a)) ⟨x::(a,.set0)::o,g⟩):ON X A Is (fun l=>call (.type "set") l) [] Q ⟨x::o,g⟩:=fun s vs hs i=>by
 cases i
 refine call_set_0 fun led=>?_
 obtain⟨t,k⟩:=hs.pushOwn (o:={cls:=.type "set",dict:=none,data:=.set #[] 0 (.fresh 0 0 led)}) (s':={s with heap:=s.heap.push {cls:=.type "set",dict:=none,data:=.set #[] 0 (.fresh 0 0 led)}}) rfl rfl rfl rfl (p:=.set0)
  fun k e=>(setObjOf_fresh led).setOf e (by decide)
 obtain⟨t',k'⟩:=t.perm (List.Perm.swap _ _ _);exact⟨_,_,.raw _,t',k.trans k',q _⟩
noncomputable def O3(X:Cx)(A:Around)(f:Value→Value→Value→Sem Unit)(a b c:PV)(U:Unit→PS→Prop)(σ:PS):Prop:=
 ∀s va vb vc,St X σ s→Is (ads σ.own) s.heap a va→Is (ads σ.own) s.heap b vb→Is (ads σ.own) s.heap c vc→wpAny (md X) A (f va vb vc) (Po X RE U σ s) NoE s
theorem TG_Sub{e i:Expr}{pos:Pos}(h:WV X A (eval e env) (fun ov σ₁=>WV X A (eval i env) (fun iv σ₂=>O3 X A setItem ov iv v U σ₂) σ₁) σ):TG X A env (.Subscript e i pos) v U σ:=fun s va hs iv=>by
 rw[arm_assign_Subscript];refine wpAny_bind (wpAny_holding (h.run hs fun vo s₁ o σ₁ io t₁ k₁ h₁=>wpAny_bind (wpAny_holding (W.run h₁ t₁ fun vi s₂ j σ₂ ij t₂ k₂ h₂=>wpAny_bind (wpAny_standAt (wpAny_bind (wpAny_holding ?_)))))));refine wpAny_mono (h₂ s₂ _ _ _ t₂ (io.keep k₂) ij ((iv.keep k₁).keep k₂)) (fun O s₃ p=>?_) fun O O e=>e;obtain⟨b,σ',e,t',k',q⟩:=p;exact wpAny_release ⟨(),σ',rfl,t',(k₁.trans k₂).trans k',q⟩
theorem Vt{d:Addr}{f:Int→Option PV}{k:Int}{o o':Own}{g:Array GenState}(hm:(d,.dictI n f)∈o)(hn:n≤sizeLine)(u:Upd o d (.dictI (n+1) fun x=>if x=k then some v else f x) o')(q:U () ⟨o',g⟩):O3 X A setItem (.raw (.ref d)) (.int k) v U ⟨o,g⟩:=fun s va vb vc hs ia ib ic=>by
 cases ia;cases ib
 obtain⟨m,hmap,hz,hv⟩:=hs.own _ _ hm;refine Fk (intKind_is _ _ _ _) hmap hz hn fun h' hmap' hsb hz'=>?_
 have ke:Ad (ads o) s.heap (ads o) h':=fun b ob e n=>⟨(hsb.2 b fun e=>n (by rw[e];exact u.mem_addr)).trans e,n⟩
 obtain⟨t,ke'⟩:=hs.upd (s':={s with heap:=h',toks:=s.toks+1}) u hsb rfl rfl ⟨_,hmap',hz',fun y=>by
  dsimp only
  by_cases h:y=k
  ·rw[if_pos h,if_pos h];exact .some (ic.keep ke)
  ·rw[if_neg h,if_neg h];exact(hv y).keep ke⟩
 exact⟨(),_,rfl,t,ke',q⟩
theorem Gi{d:Addr}{f:Str→Option PV}{k:Str}{o:Own}{g:Array GenState}(hm:(d,.dictS n f)∈o)(hn:n≤sizeLine)(there:∀x,f k=some x→Q x ⟨o,g⟩)(new:f k=none→∃o',Upd o d (.dictS (n+1) fun x=>if x=k then some v else f x) o'∧Q v ⟨o',g⟩):ON X A Is (fun l=>call (.builtin "dict.setdefault") l) [.raw (.ref d),.str k,v] Q ⟨o,g⟩:=fun s vs hs i=>by
 obtain⟨va,vb,vc,rfl,ia,ib,ic⟩:∃a b c,vs=[a,b,c]∧Is _ _ _ a∧Is _ _ _ b∧Is _ _ _ c:=by
  cases i with | cons i i'=>cases i' with | cons j i'=>cases i' with | cons k i'=>cases i';exact⟨_,_,_,rfl,i,j,k⟩
 cases ia;cases ib
 obtain⟨m,hmap,hz,hv⟩:=hs.own _ _ hm;refine wpAny_call_entry PySem.F.slot_dict_setdefault hmap.typeIs PySem.F.entry_dict_setdefault ?_ (PySem.F.args_dict_setdefault_3 _ _ _);unfold Builtin.«dict.setdefault»;refine wpAny_bind ?_;unfold Builtin.Dict.keyAndDefault;refine wpAny_bind (wpAny_notOrdered_dict hmap.typeIs ?_);show wpAny _ _ (pure (d,_,some vc)) _ _ s;refine wpAny_pure ?_;show wpAny _ _ (if(d==sysModules)=true then _ else(dictSetDefault d _ vc >>= _)) _ _ s;rw[if_neg (by rw[hs.notMods hm];exact Bool.false_ne_true)];have hi:=hv k;refine wpAny_bind (DE (knd:=strKind pw X.w) (k:=k) (strKind_is _ _ _ _) hmap hz hn (fun u hu=>wpAny_pure ⟨u,rfl,?_⟩) fun hnn h' hmap' hsb hz'=>wpAny_pure ⟨vc,rfl,?_⟩)
 ·rw[hu]at hi
  obtain⟨t,ke⟩:=hs.same (s':={s with toks:=s.toks+1}) rfl rfl rfl
  cases hf:f k with
  | none=>rw[hf]at hi;cases hi
  | some x=>
   rw[hf]at hi
   cases hi with
   | some i=>exact⟨x,_,i,t,ke,there x hf⟩
 ·rw[hnn]at hi
  cases hf:f k with
  | some x=>rw[hf]at hi;cases hi
  | none=>
   obtain⟨o',u,q⟩:=new hf
   have ke:Ad (ads o) s.heap (ads o) h':=fun b ob e n=>⟨(hsb.2 b fun e=>n (by rw[e];exact u.mem_addr)).trans e,n⟩
   obtain⟨t,ke'⟩:=hs.upd (s':={s with heap:=h',toks:=s.toks+1}) u hsb rfl rfl ⟨_,hmap',hz',fun y=>by
    dsimp only
    by_cases h:y=k
    ·rw[if_pos h,if_pos h];exact .some (ic.keep ke)
    ·rw[if_neg h,if_neg h];exact(hv y).keep ke⟩
   exact⟨v,_,ic.keep ke',t,ke',q⟩
theorem HB {w:World} {K:Type} [DecidableEq K] {knd:KeyKind pw w K} {k:K} {key dflt:Value} {d:Addr} {f:K→Option Value} {s:Shared} {E:Value→Shared→Prop} {R:Value→Shared→Prop} (hkey:knd.is k key=true) (hd:(d==sysModules)=false) (hm:s.heap.MapOf knd d f)
  (h:R ((f k).getD dflt) {s with toks:=s.toks+1}):wpAny (model pw w) A (Builtin.«dict.get» ⟨[.ref d,key,dflt],[]⟩) (fun fin s'=>∃v,fin=.done (.ret v)∧R v s') E s:=by
 show wpAny _ _ (dictGet d key >>= _) _ _ s;refine wpAny_bind (wpAny_dictGet_of hkey hm ?_)
 cases hf:f k with
 | some v=>
  rw[hf]at h;exact wpAny_pure ⟨v,rfl,h⟩
 | none=>
  rw[hf]at h;show wpAny _ _ (Builtin.Dict.missed d key >>= _) _ _ _;exact wpAny_bind (wpAny_missed_other hd (wpAny_pure ⟨dflt,rfl,h⟩))
theorem Bf.getD{ad:List Addr}{h:Heap}{x:Option PV}{u:Option Value}(i:Bf ad h x u){y:PV}{z:Value}(j:Is ad h y z):Is ad h (x.getD y) (u.getD z):=by
 cases i with
 | none=>exact j
 | some i=>exact i
theorem ST{d:Addr}{f:Str→Option PV}{k:Str}{o:Own}{g:Array GenState}(hm:(d,.dictS n f)∈o)(q:Q ((f k).getD v) ⟨o,g⟩):ON X A Is (fun l=>call (.builtin "dict.get") l) [.raw (.ref d),.str k,v] Q ⟨o,g⟩:=fun s vs hs i=>by
 obtain⟨va,vb,vc,rfl,ia,ib,ic⟩:∃a b c,vs=[a,b,c]∧Is _ _ _ a∧Is _ _ _ b∧Is _ _ _ c:=by
  cases i with | cons i i'=>cases i' with | cons j i'=>cases i' with | cons k i'=>cases i';exact⟨_,_,_,rfl,i,j,k⟩
 cases ia;cases ib
 obtain⟨m,hmap,hz,hv⟩:=hs.own _ _ hm;obtain⟨t,ke⟩:=hs.same (s':={s with toks:=s.toks+1}) rfl rfl rfl;exact wpAny_call_entry PySem.F.slot_dict_get hmap.typeIs PySem.F.entry_dict_get (HB (knd:=strKind pw X.w) (k:=k) (strKind_is _ _ _ _) (hs.notMods hm) hmap ⟨_,_,((hv k).getD ic).keep ke,t,ke,q⟩) (PySem.F.args_dict_get_3 _ _ _)
end
theorem CE:Slot "method_descriptor" "__get__" "method_descriptor.__get__":=
 .of (owner:="method_descriptor") (n:="__get__") (by rw[typeLookup_type,builtinLookup_eq_fast];kernel_rfl) (by decide+kernel) (by decide+kernel) (by decide+kernel)
  (by first| exact .inl (by decide+kernel)| exact .inr (by decide+kernel)) (by rw[isSubtype_type];kernel_rfl)
theorem HH:entryFor table "method_descriptor.__get__"=some Builtin.«method_descriptor.__get__»:=entryFor_of_tree (by kernel_rfl)
theorem JD(a b c:Value):argsOk "method_descriptor.__get__" ⟨[a,b,c],[]⟩:=by unfold argsOk;kernel_rfl
theorem LP:typeLookup (.type "method_descriptor") "__set__"=pure none:=by rw[typeLookup_type,builtinLookup_eq_fast];kernel_rfl
theorem LQ:typeLookup (.type "method_descriptor") "__delete__"=pure none:=by rw[typeLookup_type,builtinLookup_eq_fast];kernel_rfl
theorem type_dict_get:typeOf (.builtin "dict.get")=pure (.type "method_descriptor"):=by show builtinType _=_;rw[builtinType_eq_fast];kernel_rfl
theorem BA:typeOf (.builtin "set.__contains__")=pure (.type "method_descriptor"):=by show builtinType _=_;rw[builtinType_eq_fast];kernel_rfl
theorem CQ:Manifest.toldItsClass.contains "dict.get"=false:=by decide+kernel
theorem BB:Manifest.toldItsClass.contains "set.__contains__"=false:=by decide+kernel
theorem KP:isSubtype (.type "dict") (.type (".".intercalate ("dict.get".cutAt '.').dropLast))=pure true:=by
 rw[show".".intercalate ("dict.get".cutAt '.').dropLast="dict" by decide+kernel,isSubtype_type];kernel_rfl
section
variable {w:World}{A:Around}{E:Value→Shared→Prop}{h:Heap}{g:Array GenState}{d:Drawn}{t:Nat}{os:OsState}{a:Addr}{o:Obj}
noncomputable def BX(id:String)(a:Addr):Obj:={cls:=.type "builtin_function_or_method",data:=.fields #[.builtin id,.ref a]}
theorem Ni{R:Result→Shared→Prop}(hx:h.get? a=some o)(hc:o.cls=.type "dict")(hq:R (.ok (.ret (.ref h.objs.size))) ⟨h.push (BX "dict.get" a),g,d,t,os⟩):codeAny (model pw w) A (.call (.builtin "method_descriptor.__get__") ⟨[.builtin "dict.get",.ref a,.type "dict"],[]⟩) R ⟨h,g,d,t,os⟩:=by
 have hT:(⟨h,g,d,t,os⟩:Shared).TypeIs (.ref a) "dict":=⟨_,hx,hc⟩
 have f8:=KP;have f9:=CQ;refine codeAny_call_builtin CE.plain HH (CE.check _ _ _ _ _ _ _ _ (show(⟨h,g,d,t,os⟩:Shared).TypeIs (.builtin "dict.get") "method_descriptor" from type_dict_get) (JD _ _ _) ?_);unfold Builtin.«method_descriptor.__get__»;refine wpAny_bind (wpAny_of_eq (a:=(.builtin "dict.get",some (.ref a),some (.type "dict"))) rfl ?_)
 dsimp only
 rw[if_neg (by rw[CQ];exact Bool.false_ne_true)];refine wpAny_bind ?_;refine wpAny_bind (wpAny_of_eq (a:=(Str.ofString "get",.type "dict")) rfl ?_)
 dsimp only
 refine wpAny_bind (wpAny_isInstance (b:=true) hT (by rw[isSubtype_type];kernel_rfl) ?_);rw[if_neg (by decide)];refine wpAny_pure ?_;exact wpAny_bind (wpAny_newObj_type (wpAny_pure hq))
theorem NN{tk:Tok}{Q:Fin→Shared→Prop}(hx:h.get? a=some o)(hc:o.cls=.type "dict")(hdn:o.dict=none)(hdt:∃es n,o.data=.dict es n)(hq:Q (.done (.ret (.ref h.objs.size))) ⟨h.push (BX "dict.get" a),g,d,t,os⟩):wpAny (model pw w) A (Builtin.«object.__getattribute__» ⟨[.ref a,.str "get" tk],[]⟩) Q E ⟨h,g,d,t,os⟩:=by
 obtain⟨c,dd,dt,sl⟩:=o;obtain⟨es,n,hdt⟩:=hdt
 dsimp only at hc hdn hdt
 subst hc hdn hdt
 have hT:(⟨h,g,d,t,os⟩:Shared).TypeIs (.ref a) "dict":=⟨_,hx,rfl⟩
 have f4:=PySem.F.slot_dict_get.lookup;have f5:=type_dict_get;have f6:=CE.lookup;have f7:=LP;have f8:=LQ
 repeat(any_goals (first| assumption| wp_step))
 exact Ni hx rfl (wpAny_pure hq)
theorem Oa{Q:Value→Shared→Prop}{ex:Bool}(hx:h.get? a=some o)(hc:o.cls=.type "dict")(hdn:o.dict=none)(hdt:∃es n,o.data=.dict es n)(hq:Q (.ref h.objs.size) ⟨h.push (BX "dict.get" a),g,d,t+1,os⟩):wpAny (model pw w) A (getAttr (.ref a) "get" ex) Q E ⟨h,g,d,t,os⟩:=by
 have hT:∀t,(⟨h,g,d,t,os⟩:Shared).TypeIs (.ref a) "dict":=fun O=>⟨_,hx,hc⟩
 have f2:=PySem.F.slot_dict_getattribute.lookup;have f3:=PySem.F.slot_dict_getattribute.bind (.ref a);unfold getAttr;refine wpAny_bind (wpAny_mkText ?_);unfold getAttrBy;refine wpAny_holding (wpAny_bind (wpAny_typeOf (hT _) (wpAny_bind (wpAny_of_eq f2 ?_))))
 dsimp only
 rw[if_neg (by simp[onTheHeap])];unfold getAttrByItsOwn;refine wpAny_bind (wpAny_of_eq (a:=none) rfl ?_);refine wpAny_bind (wpAny_attempt (wpAny_holding ?_));unfold callGetattribute;rw[if_neg (by cases ex<;>decide)];unfold boundAndCalled;refine wpAny_bind (wpAny_of_eq f3 ?_);refine wpAny_call (codeAny_call_builtin PySem.F.slot_dict_getattribute.plain am_entry_dict_getattribute (PySem.F.slot_dict_getattribute.check _ _ _ _ _ _ _ _ (hT _) (PySem.F.args_dict_getattribute_2 _ _) (NN hx hc hdn hdt ?_)));exact wpAny_pure hq
theorem Nh{R:Result→Shared→Prop}(hx:h.get? a=some o)(hc:o.cls=.type "set")(hq:R (.ok (.ret (.ref h.objs.size))) ⟨h.push (BX "set.__contains__" a),g,d,t,os⟩):codeAny (model pw w) A (.call (.builtin "method_descriptor.__get__") ⟨[.builtin "set.__contains__",.ref a,.type "set"],[]⟩) R ⟨h,g,d,t,os⟩:=by
 have hT:(⟨h,g,d,t,os⟩:Shared).TypeIs (.ref a) "set":=⟨_,hx,hc⟩
 have f8:=KP;have f9:=BB;refine codeAny_call_builtin CE.plain HH (CE.check _ _ _ _ _ _ _ _ (show(⟨h,g,d,t,os⟩:Shared).TypeIs (.builtin "set.__contains__") "method_descriptor" from BA) (JD _ _ _) ?_);unfold Builtin.«method_descriptor.__get__»;refine wpAny_bind (wpAny_of_eq (a:=(.builtin "set.__contains__",some (.ref a),some (.type "set"))) rfl ?_)
 dsimp only
 rw[if_neg (by rw[BB];exact Bool.false_ne_true)];refine wpAny_bind ?_;refine wpAny_bind (wpAny_of_eq (a:=(Str.ofString "__contains__",.type "set")) rfl ?_)
 dsimp only
 refine wpAny_bind (wpAny_isInstance (b:=true) hT (by rw[isSubtype_type];kernel_rfl) ?_);rw[if_neg (by decide)];refine wpAny_pure ?_;exact wpAny_bind (wpAny_newObj_type (wpAny_pure hq))
theorem Rf{tk:Tok}{Q:Fin→Shared→Prop}(hx:h.get? a=some o)(hc:o.cls=.type "set")(hdn:o.dict=none)(hdt:∃es n u,o.data=.set es n u)(hq:Q (.done (.ret (.ref h.objs.size))) ⟨h.push (BX "set.__contains__" a),g,d,t,os⟩):wpAny (model pw w) A (Builtin.«object.__getattribute__» ⟨[.ref a,.str "__contains__" tk],[]⟩) Q E ⟨h,g,d,t,os⟩:=by
 obtain⟨c,dd,dt,sl⟩:=o;obtain⟨es,n,u,hdt⟩:=hdt
 dsimp only at hc hdn hdt
 subst hc hdn hdt
 have hT:(⟨h,g,d,t,os⟩:Shared).TypeIs (.ref a) "set":=⟨_,hx,rfl⟩
 have f4:=PySem.F.slot_set_contains.lookup;have f5:=BA;have f6:=CE.lookup;have f7:=LP;have f8:=LQ
 repeat(any_goals (first| assumption| wp_step))
 exact Nh hx rfl (wpAny_pure hq)
theorem Ro{Q:Value→Shared→Prop}{ex:Bool}(hx:h.get? a=some o)(hc:o.cls=.type "set")(hdn:o.dict=none)(hdt:∃es n u,o.data=.set es n u)(hq:Q (.ref h.objs.size) ⟨h.push (BX "set.__contains__" a),g,d,t+1,os⟩):wpAny (model pw w) A (getAttr (.ref a) "__contains__" ex) Q E ⟨h,g,d,t,os⟩:=by
 have hT:∀t,(⟨h,g,d,t,os⟩:Shared).TypeIs (.ref a) "set":=fun O=>⟨_,hx,hc⟩
 have f2:=PySem.F.slot_set_getattribute.lookup;have f3:=PySem.F.slot_set_getattribute.bind (.ref a);unfold getAttr;refine wpAny_bind (wpAny_mkText ?_);unfold getAttrBy;refine wpAny_holding (wpAny_bind (wpAny_typeOf (hT _) (wpAny_bind (wpAny_of_eq f2 ?_))))
 dsimp only
 rw[if_neg (by simp[onTheHeap])];unfold getAttrByItsOwn;refine wpAny_bind (wpAny_of_eq (a:=none) rfl ?_);refine wpAny_bind (wpAny_attempt (wpAny_holding ?_));unfold callGetattribute;rw[if_neg (by cases ex<;>decide)];unfold boundAndCalled;refine wpAny_bind (wpAny_of_eq f3 ?_);refine wpAny_call (codeAny_call_builtin PySem.F.slot_set_getattribute.plain PySem.F.entry_set_ga (PySem.F.slot_set_getattribute.check _ _ _ _ _ _ _ _ (hT _) (PySem.F.args_set_getattribute_2 _ _) (Rf hx hc hdn hdt ?_)));exact wpAny_pure hq
end
noncomputable def CN(id full:String)(args:Args):Prop:=(match Manifest.signature? id with
 | none=>pure ()
 | some sig=>Bind.checkArgs id {sig with full:=full} args)=pure ()
theorem NX(a b c:Value):CN "dict.get" (s!"{Bind.lastOf "dict"}.{Bind.lastOf "dict.get"}") ⟨[a,b,c],[]⟩:=by unfold CN;kernel_rfl
theorem NY(a b:Value):CN "set.__contains__" (s!"{Bind.lastOf "set"}.{Bind.lastOf "set.__contains__"}") ⟨[a,b],[]⟩:=by unfold CN;kernel_rfl
theorem Rl:builtinKind "dict.get"=some .method:=by decide+kernel
theorem Rm:builtinKind "set.__contains__"=some .method:=by decide+kernel
theorem OI:Manifest.varargsMethods.contains "dict.get"=false:=by decide+kernel
theorem OJ:Manifest.varargsMethods.contains "set.__contains__"=false:=by decide+kernel
theorem Nc:isSubtype (.type "dict") (.type "module")=pure false:=by rw[isSubtype_type];kernel_rfl
theorem QH:isSubtype (.type "set") (.type "module")=pure false:=by rw[isSubtype_type];kernel_rfl
section
variable {M:Model}{A:Around}{E:Value→Shared→Prop}{s:Shared}
theorem EW{id T:String}{a:Addr}{o:Obj}{rest:List Value}{Q:Unit→Shared→Prop}(ho:s.heap.get? a=some o)(hc:o.cls=.type T)(hd:∀c,o.data≠.cls c)(hk:builtinKind id=some .method)(hv:Manifest.varargsMethods.contains id=false)(hm:isSubtype (.type T) (.type "module")=pure false)(hb:CN id (s!"{Bind.lastOf T}.{Bind.lastOf id}") ⟨.ref a::rest,[]⟩)(q:Q () s):wpAny M A (checkBoundCall id ⟨.ref a::rest,[]⟩) Q E s:=by
 have hT:s.TypeIs (.ref a) T:=⟨_,ho,hc⟩
 unfold checkBoundCall;unfold CN at hb
 cases hsig:Manifest.signature? id with
 | none=>exact wpAny_pure q
 | some sig=>
  rw[hsig]at hb
  dsimp only at hb ⊢
  rw[hk]
  dsimp only
  rw[if_neg (by decide)];refine wpAny_bind (wpAny_isInstance hT hm ?_);rw[if_neg (by rw[hv];decide)]
  have:wpAny M A (isType (.ref a)) (fun b s'=>b=false∧s'=s) E s:=by
   unfold isType;refine wpAny_bind (wpAny_loadPart ho (wpAny_pure ⟨?_,rfl⟩))
   cases hdd:o.data with
   | cls c=>exact absurd hdd (hd c)
   | _=>rfl
  refine wpAny_bind (wpAny_mono this (fun b s' h'=>?_) fun O O e=>e);obtain⟨rfl,rfl⟩:=h';rw[if_neg Bool.false_ne_true];refine wpAny_bind (wpAny_typeOf hT ?_)
  dsimp only
  rw[hb];exact wpAny_pure q
end
section
variable {X:Cx}{A:Around}{env:Env}{σ:PS}{Q:PV→PS→Prop}{P:PF→PS→Prop}{B:Bool→PS→Prop}{l l':List PV}{U:Unit→PS→Prop}{v v':PV}{n:Nat}
noncomputable abbrev bm(id:String)(a:Addr):PO:=.ext (fun o=>o=BX id a)
theorem IP{d:Addr}{f:Int→Option PV}{x:Addr×PO}{o:Own}{g:Array GenState}{ex:Bool}(hm:(d,.dictI n f)∈x::o)(q:∀b,Q (.raw (.ref b)) ⟨x::(b,bm "dict.get" d)::o,g⟩):O1 X A Is (fun ov=>getAttr ov "get" ex) (.raw (.ref d)) Q ⟨x::o,g⟩:=fun s va hs i=>by
 cases i
 obtain⟨m,⟨ob,es,ep,ho,⟨hc,hdn,hsl⟩,hdt,_⟩,_⟩:=hs.own _ _ hm;obtain⟨hh,gg,dd,tt,os⟩:=s;refine Oa ho hc hdn ⟨_,_,hdt⟩ ?_
 obtain⟨t,k⟩:=hs.pushOwn (o:=BX "dict.get" d) (s':=⟨hh.push (BX "dict.get" d),gg,dd,tt+1,os⟩) rfl rfl rfl rfl (p:=bm "dict.get" d) fun k e=>⟨_,e,rfl⟩
 obtain⟨t',k'⟩:=t.perm (List.Perm.swap _ _ _);exact⟨_,_,.raw _,t',k.trans k',q _⟩
theorem MA{d:Addr}{x:Addr×PO}{o:Own}{g:Array GenState}{ex:Bool}(hm:(d,.set0)∈x::o)(q:∀b,Q (.raw (.ref b)) ⟨x::(b,bm "set.__contains__" d)::o,g⟩):O1 X A Is (fun ov=>getAttr ov "__contains__" ex) (.raw (.ref d)) Q ⟨x::o,g⟩:=fun s va hs i=>by
 cases i
 obtain⟨ob,es,ep,u,ho,⟨hc,hdn,hsl⟩,hdt,_⟩:=hs.own _ _ hm;obtain⟨hh,gg,dd,tt,os⟩:=s;refine Ro ho hc hdn ⟨_,_,_,hdt⟩ ?_
 obtain⟨t,k⟩:=hs.pushOwn (o:=BX "set.__contains__" d) (s':=⟨hh.push (BX "set.__contains__" d),gg,dd,tt+1,os⟩) rfl rfl rfl rfl (p:=bm "set.__contains__" d) fun k e=>⟨_,e,rfl⟩
 obtain⟨t',k'⟩:=t.perm (List.Perm.swap _ _ _);exact⟨_,_,.raw _,t',k.trans k',q _⟩
theorem Kept.bm{b d:Addr}{id:String}(hm:(b,Mine.bm id d)∈σ.own):Kept X σ (.raw (.ref b)):=fun s v hs i=>by
 cases i
 obtain⟨o,ho,rfl⟩:=hs.own _ _ hm;refine⟨.machine,.inr (.inl rfl),?_⟩;unfold keeperOf;exact(Looks.ld (part:=none) ho).andThen .now
theorem Kx{b d:Addr}{f:Int→Option PV}{k:Int}{o:Own}{g:Array GenState}(hb:(b,Mine.bm "dict.get" d)∈o)(hm:(d,.dictI n f)∈o)(q:Q ((f k).getD v) ⟨o,g⟩):ON X A Is (fun l=>call (.ref b) l) [.int k,v] Q ⟨o,g⟩:=fun s vs hs i=>by
 obtain⟨va,vb,rfl,ia,ib⟩:∃a b,vs=[a,b]∧Is _ _ _ a∧Is _ _ _ b:=by
  cases i with | cons i i'=>cases i' with | cons j i'=>cases i';exact⟨_,_,rfl,i,j⟩
 cases ia
 obtain⟨bo,hbo,rfl⟩:=hs.own _ _ hb;obtain⟨m,hmap,hz,hv⟩:=hs.own _ _ hm;obtain⟨t,ke⟩:=hs.same (s':={s with toks:=s.toks+1}) rfl rfl rfl;refine wpAny_call (codeAny_of_tree ?_);show wpAny _ _ (callAny (.ref b) _) _ _ _;refine wpAny_bind (wpAny_load hbo ?_)
 dsimp only[BX]
 rw[if_pos (by decide)];obtain⟨ob,es,ep,ho,⟨hc,hdn,hsl⟩,hdt,_⟩:=id hmap;show wpAny _ _ (if((Value.type "builtin_function_or_method") != Value.type "method")=true then _ else _) _ _ _;rw[if_pos (by decide)];refine wpAny_bind (EW ho hc (fun c e=>by rw[hdt]at e;cases e) Rl OI Nc (NX _ _ _) ?_);refine wpAny_pure (a:=PySem.Fin.again (.builtin "dict.get" ⟨[.ref d,.int k _,vb],[]⟩)) (And.intro (Code.quiet_builtin _ (by decide+kernel)) ?_);refine codeAny_builtin PySem.F.entry_dict_get ?_;refine wpAny_mono (HB (R:=fun r s'=>Po X Is Q ⟨o,g⟩ s r s') (knd:=intKind pw X.w) (k:=k) (intKind_is _ _ _ _) (hs.notMods hm) hmap ⟨_,_,((hv k).getD ib).keep ke,t,ke,q⟩) (fun fin s' z=>?_) fun O O e=>e;obtain⟨r,rfl,z⟩:=z;exact z
theorem Mu {w:World} {k:Str} {tk:Tok} {d:Addr} {s:Shared} {E:Value→Shared→Prop} {R:Value→Shared→Prop} (hS:Heap.SetOf (strKind pw w) s.heap d (fun O=>false) 0)
  (h:R (.bool false) {s with toks:=s.toks+1}):wpAny (model pw w) A (Builtin.«frozenset.__contains__» ⟨[.ref d,.str k tk],[]⟩) (fun fin s'=>∃v,fin=.done (.ret v)∧R v s') E s:=by
 unfold Builtin.«frozenset.__contains__» Builtin.Frozenset.oneOther;simp only[List.isEmpty_nil,bind_assoc];unfold Builtin.Frozenset.addrOf Builtin.Frozenset.withSetAsKey setContains;refine wpAny_bind (wpAny_pure ?_)
 try dsimp only
 refine wpAny_bind (wpAny_pure ?_)
 try dsimp only
 refine wpAny_bind (wpAny_tryCatch ?_);refine wpAny_holding ?_;refine wpAny_bind ((strKind pw w).pyHash (k:=k) (strKind_is _ _ _ _) ?_);refine wpAny_bind (wpAny_setFind_of (s:={s with toks:=s.toks+1}) (knd:=strKind pw w) (k:=k) (strKind_is _ _ _ _) rfl hS fun r hr=>?_);refine wpAny_pure ?_;show wpAny _ _ (ret (Value.bool r.isSome)) _ _ _;rw[hr];exact wpAny_pure ⟨_,rfl,h⟩
theorem CM{b d:Addr}{k:Str}{o:Own}{g:Array GenState}(hb:(b,Mine.bm "set.__contains__" d)∈o)(hm:(d,.set0)∈o)(q:Q (.bool false) ⟨o,g⟩):ON X A Is (fun l=>call (.ref b) l) [.str k] Q ⟨o,g⟩:=fun s vs hs i=>by
 obtain⟨va,rfl,ia⟩:∃a,vs=[a]∧Is _ _ _ a:=by
  cases i with | cons i i'=>cases i';exact⟨_,rfl,i⟩
 cases ia
 obtain⟨bo,hbo,rfl⟩:=hs.own _ _ hb;have hS:Heap.SetOf (strKind pw X.w) s.heap d (fun O=>false) 0:=hs.own _ _ hm;obtain⟨t,ke⟩:=hs.same (s':={s with toks:=s.toks+1}) rfl rfl rfl;refine wpAny_call (codeAny_of_tree ?_);show wpAny _ _ (callAny (.ref b) _) _ _ _;refine wpAny_bind (wpAny_load hbo ?_)
 dsimp only[BX]
 rw[if_pos (by decide)];obtain⟨ob,es,ep,u,ho,⟨hc,hdn,hsl⟩,hdt,_⟩:=id hS;show wpAny _ _ (if((Value.type "builtin_function_or_method") != Value.type "method")=true then _ else _) _ _ _;rw[if_pos (by decide)]
 have hnc:∀c,ob.data≠.cls c:=fun c e=>by rw[hdt]at e;cases e
 refine wpAny_bind ?_;refine EW (id:="set.__contains__") (T:="set") ho hc hnc Rm OJ QH ?_ ?_
 ·exact NY _ _
 refine wpAny_pure (a:=PySem.Fin.again (.builtin "set.__contains__" ⟨[.ref d,.str k _],[]⟩)) (And.intro (Code.quiet_builtin _ (by decide+kernel)) ?_);refine codeAny_builtin entry_set_contains ?_;refine wpAny_mono (Mu (R:=fun r s'=>Po X Is Q ⟨o,g⟩ s r s') hS ⟨_,_,.bool false,t,ke,q⟩) (fun fin s' z=>?_) fun O O e=>e;obtain⟨r,rfl,z⟩:=z;exact z
end
section
variable {X:Cx}{A:Around}{env:Env}{σ:PS}{Q:PV→PS→Prop}{P:PF→PS→Prop}{B:Bool→PS→Prop}{l l':List PV}{U:Unit→PS→Prop}{v v':PV}{n:Nat}
noncomputable def R6(X:Cx)(σ₀:PS)(s₀:Shared)(ad:List Addr)(h:Heap)(x:PV)(v:Value):Prop:=
 ∃e it a,v=.ref e∧IsEnum h e it 0 .none∧h.IsListIter it a 0∧e≠it∧e∉ad∧it∉ad∧(∀o,(Mine.hq X.w.params).get? e≠some o)∧(∀o,(Mine.hq X.w.params).get? it≠some o)∧Is ad h x (.ref a)∧
  (∀o,s₀.heap.get? e=some o→e∈ads σ₀.own)∧(∀o,s₀.heap.get? it=some o→it∈ads σ₀.own)
theorem IS {be:Expr} {p pos:Pos} {ns:List (Str×NameKind)} {cs:List (Str×Addr)} (he:En env ns cs) (hl:ns.lookup (Str.ofString "enumerate")=some .globalImplicit)
  (e1:nsIn (frg X.w.params) 3 "enumerate"=some none) (e2:nsIn (frg X.w.params) 0 "enumerate"=some (some (.type "enumerate")))
  (ha:A9 env [be]) (hp:∀pos,((backTo pos (starEach [be] env)).any (·.1))=false)
  (hev:eval (.Call (.Name "enumerate" p) [be] [] pos) env=(do callWith pos (←eval (.Name "enumerate" p) env) [] (backTo pos (starEach [be] env)) (backToKw pos (keywordEach [] env))))
  (h:WEs X A env [be] (fun xs σ₁=>∃x l,xs=[x]∧LstV σ₁ x l∧Q x σ₁) σ):∀s,St X σ s→wpAny (md X) A (eval (.Call (.Name "enumerate" p) [be] [] pos) env) (Po X (R6 X σ s) Q σ s) NoE s:=fun s hs=>by
 rw[hev];refine wpAny_bind ((En.blt (Q:=fun v σ'=>v=.raw (.type "enumerate")∧σ'=σ) he hl e1 e2 rfl ⟨rfl,rfl⟩:WV X A _ _ σ).run hs fun f s₁ pv σ₁ i t k q=>?_);obtain⟨rfl,rfl⟩:=q
 cases i
 refine callWith_of (P:=fun h=>∃k,(k=Keeper.frame∨k=Keeper.machine∨k=Keeper.boundFrame)∧Looks (md X) h (keeperOf (.type "enumerate")) k) (by rw[hp];rfl) (fun O x=>x) ?_
 refine Dy ha h t fun us s₂ xs σ₂ is t₂ k₂ q=>⟨⟨.machine,.inr (.inl rfl),Looks.now⟩,?_⟩
 obtain⟨x,l,rfl,hL,q⟩:=q
 cases is with
 | cons ix is=>
  cases is
  obtain⟨a,vs,rfl,_,il,hil⟩:=hL.at t₂ ix;refine call_enumerate_list hil fun h' hen hit hsz hk=>?_;have hold:∀b o,s₂.heap.get? b=some o→h'.get? b=some o:=hk;obtain⟨t₃,k₃⟩:=t₂.grow (s':={s₂ with heap:=h'}) hold rfl rfl
  have off:∀b,s₂.heap.objs.size≤b→b∉ads σ₂.own:=fun b hb hm=>by
   obtain⟨⟨c,pc⟩,hc,ec⟩:=List.mem_map.mp hm;obtain⟨o,ho⟩:=(t₂.own c pc hc).some;simp only at ec;exact absurd (Heap.lt_size ho) (Nat.not_lt.mpr (ec▸hb))
  have noz:∀b,s₂.heap.objs.size≤b→∀o,(Mine.hq X.w.params).get? b≠some o:=fun b hb o eo=>by
   exact absurd (Heap.lt_size (t₂.hz _ _ eo)) (Nat.not_lt.mpr hb)
  have fresh:∀b,s₂.heap.objs.size≤b→∀o,s.heap.get? b=some o→b∈ads σ₁.own:=fun b hb o eo=>by
   by_cases hm:b∈ads σ₁.own
   ·exact hm
   ·exact absurd (Heap.lt_size ((k.trans k₂) b o eo hm).1) (Nat.not_lt.mpr hb)
  exact⟨x,σ₂,⟨_,_,a,rfl,hen,hit,Nat.succ_ne_self _,off _ (Nat.le_succ _),off _ (Nat.le_refl _),noz _ (Nat.le_succ _),noz _ (Nat.le_refl _),ix.keep k₃,fresh _ (Nat.le_succ _),fresh _ (Nat.le_refl _)⟩,t₃,(k.trans k₂).trans k₃,q⟩
noncomputable def B7(e it:Addr)(h h':Heap):Prop:=∀b o,b≠e→b≠it→h.get? b=some o→h'.get? b=some o
theorem Is.but2{ad:List Addr}{h h':Heap}{e it:Addr}(de:∀o,h.get? e=some o→AG o)(d:∀o,h.get? it=some o→AG o)(k:B7 e it h h'){x:PV}{v:Value}(i:Is ad h x v):Is ad h' x v:=
 Is.rec (motive_1:=fun x v O=>Is ad h' x v) (motive_2:=fun l vs O=>IsAll ad h' l vs) .none .bool .int .str
  (fun e c dd n O r=>.tup (k _ _ (fun q=>((de _ (q▸e)).1 _ _ dd).1 c) (fun q=>((d _ (q▸e)).1 _ _ dd).1 c) e) c dd n r)
  (fun e c dd n O r=>.mat (k _ _ (fun q=>((de _ (q▸e)).1 _ _ dd).2.1 c) (fun q=>((d _ (q▸e)).1 _ _ dd).2.1 c) e) c dd n r)
  (fun e c q dd n O r=>.lst (k _ _ (fun q=>((de _ (q▸e)).1 _ _ dd).2.2 c) (fun q=>((d _ (q▸e)).1 _ _ dd).2.2 c) e) c q dd n r)
  (fun e n=>.rng (k _ _ (fun q=>((de _ (q▸e)).2 _ rfl).1 rfl) (fun q=>((d _ (q▸e)).2 _ rfl).1 rfl) e) n) .raw .nil (fun O O a r=>.cons a r) i
theorem IsAll.but2{ad:List Addr}{h h':Heap}{e it:Addr}(de:∀o,h.get? e=some o→AG o)(d:∀o,h.get? it=some o→AG o)(k:B7 e it h h'){x:List PV}{v:List Value}(i:IsAll ad h x v):IsAll ad h' x v:=
 i.ind .nil fun a O r=>.cons (a.but2 de d k) r
theorem Eh.but2{ad:List Addr}{h h':Heap}{e it c:Addr}{q:Str}(de:∀o,h.get? e=some o→AG o)(d:∀o,h.get? it=some o→AG o)(k:B7 e it h h')(x:Eh ad h q c):Eh ad h' q c:=by
 obtain⟨n,oc,vs,t,eo,dd,cl,r⟩:=x;exact⟨n,oc,vs,t,k _ _ (fun q=>((de _ (q▸eo)).2 _ dd).2 cl) (fun q=>((d _ (q▸eo)).2 _ dd).2 cl) eo,dd,cl,r⟩
theorem Bf.but2{ad:List Addr}{h h':Heap}{e it:Addr}(de:∀o,h.get? e=Option.some o→AG o)(d:∀o,h.get? it=Option.some o→AG o)(k:B7 e it h h'){x:Option PV}{v:Option Value}(i:Bf ad h x v):Bf ad h' x v:=by
 cases i with
 | none=>exact .none
 | some a=>exact .some (a.but2 de d k)
theorem B8.but2{ad:List Addr}{h h':Heap}{e it:Addr}(de:∀o,h.get? e=Option.some o→AG o)(d:∀o,h.get? it=Option.some o→AG o)(k:B7 e it h h'){x:Option PV}{v:Option Value}(i:B8 ad h x v):B8 ad h' x v:=fun y q=>Exists.elim (i y q) fun u q=>⟨u,q.1,q.2.but2 de d k⟩
theorem IsO.but2{X:Cx}{ad:List Addr}{h h':Heap}{a e0 it:Addr}{p:PO}(de:∀o,h.get? e0=Option.some o→AG o)(d:∀o,h.get? it=Option.some o→AG o)(k:B7 e0 it h h')(e:h'.get? a=h.get? a)(x:IsO X ad h a p):IsO X ad h' a p:=by
 cases p with
 | list l=>obtain⟨vs,p,q⟩:=x;exact⟨vs,PlainList.of_get e p,q.but2 de d k⟩
 | ns m=>obtain⟨f,p,q⟩:=x;exact⟨f,Ns.of_get e p,fun y=>(q y).but2 de d k⟩
 | fld n m=>obtain⟨f,p,z,q⟩:=x;exact⟨f,Ns.of_get e p,fun o es ep h1 h2=>z o es ep (e▸h1) h2,fun y=>(q y).but2 de d k⟩
 | cell v=>obtain⟨v',⟨o,ho,r⟩,q⟩:=x;exact⟨v',⟨o,e▸ho,r⟩,q.but2 de d k⟩
 | dictS n f=>obtain⟨g,p,z,q⟩:=x;exact⟨g,by obtain⟨o,r⟩:=p;exact⟨o,by rw[e];exact r⟩,fun o es ep h1 h2=>z o es ep (e▸h1) h2,fun y=>(q y).but2 de d k⟩
 | dictI n f=>obtain⟨g,p,z,q⟩:=x;exact⟨g,by obtain⟨o,r⟩:=p;exact⟨o,by rw[e];exact r⟩,fun o es ep h1 h2=>z o es ep (e▸h1) h2,fun y=>(q y).but2 de d k⟩
 | set0=>obtain⟨o,es,ep,t,ho,r⟩:=x;exact⟨o,es,ep,t,e▸ho,r⟩
 | inst C d=>obtain⟨o,ho,r⟩:=x;exact⟨o,e▸ho,r⟩
 | ext P=>obtain⟨o,ho,r⟩:=x;exact⟨o,e▸ho,r⟩
 | iter y P=>obtain⟨o,v,ho,i,r⟩:=x;exact⟨o,v,e▸ho,i.but2 de d k,r⟩
 | tab q=>obtain⟨ps,ho,t,r⟩:=x;exact⟨ps,e▸ho,t,fun pos cv hc=>by obtain⟨c,e1,i⟩:=r pos cv hc;exact⟨c,e1,i.but2 de d k⟩⟩
 | lam f q=>obtain⟨o,c,ho,dd,cl,r⟩:=x;exact⟨o,c,e▸ho,dd,cl,r.but2 de d k⟩
theorem St.iter2{X:Cx}{σ:PS}{s s':Shared}{e it:Addr}(x:St X σ s)(ne:e∉ads σ.own)(hn:it∉ads σ.own)(ez:∀o,(Mine.hq X.w.params).get? e≠some o)(hzn:∀o,(Mine.hq X.w.params).get? it≠some o)(de:∀o,s.heap.get? e=some o→AG o)(d:∀o,s.heap.get? it=some o→AG o)(k:B7 e it s.heap s'.heap)(eg:s'.gens=s.gens)(eo:s'.os=s.os):St X σ s':=by
 refine⟨fun b ob h=>?_,x.nodup,fun a p hp=>?_,eg.trans x.gens,eo.trans x.os⟩
 ·obtain⟨u,n⟩:=x.stat b ob h
  exact⟨k b ob (fun q=>ez ob (q▸h)) (fun q=>hzn ob (q▸h)) u,n⟩
 ·obtain⟨ob,ho⟩:=(x.own a p hp).some
  have hm:a∈ads σ.own:=List.mem_map.mpr ⟨(a,p),hp,rfl⟩;exact(x.own a p hp).but2 de d k ((k a ob (fun q=>ne (q▸hm)) (fun q=>hn (q▸hm)) ho).trans ho.symm)
theorem FT{it:Addr}{i:Int}{x y:Value}:AG {cls:=.type "enumerate",dict:=none,data:=.fields #[x,.bool false,.ref it,rawInt i,.none,y],slots:= #[]}:=
 AG.of_cls (by(show Value.type "enumerate"≠_∧Value.type "enumerate"≠_∧Value.type "enumerate"≠_∧Value.type "enumerate"≠_∧Value.type "enumerate"≠_);decide)
theorem JC{h:Heap}{it a:Addr}{i:Nat}(x:h.IsListIter it a i):∀o,h.get? it=some o→AG o:=fun o e=>by
 obtain⟨o',e',hc,_⟩:=x;rw[e]at e';cases e'
 refine AG.of_cls ⟨?_,?_,?_,?_,?_⟩<;>rw[hc]<;>decide
theorem R2{elts:List Expr}{k:Nat}{tpos:Pos}{iter:Expr}{body:List Stmt}{pos:Pos}(hh:A.handled=none)(h:∀s,St X σ s→wpAny (md X) A (eval iter env) (Po X (R6 X σ s) (fun x σ₁=>∃(l:List PV) (I:Nat→List PV→PS→Prop),(∀i r σ,I i r σ→LstV σ x l)∧I 0 l σ₁∧(∀i v r σ,I i (v::r) σ→TG X A env (.Tuple elts k tpos) (.tup [.int i,v]) (fun O σ'=>WF X A (execs body env) (Br (fun(_:Unit)=>I (i+1) r) () P) σ') σ)∧(∀i σ,I i [] σ→P .next σ)) σ s) NoE s)(hs:∀x,foldedSetIterable iter env x=pure x):WF X A (exec (.For (.Tuple elts k tpos) iter body [] pos) env) P σ:=fun s hst=>by
 refine wpAny_For (wpAny_mono (h s hst) (fun vx s₁ hx=>?_) fun O O e=>e.elim) hs;obtain⟨x,σ₁,ix,t₁,k₁,l,I,hsrc,h0,step,fin⟩:=hx;obtain⟨e,it,a,rfl,hen,hit,hne,ne,ni,ez,iz,ixa,fe,fi⟩:=ix;refine wpAny_pyIter_enum hen ?_
 refine codeAny_forLoop_any (fun n s'=>∃(i:Nat) (old:Value) (σ':PS),n=l.length+1-i∧i≤l.length∧I i (l.drop i) σ'∧St X σ' s'∧IsEnum s'.heap e it i old∧s'.heap.IsListIter it a i∧e∉ads σ'.own∧it∉ads σ'.own∧Is (ads σ'.own) s'.heap x (.ref a)∧Al σ s σ' s') ?_ (l.length+1)
  ⟨0,.none,σ₁,rfl,Nat.zero_le _,h0,t₁,hen,hit,ne,ni,ixa,k₁⟩
 rintro n s' ⟨i,old,σ',rfl,hi,hI,t,hen,hit,ne,ni,ixa,kk⟩
 have de:∀o,s'.heap.get? e=some o→AG o:=fun o eo=>by rw[hen]at eo;cases eo;exact FT
 have di:=JC hit;obtain⟨a',vs,ea,_,il,hil⟩:=(hsrc _ _ _ hI).at t ixa
 cases ea
 cases hv:l[i]? with
 | none=>
  refine wpAny_pyNext_enum_end (i:=i) hh hen hit hil (by rw[List.getElem?_toArray];exact List.getElem?_eq_none (by rw[il.length];exact List.getElem?_eq_none_iff.mp hv)) fun h' hk=>wpAny_execs_nil ?_;have kb:B7 e it s'.heap h':=fun b o h1 h2 h3=>hk b o h2 h3;have t':=t.iter2 (s':={s' with heap:=h'}) ne ni ez iz de di kb rfl rfl
  have hil':i=l.length:=by have:=List.getElem?_eq_none_iff.mp hv;exact a44 hi this
  subst hil';rw[List.drop_length]at hI;refine⟨_,σ',.next,t',fun b o h1 h2=>?_,fin _ _ hI⟩;have:=kk b o h1 h2;exact⟨kb b o (fun q=>h2 (q▸fe o (q▸h1))) (fun q=>h2 (q▸fi o (q▸h1))) this.1,this.2⟩
 | some v=>
  have hlt:i<l.length:=(List.getElem?_eq_some_iff.mp hv).1;obtain⟨va,hva,iva⟩:=il.get hv;refine wpAny_pyNext_enum_item hen hit hil (x:=va) (by simpa using hva) hne fun h₁ heo hit₁ ht₁ hz₁ hk₁=>?_;refine wpAny_letOwnedTupleGo_enum heo fun h₂ he₂ hs₂=>?_;have kb1:B7 e it s'.heap h₁:=hk₁;have t₁':=t.iter2 (s':={s' with heap:=h₁,toks:=s'.toks+1}) ne ni ez iz de di kb1 rfl rfl
  have de₁:∀o,h₁.get? e=some o→AG o:=fun o eo=>by rw[heo]at eo;cases eo;exact FT
  have di₁:=JC hit₁;have kb2:B7 e it h₁ h₂:=fun b o h1 h2 h3=>(hs₂.2 b h1).trans h3;have t₂:=t₁'.iter2 (s':={s' with heap:=h₂,toks:=s'.toks+1}) ne ni ez iz de₁ di₁ kb2 rfl rfl;have hit₂:h₂.IsListIter it a (i+1):=hit₁.extBut hs₂.extBut hne.symm;have old2:B7 e it s'.heap h₂:=fun b o h1 h2 h3=>kb2 b o h1 h2 (kb1 b o h1 h2 h3);have ixa₂:Is (ads σ'.own) h₂ x (.ref a):=(ixa.but2 de di kb1).but2 de₁ di₁ kb2;have iva₂:Is (ads σ'.own) h₂ v va:=(iva.but2 de di kb1).but2 de₁ di₁ kb2;have hTe:s'.heap.objs.size≠e:=(Nat.ne_of_lt (Heap.lt_size hen)).symm;have htu:h₂.get? s'.heap.objs.size=some {cls:=.type "tuple",data:=.seq #[.int i s'.toks,va]}:=(hs₂.2 _ hTe).trans ht₁;have itu:Is (ads σ'.own) h₂ (.tup [.int i,v]) (.ref s'.heap.objs.size):=.tup (vs:=[.int i s'.toks,va]) htu rfl rfl t.off (.cons (.int _ _) (.cons iva₂ .nil))
  have k₂:Al σ s σ' {s' with heap:=h₂,toks:=s'.toks+1}:=fun b o h1 h2=>by
   have:=kk b o h1 h2;exact⟨old2 b o (fun q=>h2 (q▸fe o (q▸h1))) (fun q=>h2 (q▸fi o (q▸h1))) this.1,this.2⟩
  rw[A0 hv]at hI;refine(step i v _ σ' hI).run t₂ itu fun O s₃ O σ₃ O t₃ k₃ q=>?_;refine W.run q t₃ fun f s₄ f' σ₄ i₄ t₄ k₄ q=>?_;have k34:=k₃.trans k₄;have kend:=k₂.trans k34;have le:=k34 e _ he₂ ne;obtain⟨oi,hoi,ri⟩:=id hit₂;have li:=k34 it oi hoi ni
  have again:I (i+1) (l.drop (i+1)) σ₄→∃m,m<l.length+1-i∧∃(i:Nat) (old:Value) (σ':PS),m=l.length+1-i∧i≤l.length∧I i (l.drop i) σ'∧St X σ' s₄∧IsEnum s₄.heap e it i old∧s₄.heap.IsListIter it a i∧e∉ads σ'.own∧it∉ads σ'.own∧Is (ads σ'.own) s₄.heap x (.ref a)∧Al σ s σ' s₄:=fun hI=>
   ⟨l.length+1-(i+1),by exact a45 hlt,i+1,va,σ₄,rfl,hlt,hI,t₄,le.1,⟨oi,li.1,ri⟩,le.2,li.2,ixa₂.keep k34,kend⟩
  cases i₄ with
  | next=>exact again q
  | cont=>exact again q
  | brk=>exact⟨_,_,.next,t₄,kend,q⟩
  | ret i=>exact⟨_,_,.ret i,t₄,kend,q⟩
end
end
section
open PySem PySem.W PyProof.Rows PySem.Calls
theorem Re(P:Params):(hq P).get? 22=some (Ow pw P):=Aa P 22 _ (by decide) (by kernel_rfl) rfl
theorem IH(P:Params):(hq P).get? 28=some (Ov pw P):=Aa P 28 _ (by decide) (by kernel_rfl) rfl
theorem Mj(P:Params):(hq P).get? 29=some (Lo pw P):=Aa P 29 _ (by decide) (by kernel_rfl) rfl
theorem Rd(P:Params):(hq P).get? 89=some (Ou pw P):=Aa P 89 _ (by decide) (by kernel_rfl) rfl
theorem Rc(P:Params):(hq P).get? 90=some (Jb pw P):=Aa P 90 _ (by decide) (by kernel_rfl) rfl
theorem Rb(P:Params):(hq P).get? 96=some (Ot pw P):=Aa P 96 _ (by decide) (by kernel_rfl) rfl
theorem Ra(P:Params):(hq P).get? 97=some (Ja pw P):=Aa P 97 _ (by decide) (by kernel_rfl) rfl
theorem NM(P:Params):(hq P).get? 161=some (LG pw P):=Aa P 161 _ (by decide) (by kernel_rfl) rfl
theorem NL(P:Params):(hq P).get? 167=some (LE pw P):=Aa P 167 _ (by decide) (by kernel_rfl) rfl
theorem NK(P:Params):(hq P).get? 168=some (E9 pw P):=Aa P 168 _ (by decide) (by kernel_rfl) rfl
theorem NJ(P:Params):(hq P).get? 174=some (LD pw P):=Aa P 174 _ (by decide) (by kernel_rfl) rfl
theorem J5(P:Params):(hq P).get? 175=some (Gp pw P):=Aa P 175 _ (by decide) (by kernel_rfl) rfl
theorem NI(P:Params):(hq P).get? 181=some (LC pw P):=Aa P 181 _ (by decide) (by kernel_rfl) rfl
theorem J4(P:Params):(hq P).get? 182=some (Go pw P):=Aa P 182 _ (by decide) (by kernel_rfl) rfl
theorem NH(P:Params):(hq P).get? 188=some (LB pw P):=Aa P 188 _ (by decide) (by kernel_rfl) rfl
theorem J3(P:Params):(hq P).get? 189=some (Gn pw P):=Aa P 189 _ (by decide) (by kernel_rfl) rfl
theorem NG(P:Params):(hq P).get? 195=some (L9 pw P):=Aa P 195 _ (by decide) (by kernel_rfl) rfl
theorem J2(P:Params):(hq P).get? 196=some (Gm pw P):=Aa P 196 _ (by decide) (by kernel_rfl) rfl
theorem NF(P:Params):(hq P).get? 197=some (L8 pw P):=Aa P 197 _ (by decide) (by kernel_rfl) rfl
theorem NE(P:Params):(hq P).get? 203=some (L7 pw P):=Aa P 203 _ (by decide) (by kernel_rfl) rfl
theorem J1(P:Params):(hq P).get? 204=some (E8 pw P):=Aa P 204 _ (by decide) (by kernel_rfl) rfl
theorem ND(P:Params):(hq P).get? 210=some (L6 pw P):=Aa P 210 _ (by decide) (by kernel_rfl) rfl
theorem J0(P:Params):(hq P).get? 211=some (Gl pw P):=Aa P 211 _ (by decide) (by kernel_rfl) rfl
theorem NC(P:Params):(hq P).get? 217=some (L5 pw P):=Aa P 217 _ (by decide) (by kernel_rfl) rfl
theorem Jz(P:Params):(hq P).get? 218=some (Gk pw P):=Aa P 218 _ (by decide) (by kernel_rfl) rfl
theorem NB(P:Params):(hq P).get? 219=some (L4 pw P):=Aa P 219 _ (by decide) (by kernel_rfl) rfl
theorem NA(P:Params):(hq P).get? 225=some (L3 pw P):=Aa P 225 _ (by decide) (by kernel_rfl) rfl
theorem Jy(P:Params):(hq P).get? 226=some (E7 pw P):=Aa P 226 _ (by decide) (by kernel_rfl) rfl
theorem N9(P:Params):(hq P).get? 260=some (L2 pw P):=Aa P 260 _ (by decide) (by kernel_rfl) rfl
theorem GD(P:Params):(hq P).get? 261=some (L1 pw P):=Aa P 261 _ (by decide) (by kernel_rfl) rfl
theorem N8(P:Params):(hq P).get? 262=some (Lz pw P):=Aa P 262 _ (by decide) (by kernel_rfl) rfl
theorem GC(P:Params):(hq P).get? 268=some (Ly pw P):=Aa P 268 _ (by decide) (by kernel_rfl) rfl
theorem Jx(P:Params):(hq P).get? 269=some (Iv pw P):=Aa P 269 _ (by decide) (by kernel_rfl) rfl
theorem N7(P:Params):(hq P).get? 275=some (Lx pw P):=Aa P 275 _ (by decide) (by kernel_rfl) rfl
theorem Jw(P:Params):(hq P).get? 276=some (Iu pw P):=Aa P 276 _ (by decide) (by kernel_rfl) rfl
theorem N6(P:Params):(hq P).get? 282=some (Lw pw P):=Aa P 282 _ (by decide) (by kernel_rfl) rfl
theorem Ek(P:Params):(hq P).get? 283=some (Lu pw P):=Aa P 283 _ (by decide) (by kernel_rfl) rfl
theorem N5(P:Params):(hq P).get? 289=some (Ls pw P):=Aa P 289 _ (by decide) (by kernel_rfl) rfl
theorem Jv(P:Params):(hq P).get? 290=some (Lr pw P):=Aa P 290 _ (by decide) (by kernel_rfl) rfl
theorem G9(P:Params):(hq P).get? 296=some (Lq pw P):=Aa P 296 _ (by decide) (by kernel_rfl) rfl
theorem Ju(P:Params):(hq P).get? 297=some (Lp pw P):=Aa P 297 _ (by decide) (by kernel_rfl) rfl
theorem N4(P:Params):(hq P).get? 301=some (Ln pw P):=Aa P 301 _ (by decide) (by kernel_rfl) rfl
theorem G8(P:Params):(hq P).get? 302=some (Lm pw P):=Aa P 302 _ (by decide) (by kernel_rfl) rfl
theorem N3(P:Params):(hq P).get? 306=some (Ll pw P):=Aa P 306 _ (by decide) (by kernel_rfl) rfl
theorem Jt(P:Params):(hq P).get? 307=some (Lk pw P):=Aa P 307 _ (by decide) (by kernel_rfl) rfl
theorem N1(P:Params):(hq P).get? 311=some (Lj pw P):=Aa P 311 _ (by decide) (by kernel_rfl) rfl
theorem Js(P:Params):(hq P).get? 312=some (Li pw P):=Aa P 312 _ (by decide) (by kernel_rfl) rfl
theorem N0(P:Params):(hq P).get? 316=some (Lh pw P):=Aa P 316 _ (by decide) (by kernel_rfl) rfl
theorem G7(P:Params):(hq P).get? 317=some (Lg pw P):=Aa P 317 _ (by decide) (by kernel_rfl) rfl
theorem Nz(P:Params):(hq P).get? 321=some (Lf pw P):=Aa P 321 _ (by decide) (by kernel_rfl) rfl
theorem Jr(P:Params):(hq P).get? 322=some (Ld pw P):=Aa P 322 _ (by decide) (by kernel_rfl) rfl
theorem Ny(P:Params):(hq P).get? 326=some (Lb pw P):=Aa P 326 _ (by decide) (by kernel_rfl) rfl
theorem Nx(P:Params):(hq P).get? 327=some (La pw P):=Aa P 327 _ (by decide) (by kernel_rfl) rfl
end
section
open PySem PySem.W PyProof.Rows PySem.Calls PySem.SeqAt PySem.MeetsSeq Builtin Builtin.ObjectAttr
theorem W_Assign1{X:Cx}{A:Around}{env:Env}{σ:PS}{P:PF→PS→Prop}{t:Expr}{pos:Pos}{value:Expr}(ht:(assignEach [t] env).map (·.2)=[assign t env])(h:WV X A (eval value env) (fun v σ₁=>TG X A env t v (fun O σ₂=>P .next σ₂) σ₁) σ)(hs:swapsWithSole [t] value pos.line env=pure false)(hw:swappedStores [t] value env=pure none):WF X A (exec (.Assign [t] value pos) env) P σ:=
 Fa (W.mono h fun v σ q=>by rw[ht];exact TA_one q) hs hw
theorem W_Assign2{X:Cx}{A:Around}{env:Env}{σ:PS}{P:PF→PS→Prop}{t t':Expr}{pos:Pos}{value:Expr}(ht:(assignEach [t,t'] env).map (·.2)=[assign t env,assign t' env])(h:WV X A (eval value env) (fun v σ₁=>TG X A env t v (fun O σ₂=>TG X A env t' v (fun O σ₃=>P .next σ₃) σ₂) σ₁) σ)(hs:swapsWithSole [t,t'] value pos.line env=pure false)(hw:swappedStores [t,t'] value env=pure none):WF X A (exec (.Assign [t,t'] value pos) env) P σ:=
 Fa (W.mono h fun v σ q=>by
  rw[ht];refine TA_cons (fun s va hs i=>?_)
  exact wpAny_mono (q s va hs i) (fun O O p=>p.mono fun O O q=>TA_one q) fun O O e=>e) hs hw
noncomputable def Cn(X:Cx)(σ σ':PS):Prop:=∀s,St X σ s→St X σ' s∧Al σ s σ' s
theorem W.view{α β:Type}{X:Cx}{A:Around}{R:List Addr→Heap→β→α→Prop}{t:Sem α}{Q:β→PS→Prop}{σ σ':PS}(v:Cn X σ σ')(h:W X A R t Q σ'):W X A R t Q σ:=
 fun s hs=>wpAny_mono (h s (v s hs).1) (fun O O p=>p.from (v s hs).2) fun O O e=>e
theorem Cn.trans{X:Cx}{a b c:PS}(x:Cn X a b)(y:Cn X b c):Cn X a c:=fun s hs=>
 ⟨(y s (x s hs).1).1,(x s hs).2.trans (y s (x s hs).1).2⟩
theorem Cn.drop{X:Cx}{o o':Own}{g:Array GenState}(p:o'.Sublist o):Cn X ⟨o,g⟩ ⟨o',g⟩:=fun s hs=>hs.drop p
theorem Cn.perm{X:Cx}{o o':Own}{g:Array GenState}(p:o.Perm o'):Cn X ⟨o,g⟩ ⟨o',g⟩:=fun s hs=>hs.perm p
theorem Cn.freezeDict{X:Cx}{d:Addr}{n:Nat}{f f':Str→Option PV}{ls o:Own}{g:Array GenState}(hf:∀x,(f x=none∧f' x=none)∨∃a l,f x=some (.raw (.ref a))∧(a,.list l)∈ls∧f' x=some (.lst l)):Cn X ⟨(d,.dictS n f)::(ls++o),g⟩ ⟨(d,.dictS n f')::o,g⟩:=fun s hs=>by
 have sub:((d,PO.dictS n f)::o).Sublist ((d,PO.dictS n f)::(ls++o)):=(List.sublist_append_right _ _).cons₂ _;obtain⟨t,k⟩:=hs.drop sub;refine⟨⟨t.stat,t.nodup,fun b r hr=>?_,t.gens,t.os⟩,k⟩
 rcases List.mem_cons.mp hr with e| hr
 ·cases e
  obtain⟨m,hmap,hz,hv⟩:=t.own _ _ (List.mem_cons_self);refine⟨m,hmap,hz,fun x=>?_⟩;have i:=hv x
  rcases hf x with⟨e1,e2⟩| ⟨a,l,e1,hm,e2⟩
  ·rw[e1]at i;rw[e2];cases hmx:m x with
   | none=>exact .none
   | some y=>rw[hmx]at i;cases i
  ·rw[e1]at i;rw[e2]
   cases hmx:m x with
   | none=>rw[hmx]at i;cases i
   | some y=>
    rw[hmx]at i
    cases i with
    | some i=>
     cases i
     obtain⟨vs,⟨nn,ho⟩,q⟩:=hs.own a (.list l) (.tail _ (List.mem_append_left _ hm));refine .some (.lst ho rfl rfl rfl ?_ (q.keep k));intro hm';have nd:=hs.nodup;simp only[ads,List.map_cons,List.map_append,List.nodup_cons,List.mem_append,not_or,List.nodup_append]at nd hm';have ha:a∈ls.map Prod.fst:=List.mem_map.mpr ⟨_,hm,rfl⟩
     rcases List.mem_cons.mp hm' with rfl| hm'
     ·exact nd.1.1 ha
     ·exact nd.2.2.2 _ ha _ hm' rfl
 ·exact t.own b r (.tail _ hr)
noncomputable def SgP(X:Cx)(A:Around)(c:Code)(t:Sem PySem.Fin)(fs:List Frame)(Φ:End→Shared→Prop)(s:Shared):Prop:=
 ∀Γ p,Γ.code=c→Γ.Woken A→∃e s',Runs (md X) Γ p t fs s e s'∧Φ e s'
section
variable {X:Cx}{A:Around}{c:Code}{fs:List Frame}{Φ:End→Shared→Prop}{s:Shared}
theorem KS{B:Around}{t:Sem PySem.Fin}(le:Around.Le A B)(h:SgP X B c t fs Φ s):SgP X A c t fs Φ s:=fun Γ p hc hΓ=>
 h Γ p hc ⟨⟨hΓ.1.1.trans le.h,Nat.le_trans hΓ.1.2.1 le.d,fun l hl=>by rw[le.f]at hl;(cases hl),fun l hl=>by rw[le.g]at hl;(cases hl),Nat.le_trans hΓ.1.2.2.2.2 le.u⟩,hΓ.2⟩
theorem Cr{α:Type}{m:Sem α}{K:α→Sem PySem.Fin}{H:Value→Sem PySem.Fin}{gd lv}(h:wpAny (md X) (A.over c fs) m (fun a s'=>SgP X A c (K a) fs Φ s') (fun x s'=>SgP X A c (H x) fs Φ s') s):SgP X A c (m.wrap K H gd lv) fs Φ s:=by
 rintro Γ p rfl hΓ;exact runs_wrap_of_wp K H gd lv m (h (Γ.over fs) p (hΓ.over fs)) (fun a p' s' h'=>h' Γ p' rfl hΓ) (fun x p' s' h'=>h' Γ p' rfl hΓ)
theorem Ag{α β:Type}{m:Sem α}{K:α→Sem β}{K':β→Sem PySem.Fin}{H':Value→Sem PySem.Fin}{gd lv}(h:wpAny (md X) (A.over c fs) m (fun a s'=>SgP X A c ((K a).wrap K' H' gd lv) fs Φ s') (fun x s'=>SgP X A c (H' x) fs Φ s') s):SgP X A c ((m >>= K).wrap K' H' gd lv) fs Φ s:=by
 rw[Sem.bind_eq_wrap',Sem.wrap_wrap];exact Cr h
theorem OT{p':Pos}{k:Unit→Sem PySem.Fin}(h:SgP X A c (k ()) fs Φ s):SgP X A c (.at p' k) fs Φ s:=
 Cr (m:=standAt p') (K:=k) (H:=.raise) (gd:=id) (lv:=id) (wpAny_standAt h)
theorem JU{l:List Value}{k:Unit→Sem PySem.Fin}(h:SgP X A c (k ()) fs Φ s):SgP X A c (.point l k) fs Φ s:=
 Cr (m:=point) (K:=k) (H:=.raise) (gd:=id) (lv:=fun O=>l) (wpAny_point h)
theorem Hj{c':Code}{h g l}{k:Result→Sem PySem.Fin}(hc:∀p,SgP X A c' ((md X).den c') (.ret k h g l c p []::fs) Φ s):SgP X A c (.call c' h g l k) fs Φ s:=by
 rintro Γ p rfl hΓ;obtain⟨e,s',hr,he⟩:=hc p (Γ.goto c') p rfl (hΓ.goto c');exact⟨e,s',runs_call_seg hr,he⟩
theorem Hi{k h g l c₁ p₁ kp}(r:Result)(hk:SgP X A c₁ (k r) fs Φ s):SgP X A c (leafOf r) (.ret k h g l c₁ p₁ kp::fs) Φ s:=by
 rintro Γ p rfl hΓ;obtain⟨e,s',hr,he⟩:=hk (Γ.goto c₁) p₁ rfl (hΓ.goto c₁);exact⟨e,s',Runs.pop r hr,he⟩
theorem DD{c':Code}(hq:c'.quiet=true)(hc:SgP X A c' ((md X).den c') fs Φ s):SgP X A c (.pure (.again c')) fs Φ s:=by
 rintro Γ p rfl hΓ;obtain⟨e,s',hr,he⟩:=hc (Γ.goto c') p rfl (hΓ.goto c');exact⟨e,s',Runs.head (c₁:=c') (fun O O x=>.again hq x) hr,he⟩
theorem MV(r:Result)(h:Φ (.ret r) s):SgP X A c (leafOf r) [] Φ s:=by
 rintro Γ p rfl _;exact⟨.ret r,s,Runs.leaf r,h⟩
theorem JT{v g l}{k:Resume→Sem PySem.Fin}(hfs:splitAtGen fs=none)(h:∀p,Φ (.susp v g l k c p fs) s):SgP X A c (.yield v g l k) fs Φ s:=by
 rintro Γ p rfl _;exact⟨_,s,Runs.yield' fs hfs,h _⟩
end
structure Ap (G G':Array GenState):Prop where
 old:∀i,i<G.size→G'[i]? =G[i]?
 bare:AllBare G→AllBare G'
theorem Ap.refl(G:Array GenState):Ap G G:=⟨fun O O=>rfl,id⟩
theorem Ap.size{G G':Array GenState}(x:Ap G G'):G.size≤G'.size:=by
 by_cases h:G.size=0
 ·exact Xq h
 ·have h2:=x.old (G.size-1) (by exact a79 h)
  have h3:G[G.size-1]? =some (G[G.size-1]'(by exact a79 h)):=Array.getElem?_eq_getElem (by exact a79 h);rw[h3]at h2;have h4:=(Array.getElem?_eq_some_iff.mp h2).1;exact Xp h4
theorem Ap.trans{a b c:Array GenState}(x:Ap a b)(y:Ap b c):Ap a c:=
 ⟨fun i h=>(y.old i (Nat.lt_of_lt_of_le h x.size)).trans (x.old i h),fun h=>y.bare (x.bare h)⟩
noncomputable def MN(X:Cx)(A:Around)(G₀:Array GenState):List PV→Own→Own→Shared→End→Shared→Prop
 | [],o,gp₀,s₀,e,s'=>e=.ret (.ok (.ret .none))∧∃G',St X ⟨o,G'⟩ s'∧Ad (ads (gp₀++o)) s₀.heap (ads o) s'.heap∧Ap G₀ G'
 | v::vs,o,gp₀,s₀,e,s'=>∃u l k c p fs,e=.susp u false l k c p fs∧fs.any Frame.guarded=false∧∃gp' G',St X ⟨gp'++o,G'⟩ s'∧Is (ads (gp'++o)) s'.heap v u∧
   Ad (ads (gp₀++o)) s₀.heap (ads (gp'++o)) s'.heap∧Ap G₀ G'∧∀o'' s'',St X ⟨gp'++o'',G'⟩ s''→SgP X A c (k (.send .none)) fs (fun e s=>MN X A G₀ vs o'' gp' s'' e s) s''
noncomputable def Gz(X:Cx)(A:Around)(G₀:Array GenState)(gs:GenState)(vs:List PV)(gp:Own)(G:Array GenState):Prop:=
 ∀o s,St X ⟨gp++o,G⟩ s→match gs with
  | .fresh c=>SgP X A c ((md X).den c) [] (MN X A G₀ vs o gp s) s
  | .suspended k _ c _ fs _=>SgP X A c (k (.send .none)) fs (MN X A G₀ vs o gp s) s
  | _=>False
noncomputable def GS(X:Cx)(A:Around)(G₀:Array GenState)(c:Code)(fs:List Frame)(t:Sem PySem.Fin)(vs:List PV)(o gp:Own)(G:Array GenState):Prop:=
 ∀s,St X ⟨gp++o,G⟩ s→∀gp₀ s₀,Ad (ads (gp₀++o)) s₀.heap (ads (gp++o)) s.heap→SgP X A c t fs (MN X A G₀ vs o gp₀ s₀) s
theorem St.withGens {X:Cx} {o:Own} {G G':Array GenState} {s:Shared} (x:St X ⟨o,G⟩ s):St X ⟨o,G'⟩ {s with gens:=G'}:=
 ⟨x.stat,x.nodup,x.own,rfl,x.os⟩
section
variable {X:Cx}{A:Around}{G₀:Array GenState}{c:Code}{fs:List Frame}{vs:List PV}{o gp:Own}{G:Array GenState}
theorem KV{A':Around}{s:Shared}{g:Nat}{gs:GenState}{l:List Value}{α:Type}{k:GenResult→Sem α}{Q:α→Shared→Prop}{E:Value→Shared→Prop}(le:Around.Le A' A)(hs:St X ⟨gp++o,s.gens⟩ s)(hg:s.gens[g]? =some gs)(hz:Gz X A G₀ gs vs gp (s.gens.setIfInBounds g .running))(hR:vs=[]→∀s₁ G',St X ⟨o,G'⟩ s₁→Ad (ads (gp++o)) s.heap (ads o) s₁.heap→Ap G₀ G'→wpAny (md X) A' (k (.returned .none)) Q E (s₁.setGen g .finished))(hY:∀v vs',vs=v::vs'→∀u s₁ gs' gp' G',gs'.bare=true→(∃k l c p fs cl,gs'=.suspended k l c p fs cl)→St X ⟨gp'++o,G'⟩ s₁→Is (ads (gp'++o)) s₁.heap v u→Ad (ads (gp++o)) s.heap (ads (gp'++o)) s₁.heap→Ap G₀ G'→Gz X A G₀ gs' vs' gp' G'→wpAny (md X) A' (k (.yielded u)) Q E (s₁.setGen g gs')):wpAny (md X) A' (.resume g (.send .none) l k) Q E s:=by
 intro Γ p hΓ;rw[Sem.wp_resume];have hB:∀c,(Γ.wake c p).Woken A':=fun c=>hΓ.wake c p;have hs':St X ⟨gp++o,s.gens.setIfInBounds g .running⟩ (s.setGen g .running):=hs.withGens
 have fin:∀e₁ s₁,MN X A G₀ vs o gp (s.setGen g .running) e₁ s₁→
   Sem.wp (md X) Γ (k e₁.result) (fun a O s'=>Q a s') (fun e O s'=>E e s') p (s₁.setGen g e₁.genState)∧e₁.quiet=true:=by
  intro e₁ s₁ he
  cases vs with
  | nil=>
   obtain⟨rfl,G',t,ke,ge⟩:=he;exact⟨hR rfl s₁ G' t ke ge Γ p hΓ,rfl⟩
  | cons v vs'=>
   obtain⟨u,l₁,k₁,c₁,p₁,fs₁,rfl,hfg,gp',G',t,iv,ke,ge,more⟩:=he
   have hq:(End.susp u false l₁ k₁ c₁ p₁ fs₁).quiet=true:=by simp[End.quiet,hfg]
   refine⟨hY v vs' rfl u s₁ _ gp' G' (End.bare_of_quiet hq) ⟨_,_,_,_,_,_,rfl⟩ t iv ke ge (fun o s h=>more o s h) Γ p hΓ,hq⟩
 have hz':=hz o _ hs'
 cases gs with
 | fresh c=>
  obtain⟨e₁,s₁,hr,he⟩:=KS le hz' (Γ.wake c p) p rfl (hB c);exact⟨_,_,by unfold Wakes;rw[hg];exact⟨e₁,s₁,hr,(fin e₁ s₁ he).2,rfl,rfl⟩,(fin e₁ s₁ he).1⟩
 | suspended k₀ l₀ c₀ p₀ fs₀ cl=>
  obtain⟨e₁,s₁,hr,he⟩:=KS le hz' (Γ.wake c₀ p) p₀ rfl (hB c₀);exact⟨_,_,by unfold Wakes;rw[hg];exact⟨e₁,s₁,hr,(fin e₁ s₁ he).2,rfl,rfl⟩,(fin e₁ s₁ he).1⟩
 | running=>exact hz'.elim
 | finished=>exact hz'.elim
theorem MW{g:Nat}{G':Array GenState}{gs:GenState}(h:G'[g]? =some .running):(G'.setIfInBounds g gs).setIfInBounds g .running=G':=by
 obtain⟨hg,e⟩:=Array.getElem?_eq_some_iff.mp h;apply Array.ext
 ·simp
 ·intro i h1 h2
  by_cases hi:g=i
  ·subst hi;simp[e]
  ·rw[Array.getElem_setIfInBounds,if_neg hi,Array.getElem_setIfInBounds,if_neg hi]
   simpa using h2
theorem QI{A':Around}{s:Shared}{a:Addr}{g:Nat}{gs:GenState}{Q:Option Value→Shared→Prop}{E:Value→Shared→Prop}(hh:A'.handled=none)(hroom:A'.depth<recursionLimit)(le:Around.Le A'.in1 A)(hs:St X ⟨gp++o,s.gens⟩ s)(hig:s.heap.IsGen a g)(hg:s.gens[g]? =some gs)(hz:Gz X A G₀ gs vs gp (s.gens.setIfInBounds g .running))(hR:vs=[]→∀s₁ G',St X ⟨o,G'.setIfInBounds g .finished⟩ s₁→Ad (ads (gp++o)) s.heap (ads o) s₁.heap→Ap G₀ G'→Q none s₁)(hY:∀v vs',vs=v::vs'→∀u s₁ gs' gp' G',gs'.bare=true→(∃k l c p fs cl,gs'=.suspended k l c p fs cl)→St X ⟨gp'++o,G'.setIfInBounds g gs'⟩ s₁→Is (ads (gp'++o)) s₁.heap v u→Ad (ads (gp++o)) s.heap (ads (gp'++o)) s₁.heap→Ap G₀ G'→Gz X A G₀ gs' vs' gp' G'→Q (some u) s₁):wpAny (md X) A' (pyNext (.ref a)) Q E s:=by
 unfold pyNext
 refine wpAny_bind (wpAny_attempt (wpAny_callSpecial?_slot (name:=Str.ofString "__next__") hig.typeIs slot_gen_next
  (wpAny_call_entry slot_gen_next hig.typeIs entry_gen_next ?_ (args_gen_next _))))
 show wpAny _ A'.in1 (Builtin.Generator.genWake (.ref a) (.send .none)) _ _ s;unfold Builtin.Generator.genWake;refine wpAny_bind (wpAny_holding (wpAny_genNumber hig (wpAny_bind (wpAny_genState hg ?_))));have hz0:=hz o _ hs.withGens
 cases gs with
 | running=>exact hz0.elim
 | finished=>exact hz0.elim
 | _=>
  refine wpAny_bind (wpAny_roomToWake hs.lim hroom ?_);show wpAny _ A'.in1 (.resume g (.send .none) [] _) _ _ s;refine KV le hs hg hz (fun hv s₁ G' t ke ge=>?_) (fun v vs' hv u s₁ gs' gp' G' hb hsu t iv ke ge hz'=>?_)
  ·show wpAny _ A'.in1 (newExc (.type "StopIteration") [] >>= _) _ _ _
   refine wpAny_bind ?_;simp only[newExc,newTuple];refine wpAny_bind (wpAny_newObj_type ?_ (by size_fits));refine wpAny_bind (m:=firstArgMember _ _) (wpAny_of_eq (a:=Value.none) (by first| rfl| (simp only[firstArgMember];rfl)) ?_);refine wpAny_newObj_type ?_ (by size_fits);simp only[raiseNew];refine wpAny_bind (wpAny_bind (wpAny_handled ?_))
   first| rw[show A'.in1.handled=none from hh]| rw[hh]
   refine wpAny_throw ?_;refine wpAny_bind (wpAny_isInstance (T:="StopIteration") (b:=true) ⟨_,Heap.get?_push_size _ rfl,rfl⟩ isSubtype_stop ?_);refine wpAny_pure ?_
   have t':St X ⟨o,G'.setIfInBounds g .finished⟩ (s₁.setGen g .finished):=by
    have:=t.gens;simp only at this;have h2:=t.withGens (G':=G'.setIfInBounds g .finished);unfold Shared.setGen;rw[this];exact h2
   have fin:∀s₂:Shared,(∀b ob,(s₁.setGen g .finished).heap.get? b=some ob→s₂.heap.get? b=some ob)→s₂.gens=(s₁.setGen g .finished).gens→s₂.os=(s₁.setGen g .finished).os→Q none s₂:=fun s₂ hk hg ho=>
    hR hv s₂ G' (t'.grow hk hg ho).1 (ke.trans (t'.grow hk hg ho).2) ge
   exact fin _ (fun b o hb=>Heap.get?_push_of_some _ (Heap.get?_push_of_some _ hb)) rfl rfl
  ·refine wpAny_pure ⟨u,rfl,wpAny_pure (hY v vs' hv u _ gs' gp' G' hb hsu ?_ iv ke ge hz')⟩
   have:=t.gens;simp only at this;have h2:=t.withGens (G':=G'.setIfInBounds g gs');unfold Shared.setGen;rw[this];exact h2
end
structure Bd (A:Around)(c:Code)(fs:List Frame)(B:Around):Prop where
 le:Around.Le (A.over c fs) B
 sp:splitAtGen fs=none
 gd:fs.any Frame.guarded=false
theorem Bd.push{A B:Around}{c c':Code}{fs:List Frame}{k l p kp}(x:Bd A c fs B)(hc:c'.weight=0)(hu:c'.cUnits=0):Bd A c' (.ret k none false l c p kp::fs) B:=by
 refine⟨⟨?_,?_,x.le.f,x.le.g,?_⟩,?_,?_⟩
 ·exact x.le.h
 ·have:=x.le.d
  simp only[Around.over,List.map_cons,Frame.where_,frameCount_cons,hc]at this ⊢;exact TB this
 ·have:=x.le.u
  simp only[Around.over,List.map_cons,Frame.where_,unitsOf_cons,hu]at this ⊢;exact TB this
 ·simp only[splitAtGen,x.sp,Option.map_none]
 ·simp only[List.any_cons,Frame.guarded,Bool.false_or,x.gd]
theorem Bd.top{m:Nat}{body:List Stmt}{env:Env}:Bd (AR m) (.func body env) [] (AR (m+1)):=
 ⟨⟨rfl,by
  show 400+m+0+(Code.func body env).weight≤400+(m+1)
  have:(Code.func body env).weight=1:=rfl
  exact YF this,rfl,rfl,by
  show 100+20*m+0+(Code.func body env).cUnits≤100+20*(m+1);have:(Code.func body env).cUnits=3:=rfl
  exact YE this⟩,rfl,rfl⟩
section
variable {X:Cx}{A B:Around}{G₀:Array GenState}{c:Code}{fs:List Frame}{vs:List PV}{o gp:Own}{G:Array GenState}{env:Env}{K:Flow→Sem PySem.Fin}{H:Value→Sem PySem.Fin}
noncomputable def GK(X:Cx)(A:Around)(G₀:Array GenState)(c:Code)(fs:List Frame)(K:Flow→Sem PySem.Fin)(vs:List PV)(o gp:Own)(G:Array GenState):PF→Prop
 | .next=>GS X A G₀ c fs (K .next) vs o gp G
 | .cont=>GS X A G₀ c fs (K .cont) vs o gp G
 | .brk=>GS X A G₀ c fs (K .brk) vs o gp G
 | .ret _=>False
theorem Ib{t:Sem Flow}(x:Bd A c fs B)(h:WF X B t (fun f σ'=>∃gp' G',σ'=⟨gp'++o,G'⟩∧GK X A G₀ c fs K vs o gp' G' f) ⟨gp++o,G⟩):GS X A G₀ c fs (t.wrap K H id id) vs o gp G:=by
 intro s hs gp₀ s₀ k;refine Cr (Aq x.le (h.run hs fun f s' b σ' i t k' q=>?_));obtain⟨gp',G',rfl,q⟩:=q
 cases i with
 | next=>exact q s' t gp₀ s₀ (k.trans k')
 | cont=>exact q s' t gp₀ s₀ (k.trans k')
 | brk=>exact q s' t gp₀ s₀ (k.trans k')
 | ret _=>exact q.elim
noncomputable def R5(rest:List Stmt)(env:Env)(K:Flow→Sem PySem.Fin)(H:Value→Sem PySem.Fin):Flow→Sem PySem.Fin:=fun f=>match f with | .next=>(execs rest env).wrap K H id id| f=>K f
theorem AE{st:Stmt}{rest:List Stmt}(h:GS X A G₀ c fs ((exec st env).wrap (R5 rest env K H) H id id) vs o gp G):GS X A G₀ c fs ((execs (st::rest) env).wrap K H id id) vs o gp G:=by
 rw[execs_cons_wrap];exact h
theorem A5(h:GS X A G₀ c fs (K .next) vs o gp G):GS X A G₀ c fs ((execs [] env).wrap K H id id) vs o gp G:=h
theorem ML{test:Expr}{body orelse:List Stmt}{pos:Pos}(x:Bd A c fs B)(h:WT X B env test (fun b σ'=>∃gp' G',σ'=⟨gp'++o,G'⟩∧if b then GS X A G₀ c fs ((execs body env).wrap K H id id) vs o gp' G' else GS X A G₀ c fs ((execs orelse env).wrap K H id id) vs o gp' G') ⟨gp++o,G⟩):GS X A G₀ c fs ((exec (.If test body orelse pos) env).wrap K H id id) vs o gp G:=by
 intro s hs gp₀ s₀ k;rw[exec_If];refine Ag (wpAny_standAt ?_);refine Ag (Aq x.le (W.run h hs fun b s' b' σ' i t k' q=>?_));obtain⟨gp',G',rfl,q⟩:=q
 cases i
 cases b with
 | true=>exact q s' t gp₀ s₀ (k.trans k')
 | false=>exact q s' t gp₀ s₀ (k.trans k')
theorem B9{e:Expr}{ypos pos:Pos}(x:Bd A c fs B)(hco:env.scope.isCoroutine=false)(hi:interactive env=false)(h:WV X B (eval e env) (Lvs fun v σ'=>∃vs' gp' G',vs=v::vs'∧σ'=⟨gp'++o,G'⟩∧Ap G₀ G'∧∀o',GS X A G₀ c fs (K .next) vs' o' gp' G') ⟨gp++o,G⟩):GS X A G₀ c fs ((exec (.Expr (.Yield (some e) ypos) pos) env).wrap K H id id) vs o gp G:=by
 intro s hs gp₀ s₀ k;rw[exec_Expr env _ pos hi rfl];refine Ag (wpAny_standAt ?_);show SgP X A c (((eval e env >>= fun v=>(standAt ypos >>= fun O=>yieldOut env v)) >>= fun x=>dropValue (.Yield (some e) ypos) pos x).wrap K H id id) fs _ s
 have hy:∀v,yieldOut env v=yieldValue v:=fun v=>by simp only[yieldOut,hco,Bool.false_eq_true,if_false]
 simp only[hy];rw[Sem.bind_eq_wrap',Sem.bind_eq_wrap',Sem.wrap_wrap,Sem.wrap_wrap];refine Cr (Aq x.le (h.run hs fun u s₁ v σ₁ iv t₁ k₁ q=>?_));obtain⟨v',σ',lv,q⟩:=q;obtain⟨t₂,k₂,i₂⟩:=lv.go t₁ iv;obtain⟨vs',gp',G',rfl,rfl,ge,more⟩:=q;refine OT (JT x.sp fun p=>⟨u,_,_,c,p,fs,rfl,x.gd,gp',G',t₂,i₂,k.trans (k₁.trans k₂),ge,fun o'' s'' t''=>?_⟩);exact more o'' s'' t'' gp' s'' (Ad.refl _ _)
noncomputable def JK(c':Code):Flow→Sem PySem.Fin:=fun f=>match f with
 | .next| .cont=>.pure (.again c')
 | .brk=>.pure (.done .next)
 | .ret v=>.pure (.done (.ret v))
noncomputable def JL(env:Env):Value→Sem PySem.Fin:=fun e=>(do noteFrame e env;theTreesLotGoes e:Sem Unit).wrap (fun O=>.raise e) .raise id id
theorem BD {target:Expr} {it:Value} {body:List Stmt} {fs':List Frame} {Φ:End→Shared→Prop} {s:Shared}
  (h:wpAny (md X) (A.over (.forLoop target it body [] env) fs') (pyNext it) (fun r s₁=>match r with
     | none=>SgP X A (.block [] env) (.pure (.done .next)) fs' Φ s₁
     | some v=>wpAny (md X) (A.over (.forLoop target it body [] env) fs') (letOwnedTupleGo target it v) (fun O s₂=>wpAny (md X) (A.over (.forLoop target it body [] env) fs') (assign target env v)
    (fun O s₃=>SgP X A (.forLoop target it body [] env) ((execs body env).wrap (JK (.forLoop target it body [] env)) (JL env) id id) fs' Φ s₃) NoE s₂) NoE s₁) NoE s):
  SgP X A (.forLoop target it body [] env) ((md X).den (.forLoop target it body [] env)) fs' Φ s:=by
 show SgP X A _ ((forTurn target it body [] env).onRaise (fun x=>do noteFrame x env;theTreesLotGoes x)) fs' Φ s;unfold forTurn;rw[Sem.onRaise_eq_wrap];refine Ag (wpAny_standAt ?_);refine Ag (wpAny_onRaise (wpAny_mono h (fun r s₁ h₁=>?_) fun O O e=>e.elim))
 cases r with
 | none=>exact DD rfl h₁
 | some v=>
  refine Ag (wpAny_mono h₁ (fun O s₂ h₂=>?_) fun O O e=>e.elim);refine Ag (wpAny_mono h₂ (fun O s₃ h₃=>?_) fun O O e=>e.elim);rw[Sem.bind_eq_wrap',Sem.wrap_wrap]
  rw[Sem.wrap_congr (execs body env) _ _ (K':=JK (.forLoop target it body [] env)) (H':=JL env) (fun f=>by cases f<;>rfl)
   (fun e=>by first| exact Sem.bind_eq_wrap _ _| (show(do noteFrame e env;theTreesLotGoes e:Sem Unit).bind (fun O=>.raise e)=_;rw[Sem.bind_eq_wrap];rfl))]
  exact h₃
end
noncomputable def Ba(g:Nat):PO:=.ext (fun o=>o.cls=.type "generator"∧(∃nm qn,o.data=.fields #[.int g 0,nm,qn])∧o.slots= #[])
structure CC (X:Cx)(A:Around)(G₁:Array GenState)(vs:List PV)(gp:Own)(G:Array GenState):Prop where
 st:∃gs,G[G₁.size]? =some gs∧gs.bare=true∧Gz X A (G₁.push .running) gs vs gp (G.setIfInBounds G₁.size .running)
 ext:Ap G₁ G
theorem AllBare.push{G:Array GenState}{x:GenState}(h:AllBare G)(hx:x.bare=true):AllBare (G.push x):=fun y hy=>by
 rcases Array.mem_push.mp hy with h'| rfl
 ·exact h y h'
 ·exact hx
theorem AllBare.set{G:Array GenState}{x:GenState}{g:Nat}(h:AllBare G)(hx:x.bare=true):AllBare (G.setIfInBounds g x):=fun y hy=>by
 rcases Array.mem_or_eq_of_mem_setIfInBounds hy with h'| rfl
 ·exact h y h'
 ·exact hx
theorem JA{G₁ G:Array GenState}{x:GenState}(h:Ap (G₁.push .running) G)(hx:x.bare=true):Ap G₁ (G.setIfInBounds G₁.size x):=by
 refine⟨fun i hi=>?_,fun hb=>AllBare.set (h.bare (AllBare.push hb rfl)) hx⟩;rw[Array.getElem?_setIfInBounds_ne (by exact af8 hi),h.old i (by simp;exact a66 hi),Array.getElem?_push_lt hi,Array.getElem?_eq_getElem hi]
theorem Rg{G₁ G:Array GenState}(h:Ap (G₁.push .running) G):G[G₁.size]? =some .running:=by
 rw[h.old _ (by simp)];simp
section
variable {X:Cx}{A B:Around}{G₀:Array GenState}{c:Code}{fs:List Frame}{vs:List PV}{o gp:Own}{G:Array GenState}{env:Env}{K:Flow→Sem PySem.Fin}{H:Value→Sem PySem.Fin}
theorem Dr{m:Nat}(hm:m<500){s:Shared}{a:Addr}{G₁:Array GenState}{Q:Option Value→Shared→Prop}{E:Value→Shared→Prop}(hs:St X ⟨gp++o,G⟩ s)(hob:(a,Ba G₁.size)∈o)(hg:CC X (AR (m+1)) G₁ vs gp G)(hR:vs=[]→∀s₁ G',St X ⟨o,G'⟩ s₁→Ad (ads (gp++o)) s.heap (ads o) s₁.heap→Ap G₁ G'→Q none s₁)(hY:∀v vs',vs=v::vs'→∀u s₁ gp' G',St X ⟨gp'++o,G'⟩ s₁→Is (ads (gp'++o)) s₁.heap v u→Ad (ads (gp++o)) s.heap (ads (gp'++o)) s₁.heap→CC X (AR (m+1)) G₁ vs' gp' G'→Q (some u) s₁):wpAny (md X) (AR m) (pyNext (.ref a)) Q E s:=by
 obtain⟨⟨gs,hgs,hb,hz⟩,hext⟩:=hg;have hgen:=hs.gens;simp only at hgen;obtain⟨ob,hob',hc,⟨nm,qn,hd⟩,hsl⟩:=hs.own _ _ (List.mem_append_right _ hob)
 have hig:s.heap.IsGen a G₁.size:=⟨ob,nm,qn,hob',hc,hd,hsl⟩
 refine QI (A:=AR (m+1)) (vs:=vs) (gp:=gp) (o:=o) (G₀:=G₁.push .running) rfl (by show 400+m<recursionLimit;unfold recursionLimit;exact a34 hm) AR.in1 (hgen▸hs) hig (hgen▸hgs) (hgen▸hz) (fun hv s₁ G' t ke ge=>?_) (fun v vs' hv u s₁ gs' gp' G' hb' hsu t iv ke ge hz'=>?_)
 ·exact hR hv s₁ _ t ke (JA ge rfl)
 ·refine hY v vs' hv u s₁ gp' _ t iv ke ⟨⟨gs',?_,hb',?_⟩,JA ge hb'⟩
  ·have:=ge.size
   simp only[Array.size_push]at this;rw[Array.getElem?_setIfInBounds_self_of_lt (by exact af7 this)]
  ·rw[MW (Rg ge)];exact hz'
noncomputable def kF(K:Flow→Sem PySem.Fin)(H:Value→Sem PySem.Fin)(env:Env):Result→Sem PySem.Fin:=fun r=>
 (((match r with | .ok f=>Sem.pure f| .error e=>Sem.raise e):Sem Flow).onRaise fun x=>do
  if(←field x 1)==.none then unsupported "frame.own-activation:exception-without-traceback"
  setFlight x env.frame).wrap K H id id
noncomputable abbrev ipL(xv:PV)(i:Nat):PO:=.iter xv (fun v o=>o.cls=.type "list_iterator"∧o.data=.fields #[v,.int i 0])
theorem LstV.ins{v:PV}{l:List PV}{y z:Addr×PO}{r:Own}(h:LstV ⟨y::r,G⟩ v l):LstV ⟨y::z::r,G⟩ v l:=by
 cases h with
 | frozen=>exact .frozen
 | own hm=>
  rcases List.mem_cons.mp hm with e| hm
  ·exact .own (by simp only;rw[←e];exact List.mem_cons_self)
  ·exact .own (.tail _ (.tail _ hm))
theorem Oj{m:Nat}{target iter:Expr}{body:List Stmt}{pos:Pos}(x:Bd A c fs (AR m))(h:WV X (AR m) (eval iter env) (fun xv σ₁=>∃(l:List PV) (I:List PV→List PV→Addr×PO→Own→Prop) (y:Addr×PO) (r:Own) (G':Array GenState),σ₁=⟨y::r++o,G'⟩∧I l vs y r∧(∀rem vs y r o,I rem vs y r→LstV ⟨y::r++o,G'⟩ xv l)∧(∀v rem it ip c' fs' Kb Hb,Bd A c' fs' (AR m)→(∀vs o y r,I rem vs y r→GS X A G₀ c' fs' (Kb .next) vs o (y::(it,ip)::r) G'∧GS X A G₀ c' fs' (Kb .cont) vs o (y::(it,ip)::r) G')→∀vs o y r,I (v::rem) vs y r→TG X (AR m) env target v (fun O σ'=>∃gp',σ'=⟨gp'++o,G'⟩∧GS X A G₀ c' fs' ((execs body env).wrap Kb Hb id id) vs o gp' G') ⟨y::(it,ip)::r++o,G'⟩)∧(∀vs o y r,I [] vs y r→GS X A G₀ c fs (K .next) vs o (y::r) G')) ⟨gp++o,G⟩)(hf:∀x,foldedSetIterable iter env x=pure x):GS X A G₀ c fs ((exec (.For target iter body [] pos) env).wrap K H id id) vs o gp G:=by
 intro s hs gp₀ s₀ k;rw[exec_For];refine Ag (wpAny_standAt ?_);refine Ag (Aq x.le (h.run hs fun vx s₁ xv σ₁ ix t₁ k₁ q=>?_));obtain⟨l,I,y,r,G',rfl,h0,src,step,fin⟩:=q;refine Ag (wpAny_of_eq (hf vx) ?_);refine Ag (wpAny_standAt ?_);obtain⟨a,ws,rfl,_,il,hil⟩:=(src _ _ _ _ _ h0).at t₁ ix;refine Ag (wpAny_holding (wpAny_pyIter_list hil ?_))
 obtain⟨t₂,k₂⟩:=t₁.pushOwn (o:={cls:=.type "list_iterator",data:=.fields #[.ref a,.int 0 0]}) (s':={s₁ with heap:=s₁.heap.push {cls:=.type "list_iterator",data:=.fields #[.ref a,.int 0 0]}}) rfl rfl rfl rfl (p:=ipL xv 0)
  fun k e=>⟨_,_,e,ix.keep k,rfl,rfl⟩
 obtain⟨t₃,k₃⟩:=t₂.perm (List.Perm.swap _ _ _);refine Hj (fun p=>?_);show SgP X A _ _ (Frame.ret (kF K H env) none false [] c p []::fs) _ _;have x':=x.push (k:=kF K H env) (l:=[]) (p:=p) (kp:=[]) (c':=.forLoop target (.ref s₁.heap.objs.size) body [] env) rfl rfl
 have loop:∀(n i:Nat),l.length-i=n→i≤l.length→∀vs o y r,I (l.drop i) vs y r→
   GS X A G₀ (.forLoop target (.ref s₁.heap.objs.size) body [] env) (Frame.ret (kF K H env) none false [] c p []::fs) ((md X).den (.forLoop target (.ref s₁.heap.objs.size) body [] env)) vs o (y::(s₁.heap.objs.size,ipL xv i)::r) G':=by
  intro n
  induction n with
  | zero=>
   intro i hn hi vs o y r hI s t gp₀ s₀ k
   have hil:i=l.length:=by exact aq0 hn hi
   subst hil;refine BD (Aq x'.le ?_);obtain⟨ob,v,hob,ixv,hcl,hdt⟩:=t.own _ _ (List.mem_cons_of_mem _ (List.mem_cons_self));obtain⟨a',ws',rfl,_,il',hil'⟩:=((src _ _ _ _ _ hI).ins (z:=(s₁.heap.objs.size,ipL xv l.length))).at t ixv
   refine wpAny_pyNext_list_end (i:=l.length) rfl ⟨ob,hob,hcl,hdt⟩ hil' (by
    rw[List.getElem?_toArray]
    exact List.getElem?_eq_none (by rw[il'.length];exact Nat.le_refl _)) fun h' hk=>?_
   have nd:=t.nodup;simp only[List.cons_append,ads,List.map_cons,List.nodup_cons,List.mem_cons,not_or]at nd;have sub:(y::(r++o)).Sublist (y::(s₁.heap.objs.size,ipL xv l.length)::(r++o)):=(List.sublist_cons_self _ _).cons_cons _;obtain⟨t',k'⟩:=(show St X ⟨y::(s₁.heap.objs.size,ipL xv l.length)::(r++o),G'⟩ s from t).drop sub
   have hn:s₁.heap.objs.size∉ads (y::(r++o)):=by
    simp only[ads,List.map_cons,List.mem_cons,not_or];exact⟨fun e=>nd.1.1 e.symm,nd.2.1⟩
   have hz:∀o,(Mine.hq X.w.params).get? s₁.heap.objs.size≠some o:=fun ob e=>(t.stat _ _ e).2 (by simp[ads])
   have dl:∀o,s.heap.get? s₁.heap.objs.size=some o→AG o:=fun o e=>by
    rw[hob]at e;cases e
    refine AG.of_cls ⟨?_,?_,?_,?_,?_⟩<;>rw[hcl]<;>decide
   have kb:AI s₁.heap.objs.size s.heap h':=fun b ob hb eb=>hk b ob hb eb;have t₄:=t'.iter (s':={s with heap:=h'}) hn hz dl kb rfl rfl;rw[List.drop_length]at hI;refine Hi (.ok .next) (fin vs o y r hI _ t₄ gp₀ s₀ fun b ob e n=>?_);obtain⟨e1,n1⟩:=k b ob e n;refine⟨kb b ob (fun q=>n1 (by rw[q];simp[ads])) e1,fun hm=>n1 ?_⟩;simp only[ads,List.cons_append,List.map_cons,List.mem_cons]at hm ⊢;exact hm.elim .inl (fun h=>.inr (.inr h))
  | succ n ih=>
   intro i hn hi vs o y r hI s t gp₀ s₀ k
   have hlt:i<l.length:=by exact af6 hn
   have hv:l[i]? =some l[i]:=List.getElem?_eq_getElem hlt;refine BD (Aq x'.le ?_);obtain⟨ob,v,hob,ixv,hcl,hdt⟩:=t.own _ _ (List.mem_cons_of_mem _ (List.mem_cons_self));obtain⟨a',ws',rfl,_,il',hil'⟩:=((src _ _ _ _ _ hI).ins (z:=(s₁.heap.objs.size,ipL xv i))).at t ixv;obtain⟨va,hva,iva⟩:=il'.get hv;refine wpAny_pyNext_list_item (x:=va) (i:=i) ⟨ob,hob,hcl,hdt⟩ hil' (by simpa using hva) fun h' hi' hsb=>?_;obtain⟨o',e',hc',hd'⟩:=id hi'
   have kad:Ad (ads (y::(s₁.heap.objs.size,ipL xv i)::r++o)) s.heap (ads (y::(s₁.heap.objs.size,ipL xv i)::r++o)) h':=fun b ob e n=>⟨(hsb.2 b fun e=>n (by rw[e];simp[ads])).trans e,n⟩
   obtain⟨t',k'⟩:=St.upd (s':={s with heap:=h'}) (o':=y::(s₁.heap.objs.size,ipL xv (i+1))::(r++o)) (q:=ipL xv (i+1)) t (.there .here) hsb rfl rfl ⟨o',_,e',ixv.keep kad,hc',hd'⟩;refine H2 e' (fun nm hnm=>by rw[hc']at hnm;cases hnm;decide) ?_;rw[A0 hv]at hI
   have again:∀vs o y r,I (l.drop (i+1)) vs y r→GS X A G₀ (.forLoop target (.ref s₁.heap.objs.size) body [] env) (Frame.ret (kF K H env) none false [] c p []::fs) (.pure (.again (.forLoop target (.ref s₁.heap.objs.size) body [] env))) vs o (y::(s₁.heap.objs.size,ipL xv (i+1))::r) G':=
    fun vs o y r hI s t gp₀ s₀ k=>DD rfl (ih (i+1) (by exact af5 hn) hlt vs o y r hI s t gp₀ s₀ k)
   refine Aq x'.le ?_
   have st:=step l[i] (l.drop (i+1)) s₁.heap.objs.size (ipL xv (i+1)) (.forLoop target (.ref s₁.heap.objs.size) body [] env) (Frame.ret (kF K H env) none false [] c p []::fs) (JK (.forLoop target (.ref s₁.heap.objs.size) body [] env)) (JL env) x'
    (fun vs o y r hI=>⟨again vs o y r hI,again vs o y r hI⟩) vs o y r hI
   refine O1.run st t' (iva.keep k') fun O s₄ O σ₄ O t₄ k₄ q=>?_;obtain⟨gp',rfl,q⟩:=q;exact q s₄ t₄ gp₀ s₀ (k.trans (k'.trans k₄))
 exact loop l.length 0 (by exact af4) (Nat.zero_le _) vs o y r h0 _ t₃ gp₀ s₀ (k.trans (k₁.trans (k₂.trans k₃)))
end
section
variable {X:Cx}{A B:Around}{G₀:Array GenState}{c:Code}{fs:List Frame}{vs:List PV}{o gp:Own}{G:Array GenState}{env:Env}{K:Flow→Sem PySem.Fin}{H:Value→Sem PySem.Fin}
theorem Ol{m:Nat}(hm:m<500){target iter:Expr}{body:List Stmt}{pos:Pos}(x:Bd A c fs (AR m))(h:WV X (AR m) (eval iter env) (fun xv σ₁=>∃(a:Addr) (G₁:Array GenState) (l:List PV) (gp2:Own) (I:List PV→List PV→Addr×PO→Own→Prop) (y:Addr×PO) (r:Own) (G':Array GenState),xv=.raw (.ref a)∧σ₁=⟨y::((a,Ba G₁.size)::gp2++r)++o,G'⟩∧CC X (AR (m+1)) G₁ l gp2 G'∧Ap G₀ G₁∧I l vs y r∧(∀v rem R G' c' fs' Kb Hb,Bd A c' fs' (AR m)→Ap G₀ G'→(∀vs o y r,I rem vs y r→GS X A G₀ c' fs' (Kb .next) vs o (y::(R++r)) G'∧GS X A G₀ c' fs' (Kb .cont) vs o (y::(R++r)) G')→∀vs o y r,I (v::rem) vs y r→TG X (AR m) env target v (fun O σ'=>∃gp',σ'=⟨gp'++o,G'⟩∧GS X A G₀ c' fs' ((execs body env).wrap Kb Hb id id) vs o gp' G') ⟨y::(R++r)++o,G'⟩)∧(∀vs o y r G',Ap G₀ G'→I [] vs y r→GS X A G₀ c fs (K .next) vs o (y::r) G')) ⟨gp++o,G⟩)(hf:∀x,foldedSetIterable iter env x=pure x):GS X A G₀ c fs ((exec (.For target iter body [] pos) env).wrap K H id id) vs o gp G:=by
 intro s hs gp₀ s₀ k;rw[exec_For];refine Ag (wpAny_standAt ?_);refine Ag (Aq x.le (h.run hs fun vx s₁ xv σ₁ ix t₁ k₁ q=>?_));obtain⟨a,G₁,l,gp2,I,y,r,G',rfl,rfl,hg,he,h0,step,fin⟩:=q;refine Ag (wpAny_of_eq (hf vx) ?_);refine Ag (wpAny_standAt ?_)
 cases ix
 obtain⟨ob,hob,hc,⟨nm,qn,hd⟩,hsl⟩:=t₁.own a (Ba G₁.size) (by simp);refine Ag (wpAny_holding (wpAny_pyIter_gen (g:=G₁.size) ⟨ob,nm,qn,hob,hc,hd,hsl⟩ ?_));refine Hj (fun p=>?_);show SgP X A _ _ (Frame.ret (kF K H env) none false [] c p []::fs) _ _;have x':=x.push (k:=kF K H env) (l:=[]) (p:=p) (kp:=[]) (c':=.forLoop target (.ref a) body [] env) rfl rfl
 have loop:∀rem,∀vs o y r gp2 G',I rem vs y r→CC X (AR (m+1)) G₁ rem gp2 G'→
   GS X A G₀ (.forLoop target (.ref a) body [] env) (Frame.ret (kF K H env) none false [] c p []::fs) ((md X).den (.forLoop target (.ref a) body [] env)) vs o (y::((a,Ba G₁.size)::gp2++r)) G':=by
  intro rem
  induction rem with
  | nil=>
   intro vs o y r gp2 G' hI hg s t gp₀ s₀ k
   have pm:(y::((a,Ba G₁.size)::gp2++r)++o).Perm (gp2++(y::(a,Ba G₁.size)::(r++o))):=by
    have:=(List.perm_append_comm (l₁:=[y,(a,Ba G₁.size)]) (l₂:=gp2)).append_right (r++o)
    simpa using this
   obtain⟨t',k'⟩:=t.perm pm;refine BD (Aq x'.le (Dr hm t' (by simp) hg (fun O s₁ G'' t₁ ke ge=>?_) fun v vs' e=>nomatch e));have sub:(y::(r++o)).Sublist (y::(a,Ba G₁.size)::(r++o)):=(List.sublist_cons_self _ _).cons_cons _;obtain⟨t₂,k₂⟩:=t₁.drop sub;exact Hi (.ok .next) (fin vs o y r G'' (he.trans ge) hI _ t₂ gp₀ s₀ (k.trans (k'.trans (Ad.trans ke k₂))))
  | cons v rem ih=>
   intro vs o y r gp2 G' hI hg s t gp₀ s₀ k
   have pm:∀gp2:Own,(y::((a,Ba G₁.size)::gp2++r)++o).Perm (gp2++(y::(a,Ba G₁.size)::(r++o))):=fun gp2=>by
    have:=(List.perm_append_comm (l₁:=[y,(a,Ba G₁.size)]) (l₂:=gp2)).append_right (r++o)
    simpa using this
   obtain⟨t',k'⟩:=t.perm (pm gp2);refine BD (Aq x'.le (Dr hm t' (by simp) hg (fun e=>nomatch e) fun v' vs' e u s₁ gp' G'' t₁ iu ke hg'=>?_))
   cases e
   obtain⟨t₂,k₂⟩:=t₁.perm (pm gp').symm;obtain⟨ob,hob,hc,⟨nm,qn,hd⟩,hsl⟩:=t₂.own a (Ba G₁.size) (by simp);refine H2 hob (fun nm hnm=>by rw[hc]at hnm;cases hnm;decide) ?_;refine Aq x'.le ?_
   have again:∀vs o y r,I rem vs y r→GS X A G₀ (.forLoop target (.ref a) body [] env) (Frame.ret (kF K H env) none false [] c p []::fs) (.pure (.again (.forLoop target (.ref a) body [] env))) vs o (y::((a,Ba G₁.size)::gp'++r)) G'':=
    fun vs o y r hI s t gp₀ s₀ k=>DD rfl (ih vs o y r gp' G'' hI hg' s t gp₀ s₀ k)
   have st:=step v rem ((a,Ba G₁.size)::gp') G'' (.forLoop target (.ref a) body [] env) (Frame.ret (kF K H env) none false [] c p []::fs) (JK (.forLoop target (.ref a) body [] env)) (JL env) x'
    (he.trans hg'.ext) (fun vs o y r hI=>⟨again vs o y r hI,again vs o y r hI⟩) vs o y r hI
   refine O1.run st t₂ (iu.keep k₂) fun O s₄ O σ₄ O t₄ k₄ q=>?_;obtain⟨gp'',rfl,q⟩:=q;exact q s₄ t₄ gp₀ s₀ (k.trans (k'.trans (Ad.trans ke (Ad.trans k₂ k₄))))
 exact loop l vs o y r gp2 G' h0 hg _ t₁ gp₀ s₀ (k.trans k₁)
theorem M0 {n:Nat} {a:Addr} {ob:Obj} {fd:FuncData} {body:List Stmt} {kw:List (Str×Value)} {args:List PV} {bs:List (Str×PV)} {Q:PV→PS→Prop} {ow:Own}
  (ho:(Mine.hq X.w.params).get? a=some ob) (hdata:ob.data=.func fd) (hcd:(Mine.hq X.w.params).CodeRec fd.code fd.qualname)
  (hbody:fd.body=.stmts body) (hbind:Bg X fd kw args bs)
  (hcell:∀x∈fd.scope.names,x.2≠.cell) (hloc:∀x∈bs.map Prod.fst,fd.scope.names.lookup x=some .local)
  (hco:fd.scope.isCoroutine=false) (hgen:fd.scope.isGenerator=true) (hk:fd.scope.kind=.function) (hn:n<500)
  (h:∀L ga,∃vs,(∀o,GS X (AR (n+1)) (G.push .running) (.func body (callEnv fd L a)) [] ((execs body (callEnv fd L a)).wrap (fun f=>.pure (.done (.ret (match f with | .ret v=>v| _=>.none)))) (fun e=>(leaving (callEnv fd L a) e).wrap (fun O=>.raise e) .raise id id) id id) vs o ((L,.ns bs.reverse)::gp) (G.push .running))∧
   ∀G',CC X (AR (n+1)) G vs ((L,.ns bs.reverse)::gp) G'→Q (.raw (.ref ga)) ⟨(ga,Ba G.size)::(L,.ns bs.reverse)::(gp++ow),G'⟩):
  OC X (AR n) (.ref a) kw args Q ⟨gp++ow,G⟩:=by
 intro s vs hs iv;obtain⟨binds,hb,hf,hi⟩:=hbind _ s vs hs iv;refine codeAny_call_generator (by show 400+n<recursionLimit;unfold recursionLimit;exact a34 hn) (hs.hz _ _ ho) hdata hco hgen hbody (hcd.keeps hs.hz) (hb _ _ _ _ ?_);refine wpAny_newFunctionEnv hcell (fun x hx=>hloc _ (hf▸List.mem_map.mpr ⟨x,hx,rfl⟩)) (fun h₀ hns hsb=>?_) hk;have hk₀:∀b o,s.heap.get? b=some o→h₀.get? b=some o:=fun b o e=>hsb.extBut b o (Nat.ne_of_lt (Heap.lt_size e)) (Heap.get?_push_of_some _ e)
 have k₀:Ad (ads (gp++ow)) s.heap (s.heap.objs.size::ads (gp++ow)) h₀:=fun b ob e m=>⟨hk₀ b ob e,fun hm=>by
  rcases List.mem_cons.mp hm with rfl| hm
  ·exact absurd (Heap.lt_size e) (Nat.lt_irrefl _)
  ·exact m hm⟩
 obtain⟨t,ke⟩:=hs.new (s':={s with heap:=h₀,toks:=s.toks+binds.length}) (p:=.ns bs.reverse) (Ax _) hk₀ rfl rfl
  ⟨_,hns,fun x=>Dd (by rw[List.map_reverse,List.map_reverse,hf]) (by rw[List.map_reverse,List.map_reverse];exact(hi.keep k₀).reverse) x⟩
 refine⟨t.lim,?_⟩;have hsg:s.gens=G:=hs.gens
 obtain⟨t₂,k₂⟩:=t.pushOwn (o:={cls:=.type "generator",data:=.fields #[.int s.gens.size 0,.str fd.name (s.toks+binds.length),.str fd.qualname (s.toks+binds.length+1)]})
  (s':={s with heap:=h₀.push {cls:=.type "generator",data:=.fields #[.int s.gens.size 0,.str fd.name (s.toks+binds.length),.str fd.qualname (s.toks+binds.length+1)]},toks:=s.toks+binds.length+1+1})
  rfl rfl rfl rfl (p:=Ba G.size) fun k e=>⟨_,e,rfl,⟨_,_,by rw[hsg]⟩,rfl⟩
 obtain⟨vs',hGS,q⟩:=h s.heap.objs.size h₀.objs.size;have t₃:=t₂.withGens (G':=G.push (.fresh (.func body (callEnv fd s.heap.objs.size a))));refine⟨_,(⟨(h₀.objs.size,Ba G.size)::(s.heap.objs.size,.ns bs.reverse)::(gp++ow),G.push (.fresh (.func body (callEnv fd s.heap.objs.size a)))⟩:PS),.raw _,?_,ke.trans k₂,q (G.push (.fresh (.func body (callEnv fd s.heap.objs.size a)))) ⟨⟨.fresh (.func body (callEnv fd s.heap.objs.size a)),by simp,rfl,fun o s' t'=>?_⟩,⟨fun i hi=>?_,fun hb=>AllBare.push hb rfl⟩⟩⟩
 ·have e1:s.gens.push (.fresh (.func body (callEnv fd s.heap.objs.size a)))=G.push (.fresh (.func body (callEnv fd s.heap.objs.size a))):=by rw[hsg]
  exact e1▸t₃
 ·show SgP X (AR (n+1)) (.func body (callEnv fd s.heap.objs.size a)) ((md X).den (.func body (callEnv fd s.heap.objs.size a))) [] _ s'
  have t'':St X ⟨((s.heap.objs.size,PO.ns bs.reverse)::gp)++o,G.push .running⟩ s':=by
   have:(G.push (.fresh (.func body (callEnv fd s.heap.objs.size a)))).setIfInBounds G.size .running=G.push .running:=by
    apply Array.ext
    ·simp
    ·intro i h1 h2
     rw[Array.getElem_setIfInBounds,Array.getElem_push,Array.getElem_push]
     ·by_cases hi:i<G.size
      ·rw[if_neg (by exact XU hi),dif_pos hi,dif_pos hi]
      ·have:i=G.size:=by simp at h2;exact XT hi h2
       rw[if_pos this.symm,dif_neg hi]
     ·simpa using h2
   rw[←this];exact t'
  have:=hGS o s' t'' ((s.heap.objs.size,PO.ns bs.reverse)::gp) s' (Ad.refl _ _);show SgP X _ _ (.point [] fun O=>((execs body (callEnv fd s.heap.objs.size a)).onRaise (leaving (callEnv fd s.heap.objs.size a))) >>= _) [] _ s';refine JU ?_;rw[Sem.onRaise_eq_wrap,Sem.bind_eq_wrap',Sem.wrap_wrap]
  rw[Sem.wrap_congr (execs body (callEnv fd s.heap.objs.size a)) _ _ (K':=fun f=>.pure (.done (.ret (match f with | .ret v=>v| _=>.none))))
   (H':=fun e=>(leaving (callEnv fd s.heap.objs.size a) e).wrap (fun O=>.raise e) .raise id id) (fun f=>by cases f<;>rfl)
   (fun e=>by rw[Sem.bind_eq_wrap,Sem.wrap_wrap];rfl)]
  exact this
 ·rw[Array.getElem?_push_lt hi,Array.getElem?_eq_getElem hi]
theorem Fe{vs:List PV}{t:Sem PySem.Fin}(hv:vs=[])(ht:t=.pure (.done (.ret .none)))(ge:Ap G₀ G):GS X A G₀ c [] t vs o gp G:=by
 subst hv ht;intro s t gp₀ s₀ k;obtain⟨t',k'⟩:=t.drop (List.sublist_append_right gp o);exact MV (.ok (.ret .none)) ⟨rfl,G,t',k.trans k',ge⟩
end
theorem Around.Le.trans{A B C:Around}(x:Around.Le A B)(y:Around.Le B C):Around.Le A C:=
 ⟨x.h.trans y.h,Nat.le_trans x.d y.d,y.f,y.g,Nat.le_trans x.u y.u⟩
theorem AR.in1s{n:Nat}{A:Around}(h:Around.Le A (AR n)):Around.Le A.in1 (AR (n+1)):=by
 refine⟨h.h,?_,rfl,rfl,?_⟩
 ·have:=h.d;simp only[AR]at this ⊢;exact WZ this
 ·have:=h.u;simp only[AR]at this ⊢;exact WY this
structure HX (X:Cx)(A:Around)(T:String)(it:Addr)(J:List PV→Own→Array GenState→Prop)(JE:Own→Array GenState→Prop):Prop where
 nx:∀v r o G D acc s,J (v::r) o G→St X ⟨(D,.list acc)::o,G⟩ s→wpAny (md X) A (pyNext (.ref it)) (fun u s'=>∃va o' G',u=some va∧Is (ads ((D,.list acc)::o')) s'.heap v va∧St X ⟨(D,.list acc)::o',G'⟩ s'∧
  Ad (ads ((D,.list acc)::o)) s.heap (ads ((D,.list acc)::o')) s'.heap∧J r o' G') NoE s
 en:∀o G D acc s,J [] o G→St X ⟨(D,.list acc)::o,G⟩ s→wpAny (md X) A (pyNext (.ref it)) (fun u s'=>∃o' G',u=none∧St X ⟨(D,.list acc)::o',G'⟩ s'∧
  Ad (ads ((D,.list acc)::o)) s.heap (ads ((D,.list acc)::o')) s'.heap∧JE o' G') NoE s
 ty:∀l o G D acc s,J l o G→St X ⟨(D,.list acc)::o,G⟩ s→s.TypeIs (.ref it) T∧it≠D
 self:∀l o G D acc s Q E,J l o G→St X ⟨(D,.list acc)::o,G⟩ s→Q (.ref it) s→wpAny (md X) A (pyIter (.ref it)) Q E s
section
variable {X:Cx}{A B:Around}{T:String}{it:Addr}{J:List PV→Own→Array GenState→Prop}{JE:Own→Array GenState→Prop}
theorem FH{o:Own}{G:Array GenState}{s:Shared}{D:Addr}{acc:List PV}{v:PV}{va:Value}(t:St X ⟨(D,.list acc)::o,G⟩ s)(iv:Is (ads ((D,.list acc)::o)) s.heap v va)(hsz:acc.length<sizeLine){Q:Unit→Shared→Prop}{E:Value→Shared→Prop}(h:∀s',St X ⟨(D,.list (acc++[v]))::o,G⟩ s'→Ad (ads ((D,.list acc)::o)) s.heap (ads ((D,.list (acc++[v]))::o)) s'.heap→Q () s'):wpAny (md X) A (updateSeq D (·.push va)) Q E s:=by
 obtain⟨vs,⟨n,ho⟩,il⟩:=t.own D _ List.mem_cons_self;have hsb:=Heap.SameBut.update s.heap D (Obj.mapSeq (·.push va))
 have he:vs.toArray.push va=(vs++[va]).toArray:=by simp
 obtain⟨n',hn'⟩:=AA (n:=n) (f:=(·.push va)) he
 have ke:Ad (ads ((D,PO.list acc)::o)) s.heap (ads ((D,PO.list acc)::o)) (s.heap.update D (Obj.mapSeq (·.push va))):=fun b ob e n=>⟨(hsb.2 b fun e=>n (by rw[e];simp[ads])).trans e,n⟩
 obtain⟨t',k'⟩:=St.upd (s':={s with heap:=s.heap.update D (Obj.mapSeq (·.push va))}) (o':=(D,.list (acc++[v]))::o) (q:=.list (acc++[v])) t .here hsb rfl rfl
  ⟨vs++[va],⟨n',by rw[Heap.get?_update_self _ ho (by rw[hn'];rfl),hn']⟩,IsAll.append (.cons (iv.keep ke) .nil) (il.keep ke)⟩
 exact wpAny_updateSeq ho rfl (h _ t' k') (by simp[il.length];exact a6 hsz) (by rw[he];simp[il.length];exact a6 hsz)
theorem HF(P:HX X A.in1 T it J JE){D:Addr}{res:Value}{R:Result→Shared→Prop}:∀(l acc:List PV) (o:Own) (G:Array GenState) (s:Shared),acc.length+l.length≤sizeLine→J l o G→St X ⟨(D,.list acc)::o,G⟩ s→(∀s' o' G',St X ⟨(D,.list (acc++l))::o',G'⟩ s'→Ad (ads ((D,.list acc)::o)) s.heap (ads ((D,.list (acc++l))::o')) s'.heap→JE o' G'→R (.ok (.ret res)) s')→codeAny (md X) A (.builtin "list.extend.loop" ⟨[.ref D,.ref it,res],[]⟩) R s:=by
 intro l
 induction l with
 | nil=>
  intro acc o G s hsz hJ t hR;refine codeAny_builtin F.entry_extend_loop ?_;rw[Around.under_plainId F.plain_extend_loop _];show wpAny _ A.in1 (pyNext (.ref it) >>= _) _ _ s;refine wpAny_bind (wpAny_mono (P.en o G D acc s hJ t) (fun u s' h=>?_) fun O O e=>e.elim);obtain⟨o',G',rfl,t',k',hE⟩:=h;refine wpAny_pure ?_;rw[List.append_nil]at hR;exact hR s' o' G' t' k' hE
 | cons v r ih=>
  intro acc o G s hsz hJ t hR;refine codeAny_builtin F.entry_extend_loop ?_;rw[Around.under_plainId F.plain_extend_loop _];show wpAny _ A.in1 (pyNext (.ref it) >>= _) _ _ s;refine wpAny_bind (wpAny_mono (P.nx v r o G D acc s hJ t) (fun u s' h=>?_) fun O O e=>e.elim);obtain⟨va,o',G',rfl,iv,t',k',hJ'⟩:=h;show wpAny _ A.in1 (updateSeq D (·.push va) >>= _) _ _ _;refine wpAny_bind (FH t' iv (by simp only[List.length_cons]at hsz;exact a42 hsz) fun s₂ t₂ k₂=>?_);refine wpAny_pure ⟨plainId_quiet F.plain_extend_loop _,ih (acc++[v]) o' G' s₂ (by simp only[List.length_append,List.length_cons,List.length_nil]at hsz ⊢;exact WX hsz) hJ' t₂ fun s' o'' G'' t'' k'' hE=>?_⟩;rw[List.append_assoc,List.singleton_append]at t'' k'';exact hR s' o'' G'' t'' (k'.trans (Ad.trans k₂ k'')) hE
theorem CA{n:Nat}{x:PV}{l:List PV}{o:Own}{G:Array GenState}{Q:PV→PS→Prop}(P:∀B,Around.Le B (AR (n+4))→HX X B T it J JE)(hnl:typeLookup (.type T) "__len__"=pure none)(hnh:typeLookup (.type T) "__length_hint__"=pure none)(h1:(Value.type T==Value.type "list")=false)(h2:(Value.type T==Value.type "tuple")=false)(h3:["set","frozenset","dict","dict_keys","dict_values","dict_items"].any (Value.type T==.type ·)=false)(hsz:l.length≤sizeLine)(hJ:J l o G)(q:∀o' G',JE o' G'→Q (.lst l) ⟨o',G'⟩):ON X (AR n) Is (fun vs=>call (.type "list") vs) [.raw (.ref it)] Q ⟨o,G⟩:=fun s vs hs i=>by
 cases i with
 | cons i i'=>
 cases i;cases i'
 obtain⟨t₁,k₁⟩:=hs.pushOwn (o:={cls:=.type "list",data:=.seq ([]:List Value).toArray}) (s':={s with heap:=s.heap.push {cls:=.type "list",data:=.seq ([]:List Value).toArray}}) rfl rfl rfl rfl (p:=.list [])
  fun k e=>⟨[],⟨_,e⟩,.nil⟩
 refine callType_codes (Q₁:=fun obj s₁=>obj=.ref s.heap.objs.size∧s₁={s with heap:=s.heap.push {cls:=.type "list",data:=.seq #[]}}) F.called_list (F.typeCall_list_1 _) F.entry_list_init
  (code_list_new _ ⟨rfl,rfl⟩) fun obj s₁ h₁=>?_
 obtain⟨rfl,rfl⟩:=h₁;have hS:(s.heap.push {cls:=.type "list",data:=.seq #[]}).get? s.heap.objs.size=some {cls:=.type "list",data:=.seq #[]}:=Heap.get?_push_size _ rfl;refine⟨⟨_,hS,rfl⟩,F.args_list_init_2 _ _,?_⟩;have le1:Around.Le (AR n).in1.in1 (AR (n+2)):=AR.in1s AR.in1;have PP:=P _ (Around.Le.trans le1 (AR.le (show n+2≤n+4 by exact WW)));show wpAny _ (AR n).in1.in1 (do let old ←Builtin.List.listItems (.ref s.heap.objs.size);Builtin.List.listUpdate (.ref s.heap.objs.size) (fun O=> #[]);letGo old.toList.reverse;Builtin.List.listExtendWith (.ref s.heap.objs.size) (.ref it) .none) _ _ _;refine wpAny_bind ?_;unfold Builtin.List.listItems;refine wpAny_bind (wpAny_seqItems hS rfl (wpAny_pure ?_));show wpAny _ _ (updateSeq s.heap.objs.size (fun O=> #[]) >>= fun O=>letGo (#[]:Array Value).toList.reverse >>= fun O=>Builtin.List.listExtendWith (.ref s.heap.objs.size) (.ref it) .none) _ _ _;refine wpAny_bind (wpAny_updateSeq hS rfl ?_);have hsb:=Heap.SameBut.update (s.heap.push {cls:=.type "list",data:=.seq #[]}) s.heap.objs.size (Obj.mapSeq (fun O=>(#[]:Array Value)));obtain⟨n',hn'⟩:=AA (n:=0) (vs:=[]) (ws:=[]) (f:=(fun O=>(#[]:Array Value))) rfl
 obtain⟨t₂,k₂⟩:=St.upd (s':={s with heap:=(s.heap.push {cls:=.type "list",data:=.seq #[]}).update s.heap.objs.size (Obj.mapSeq (fun O=>(#[]:Array Value)))}) (o':=(s.heap.objs.size,.list [])::o) (q:=.list []) t₁ .here hsb rfl rfl
  ⟨[],⟨n',by rw[Heap.get?_update_self _ hS (by rw[hn'];rfl),hn']⟩,.nil⟩
 refine wpAny_bind (wpAny_letGo ?_);obtain⟨ti,hne⟩:=PP.ty _ _ _ _ _ _ hJ t₂;unfold Builtin.List.listExtendWith;refine wpAny_bind (wpAny_typeOf ti ?_)
 have hsr:Builtin.List.listSameRef (.ref s.heap.objs.size) (.ref it)=false:=by simp[Builtin.List.listSameRef];exact fun e=>hne e.symm
 simp only[hsr,h1,h2,Bool.or_false,Bool.false_eq_true,if_false];refine wpAny_bind (PP.self _ _ _ _ _ _ _ _ hJ t₂ ?_);refine wpAny_bind (wpAny_holding ?_);unfold Builtin.List.listLengthHint;refine wpAny_bind (wpAny_specialOf ti hnl ?_);show wpAny _ _ (specialOf (Value.ref it) (Str.ofString "__length_hint__") >>= _) _ _ _;refine wpAny_bind (wpAny_specialOf ti hnh ?_);refine wpAny_pure ?_
 show wpAny _ _ (rule "list.extend.makes-room" >>= fun O=>Builtin.List.listTouch (.ref s.heap.objs.size) >>= fun O=>
  again (.builtin "list.extend.loop" ⟨[.ref s.heap.objs.size,.ref it,.none],[]⟩)) _ _ _
 refine wpAny_bind (wpAny_rule ?_);refine wpAny_bind ?_;show wpAny _ _ (updateSeq s.heap.objs.size (·.push .none) >>= fun O=>updateSeq s.heap.objs.size (·.pop)) _ _ _;refine wpAny_bind (FH (v:=.none) t₂ .none (by show(0:Nat)<sizeLine;rw[sizeLine_eq];exact WU) fun s₃ t₃ k₃=>?_);obtain⟨vs3,⟨n3,ho3⟩,il3⟩:=t₃.own s.heap.objs.size _ List.mem_cons_self;obtain⟨u3,rfl⟩:∃u,vs3=[u]:=Fq (P:=fun vs=>∃u,vs=[u]) (fun u=>⟨u,rfl⟩) vs3 il3.length;have hsb3:=Heap.SameBut.update s₃.heap s.heap.objs.size (Obj.mapSeq (·.pop));obtain⟨n4,hn4⟩:=AA (n:=n3) (vs:=[u3]) (ws:=[]) (f:=(·.pop)) rfl
 obtain⟨t₄,k₄⟩:=St.upd (s':={s₃ with heap:=s₃.heap.update s.heap.objs.size (Obj.mapSeq (·.pop))}) (o':=(s.heap.objs.size,.list [])::o) (q:=.list []) t₃ .here hsb3 rfl rfl
  ⟨[],⟨n4,by rw[Heap.get?_update_self _ ho3 (by rw[hn4];rfl),hn4]⟩,.nil⟩
 refine wpAny_updateSeq ho3 rfl ?_ (by simp;rw[sizeLine_eq];exact WS) (by simp);refine wpAny_pure ⟨plainId_quiet F.plain_extend_loop _,HF PP l [] o G _ (by simpa using hsz) hJ t₄ fun s' o' G' t' k' hE=>?_⟩;rw[List.nil_append]at t' k';obtain⟨t₅,k₅,i₅⟩:=t'.freeze;exact⟨rfl,.lst l,⟨o',G'⟩,i₅,t₅,k₁.trans (Ad.trans k₂ (Ad.trans k₃ (Ad.trans k₄ (Ad.trans k' k₅)))),q o' G' hE⟩
end
section
variable {X:Cx}{G:Array GenState}
theorem HX.gen{n:Nat}(hn:n<480){B:Around}(le:Around.Le B (AR (n+4))){a:Addr}{G₁:Array GenState}{o:Own}(hob:(a,Ba G₁.size)∈o):HX X B "generator" a (fun l o' G=>∃gp,o'=gp++o∧CC X (AR (n+5)) G₁ l gp G) (fun o' G=>o'=o∧Ap G₁ G) where
 nx v r o' G D acc s hJ t:=by
  obtain⟨gp,rfl,hg⟩:=hJ;obtain⟨t',k'⟩:=t.perm (o':=gp++((D,.list acc)::o)) (List.perm_middle.symm);refine Aq le (Dr (by exact Tv hn) t' (.tail _ hob) hg (fun e=>nomatch e) fun v' vs' e u s₁ gp' G' t₁ iu ke hg'=>?_)
  cases e
  obtain⟨t₂,k₂⟩:=t₁.perm (o':=(D,.list acc)::(gp'++o)) List.perm_middle;exact⟨u,gp'++o,G',rfl,iu.keep k₂,t₂,k'.trans (Ad.trans ke k₂),gp',rfl,hg'⟩
 en o' G D acc s hJ t:=by
  obtain⟨gp,rfl,hg⟩:=hJ;obtain⟨t',k'⟩:=t.perm (o':=gp++((D,.list acc)::o)) (List.perm_middle.symm);refine Aq le (Dr (by exact Tv hn) t' (.tail _ hob) hg (fun O s₁ G' t₁ ke ge=>?_) fun v' vs' e=>nomatch e);exact⟨o,G',rfl,t₁,k'.trans ke,rfl,ge⟩
 ty l o' G D acc s hJ t:=by
  obtain⟨gp,rfl,hg⟩:=hJ;obtain⟨ob,hob',hc,_⟩:=t.own a (Ba G₁.size) (.tail _ (List.mem_append_right _ hob));refine⟨⟨ob,hob',hc⟩,fun e=>?_⟩;have nd:=t.nodup;simp only[ads,List.map_cons,List.nodup_cons]at nd;exact nd.1 (e▸List.mem_map.mpr ⟨_,List.mem_append_right _ hob,rfl⟩)
 self l o' G D acc s Q E hJ t q:=by
  obtain⟨gp,rfl,hg⟩:=hJ;obtain⟨ob,hob',hc,⟨nm,qn,hd⟩,hsl⟩:=t.own a (Ba G₁.size) (.tail _ (List.mem_append_right _ hob));exact wpAny_pyIter_gen (g:=G₁.size) ⟨ob,nm,qn,hob',hc,hd,hsl⟩ q
theorem HR{n:Nat}(hn:n<480){a:Addr}{G₁:Array GenState}{gp o:Own}{l:List PV}{Q:PV→PS→Prop}(hob:(a,Ba G₁.size)∈o)(hg:CC X (AR (n+5)) G₁ l gp G)(hsz:l.length≤sizeLine)(q:∀G',Ap G₁ G'→Q (.lst l) ⟨o,G'⟩):ON X (AR n) Is (fun vs=>call (.type "list") vs) [.raw (.ref a)] Q ⟨gp++o,G⟩:=
 CA (x:=.none) (fun B le=>HX.gen hn le hob) F.gen_no_len F.gen_no_hint (by decide) (by decide) (by decide) hsz ⟨gp,rfl,hg⟩ fun o' G' t2=>by obtain⟨e,ge⟩:=t2;exact e▸q G' ge
end
noncomputable def Dg(l:List (Str×NameKind)):List Str:=(l.filter (·.2==.cell)).map (·.1)
noncomputable abbrev C8(rs:List (Str×Addr)):Own:=rs.map fun p=>(p.2,PO.cell none)
section
variable {X:Cx}{A:Around}{G:Array GenState}
theorem H3 {E:Value→Shared→Prop} (f:Str×NameKind→List (Str×Addr)→Sem (ForInStep (List (Str×Addr))))
  (hf:∀name kind cells,f (name,kind) cells=if kind==.cell then(do let a ←alloc {cls:=.type "cell",data:=.cell none};pure (.yield ((name,a)::cells)))else pure (.yield cells)) (cl:List (Str×Addr)) {y:Addr×PO} {o:Own} {Q:List (Str×Addr)→Shared→Prop}:
  ∀(l:List (Str×NameKind)) (rs:List (Str×Addr)) (s:Shared),St X ⟨y::(C8 rs++o),G⟩ s→
   (∀rs' s',rs'.map Prod.fst=(Dg l).reverse++rs.map Prod.fst→St X ⟨y::(C8 rs'++o),G⟩ s'→Al ⟨y::(C8 rs++o),G⟩ s ⟨y::(C8 rs'++o),G⟩ s'→Q (rs'++cl) s')→
   wpAny (md X) A (forIn l (rs++cl) f) Q E s:=by
 intro l
 induction l with
 | nil=>
  intro rs s t h;rw[List.forIn_nil];exact wpAny_pure (h rs s rfl t (Ad.refl _ _))
 | cons x l ih=>
  obtain⟨name,kind⟩:=x;intro rs s t h;rw[List.forIn_cons,hf];by_cases hk:(kind==.cell)=true
  ·rw[if_pos hk]
   refine wpAny_bind (wpAny_bind (wpAny_alloc (wpAny_pure ?_)))
   obtain⟨t₁,k₁⟩:=t.pushOwn (o:={cls:=.type "cell",data:=.cell none}) (s':={s with heap:=s.heap.push {cls:=.type "cell",data:=.cell none}}) rfl rfl rfl rfl (p:=.cell none)
    fun k e=>⟨none,⟨_,e,rfl⟩,.none⟩
   obtain⟨t₂,k₂⟩:=t₁.perm (List.Perm.swap _ _ _);refine ih ((name,s.heap.objs.size)::rs) _ t₂ fun rs' s' e t' k'=>h rs' s' ?_ t' (k₁.trans (Ad.trans k₂ k'));rw[e];simp only[Dg,List.filter_cons,hk,if_true,List.map_cons,List.reverse_cons,List.append_assoc,List.singleton_append]
  ·rw[if_neg hk]
   refine wpAny_bind (wpAny_pure (ih rs s t fun rs' s' e t' k'=>h rs' s' ?_ t' k'));rw[e]
   have:(kind==NameKind.cell)=false:=by simpa using hk
   simp only[Dg,List.filter_cons,this,Bool.false_eq_true,if_false]
noncomputable def TBs(X:Cx)(A:Around)(env:Env)(names:List Str)(args:List PV)(U:Unit→PS→Prop)(σ:PS):Prop:=
 ∀s vs,St X σ s→IsAll (ads σ.own) s.heap args vs→wpAny (md X) A (forIn (names.zip vs) PUnit.unit fun(x:Str×Value) (_:PUnit)=>(do storeName env x.1 x.2;pure (ForInStep.yield PUnit.unit))) (fun O s'=>∃σ',St X σ' s'∧Al σ s σ' s'∧U () σ') NoE s
theorem D6{env:Env}{U:Unit→PS→Prop}{σ:PS}(q:U () σ):TBs X A env [] [] U σ:=fun s vs t i=>by
 cases i
 rw[List.zip_nil_left,List.forIn_nil];exact wpAny_pure ⟨σ,t,Ad.refl _ _,q⟩
theorem AP{env:Env}{U:Unit→PS→Prop}{σ:PS}{x:Str}{names:List Str}{v:PV}{args:List PV}(h:O1 X A RE (storeName env x) v (fun O σ'=>TBs X A env names args U σ') σ):TBs X A env (x::names) (v::args) U σ:=fun s vs t i=>by
 cases i with
 | cons i is=>
  rw[List.zip_cons_cons,List.forIn_cons];refine wpAny_bind (wpAny_bind (h.run t i fun r s₁ b σ₁ e t₁ k₁ q=>wpAny_pure ?_));refine wpAny_mono (q s₁ _ t₁ (is.keep k₁)) (fun O s' t2=>by obtain⟨σ',t',k',u⟩:=t2;exact⟨σ',t',k₁.trans k',u⟩) fun O O e=>e
theorem IX:∀(binds:List (Str×Value)),(binds.map Prod.fst).zip (binds.map Prod.snd)=binds
 | []=>rfl
 | (a,b)::r=>by simp[IX r]
noncomputable def GT(X:Cx)(σ:PS)(fd:FuncData)(kw:List (Str×Value))(args:List PV)(ns:List Str)(bs:List PV):Prop:=
 ∀(A:Around) s vs,St X σ s→IsAll (ads σ.own) s.heap args vs→wpAny (md X) A (bindArgs fd ⟨vs,kw⟩) (fun binds s'=>binds.map Prod.fst=ns∧IsAll (ads σ.own) s'.heap bs (binds.map Prod.snd)∧St X σ s'∧Al σ s σ s') NoE s
theorem B5{n:Nat}{a:Addr}{ob:Obj}{fd:FuncData}{body:List Stmt}{kw:List (Str×Value)}{ns:List Str}{args bs:List PV}{Q:PV→PS→Prop}{σ:PS}(ho:(Mine.hq X.w.params).get? a=some ob)(hdata:ob.data=.func fd)(hcd:(Mine.hq X.w.params).CodeRec fd.code fd.qualname)(hbody:fd.body=.stmts body)(hbind:GT X σ fd kw args ns bs)(hco:fd.scope.isCoroutine=false)(hgen:fd.scope.isGenerator=false)(hk:fd.scope.kind=.function)(hg:fd.globals=3)(hb:fd.builtins=0)(hc:fd.closure=[])(hn:n<500)(h:∀env rs,rs.map Prod.fst=(Dg fd.scope.names).reverse→En env fd.scope.names rs→TBs X (AR (n+1)) env ns bs (fun O σ'=>WF X (AR (n+1)) (execs body env) (fun f σ''=>Lvs Q f.val σ'') σ') ⟨(env.locals,.ns [])::(C8 rs++σ.own),σ.gens⟩):OC X (AR n) (.ref a) kw args Q σ:=by
 intro s vs hs iv;refine codeAny_call_function (by show 400+n<recursionLimit;unfold recursionLimit;exact a34 hn) (hs.hz _ _ ho) hdata hco hgen hbody (hcd.keeps hs.hz) ?_;refine wpAny_mono (hbind _ s vs hs iv) (fun binds s₁ hb₁=>?_) fun O O e=>e.elim;obtain⟨e1,i1,t₁,k₁⟩:=hb₁;simp only[newFunctionEnv,Option.isSome_none,Bool.false_eq_true,if_false];refine wpAny_bind (wpAny_alloc ?_)
 obtain⟨t₂,k₂⟩:=t₁.pushOwn (o:={cls:=.type "frame",data:=.dict #[]}) (s':={s₁ with heap:=s₁.heap.push {cls:=.type "frame",data:=.dict #[]}}) rfl rfl rfl rfl (p:=.ns [])
  fun k e=>⟨fun O=>none,(Heap.Ns.new s₁.heap (.type "frame")),fun O=>.none⟩
 rw[hc];refine wpAny_bind (H3 (X:=X) (G:=σ.gens) (y:=(s₁.heap.objs.size,.ns [])) (o:=σ.own) _ (fun name kind cells=>by cases hkc:kind==NameKind.cell<;>simp[hkc]) [] fd.scope.names [] _ t₂ fun rs s₃ er t₃ k₃=>?_);rw[List.map_nil,List.append_nil]at er;rw[List.append_nil]
 have he:En {scope:=fd.scope,locals:=s₁.heap.objs.size,globals:=fd.globals,cells:=rs,qual:=fd.qualname++".<locals>.",func:=some a,code:=fd.code,frame:=some s₁.heap.objs.size,builtins:=fd.builtins} fd.scope.names rs:=
  ⟨hk,fun O=>rfl,rfl,hg,hb⟩
 have hh:=h _ rs er he s₃ (binds.map Prod.snd) t₃ (i1.keep (k₂.trans k₃));rw[←e1,IX]at hh;refine wpAny_bind (wpAny_mono (Aq AR.in1 hh) (fun O s₄ h₄=>?_) fun O O e=>e.elim);obtain⟨σ',t₄,k₄,q⟩:=h₄;refine wpAny_pure ⟨t₄.lim,codeAny_func ?_⟩;refine Aq AR.deeper ?_;refine W.run q t₄ fun f s' b σ'' i t' k' q=>?_;obtain⟨v',σ3,lv,q⟩:=q;obtain⟨t'',k'',i''⟩:=lv.go t' (IsF.val i);exact⟨v',σ3,i'',t'',k₁.trans (k₂.trans (k₃.trans (k₄.trans (k'.trans k'')))),q⟩
theorem GT.plain{fd:FuncData}{args:List PV}{ns:List Str}{σ:PS}(h:∀vs:List Value,vs.length=args.length→bindArgs fd ⟨vs,[]⟩=pure (ns.zip vs))(hl:ns.length=args.length):GT X σ fd [] args ns args:=fun A s vs t i=>by
 rw[h vs i.length];refine wpAny_pure ⟨?_,?_,t,Ad.refl _ _⟩
 ·rw[List.map_fst_zip (by rw[i.length];exact a11 hl)]
 ·rw[List.map_snd_zip (by rw[i.length];exact a46 hl)];exact i
end
section
variable {X:Cx}{A:Around}{env:Env}{σ:PS}{Q:PV→PS→Prop}{P:PF→PS→Prop}{B:Bool→PS→Prop}{l:List PV}{U:Unit→PS→Prop}
theorem Ie {elt target iter:Expr} {ifs:List Expr} {scope:Scope} {cl:List (Str×Addr)} {pos:Pos} {it:Addr} {x:PV} {vx:Value} {Pi:Nat→Obj→Prop} {Src:PS→Prop} {o:Own} {g:Array GenState} {p:PV→Bool} {f:PV→PV} {xn:Str} {use:Option (Value→Sem Unit)} {Qr:Value→Shared→Prop}
  (hcn:(Dg scope.names).reverse=[xn]) (hkind:scope.kind=.function)
  (K:ItK X A it l x vx Pi Src) (hself:∀s Q E,(∃o,s.heap.get? it=some o∧Pi 0 o)→Q (.ref it) s→wpAny (md X) A (pyIter (.ref it)) Q E s)
  (src:∀a b c,Src ⟨a::b::c::o,g⟩) (hsz:l.length≤sizeLine)
  (body:∀Lc ca D,Bs X A (compEnvC scope ((xn,ca)::cl) Lc env) target ifs elt l p f (fun ov ys=>(Lc,.ns [])::(ca,.cell ov)::(D,.list ys)::o) g)
  {σ₀:PS} {s₀ s₂:Shared} (t₂:St X ⟨o,g⟩ s₂) (hit:∃o,s₂.heap.get? it=some o∧Pi 0 o) (hn:it∉ads o) (hzn:∀o,(Mine.hq X.w.params).get? it≠some o) (ix:Is (ads o) s₂.heap x vx)
  (k₀:Al σ₀ s₀ ⟨o,g⟩ s₂) (h₀:s₀.heap.get? it=none) (hgr:s₀.heap.objs.size≤s₂.heap.objs.size)
  (fin:∀Lc D m s',St X ⟨(Lc,.ns m)::(D,.list ((l.filter p).map f))::o,g⟩ s'→Al σ₀ s₀ ⟨(Lc,.ns m)::(D,.list ((l.filter p).map f))::o,g⟩ s'→s₀.heap.get? Lc=none→compPost (md X) A NoE use Qr (.ref D) Lc (.ok .next) s'):
  wpAny (md X) A (newList []) (fun acc s₃=>wpAny (md X) A (newFunctionEnv scope env.globals cl [] env.qual none .none (some env)) (fun BN s₄=>
   codeAny (md X) A (.compStart (.ListComp elt [⟨target,iter,ifs,0⟩] scope pos) 0 (.ref it) acc {BN with scope:=relabel scope env}) (compPost (md X) A NoE use Qr acc BN.locals) s₄) NoE s₃) NoE s₂:=by
 refine PySem.wpAny_newList (items:=[]) ?_ (by decide)
 obtain⟨t₃,k₃⟩:=t₂.pushOwn (o:={cls:=.type "list",data:=.seq ([]:List Value).toArray}) (s':={s₂ with heap:=s₂.heap.push {cls:=.type "list",data:=.seq ([]:List Value).toArray}}) rfl rfl rfl rfl (p:=.list [])
  fun k e=>⟨[],⟨_,e⟩,.nil⟩
 generalize hs3:({s₂ with heap:=s₂.heap.push {cls:=.type "list",data:=.seq ([]:List Value).toArray}}:Shared)=s₃ at*
 have sz:s₃.heap.objs.size=s₂.heap.objs.size+1:=by rw[←hs3];exact Heap.size_push ..
 simp only[newFunctionEnv,Option.isSome_some,if_true];refine wpAny_bind (wpAny_alloc ?_)
 obtain⟨t₄,k₄⟩:=t₃.pushOwn (o:={cls:=.type "dict",data:=.dict #[]}) (s':={s₃ with heap:=s₃.heap.push {cls:=.type "dict",data:=.dict #[]}}) rfl rfl rfl rfl (p:=.ns [])
  fun k e=>⟨fun O=>none,(Heap.Ns.new s₃.heap (.type "dict")),fun O=>.none⟩
 refine wpAny_bind (H3 (X:=X) (G:=g) (y:=(s₃.heap.objs.size,.ns [])) (o:=(s₂.heap.objs.size,.list [])::o) _ (fun name kind cells=>by cases hkc:kind==NameKind.cell<;>simp[hkc]) cl scope.names [] _ t₄ fun rs s₅ er t₅ k₅=>?_);rw[List.map_nil,List.append_nil,hcn]at er
 obtain⟨ca,rfl⟩:∃ca,rs=[(xn,ca)]:=by
  match rs,er with
  | [(n,c)],e=>simp only[List.map_cons,List.map_nil,List.cons.injEq,and_true]at e;exact⟨c,by rw[e]⟩
 refine wpAny_bind ?_;rw[List.forIn_nil];refine wpAny_pure (wpAny_pure ?_);have k₂₅:=k₃.trans (Ad.trans k₄ k₅);obtain⟨o',e',p'⟩:=hit;have live:=k₂₅ it o' e' hn
 have hLc:s₀.heap.get? s₃.heap.objs.size=none:=by
  cases e:s₀.heap.get? s₃.heap.objs.size with
  | none=>rfl
  | some o=>exact absurd (Heap.lt_size e) (Nat.not_lt.mpr (by exact a63 hgr sz))
 have loop:codeAny (md X) A (.compLoop (.ListComp elt [⟨target,iter,ifs,0⟩] scope pos) 0 (.ref it) (.ref s₂.heap.objs.size) (compEnvC scope ((xn,ca)::cl) s₃.heap.objs.size env)) (compPost (md X) A NoE use Qr (.ref s₂.heap.objs.size) s₃.heap.objs.size) s₅:=by
  refine Gc (σ₀:=σ₀) (s₀:=s₀) (g:=g) (p:=p) (f:=f) (x:=x) (vx:=vx) (fr:=fun ov ys=>(s₃.heap.objs.size,.ns [])::(ca,.cell ov)::(s₂.heap.objs.size,.list ys)::o) K (fun O O=>src _ _ _) (fun O O=>.tail _ (.tail _ (.head _))) (fun O O O=>.there (.there .here)) hsz
   (body _ _ _).step (body _ _ _).tests (body _ _ _).elt t₅ ⟨o',live.1,p'⟩ live.2 hzn (ix.keep k₂₅) (k₀.trans k₂₅) h₀ fun ov s' t' k'=>?_
  obtain⟨t₆,k₆⟩:=t'.drop (o':=(s₃.heap.objs.size,.ns [])::(s₂.heap.objs.size,.list ((l.filter p).map f))::o) ((List.sublist_cons_self _ _).cons_cons _);exact fin _ _ _ s' t₆ (k'.trans k₆) hLc
 exact codeAny_compStart_list loop (hself _ _ _ ⟨o',live.1,p'⟩ loop)
theorem Fw{elt target iter:Expr}{y:Str}{py:Pos}{ifs:List Expr}{scope:Scope}{cl:List (Str×Addr)}{pos spos:Pos}{xn:Str}(hh:A.handled=none)(p:PV→Bool)(f:PV→PV)(hsw:swapsWith (.ListComp elt [⟨target,iter,ifs,0⟩] scope pos) (some (.Name y py)) spos.line env=pure true)(hclos:closureFor scope env=pure cl)(hcn:(Dg scope.names).reverse=[xn])(hkind:scope.kind=.function)(hnames:∀y∈scope.names,y.2=.local→scope.names.lookup y.1=some .local)(h:WV X A (eval iter env) (fun x σ₁=>∃a b o g,x=.rng a b∧σ₁=⟨o,g⟩∧ -(2 ^ 62)≤a∧a<2 ^ 62∧ -(2 ^ 62)≤b∧b<2 ^ 62∧(Bp a b).length≤sizeLine∧(∀Lc ca D,Bs X A (compEnvC scope ((xn,ca)::cl) Lc env) target ifs elt (Bp a b) p f (fun ov ys=>(Lc,.ns [])::(ca,.cell ov)::(D,.list ys)::o) g)∧TG X A env (.Name y py) (.lst (((Bp a b).filter p).map f)) (fun O σ'=>P .next σ') ⟨o,g⟩) σ)(hs:∀x,foldedSetIterable iter env x=pure x):WF X A (exec (.Assign [.Name y py] (.ListComp elt [⟨target,iter,ifs,0⟩] scope pos) spos) env) P σ:=fun s hst=>by
 rw[exec_Assign_Name_used _ _ _ _ hsw];refine wpAny_bind (wpAny_standAt (wpAny_bind ?_));show wpAny _ A (do let _ ←comprehension (.ListComp elt [⟨target,iter,ifs,0⟩] scope pos) scope env _ (newList []) false (eval iter env) (some (assign (.Name y py) env))) _ _ s
 refine wpAny_bind (wpAny_mono (wpAny_comprehension_free (use:=some (assign (.Name y py) env)) (Q:=fun O s'=>Po X IsF P σ s .next s') (E:=NoE) rfl hs hclos hkind hnames
  (h.run hst fun vx s₁ x σ₁ ix t₁ k₁ q=>?_)) (fun O s' hq=>wpAny_pure (wpAny_pure hq)) fun O O e=>e)
 obtain⟨a,b,o,g,rfl,rfl,ha,ha',hb,hb',hsz,body,q⟩:=q
 have hzn:∀o,(Mine.hq X.w.params).get? s₁.heap.objs.size≠some o:=fun o e=>by
  have:=t₁.hz _ _ e;rw[Ax]at this;cases this
 cases ix with
 | rng e n=>
  refine wpAny_pyIter_range e (small_one ha ha' hb hb') ?_;obtain⟨t₂,k₂,e₂,n₂⟩:=t₁.push (s':={s₁ with heap:=s₁.heap.push {cls:=.type "range_iterator",data:=.fields #[rawInt a,rawInt (Builtin.Range.rangeSize a b 1),rawInt 1]}}) _ rfl rfl rfl
  have hs:Builtin.Range.rangeSize a b 1=((b-a).toNat:Int)-((0:Nat):Int):=by rw[rangeSize_one];split<;>(first| exact a64 (by assumption)| exact a65 (by assumption))
  refine Ie (it:=s₁.heap.objs.size) hcn hkind (ItK.range (X:=X) (x:=.none) (vx:=.none) (a:=a) (b:=b) hh) E0 (fun O O O=>trivial) hsz body t₂ ⟨_,e₂ rfl,by rw[hs];simp⟩ n₂ hzn .none k₂ (Ax _) (by simp[Heap.size_push]) fun Lc D m s' t' k' hLc=>?_;obtain⟨fm,hn,_⟩:=t'.own _ _ List.mem_cons_self;obtain⟨t₂,i₂,k₂⟩:=DU t' (List.Sublist.refl _) k' hLc (Heap.SameBut.refl Lc s'.heap)
  have nL:Lc∉ads o:=fun hm=>by
   have:=t'.nodup;simp only[ads,List.map_cons,List.nodup_cons]at this;exact this.1 (List.mem_cons_of_mem _ hm)
  have nz:∀o,(Mine.hq X.w.params).get? Lc≠some o:=fun o e=>(t'.stat _ _ e).2 List.mem_cons_self;show wpAny _ _ (assign (.Name y py) env (.ref D)) _ _ _;refine O1.run (q:O1 X A RE _ _ _ _) t₂ i₂ fun O s₃ O σ₃ O t₃ k₃ q=>?_;obtain⟨ob,es,n,hob,hd,hr⟩:=hn;have live:=k₃ Lc ob hob nL;refine⟨fm,⟨ob,es,n,live.1,hd,hr⟩,fun h' hsb=>?_⟩;have kb:AI Lc s₃.heap h':=fun b o hb e=>(hsb.2 b hb).trans e;have t₄:=t₃.iter (s':={s₃ with heap:=h'}) live.2 nz (fun o e=>by rw[live.1]at e;cases e;exact .of_dict hd) kb rfl rfl;refine⟨.next,σ₃,.next,t₄,k₁.trans fun b o e n=>?_,q⟩;have:=(k₂.trans k₃) b o e n;exact⟨kb b o (fun q=>by rw[q,hLc]at e;cases e) this.1,this.2⟩
noncomputable def Be(names:List (Str×NameKind))(ns:List (Str×NameKind)):List (Str×NameKind):=names.map fun x=>if(x.2==.free&&ns.lookup x.1==some .cell)then(x.1,.cell)else x
theorem En.comp{ns:List (Str×NameKind)}{cs cl:List (Str×Addr)}{scope:Scope}{Lc:Addr}(he:En env ns cs)(hk:scope.kind=.function):En (compEnvC scope cl Lc env) (Be scope.names ns) cl:=by
 refine⟨hk,fun x=>?_,rfl,he.g,he.b⟩;show(scope.names.map fun(n,k)=>if(k==.free&&env.scope.kind==.function&&env.kindOf n==some .cell)then(n,NameKind.cell)else(n,k)).lookup x=_
 have:(scope.names.map fun(n,k)=>if(k==.free&&env.scope.kind==.function&&env.kindOf n==some .cell)then(n,NameKind.cell)else(n,k))=Be scope.names ns:=by
  unfold Be;refine List.map_congr_left fun y O=>?_;obtain⟨n,k⟩:=y;simp only[he.k,he.n];simp
 rw[this]
theorem En.clos{ns:List (Str×NameKind)}{cs:List (Str×Addr)}(he:En env ns cs)(scope:Scope):closureFor scope env=closureFor scope {scope:={kind:=.function,names:=ns,isGenerator:=false,isCoroutine:=false,more:=[]},locals:=0,globals:=3,cells:=cs,qual:="",func:=none,code:=.none,frame:=none,builtins:=0}:=by
 unfold closureFor
 have hcl:∀x,cellOf env x=cellOf {scope:={kind:=.function,names:=ns,isGenerator:=false,isCoroutine:=false,more:=[]},locals:=0,globals:=3,cells:=cs,qual:="",func:=none,code:=.none,frame:=none,builtins:=0} x:=fun x=>by
  unfold cellOf;rw[he.c]
 simp only[hcl]
end
section
set_option maxHeartbeats 1000000
noncomputable abbrev R4(t:Sem PySem.Fin)(T:Str):Prop:=Meets t (fun O R s=>∀t' k,R (.ok (.ret (.str T t'))) {s with toks:=k})
noncomputable def FV(v:Value)(y:Str)(K:Nat):Prop:=y.length≤K∧∀(prog:Program) (W:World) (A:Around) (Q:Value→Shared→Prop) (E:Value→Shared→Prop) (s:Shared),(∀t' k,Q (.str y t') {s with toks:=k})→wpAny (model prog W) A (Builtin.Str.formatOf v Str.empty) Q E s
theorem FV.str{x:Str}{t:Tok}{K:Nat}(h:x.length≤K):FV (.str x t) x K:=⟨h,fun O O O O O O q=>wpAny_of_eq (KFm.formatOf_str _ _) (q _ _)⟩
theorem FV.int{n:Int}{u:Tok}(h0:0≤n)(h1:n≤1000):FV (.int n u) (Str.ofString (toString n)) 10:=⟨by kfm_len,fun O O O O O O q=>KFm.formatOf_int (by kfm_hd) q⟩
noncomputable def FP(x:PV)(y:Str)(K:Nat):Prop:=∀ad h v,Is ad h x v→FV v y K
theorem FP.str{x:Str}{K:Nat}(h:x.length≤K):FP (.str x) x K:=fun O O O i=>by
 obtain⟨t,rfl⟩:=i.vStr;exact .str h
theorem FP.int{n:Int}(h0:0≤n)(h1:n≤1000):FP (.int n) (Str.ofString (toString n)) 10:=fun O O O i=>by
 obtain⟨t,rfl⟩:=i.vInt;exact .int h0 h1
inductive Fm (as:List PV)(n:Nat)(R:Str):Nat→List Nat→Str→Nat→Prop
 | done {k:Nat} {T:Str} {N:Nat} (h:N≤16777216) (e:T=R):Fm as n R k [] T N
 | turn {k K N:Nat} {c:Nat} {r lit rest:List Nat} {T T' y:Str} {v:PV} (h1:Builtin.Str.nextMarkup (c::r)=.ok (lit,some {name:=[]},rest)) (h2:Nat.ble rest.length r.length=true) (h3:(lit.length==n)=false) (h4:as[k]? =some v) (h5:FP v y K) (h6:(T++⟨lit.toArray⟩)++y=T')
   (h:Fm as n R (k+1) rest T' (N+(⟨lit.toArray⟩:Str).length+K)):Fm as n R k (c::r) T N
theorem Fm.le{as:List PV}{n:Nat}{R:Str}{k:Nat}{r:List Nat}{T:Str}{N:Nat}(h:Fm as n R k r T N):N≤16777216:=by
 induction h with
 | done h e=>exact h
 | turn _ _ _ _ _ _ _ ih=>exact Nat.le_trans (Nat.le_trans (Nat.le_add_right _ _) (Nat.le_add_right _ _)) ih
section
open Builtin.Str
noncomputable abbrev FL:=Nat→Writer×Numbering×List Nat→Sem (ForInStep (Writer×Numbering×List Nat))
theorem Fm.loop {prog:Program} {W:World} {A:Around} {Q:Writer×Numbering×List Nat→Shared→Prop} {E:Value→Shared→Prop} {ad:List Addr} {hp:Heap} {as:List PV} {vs:List Value} (iv:IsAll ad hp as vs) {n:Nat} {R:Str} {f:FL}
  (hd:∀i w num,f i (w,num,[])=pure (.done (w,num,[])))
  (ht:∀{k K N:Nat} {c:Nat} {r lit rest:List Nat} {T T' y:Str} {v:Value},nextMarkup (c::r)=.ok (lit,some {name:=[]},rest)→(lit.length==n)=false→vs.toArray[k]? =some v→FV v y K→(T++⟨lit.toArray⟩)++y=T'→
   ∀i w num s Q,N≤16777216→KPc.Good w T N→(num=.unset∧k=0)∨num=.auto k→(∀w' tk,KPc.Good w' T' (N+(⟨lit.toArray⟩:Str).length+K)→Q (.yield (w',.auto (k+1),rest)) {s with toks:=tk})→wpAny (model prog W) A (f i (w,num,c::r)) Q E s)
  {k:Nat} {r:List Nat} {T:Str} {N:Nat} (h:Fm as n R k r T N):∀l:List Nat,r.length≤l.length→∀w num s,KPc.Good w T N→(num=.unset∧k=0)∨num=.auto k→(∀w' num' N' tk,KPc.Good w' R N'→N'≤16777216→Q (w',num',[]) {s with toks:=tk})→wpAny (model prog W) A (forIn l (w,num,r) f) Q E s:=by
 induction h with
 | done h e=>
  subst e;intro l _ w num s g _ q
  cases l with
  | nil=>rw[List.forIn_nil];exact wpAny_pure (q w num _ s.toks g h)
  | cons i l=>exact KPc.turn (wpAny_of_eq (hd i w num) (q w num _ s.toks g h))
 | turn h1 h2 h3 h4 h5 h6 h ih=>
  intro l hl w num s g hn q
  cases l with
  | nil=>exact absurd hl (Nat.not_succ_le_zero _)
  | cons i l=>
   obtain⟨u,hu,iu⟩:=iv.get h4;exact KPc.turn (ht h1 h3 (by rw[List.getElem?_toArray];exact hu) (h5 _ _ _ iu) h6 i w num s _ (Nat.le_trans (Nat.le_trans (Nat.le_add_right _ _) (Nat.le_add_right _ _)) h.le) g hn fun w' tk g'=>ih l (Nat.le_trans (Nat.le_of_ble_eq_true h2) (Nat.le_of_succ_le_succ hl)) w' _ _ g' (.inr rfl) fun w2 num2 N2 tk2 g2 hN=>q w2 num2 N2 tk2 g2 hN)
end
theorem Fm.meets{fmt:Str}{t:Tok}{as:List PV}{vs:List Value}{ad:List Addr}{hp:Heap}(iv:IsAll ad hp as vs){R:Str}(h:Fm as fmt.cps.toList.length R 0 fmt.cps.toList Str.empty 0):R4 (Builtin.«str.format» ⟨.str fmt t::vs,[]⟩) R:=by
 apply KPc.meets_of;intro prog W A s Q E q;refine wpAny_bind (wpAny_of_eq (a:=(_,_,_)) rfl ?_);refine wpAny_bind ?_;refine wpAny_bind ?_;rw[KPc.range_list];refine Fm.loop iv ?_ ?_ h _ (by rw[List.length_range'];exact Nat.le_refl _) {} .unset s KPc.good0 (.inl ⟨rfl,rfl⟩) fun w' num' N' tk g hN=>?_
 ·intro i w num;rfl
 ·intro k K N c r lit rest T T' y v h1 h3 h4 h5 h6 i w num s Q hN g hn q
  kpc_if
  refine wpAny_ite (KPc.ite_no (KPc.short_good g hN) ?_);rw[h1];refine wpAny_bind (KFm.field_auto hn h4 ?_);refine wpAny_bind (wpAny_holding (wpAny_of_eq (a:=_) rfl ?_))
  kpc_if
  refine wpAny_bind (wpAny_pure ?_);refine wpAny_bind (wpAny_holding (h5.2 _ _ _ _ _ _ fun t' tk=>?_));refine wpAny_bind (wpAny_of_eq (a:=some _) rfl ?_);refine wpAny_pure (q _ tk ?_);subst h6;refine KPc.good_mono (KPc.good_add (KPc.good_add g ?_) fun u e=>?_) (Nat.add_le_add_left h5.1 _)
  ·rw[h3];exact KPc.obj_none rfl
  ·split at e
   ·exact⟨t',(Option.some.inj e).symm⟩
   ·cases e
 ·refine wpAny_pure ?_
  exact KPc.finish_ok g hN rfl fun t k=>q t k
section
variable {X:Cx}{A:Around}{env:Env}{σ:PS}{Q:PV→PS→Prop}
theorem MD{fs fs':Str}{l:List PV}{R:Str}(e:fs=fs')(ha:∀t,∀vs:List Value,vs.length=l.length→argsOk "str.format" ⟨.str fs' t::vs,[]⟩)(h:Fm l fs'.cps.toList.length R 0 fs'.cps.toList Str.empty 0)(q:Q (.str R) σ):ON X A Is (fun l=>call (.builtin "str.format") l) (.str fs::l) Q σ:=fun s vs hs i=>by
 obtain⟨u,us,iu,is,rfl⟩:=i.vCons;obtain⟨t,rfl⟩:=iu.vStr;refine KFm.call_k e (ha t us is.length) (Fm.meets is h) fun t' k=>?_;obtain⟨t,ke⟩:=hs.same (s':={s with toks:=k}) rfl rfl rfl;exact⟨_,σ,.str _ _,t,ke,q⟩
theorem Tb{n:Int}(h0:0≤n)(h1:n≤1000)(q:Q (.str (Str.ofString (toString n))) σ):ON X A Is (fun l=>call (.builtin "str.format") l) [.str "{}",.int n] Q σ:=
 MD (fs':=⟨#[123,125]⟩) (by decide+kernel) (fun t=>Fq fun O=>KFm.args_2 _ _) (.turn rfl rfl rfl rfl (.int h0 h1) KFm.cat_ee (.done (by decide+kernel) rfl)) q
theorem Mm{n m:Int}(h0:0≤n)(h1:n≤1000)(h2:0≤m)(h3:m≤1000)(q:Q (.str (Str.ofString (toString n)++Str.ofString ","++Str.ofString (toString m))) σ):ON X A Is (fun l=>call (.builtin "str.format") l) [.str "{},{}",.int n,.int m] Q σ:=
 MD (fs':=⟨#[123,125,44,123,125]⟩) (by decide+kernel) (fun t=>EH fun O O=>KFm.args_3 _ _ _) (.turn rfl rfl rfl rfl (.int h0 h1) KFm.cat_ee (.turn rfl rfl rfl rfl (.int h2 h3) rfl (.done (by decide+kernel) rfl))) q
theorem NO{x y z:Str}(hx:x.length≤1000)(hy:y.length≤1000)(hz:z.length≤1000)(q:Q (.str (Str.ofString "--- "++x++y++z)) σ):ON X A Is (fun l=>call (.builtin "str.format") l) [.str "--- {}{}{}",.str x,.str y,.str z] Q σ:=
 MD (fs':=⟨#[45,45,45,32,123,125,123,125,123,125]⟩) (by decide+kernel) (fun t=>IC fun O O O=>KFm.args_4 _ _ _ _) (.turn rfl rfl rfl rfl (.str hx) (KFm.cat_ex (x:=Str.ofString "--- ")) (.turn rfl rfl rfl rfl (.str hy) KFm.cat_te (.turn rfl rfl rfl rfl (.str hz) KFm.cat_te (.done (by decide+kernel) rfl)))) q
theorem NP{x y z:Str}(hx:x.length≤1000)(hy:y.length≤1000)(hz:z.length≤1000)(q:Q (.str (Str.ofString "+++ "++x++y++z)) σ):ON X A Is (fun l=>call (.builtin "str.format") l) [.str "+++ {}{}{}",.str x,.str y,.str z] Q σ:=
 MD (fs':=⟨#[43,43,43,32,123,125,123,125,123,125]⟩) (by decide+kernel) (fun t=>IC fun O O O=>KFm.args_4 _ _ _ _) (.turn rfl rfl rfl rfl (.str hx) (KFm.cat_ex (x:=Str.ofString "+++ ")) (.turn rfl rfl rfl rfl (.str hy) KFm.cat_te (.turn rfl rfl rfl rfl (.str hz) KFm.cat_te (.done (by decide+kernel) rfl)))) q
theorem Mn{x y z:Str}(hx:x.length≤1000)(hy:y.length≤1000)(hz:z.length≤1000)(q:Q (.str (Str.ofString "@@ -"++x++Str.ofString " +"++y++Str.ofString " @@"++z)) σ):ON X A Is (fun l=>call (.builtin "str.format") l) [.str "@@ -{} +{} @@{}",.str x,.str y,.str z] Q σ:=
 MD (fs':=⟨#[64,64,32,45,123,125,32,43,123,125,32,64,64,123,125]⟩) (by decide+kernel) (fun t=>IC fun O O O=>KFm.args_4 _ _ _ _) (.turn rfl rfl rfl rfl (.str hx) (KFm.cat_ex (x:=Str.ofString "@@ -")) (.turn rfl rfl rfl rfl (.str hy) rfl (.turn rfl rfl rfl rfl (.str hz) rfl (.done (by decide+kernel) rfl)))) q
end
end
theorem IsAll.set{ad:List Addr}{h:Heap}{x:PV}{u:Value}{l:List PV}{vs:List Value}(j:Nat)(i:IsAll ad h l vs)(b:Is ad h x u):IsAll ad h (l.set j x) (vs.set j u):=
 i.ind (P:=fun l vs=>∀j,IsAll ad h (l.set j x) (vs.set j u)) (fun O=>.nil) (fun a r ih j=>by
  cases j with
  | zero=>exact .cons b r
  | succ j=>exact .cons a (ih j)) j
section
variable {X:Cx}{A:Around}{env:Env}{σ:PS}{Q:PV→PS→Prop}{P:PF→PS→Prop}{B:Bool→PS→Prop}{l:List PV}{U:Unit→PS→Prop}{ns:List (Str×NameKind)}{cs:List (Str×Addr)}{x:Str}{pos:Pos}{v:PV}{m:List (Str×PV)}{o:Own}{g:Array GenState}
theorem En.aug(he:En env ns cs){pos':Pos}{op:Operator}{value:Expr}(hl:ns.lookup x=some .local)(hm:m.lookup x=some v)(h:WV X A (eval value env) (fun u σ₁=>O2 X A Is (inplaceOp op) v u (fun r σ₂=>O1 X A RE (storeName env x) r (fun O σ₃=>P .next σ₃) σ₂) σ₁) ⟨(env.locals,.ns m)::o,g⟩):WF X A (exec (.AugAssign (.Name x pos') op value pos) env) P ⟨(env.locals,.ns m)::o,g⟩:=K7 he.k ((he.n x).trans hl) hm h
theorem En.expr(he:En env ns cs){e:Expr}(h:WV X A (eval e env) (fun O σ'=>P .next σ') σ)(hs:swapsWith e none pos.line env=pure false):WF X A (exec (.Expr e pos) env) P σ:=IR h he.inter hs
theorem iadd_ii{a b:Int}(q:Q (.int (a+b)) σ):O2 X A Is (inplaceOp .Add) (.int a) (.int b) Q σ:=by
 intro s va vb hs ia ib
 cases ia;cases ib
 obtain⟨t,ke⟩:=hs.same (s':={s with toks:=s.toks+1}) rfl rfl rfl;exact PySem.AutoIntOps.iadd_0 ⟨_,σ,.int _ _,t,ke,q⟩
theorem W_app{ob e:Expr}{apos:Pos}(hbase:attributeBase ob "append" env (eval ob env)=eval ob env)(hfew:((backTo pos (starEach [e] env)).all (fun x=> !x.1)&&(backToKw pos (keywordEach [] env)).all (fun x=>x.1.isSome)&&decide ([e].length+([]:List Keyword).length+(if([]:List Keyword).isEmpty then 0 else 1)<30))=true)(hline:(apos.endLine==pos.line)=true)(ha:A9 env [e])(hp:∀pos,((backTo pos (starEach [e] env)).any (·.1))=false)(hse:starEach [e] env=(false,eval e env)::starEach [] env)(h:WV X A (eval ob env) (fun ov σ₁=>∃a l,ov=.raw (.ref a)∧(a,.list l)∈σ₁.own∧WV X A (eval e env) (fun y σ₂=>∃ys o g o',σ₂=⟨o,g⟩∧(a,.list ys)∈o∧ys.length≤sizeLine∧Upd o a (.list (ys++[y])) o'∧Q .none ⟨o',g⟩) σ₁) σ):WV X A (eval (.Call (.Attribute ob "append" apos) [e] [] pos) env) Q σ:=by
 refine Ch (T:="list") (id:="list.append") hbase hfew hline PySem.F.plainAttrs_list PySem.F.slot_list_append PySem.F.type_list_append ha hp (W.mono h fun ov σ₁ q=>?_);obtain⟨a,l,rfl,hm,q⟩:=q;refine⟨D8.lst (.own hm),Es_cons (W.mono q fun y σ₂ q=>Es_nil ?_) hse⟩;obtain⟨ys,o,g,o',rfl,hm',hsz,u,q⟩:=q;exact Th hm' hsz u q
theorem W_pop{ob:Expr}{apos:Pos}(hbase:attributeBase ob "pop" env (eval ob env)=eval ob env)(hfew:((backTo pos (starEach [] env)).all (fun x=> !x.1)&&(backToKw pos (keywordEach [] env)).all (fun x=>x.1.isSome)&&decide (([]:List Expr).length+([]:List Keyword).length+(if([]:List Keyword).isEmpty then 0 else 1)<30))=true)(hline:(apos.endLine==pos.line)=true)(hp:∀pos,((backTo pos (starEach [] env)).any (·.1))=false)(h:WV X A (eval ob env) (fun ov σ₁=>∃a r y o g o',ov=.raw (.ref a)∧σ₁=⟨o,g⟩∧(a,.list (r++[y]))∈o∧r.length+1≤sizeLine∧Upd o a (.list r) o'∧Q y ⟨o',g⟩) σ):WV X A (eval (.Call (.Attribute ob "pop" apos) [] [] pos) env) Q σ:=by
 refine Ch (T:="list") (id:="list.pop") hbase hfew hline PySem.F.plainAttrs_list PySem.F.slot_list_pop PySem.F.type_list_pop trivial hp (W.mono h fun ov σ₁ q=>?_);obtain⟨a,r,y,o,g,o',rfl,rfl,hm,hsz,u,q⟩:=q;exact⟨D8.lst (.own hm),Es_nil (RH hm hsz u q)⟩
theorem JV{a:Addr}{k:Int}{ys:List PV}{o o':Own}(hm:(a,.list ys)∈o)(h0:0≤k)(hk:k<ys.length)(hsz:ys.length≤sizeLine)(u:Upd o a (.list (ys.set k.toNat v)) o')(q:U () ⟨o',g⟩):O3 X A setItem (.raw (.ref a)) (.int k) v U ⟨o,g⟩:=fun s va vb vc hs ia ib ic=>by
 cases ia
 cases ib
 obtain⟨vs,⟨n,ho⟩,iv⟩:=hs.own _ _ hm
 have hT:s.TypeIs (.ref a) "list":=⟨_,ho,rfl⟩
 have e1:=iv.length;have hfit:Builtin.List.listFitsIndex k=true:=fitsIndex_of h0 (by rw[sizeLine_eq]at hsz;exact au7 hk hsz);unfold setItem
 try with_reducible refine wpAny_holding ?_
 first| refine wpAny_bind (wpAny_pure ?_)| skip
 refine wpAny_bind (wpAny_sequenceKey hT (by decide) ?_)
 refine wpAny_bind (wpAny_callSpecial?_slot (name:=Str.ofString "__setitem__") hT PySem.slot_list_setitem
  (wpAny_call_entry PySem.slot_list_setitem hT PySem.entry_list_setitem ?_ (PySem.args_list_setitem _ _ _)))
 show wpAny _ _ (Builtin.List.listSubscript? (.int k ω) >>= _) _ _ s;refine wpAny_bind (wpAny_listSubscript_int hfit ?_);clear hfit;obtain⟨j,rfl⟩:=Int.eq_ofNat_of_zero_le h0
 have hj:j<vs.length:=by rw[e1];exact au6 hk
 have hx:vs.toArray[j]? =some vs[j]:=by simp[hj]
 show wpAny _ _ ((seqItemAt a j >>= fun r=>pure (r.map (j,·))) >>= _) _ _ s;refine wpAny_bind (wpAny_bind (wpAny_seqItemAt ho rfl (wpAny_pure ?_)));rw[hx];show wpAny _ _ (setSeqItemAt a j vc >>= _) _ _ s
 have he:vs.toArray.setIfInBounds j vc=(vs.set j vc).toArray:=by simp
 obtain⟨n',hn'⟩:=AA (n:=n) (f:=fun xs=>xs.setIfInBounds j vc) he;have hsb:=Heap.SameBut.update s.heap a (Obj.mapSeq fun xs=>xs.setIfInBounds j vc)
 have k':Ad (ads o) s.heap (ads o) (s.heap.update a (Obj.mapSeq fun xs=>xs.setIfInBounds j vc)):=fun b ob e n=>⟨(hsb.2 b fun e=>n (by rw[e];exact u.mem_addr)).trans e,n⟩
 obtain⟨t,ke⟩:=hs.upd (s':={s with heap:=s.heap.update a (Obj.mapSeq fun xs=>xs.setIfInBounds j vc)}) u hsb rfl rfl
  ⟨vs.set j vc,⟨n',by rw[Heap.get?_update_self _ ho (by rw[hn'];rfl),hn']⟩,(iv.keep k').set j (ic.keep k')⟩
 refine wpAny_bind (wpAny_setSeqItemAt ho rfl ?_)
 first
  | exact wpAny_bind (wpAny_pure (wpAny_pure ⟨.none,rfl,wpAny_pure ⟨(),_,rfl,t,ke,q⟩⟩))
  | exact wpAny_pure ⟨.none,rfl,wpAny_pure ⟨(),_,rfl,t,ke,q⟩⟩
theorem ItK.tuple(hh:A.handled=none){it a:Addr}:ItK X A it l (.tup l) (.ref a) (fun i o=>o.cls=.type "tuple_iterator"∧o.data=.fields #[.ref a,.int i 0]) (fun σ=>True) where
 dull i o p:=by
  obtain⟨p,_⟩:=p
  refine AG.of_cls ⟨?_,?_,?_,?_,?_⟩<;>rw[p]<;>decide
 nx i v σ s hv hs t ix hit hn Q E k:=by
  obtain⟨o,e,p⟩:=hit
  cases ix with
  | tup ho hc hd hm il=>
   obtain⟨va,hva,iv⟩:=il.get hv;refine FC (i:=i) (x:=va) ⟨o,e,p⟩ ⟨_,_,ho,hd⟩ (by simpa using hva) fun h' hi hsb=>?_;have kb:AI it s.heap h':=fun b ob hb eb=>(hsb.2 b hb).trans eb;refine k va _ (iv.but (fun o' eo'=>?_) kb) kb rfl rfl ?_
   ·rw[e]at eo';cases eo'
    refine AG.of_cls ⟨?_,?_,?_,?_,?_⟩<;>rw[p.1]<;>decide
   ·obtain⟨o',e',p'⟩:=hi
    exact⟨o',e',p'⟩
 en i σ s hv hs t ix hit hn Q E k:=by
  obtain⟨o,e,p⟩:=hit
  cases ix with
  | tup ho hc hd hm il=>
   refine HI hh (i:=i) ⟨o,e,p⟩ ⟨_,_,ho,hd⟩ (by
    rw[List.getElem?_toArray]
    exact List.getElem?_eq_none (by rw[il.length];exact List.getElem?_eq_none_iff.mp hv)) fun h' hk=>k _ (fun b ob hb eb=>hk b ob hb eb) rfl rfl
 lg target i o s va Q E e p q:=H2 e (fun n hn=>by rw[p.1]at hn;cases hn;decide) q
theorem R0{target iter:Expr}{body:List Stmt}(hh:A.handled=none)(h:WV X A (eval iter env) (fun x σ₁=>∃(l:List PV) (I:List PV→PS→Prop),x=.tup l∧I l σ₁∧(∀v r σ,I (v::r) σ→TG X A env target v (fun O σ'=>WF X A (execs body env) (Br I r P) σ') σ)∧(∀σ,I [] σ→P .next σ)) σ)(hs:∀x,foldedSetIterable iter env x=pure x):WF X A (exec (.For target iter body [] pos) env) P σ:=fun s hst=>by
 refine wpAny_For (h.run hst fun vx s₁ x σ₁ ix t₁ k₁ q=>?_) hs;obtain⟨l,I,rfl,h0,step,fin⟩:=q
 cases ix with
 | tup ho hc hd hm il=>
  rename_i a ob vs n;refine PySem.wpAny_pyIter_tuple (t:=a) ⟨_,ho,hc,_,hd⟩ ?_;obtain⟨t₂,k₂,e₂,n₂⟩:=t₁.push (s':={s₁ with heap:=s₁.heap.push {cls:=.type "tuple_iterator",data:=.fields #[.ref a,.int 0 0]}}) _ rfl rfl rfl
  have hzn:∀o,(Mine.hq X.w.params).get? s₁.heap.objs.size≠some o:=fun o e=>by
   have:=t₁.hz _ _ e;rw[Ax]at this;cases this
  have:=Fg (body:=body) (env:=env) (P:=P) (ItK.tuple (X:=X) (l:=l) (a:=a) hh) (fun O O O=>trivial) step fin h0 t₂ ⟨_,e₂ rfl,rfl,rfl⟩ n₂ hzn ((Is.tup ho hc hd hm il:Is _ _ (.tup l) (.ref a)).keep k₂) k₂ (Ax _) (target:=target);refine codeAny_mono this fun r s' hr=>?_
  cases r with
  | error e=>exact hr
  | ok f=>exact Po.from k₁ hr
end
section
variable {X:Cx}{A:Around}{env:Env}{σ:PS}{Q:PV→PS→Prop}
theorem isub_ii{a b:Int}(q:Q (.int (a-b)) σ):O2 X A Is (inplaceOp .Sub) (.int a) (.int b) Q σ:=by
 intro s va vb hs ia ib
 cases ia;cases ib
 obtain⟨t,ke⟩:=hs.same (s':={s with toks:=s.toks+1}) rfl rfl rfl;exact PySem.AutoIntOps.isub_0 ⟨_,σ,.int _ _,t,ke,q⟩
theorem W_neg{i:Int}{k:Nat}{p pos:Pos}(q:Q (.int (-i)) σ):WV X A (eval (.UnaryOp .USub (.Constant (.int i) k p) pos) env) Q σ:=by
 intro s hs;refine wpAny_UnaryOp (wpAny_Constant_int ?_);obtain⟨t,ke⟩:=hs.same (s':={s with toks:=s.toks+1+1}) rfl rfl rfl;exact PySem.P.neg_int ⟨_,σ,.int _ _,t,ke,q⟩
theorem W_fmt{ob:Expr}{apos pos:Pos}{args:List Expr}(hbase:attributeBase ob "format" env (eval ob env)=eval ob env)(hfew:((backTo pos (starEach args env)).all (fun x=> !x.1)&&(backToKw pos (keywordEach [] env)).all (fun x=>x.1.isSome)&&decide (args.length+([]:List Keyword).length+(if([]:List Keyword).isEmpty then 0 else 1)<30))=true)(hline:(apos.endLine==pos.line)=true)(ha:A9 env args)(hp:∀pos,((backTo pos (starEach args env)).any (·.1))=false)(h:WV X A (eval ob env) (fun ov σ₁=>∃x,ov=.str x∧WEs X A env args (fun xs σ₂=>ON X A Is (fun l=>call (.builtin "str.format") l) (.str x::xs) Q σ₂) σ₁) σ):WV X A (eval (.Call (.Attribute ob "format" apos) args [] pos) env) Q σ:=
 Ch (T:="str") (id:="str.format") hbase hfew hline PySem.F.plainAttrs_str PySem.F.slot_str_format_m PySem.F.type_str_format_m ha hp (W.mono h fun ov σ₁ t2=>by obtain⟨x,e,q⟩:=t2;subst e;exact⟨D8.str,q⟩)
end
noncomputable abbrev Dz(ns:List (Str×NameKind))(cs:List (Str×Addr)):Env:={scope:={kind:=.function,names:=ns,isGenerator:=false,isCoroutine:=false,more:=[]},locals:=0,globals:=3,cells:=cs,qual:="",func:=none,code:=.none,frame:=none,builtins:=0}
section
variable {X:Cx}{A:Around}{env:Env}{σ:PS}{Q:PV→PS→Prop}{P:PF→PS→Prop}{ns:List (Str×NameKind)}{cs cl:List (Str×Addr)}{elt iter:Expr}{ifs:List Expr}{scope:Scope}{pos px:Pos}{x y:Str}{p:PV→Bool}{f:PV→PV}
noncomputable def IT(X:Cx)(A:Around)(nm:List (Str×NameKind))(cl:List (Str×Addr))(x:Str)(ifs:List Expr)(l:List PV)(p:PV→Bool)(o:Own)(g:Array GenState):Prop:=
 ∀e',En e' nm cl→∀D ys v,v∈l→WTs X A e' ifs (fun b σ'=>b=p v∧σ'=⟨(e'.locals,.ns [(x,v)])::(D,.list ys)::o,g⟩) ⟨(e'.locals,.ns [(x,v)])::(D,.list ys)::o,g⟩
noncomputable def Om(X:Cx)(A:Around)(nm:List (Str×NameKind))(cl:List (Str×Addr))(x:Str)(elt:Expr)(l:List PV)(p:PV→Bool)(f:PV→PV)(o:Own)(g:Array GenState):Prop:=
 ∀e',En e' nm cl→∀D ys v,v∈l→p v=true→WV X A (eval elt e') (fun y σ'=>y=f v∧σ'=⟨(e'.locals,.ns [(x,v)])::(D,.list ys)::o,g⟩) ⟨(e'.locals,.ns [(x,v)])::(D,.list ys)::o,g⟩
theorem Vi{l:List PV}{o:Own}{g:Array GenState}(he:En env ns cs)(hk:scope.kind=.function)(hx:(Be scope.names ns).lookup x=some .local)(ht:IT X A (Be scope.names ns) cl x ifs l p o g)(hel:Om X A (Be scope.names ns) cl x elt l p f o g)(Lc D:Addr):Bs X A (compEnvC scope cl Lc env) (.Name x px) ifs elt l p f (fun ov ys=>(Lc,.ns (mko (fun v=>[(x,v)]) ov))::(D,.list ys)::o) g where
 step ov ys v hv:=by
  refine En.store (env:=compEnvC scope cl Lc env) (he.comp hk) hx ?_
  cases ov with
  | none=>rfl
  | some w=>
   show(⟨(_,.ns (Ao [(x,w)] x v))::_,g⟩:PS)=_;unfold Ao;rw[if_pos (beq_self_eq_true _)];rfl
 tests ys v hv:=ht (compEnvC scope cl Lc env) (he.comp hk) D ys v hv
 elt ys v hv hp:=hel (compEnvC scope cl Lc env) (he.comp hk) D ys v hv hp
theorem Bo(hh:A.handled=none)(he:En env ns cs)(p:PV→Bool)(f:PV→PV)(hclos:closureFor scope (Dz ns cs)=pure cl)(hcell:∀y∈scope.names,y.2≠.cell)(hkind:scope.kind=.function)(hnames:∀y∈scope.names,y.2=.local→scope.names.lookup y.1=some .local)(hx:(Be scope.names ns).lookup x=some .local)(h:WV X A (eval iter env) (fun v σ₁=>∃l o g,σ₁=⟨o,g⟩∧Fc X v l o∧l.length≤sizeLine∧IT X A (Be scope.names ns) cl x ifs l p o g∧Om X A (Be scope.names ns) cl x elt l p f o g∧Q (.lst ((l.filter p).map f)) ⟨o,g⟩) σ)(hs:∀x,foldedSetIterable iter env x=pure x):WV X A (eval (.ListComp elt [⟨.Name x px,iter,ifs,0⟩] scope pos) env) Q σ:=
 R3 hh p f (fun v=>[(x,v)]) ((he.clos scope).trans hclos) hcell hkind hnames (W.mono h fun v σ₁ t2=>by obtain⟨l,o,g,e,src,sz,ht,hel,q⟩:=t2;exact⟨l,o,g,e,src,sz,Vi he hkind hx ht hel,q⟩) hs
theorem Hl(x:Str)(v w:PV)(r:List (Str×PV)):Ao ((x,w)::r) x v=(x,v)::r:=by
 rw[Ao];exact if_pos (beq_self_eq_true _)
theorem F6{x y:Str}(h:(y==x)=false)(v w:PV)(r:List (Str×PV)):Ao ((x,w)::r) y v=(x,w)::Ao r y v:=by
 rw[Ao];exact if_neg (by rw[h];exact Bool.false_ne_true)
theorem Hk(x:Str)(v:PV):Ao [] x v=[(x,v)]:=rfl
noncomputable def mk2(x y:Str):PV→List (Str×PV)
 | .tup [a,b]=>[(x,a),(y,b)]
 | _=>[]
noncomputable def Ve(X:Cx)(A:Around)(nm:List (Str×NameKind))(cl:List (Str×Addr))(x y:Str)(elt:Expr)(l:List (PV×PV))(f:PV→PV)(o:Own)(g:Array GenState):Prop:=
 ∀e',En e' nm cl→∀D ys v,v∈l→WV X A (eval elt e') (fun z σ'=>z=f (.tup [v.1,v.2])∧σ'=⟨(e'.locals,.ns [(x,v.1),(y,v.2)])::(D,.list ys)::o,g⟩) ⟨(e'.locals,.ns [(x,v.1),(y,v.2)])::(D,.list ys)::o,g⟩
theorem Vh{l:List (PV×PV)}{o:Own}{g:Array GenState}{q1 q2 q3:Pos}{k:Nat}(hh:A.handled=none)(he:En env ns cs)(hk:scope.kind=.function)(hxy:(y==x)=false)(hx:(Be scope.names ns).lookup x=some .local)(hy:(Be scope.names ns).lookup y=some .local)(hel:Ve X A (Be scope.names ns) cl x y elt l f o g)(Lc D:Addr):Bs X A (compEnvC scope cl Lc env) (.Tuple [.Name x q1,.Name y q2] k q3) [] elt (l.map fun v=>.tup [v.1,v.2]) (fun O=>true) f (fun ov ys=>(Lc,.ns (mko (mk2 x y) ov))::(D,.list ys)::o) g where
 step ov ys v hv:=by
  obtain⟨⟨a,b⟩,hv',rfl⟩:=List.mem_map.mp hv;refine Az hh rfl rfl ?_;refine TGs_cons ?_;refine En.store (env:=compEnvC scope cl Lc env) (he.comp hk) hx ?_;refine TGs_cons ?_;refine En.store (env:=compEnvC scope cl Lc env) (he.comp hk) hy ?_;refine TGs_nil ?_
  have e2:∀w z:PV,Ao (Ao [(x,w),(y,z)] x a) y b=[(x,a),(y,b)]:=fun w z=>by
   rw[Hl,F6 hxy,Hl]
  have e3:Ao (Ao [] x a) y b=[(x,a),(y,b)]:=by
   rw[Hk,F6 hxy,Hk]
  show(⟨(Lc,.ns (Ao (Ao (mko (mk2 x y) ov) x a) y b))::_,g⟩:PS)=⟨(Lc,.ns [(x,a),(y,b)])::_,g⟩
  have:Ao (Ao (mko (mk2 x y) ov) x a) y b=[(x,a),(y,b)]:=by
   cases ov with
   | none=>exact e3
   | some w=>
    show Ao (Ao (mk2 x y w) x a) y b=_;unfold mk2;split
    ·exact e2 _ _
    ·exact e3
  rw[this]
 tests ys v hv:=Dh ⟨rfl,rfl⟩
 elt ys v hv hp:=by
  obtain⟨⟨a,b⟩,hv',rfl⟩:=List.mem_map.mp hv;exact hel (compEnvC scope cl Lc env) (he.comp hk) D ys (a,b) hv'
end
theorem E3(l:List PV)(a:Nat):∀k:Nat,((List.range k).map (a+ ·)).filterMap (l[·]?)=(l.drop a).take k
 | 0=>by simp
 | k+1=>by
  rw[List.range_succ,List.map_append,List.filterMap_append,E3 l a k,List.take_add_one,List.getElem?_drop]
  cases h:l[a+k]?<;>simp[h]
theorem Cb(l:List PV)(lo hi:Option Int):pick l lo hi none=(l.take (hi.elim l.length (clipAt l.length))).drop (lo.elim 0 (clipAt l.length)):=by
 unfold pick;rw[sliceBounds_plain];simp only;rw[sliceRange_one,E3,List.drop_take]
theorem CG(l:List PV)(b:Nat):pick l none (some (b:Int)) none=l.take b:=by
 rw[Cb];simp only[Option.elim,clipAt_nat,List.drop_zero];by_cases h:b≤l.length
 ·rw[Nat.min_eq_left h]
 ·rw[Nat.min_eq_right (by exact a9 h),List.take_of_length_le (Nat.le_refl _),List.take_of_length_le (by exact a9 h)]
theorem F8(l:List PV)(a:Nat):pick l (some (a:Int)) none none=l.drop a:=by
 rw[Cb];simp only[Option.elim,clipAt_nat,List.take_length];by_cases h:a≤l.length
 ·rw[Nat.min_eq_left h]
 ·rw[Nat.min_eq_right (by exact a9 h),List.drop_of_length_le (Nat.le_refl _),List.drop_of_length_le (by exact a9 h)]
theorem B2(l:List PV)(a b:Nat):pick l (some (a:Int)) (some (b:Int)) none=(l.take b).drop a:=by
 rw[Cb];simp only[Option.elim,clipAt_nat];by_cases h:b≤l.length
 ·rw[Nat.min_eq_left h]
  by_cases h':a≤l.length
  ·rw[Nat.min_eq_left h']
  ·rw[Nat.min_eq_right (by exact a9 h'),List.drop_of_length_le (by rw[List.length_take];exact a97),List.drop_of_length_le (by rw[List.length_take];exact XS h')]
 ·rw[Nat.min_eq_right (by exact a9 h:l.length≤b),List.take_of_length_le (Nat.le_refl _),List.take_of_length_le (by exact a9 h:l.length≤b)]
  by_cases h':a≤l.length
  ·rw[Nat.min_eq_left h']
  ·rw[Nat.min_eq_right (by exact a9 h'),List.drop_of_length_le (Nat.le_refl _),List.drop_of_length_le (by exact a9 h')]
theorem Kc(l:List PV)(k:Nat)(hk:1≤k):pick l (some (-(k:Int))) none none=l.drop (l.length-k):=by
 rw[Cb];simp only[Option.elim,clipAt_neg _ k hk,List.take_length]
section
variable {X:Cx}{A:Around}{env:Env}{σ:PS}{Q:PV→PS→Prop}{ns:List (Str×NameKind)}{cs:List (Str×Addr)}{pos:Pos}
theorem En.b_len(he:En env ns cs)(hl:ns.lookup ("len":Str)=some .globalImplicit)(q:Q (.raw (.builtin "len")) σ):WV X A (eval (.Name "len" pos) env) Q σ:=En.blt he hl rfl rfl rfl q
theorem En.b_range(he:En env ns cs)(hl:ns.lookup ("range":Str)=some .globalImplicit)(q:Q (.raw (.type "range")) σ):WV X A (eval (.Name "range" pos) env) Q σ:=En.blt he hl rfl rfl rfl q
theorem En.b_isinstance(he:En env ns cs)(hl:ns.lookup ("isinstance":Str)=some .globalImplicit)(q:Q (.raw (.builtin "isinstance")) σ):WV X A (eval (.Name "isinstance" pos) env) Q σ:=En.blt he hl rfl rfl rfl q
theorem En.b_str(he:En env ns cs)(hl:ns.lookup ("str":Str)=some .globalImplicit)(q:Q (.raw (.type "str")) σ):WV X A (eval (.Name "str" pos) env) Q σ:=En.blt he hl rfl rfl rfl q
theorem En.b_sum(he:En env ns cs)(hl:ns.lookup ("sum":Str)=some .globalImplicit)(q:Q (.raw (.builtin "sum")) σ):WV X A (eval (.Name "sum" pos) env) Q σ:=En.blt he hl rfl rfl rfl q
theorem En.b_sorted(he:En env ns cs)(hl:ns.lookup ("sorted":Str)=some .globalImplicit)(q:Q (.raw (.builtin "sorted")) σ):WV X A (eval (.Name "sorted" pos) env) Q σ:=En.blt he hl rfl rfl rfl q
theorem En.b_list(he:En env ns cs)(hl:ns.lookup ("list":Str)=some .globalImplicit)(q:Q (.raw (.type "list")) σ):WV X A (eval (.Name "list" pos) env) Q σ:=En.blt he hl rfl rfl rfl q
theorem En.b_map(he:En env ns cs)(hl:ns.lookup ("map":Str)=some .globalImplicit)(q:Q (.raw (.type "map")) σ):WV X A (eval (.Name "map" pos) env) Q σ:=En.blt he hl rfl rfl rfl q
theorem En.b_max(he:En env ns cs)(hl:ns.lookup ("max":Str)=some .globalImplicit)(q:Q (.raw (.builtin "max")) σ):WV X A (eval (.Name "max" pos) env) Q σ:=En.blt he hl rfl rfl rfl q
theorem En.b_min(he:En env ns cs)(hl:ns.lookup ("min":Str)=some .globalImplicit)(q:Q (.raw (.builtin "min")) σ):WV X A (eval (.Name "min" pos) env) Q σ:=En.blt he hl rfl rfl rfl q
theorem En.b_tuple(he:En env ns cs)(hl:ns.lookup ("tuple":Str)=some .globalImplicit)(q:Q (.raw (.type "tuple")) σ):WV X A (eval (.Name "tuple" pos) env) Q σ:=En.blt he hl rfl rfl rfl q
theorem En.b_set(he:En env ns cs)(hl:ns.lookup ("set":Str)=some .globalImplicit)(q:Q (.raw (.type "set")) σ):WV X A (eval (.Name "set" pos) env) Q σ:=En.blt he hl rfl rfl rfl q
theorem En.g_law_line(he:En env ns cs)(hl:ns.lookup ("_law_line":Str)=some .globalImplicit)(q:Q (.raw (.ref 283)) σ):WV X A (eval (.Name "_law_line" pos) env) Q σ:=En.glob he hl rfl rfl q
theorem En.g_law_quoted(he:En env ns cs)(hl:ns.lookup ("_law_quoted":Str)=some .globalImplicit)(q:Q (.raw (.ref 290)) σ):WV X A (eval (.Name "_law_quoted" pos) env) Q σ:=En.glob he hl rfl rfl q
theorem En.g_law_indented(he:En env ns cs)(hl:ns.lookup ("_law_indented":Str)=some .globalImplicit)(q:Q (.raw (.ref 297)) σ):WV X A (eval (.Name "_law_indented" pos) env) Q σ:=En.glob he hl rfl rfl q
theorem En.g_law_written(he:En env ns cs)(hl:ns.lookup ("_law_written":Str)=some .globalImplicit)(q:Q (.raw (.ref 302)) σ):WV X A (eval (.Name "_law_written" pos) env) Q σ:=En.glob he hl rfl rfl q
theorem En.g_law_kept(he:En env ns cs)(hl:ns.lookup ("_law_kept":Str)=some .globalImplicit)(q:Q (.raw (.ref 307)) σ):WV X A (eval (.Name "_law_kept" pos) env) Q σ:=En.glob he hl rfl rfl q
theorem En.g_law_steps(he:En env ns cs)(hl:ns.lookup ("_law_steps":Str)=some .globalImplicit)(q:Q (.raw (.ref 312)) σ):WV X A (eval (.Name "_law_steps" pos) env) Q σ:=En.glob he hl rfl rfl q
theorem En.g_law_part(he:En env ns cs)(hl:ns.lookup ("_law_part":Str)=some .globalImplicit)(q:Q (.raw (.ref 317)) σ):WV X A (eval (.Name "_law_part" pos) env) Q σ:=En.glob he hl rfl rfl q
theorem En.g_law_report(he:En env ns cs)(hl:ns.lookup ("_law_report":Str)=some .globalImplicit)(q:Q (.raw (.ref 322)) σ):WV X A (eval (.Name "_law_report" pos) env) Q σ:=En.glob he hl rfl rfl q
theorem En.g_indent(he:En env ns cs)(hl:ns.lookup ("indent":Str)=some .globalImplicit)(q:Q (.raw (.ref 29)) σ):WV X A (eval (.Name "indent" pos) env) Q σ:=En.glob he hl rfl rfl q
theorem En.g_unified_diff(he:En env ns cs)(hl:ns.lookup ("unified_diff":Str)=some .globalImplicit)(q:Q (.raw (.ref 269)) σ):WV X A (eval (.Name "unified_diff" pos) env) Q σ:=En.glob he hl rfl rfl q
theorem En.g_check_types(he:En env ns cs)(hl:ns.lookup ("_check_types":Str)=some .globalImplicit)(q:Q (.raw (.ref 276)) σ):WV X A (eval (.Name "_check_types" pos) env) Q σ:=En.glob he hl rfl rfl q
theorem En.g_format_range_unified(he:En env ns cs)(hl:ns.lookup ("_format_range_unified":Str)=some .globalImplicit)(q:Q (.raw (.ref 261)) σ):WV X A (eval (.Name "_format_range_unified" pos) env) Q σ:=En.glob he hl rfl rfl q
theorem En.g_SequenceMatcher(he:En env ns cs)(hl:ns.lookup ("SequenceMatcher":Str)=some .globalImplicit)(q:Q (.raw (.ref 250)) σ):WV X A (eval (.Name "SequenceMatcher" pos) env) Q σ:=En.glob he hl rfl rfl q
theorem En.g_Match(he:En env ns cs)(hl:ns.lookup ("Match":Str)=some .globalImplicit)(q:Q (.raw (.ref 143)) σ):WV X A (eval (.Name "Match" pos) env) Q σ:=En.glob he hl rfl rfl q
theorem lk_eq(m:List (Str×PV))(x:Str)(v:PV):(Ao m x v).lookup x=some v:=by rw[Bq,if_pos rfl]
theorem lk_ne{m:List (Str×PV)}{x y:Str}{v:PV}{w:Option PV}(h:(y==x)=false)(e:m.lookup y=w):(Ao m x v).lookup y=w:=by rw[Bq,if_neg (beq_eq_false_iff_ne.mp h)];exact e
theorem En.swap_no(he:En env ns cs){elt:Expr}{gens:List Comprehension}{scope:Scope}{p1 p2:Pos}{t:Str}{line:Nat}(hl:(ns.lookup t==some .local)=false):swapsWithSole [.Name t p2] (.ListComp elt gens scope p1) line env=pure false:=by
 show(pure (env.blockKind==.function&&env.kindOf t==some .local&&p2.line==p1.line&& !(scope.names.any fun(n,k)=>n==t&&(k==.local||k==.cell))):Sem Bool)=_;rw[he.n,hl,Bool.and_false,Bool.false_and,Bool.false_and]
theorem En.swap_yes(he:En env ns cs){elt:Expr}{gens:List Comprehension}{scope:Scope}{p1 p2:Pos}{t:Str}{line:Nat}(hl:(ns.lookup t==some .local)=true)(hp:(p2.line==p1.line&& !(scope.names.any fun(n,k)=>n==t&&(k==.local||k==.cell)))=true):swapsWith (.ListComp elt gens scope p1) (some (.Name t p2)) line env=pure true:=by
 show(pure (env.blockKind==.function&&env.kindOf t==some .local&&p2.line==p1.line&& !(scope.names.any fun(n,k)=>n==t&&(k==.local||k==.cell))):Sem Bool)=_
 have hb:(env.blockKind==ScopeKind.function)=true:=by
  unfold Env.blockKind
  first| (rw[he.k];rfl)| (simp only[he.k];rfl)| (split<;>first| rfl| simp_all [he.k])
 rw[he.n,hl,hb,Bool.true_and,Bool.true_and,hp]
end
section
variable {X:Cx}{A:Around}{env:Env}{σ:PS}{Q:PV→PS→Prop}{P:PF→PS→Prop}{ns:List (Str×NameKind)}{cs cl:List (Str×Addr)}{elt iter:Expr}{ifs:List Expr}{scope:Scope}{pos px spos py:Pos}{x y:Str}
theorem EZ(hh:A.handled=none)(he:En env ns cs)(p:PV→Bool)(f:PV→PV)(hsw:swapsWith (.ListComp elt [⟨.Name x px,iter,ifs,0⟩] scope pos) (some (.Name y py)) spos.line env=pure true)(hclos:closureFor scope (Dz ns cs)=pure cl)(hcn:(Dg scope.names).reverse=[x])(hkind:scope.kind=.function)(hnames:∀y∈scope.names,y.2=.local→scope.names.lookup y.1=some .local)(hx:(Be scope.names ns).lookup x=some .cell)(h:WV X A (eval iter env) (fun v σ₁=>∃a b o g,v=.rng a b∧σ₁=⟨o,g⟩∧ -(2 ^ 62)≤a∧a<2 ^ 62∧ -(2 ^ 62)≤b∧b<2 ^ 62∧(Bp a b).length≤sizeLine∧(∀ca e',En e' (Be scope.names ns) ((x,ca)::cl)→∀D ys v,v∈Bp a b→WTs X A e' ifs (fun b σ'=>b=p v∧σ'=⟨(e'.locals,.ns [])::(ca,.cell (some v))::(D,.list ys)::o,g⟩) ⟨(e'.locals,.ns [])::(ca,.cell (some v))::(D,.list ys)::o,g⟩)∧(∀ca e',En e' (Be scope.names ns) ((x,ca)::cl)→∀D ys v,v∈Bp a b→p v=true→WV X A (eval elt e') (fun y σ'=>y=f v∧σ'=⟨(e'.locals,.ns [])::(ca,.cell (some v))::(D,.list ys)::o,g⟩) ⟨(e'.locals,.ns [])::(ca,.cell (some v))::(D,.list ys)::o,g⟩)∧TG X A env (.Name y py) (.lst (((Bp a b).filter p).map f)) (fun O σ'=>P .next σ') ⟨o,g⟩) σ)(hs:∀x,foldedSetIterable iter env x=pure x):WF X A (exec (.Assign [.Name y py] (.ListComp elt [⟨.Name x px,iter,ifs,0⟩] scope pos) spos) env) P σ:=by
 refine Fw hh p f hsw ((he.clos scope).trans hclos) hcn hkind hnames (W.mono h fun v σ₁ q=>?_) hs;obtain⟨a,b,o,g,e1,e2,h1,h2,h3,h4,h5,ht,hel,q⟩:=q;refine⟨a,b,o,g,e1,e2,h1,h2,h3,h4,h5,fun Lc ca D=>⟨fun ov ys v hv=>?_,fun ys v hv=>?_,fun ys v hv hp=>?_⟩,q⟩
 ·exact En.storeC (env:=compEnvC scope ((x,ca)::cl) Lc env) (c:=ca) (he.comp hkind) hx (by simp[List.lookup]) (.tail _ (.head _)) (.there .here) rfl
 ·exact ht ca (compEnvC scope ((x,ca)::cl) Lc env) (he.comp hkind) D ys v hv
 ·exact hel ca (compEnvC scope ((x,ca)::cl) Lc env) (he.comp hkind) D ys v hv hp
end
section
variable {X:Cx}{A:Around}{env:Env}{σ:PS}{Q:PV→PS→Prop}{P:PF→PS→Prop}{ns:List (Str×NameKind)}{cs cl:List (Str×Addr)}{a b c:Str}{pa pb pc pt pv pos:Pos}{kt kv:Nat}{e1 e2 e3:Expr}
noncomputable def BN(ns:List (Str×NameKind)):Env:={scope:={kind:=.function,names:=ns,isGenerator:=false,isCoroutine:=false},locals:=0,globals:=3,cells:=[]}
theorem swE{ts:List Expr}{v:Expr}{r:Sem (Option (List Str))}(he:En env ns cs)(h:swappedStores ts v (BN ns)=r):swappedStores ts v env=r:=by
 have h1:env.kindOf=(BN ns).kindOf:=funext he.n
 have h2:env.blockKind=(BN ns).blockKind:=by unfold Env.blockKind;rw[he.k];rfl
 rw[←h];unfold swappedStores;rw[h1,h2]
theorem W_Swap2(hh:A.handled=none)(hw:swappedStores [.Tuple [.Name a pa,.Name b pb] kt pt] (.Tuple [e1,e2] kv pv) env=pure (some [a,b]))(hs:swapsWithSole [.Tuple [.Name a pa,.Name b pb] kt pt] (.Tuple [e1,e2] kv pv) pos.line env=pure false)(h1:starEach [e1,e2] env=(false,eval e1 env)::starEach [e2] env)(h2:starEach [e2] env=(false,eval e2 env)::starEach [] env)(h:WV X A (eval e1 env) (fun v1 σ1=>WV X A (eval e2 env) (fun v2 σ2=>O1 X A RE (bindName env b) v2 (fun O σ3=>O1 X A RE (bindName env a) v1 (fun O σ4=>P .next σ4) σ3) σ2) σ1) σ):WF X A (exec (.Assign [.Tuple [.Name a pa,.Name b pb] kt pt] (.Tuple [e1,e2] kv pv) pos) env) P σ:=
 D5 (names:=[a,b]) hh (W_Tuple (Es_cons (W.mono h fun v1 σ1 q=>Es_cons (W.mono q fun v2 σ2 q=>Es_nil ⟨by unfold sizeLine;simp,[v1,v2],rfl,rfl,TGs_cons (fun s va hs i=>wpAny_mono (q s va hs i) (fun O O p=>p.mono fun O O q=>TGs_cons (fun s va hs i=>wpAny_mono (q s va hs i) (fun O O p=>p.mono fun O O q=>TGs_nil q) fun O O e=>e)) fun O O e=>e)⟩) h2) h1)) hs hw
theorem W_Swap3(hh:A.handled=none)(hw:swappedStores [.Tuple [.Name a pa,.Name b pb,.Name c pc] kt pt] (.Tuple [e1,e2,e3] kv pv) env=pure (some [a,b,c]))(hs:swapsWithSole [.Tuple [.Name a pa,.Name b pb,.Name c pc] kt pt] (.Tuple [e1,e2,e3] kv pv) pos.line env=pure false)(h1:starEach [e1,e2,e3] env=(false,eval e1 env)::starEach [e2,e3] env)(h2:starEach [e2,e3] env=(false,eval e2 env)::starEach [e3] env)(h3:starEach [e3] env=(false,eval e3 env)::starEach [] env)(h:WV X A (eval e1 env) (fun v1 σ1=>WV X A (eval e2 env) (fun v2 σ2=>WV X A (eval e3 env) (fun v3 σ3=>O1 X A RE (bindName env c) v3 (fun O σ4=>O1 X A RE (bindName env b) v2 (fun O σ5=>O1 X A RE (bindName env a) v1 (fun O σ6=>P .next σ6) σ5) σ4) σ3) σ2) σ1) σ):WF X A (exec (.Assign [.Tuple [.Name a pa,.Name b pb,.Name c pc] kt pt] (.Tuple [e1,e2,e3] kv pv) pos) env) P σ:=
 D5 (names:=[a,b,c]) hh (W_Tuple (Es_cons (W.mono h fun v1 σ1 q=>Es_cons (W.mono q fun v2 σ2 q=>Es_cons (W.mono q fun v3 σ3 q=>Es_nil ⟨by unfold sizeLine;simp,[v1,v2,v3],rfl,rfl,
  TGs_cons (fun s va hs i=>wpAny_mono (q s va hs i) (fun O O p=>p.mono fun O O q=>TGs_cons (fun s va hs i=>wpAny_mono (q s va hs i) (fun O O p=>p.mono fun O O q=>TGs_cons (fun s va hs i=>wpAny_mono (q s va hs i) (fun O O p=>p.mono fun O O q=>TGs_nil q) fun O O e=>e)) fun O O e=>e)) fun O O e=>e)⟩) h3) h2) h1)) hs hw
end
noncomputable def Ef{α:Type}(f:Nat→Nat→Bool):KasT α→α
 | .ret a=>a
 | .ask i j k=>Ef f (k (f i j))
noncomputable def kIn{α:Type}(f:Nat→Nat→Bool)(n:Nat):KasT α→Bool
 | .ret _=>true
 | .ask i j k=>Nat.blt i n&&Nat.blt j n&&kIn f n (k (f i j))
theorem Jm{α:Type}{cmp:Nat→Nat→(Bool→Shared→Prop)→Shared→Prop}{Q:α→Shared→Prop}{s:Shared}{f:Nat→Nat→Bool}{n:Nat}(hc:∀i j C,i<n→j<n→C (f i j) s→cmp i j C s):∀t:KasT α,kIn f n t=true→Q (Ef f t) s→t.kasWp cmp Q s
 | .ret a,_,q=>q
 | .ask i j k,h,q=>by
  simp only[kIn,Bool.and_eq_true]at h;exact hc i j _ (Nat.blt_eq.mp h.1.1) (Nat.blt_eq.mp h.1.2) (Jm hc (k (f i j)) h.2 q)
noncomputable def gen:Nat→List Nat→List (List Nat)
 | 0,_=>[[]]
 | k+1,av=>av.flatMap fun x=>(gen k (av.erase x)).map (x:: ·)
theorem J7:∀{r av:List Nat},r.Perm av→r∈gen r.length av
 | [],av,h=>List.mem_singleton.mpr rfl
 | x::r,av,h=>by
  obtain⟨hx,h'⟩:=List.cons_perm_iff_perm_erase.mp h;exact List.mem_flatMap.mpr ⟨x,hx,List.mem_map.mpr ⟨r,J7 h',rfl⟩⟩
noncomputable def rk(r:List Nat)(i j:Nat):Bool:=Nat.blt (r.getD i 0) (r.getD j 0)
noncomputable def kch(n:Nat)(r:List Nat):Bool:=
 kIn (rk r) n (kas_sort n)&&((Ef (rk r) (kas_sort n)).toList.all fun i=>Nat.blt i n)&&((Ef (rk r) (kas_sort n)).toList.map fun i=>r.getD i 0)==List.range n
theorem V6:(gen 2 (List.range 2)).all (kch 2)=true:=by decide+kernel
theorem V5:(gen 3 (List.range 3)).all (kch 3)=true:=by decide+kernel
theorem V4:(gen 4 (List.range 4)).all (kch 4)=true:=by decide+kernel
theorem V1:(gen 5 (List.range 5)).all (kch 5)=true:=by decide+kernel
theorem V0:(gen 6 (List.range 6)).all (kch 6)=true:=by decide+kernel
theorem No{n:Nat}{r:List Nat}(h2:2≤n)(h6:n≤6)(h:r.Perm (List.range n)):kch n r=true:=by
 have hl:r.length=n:=by rw[h.length_eq,List.length_range]
 have hm:=J7 h;rw[hl]at hm
 have:(gen n (List.range n)).all (kch n)=true:=by
  match n,h2,h6 with
  | 2,_,_=>exact V6
  | 3,_,_=>exact V5
  | 4,_,_=>exact V4
  | 5,_,_=>exact V1
  | 6,_,_=>exact V0
 exact List.all_eq_true.mp this r hm
theorem FJ{α:Type}{f g:Nat→Nat→Bool}{n:Nat}(h:∀i j,i<n→j<n→f i j=g i j):∀t:KasT α,kIn g n t=true→kIn f n t=true∧Ef f t=Ef g t
 | .ret a,_=>⟨rfl,rfl⟩
 | .ask i j k,e=>by
  simp only[kIn,Bool.and_eq_true]at e ⊢;have hij:=h i j (Nat.blt_eq.mp e.1.1) (Nat.blt_eq.mp e.1.2);have:=FJ h (k (g i j)) e.2;rw[←hij]at this;exact⟨⟨e.1,this.1⟩,by simp only[Ef];rw[←hij];exact this.2⟩
theorem RB{α:Type}[BEq α][LawfulBEq α]{vs L:List α}{d:α}(hp:vs.Perm L)(hn:L.Nodup)(h2:2≤vs.length)(h6:vs.length≤6){f:Nat→Nat→Bool}(hf:∀i j,i<vs.length→j<vs.length→f i j=Nat.blt (L.idxOf (vs.getD i d)) (L.idxOf (vs.getD j d))):kIn f vs.length (kas_sort vs.length)=true∧(Ef f (kas_sort vs.length)).toList.map (fun i=>vs.getD i d)=L∧∀i∈(Ef f (kas_sort vs.length)).toList,i<vs.length:=by
 have hr:(vs.map L.idxOf).Perm (List.range vs.length):=by
  refine(hp.map L.idxOf).trans ?_
  have:L.map L.idxOf=List.range L.length:=by
   apply List.ext_getElem
   ·simp
   ·intro i h1 h2
    rw[List.getElem_map,List.getElem_range];exact hn.idxOf_getElem i (by simpa using h1)
  rw[this,hp.length_eq]
 have hc:=No h2 h6 hr;simp only[kch,Bool.and_eq_true,beq_iff_eq,List.all_eq_true]at hc;obtain⟨⟨c1,c2⟩,c3⟩:=hc
 have hg:∀i,i<vs.length→(vs.map L.idxOf).getD i 0=L.idxOf (vs.getD i d):=fun i hi=>by
  rw[List.getD_eq_getElem?_getD,List.getD_eq_getElem?_getD,List.getElem?_map,List.getElem?_eq_getElem hi];rfl
 obtain⟨d1,d2⟩:=FJ (f:=f) (g:=rk (vs.map L.idxOf)) (fun i j hi hj=>by rw[hf i j hi hj,rk,hg i hi,hg j hj]) _ c1;rw[d2];refine⟨d1,?_,fun i hi=>Nat.blt_eq.mp (c2 i hi)⟩
 have hlen:(Ef (rk (vs.map L.idxOf)) (kas_sort vs.length)).toList.length=vs.length:=by
  have:=congrArg List.length c3
  simpa using this
 apply List.ext_getElem
 ·rw[List.length_map,hlen,hp.length_eq]
 intro i h3 h4;rw[List.getElem_map];rw[List.length_map]at h3;have hi:=Nat.blt_eq.mp (c2 _ (List.getElem_mem h3));have e:=congrArg (fun l=>l[i]?) c3;rw[List.getElem?_map,List.getElem?_eq_getElem h3,List.getElem?_range (by exact Tz hlen h3)]at e;simp only[Option.map_some,Option.some.injEq]at e;rw[hg _ hi]at e
 generalize (Ef (rk (vs.map L.idxOf)) (kas_sort vs.length)).toList[i]=m at*
 have hm:vs.getD m d∈L:=hp.mem_iff.mp (by rw[List.getD_eq_getElem?_getD,List.getElem?_eq_getElem hi];exact List.getElem_mem hi);have:=List.getElem_idxOf (List.idxOf_lt_length_of_mem hm);rw[←this]
 congr 1
noncomputable def Au(h:Heap)(a:Addr)(vs:List Value):Heap:=((h.update a (Obj.mapSeq fun O=>(#[]:Array Value))).push (seqObj "tuple" vs.toArray 0)).push (seqObj "list" #[] 0)
section
variable {prog:Program}{w:World}{A:Around}{E:Value→Shared→Prop}{s:Shared}
noncomputable def D7(prog:Program)(w:World)(A:Around)(vs ws:List Value)(S:Shared):Prop:=
 wpAny (model prog w) A (keyKind' vs.toArray) (fun κ s'=>s'=S∧∃f,(∀i j C,i<vs.length→j<vs.length→C (f i j) S→kas_ask prog w A κ vs i j C S)∧
  kIn f vs.length (kas_sort vs.length)=true∧(Ef f (kas_sort vs.length)).toList.map (fun i=>vs.getD i .none)=ws) (fun O O=>False) S
theorem F4 {a:Addr} {n:Nat} {vs ws:List Value} {P:PySem.Fin→Shared→Prop} (ho:s.heap.get? a=some (seqObj "list" vs.toArray n)) (hsz:vs.length≤6)
  (hk:2≤vs.length→D7 prog w A vs ws {s with heap:=Au s.heap a vs}) (hs:vs.length<2→ws=vs) (hw:ws.length≤6)
  (hP:P (.done (.ret .none)) {s with heap:=(Au s.heap a vs).update a (Obj.mapSeq fun O=>ws.toArray)}):
  wpAny (model prog w) A (Builtin.«list.sort» ⟨[.ref a],[]⟩) P E s:=by
 have ha:a<s.heap.objs.size:=Heap.lt_size ho
 obtain⟨e1,ho1⟩:∃e1,(s.heap.update a (Obj.mapSeq fun O=>(#[]:Array Value))).get? a=some (seqObj "list" #[] e1):=⟨_,get?_update_seq ho fun O=> #[]⟩
 have ho3:(Au s.heap a vs).get? a=some (seqObj "list" #[] e1):=Heap.get?_push_of_some _ (Heap.get?_push_of_some _ ho1);rw[list_sort_plain];refine wpAny_bind (listItems_at ho rfl ?_);refine wpAny_bind (listUpdate_at ho rfl ?_ (by rw[List.size_toArray,sizeLine_eq];exact a19 hsz) (Nat.zero_le _));refine wpAny_bind (seqEpoch_at ho1 rfl ?_);refine wpAny_bind (wpAny_newTuple ?_ (by show vs.length≤_;rw[sizeLine_eq];exact a19 hsz));refine wpAny_bind (wpAny_newList ?_ (Nat.zero_le _));refine wpAny_holding ?_;show wpAny (model prog w) A _ P E {s with heap:=Au s.heap a vs}
 dsimp only
 have fin:∀(st:SortSt),(arrOf st).map (·.2)=ws.toArray→failedOf st=none→wpAny (model prog w) A (do
   let sorted:=(arrOf st).map (·.2)
   let touched:=(←seqEpoch a) != e1
   Builtin.List.listUpdate (.ref a) fun O=>sorted
   if let some e:=failedOf st then rule "list.sort.comparison-raised";throw e
   if touched then rule "list.sort.modified";raiseError "ValueError" "list modified during sort"
   ret .none) P E {s with heap:=Au s.heap a vs}:=fun st har hf=>by
  rw[har,hf];refine wpAny_bind (seqEpoch_at ho3 rfl ?_);refine wpAny_bind (listUpdate_at ho3 rfl ?_ (Nat.zero_le _) (by rw[List.size_toArray,sizeLine_eq];exact WR hw));simp only[bne_self_eq_false,Bool.false_eq_true,if_false];exact wpAny_pure hP
 by_cases h2:2≤vs.length
 ·have hn2:¬vs.toArray.size<2:=by rw[List.size_toArray];exact WQ h2
  rw[if_neg hn2,if_neg hn2];refine wpAny_bind (wpAny_mono (hk h2) (fun κ s0 hk=>?_) fun O O x=>x.elim);obtain⟨rfl,f,hc,hi,hout⟩:=hk
  refine wpAny_bind (wpAny_mono (kat_run (E:=E) (G:=fun p s'=>s'={s with heap:=Au s.heap a vs}∧p.toList.map (fun i=>vs.getD i .none)=ws)
   (Q:=fun st' s'=>s'={s with heap:=Au s.heap a vs}∧(arrOf st').map (·.2)=ws.toArray∧failedOf st'=none) (ks:=vs) (vs:=vs)
   rfl h2 (by exact WP hsz) (fun p' st' s' a1 a2 a3 a4=>⟨a4.1,?_,a3⟩) (Jm hc _ hi ⟨rfl,hout⟩)) ?_ fun O O e=>e)
  ·rw[kat_snds rfl a2,a4.2]
  ·rintro⟨⟨⟩,st'⟩ s' ⟨rfl,h1,h2⟩
   exact fin st' h1 h2
 ·have hn2:vs.toArray.size<2:=by rw[List.size_toArray];exact a39 h2
  rw[if_pos hn2,if_pos hn2];refine wpAny_bind (wpAny_pure ?_);refine wpAny_bind (m:=StateT.run (pure ()) _) (wpAny_pure ?_);refine fin _ ?_ rfl;rw[hs (by exact a39 h2)];show(vs.toArray.zip vs.toArray).map _=_;apply Array.ext';simp;exact List.map_snd_zip (Nat.le_refl _)
end
noncomputable def lx:List Int→List Int→Bool
 | a::r,b::q=>if a=b then lx r q else decide (a<b)
 | _,_=>false
theorem EE:∀{a b:List Int},lx a b=true→lx b a=false
 | [],_,h=>by simp[lx]at h
 | a::r,[],h=>by simp[lx]at h
 | a::r,b::q,h=>by
  unfold lx at h ⊢;by_cases e:a=b
  ·rw[if_pos e]at h;rw[if_pos e.symm];exact EE h
  ·rw[if_neg e]at h;rw[if_neg (fun x=>e x.symm)]
   have:=of_decide_eq_true h;exact decide_eq_false (by exact ac7 this)
theorem DH(a:List Int):lx a a=false:=by
 cases h:lx a a with
 | false=>rfl
 | true=>rw[←h];exact EE h
theorem QQ{L:List (List Int)}(hL:L.Pairwise fun a b=>lx a b=true){a b:List Int}(ha:a∈L)(hb:b∈L):lx a b=Nat.blt (L.idxOf a) (L.idxOf b):=by
 have h1:=List.idxOf_lt_length_of_mem ha;have h2:=List.idxOf_lt_length_of_mem hb;have e1:=List.getElem_idxOf h1;have e2:=List.getElem_idxOf h2;rw[List.pairwise_iff_getElem]at hL
 rcases Nat.lt_trichotomy (L.idxOf a) (L.idxOf b)with h| h| h
 ·have:=hL _ _ h1 h2 h
  rw[e1,e2]at this;rw[this];exact(Nat.blt_eq.mpr h).symm
 ·have:a=b:=by rw[←e1,←e2];simp only[h]
  subst this;rw[DH];exact(Bool.eq_false_iff.mpr fun x=>absurd (Nat.blt_eq.mp x) (Nat.lt_irrefl _)).symm
 ·have:=EE (hL _ _ h2 h1 h)
  rw[e1,e2]at this;rw[this];exact(Bool.eq_false_iff.mpr fun x=>absurd (Nat.blt_eq.mp x) (by exact ac6 h)).symm
theorem LV{L:List (List Int)}(hL:L.Pairwise fun a b=>lx a b=true):L.Nodup:=
 hL.imp fun{a b} h e=>by subst e;rw[DH]at h;cases h
section
variable {X:Cx}{A:Around}{E:Value→Shared→Prop}{s:Shared}{ad:List Addr}
theorem OW{b:Bool}{i j:Int}{t u:Tok}{Q:Bool→Shared→Prop}(h:Q (decide (i<j)) s):wpAny (md X) A (oneLt' b (.int i t) (.int j u)) Q E s:=by
 cases b with
 | true=>exact oneLt_int h
 | false=>exact kat_one _ _ (PyProof.Rows.lt_int h)
theorem QT{b:Bool}{Q:Bool→Shared→Prop}:∀{l k:List Int} {us ws:List Value} {i:Nat},IsAll ad s.heap (Aj l) us→IsAll ad s.heap (Aj k) ws→l.length=k.length→Q (lx l k) s→KatLex pw X.w A b false Q (us.zip ws) i s:=by
 intro l
 induction l with
 | nil=>
  intro k us ws i h1 h2 hl q
  cases k with
  | nil=>
   cases h1;cases h2
   exact kat_nil q
  | cons y k=>simp at hl
 | cons x l ih=>
  intro k us ws i h1 h2 hl q
  cases k with
  | nil=>simp at hl
  | cons y k=>
   obtain⟨a,us,ia,r,rfl⟩:=IsAll.vCons h1;obtain⟨t,rfl⟩:=Is.vInt ia;obtain⟨a,ws,ia,r',rfl⟩:=IsAll.vCons h2;obtain⟨u,rfl⟩:=Is.vInt ia;rw[List.zip_cons_cons];refine kat_cons (wpAny_eqBool_int ?_);rw[show(x==y)=decide (x=y)from rfl];unfold lx at q;by_cases e:x=y
   ·rw[if_pos e]at q
    rw[decide_eq_true e];exact kat_yes (ih r r' (by simpa using hl) q)
   ·rw[if_neg e]at q
    rw[decide_eq_false e];exact kat_no (OW q)
theorem IsAll.of_map{h:Heap}{α:Type}{f:α→PV}{g:α→Value}:∀{ps:List α},(∀p∈ps,Is ad h (f p) (g p))→IsAll ad h (ps.map f) (ps.map g)
 | [],_=>.nil
 | p::ps,k=>.cons (k p (.head _)) (IsAll.of_map fun q hq=>k q (.tail _ hq))
theorem IsAll.at{h:Heap}{l:List PV}{vs:List Value}(i:IsAll ad h l vs){k:Nat}{d:PV}(hk:k<l.length):Is ad h (l.getD k d) (vs.getD k .none):=by
 obtain⟨v,e,iv⟩:=i.get (k:=k) (x:=l[k]) (List.getElem?_eq_getElem hk);rw[List.getD_eq_getElem?_getD,List.getD_eq_getElem?_getD,e,List.getElem?_eq_getElem hk];exact iv
theorem IsAll.atm{h:Heap}{α:Type}{mk:α→PV}{ts:List α}{vs:List Value}(i:IsAll ad h (ts.map mk) vs){k:Nat}{d:α}(hk:k<ts.length):Is ad h (mk (ts.getD k d)) (vs.getD k .none):=by
 have:=i.at (k:=k) (d:=mk d) (by rw[List.length_map];exact hk);rw[List.getD_eq_getElem?_getD,List.getElem?_map]at this;rw[List.getD_eq_getElem?_getD];rw[List.getElem?_eq_getElem hk]at this ⊢;exact this
theorem Hf{mk:List Int→PV}{S:Shared}{ts L:List (List Int)}{vs:List Value}(hi:IsAll ad S.heap (ts.map mk) vs)(h2:2≤ts.length)(h6:ts.length≤6)(hp:ts.Perm L)(hL:L.Pairwise fun a b=>lx a b=true):∃ws,IsAll ad S.heap (L.map mk) ws∧∀A κ,(∀Q:SortKind→Shared→Prop,Q κ S→wpAny (md X) A (keyKind' vs.toArray) Q (fun O O=>False) S)→(∀i j C,i<ts.length→j<ts.length→C (lx (ts.getD i []) (ts.getD j [])) S→kas_ask pw X.w A κ vs i j C S)→D7 pw X.w A vs ws S:=by
 have hl:vs.length=ts.length:=by rw[hi.length,List.length_map]
 obtain⟨h3,h4,h5⟩:=RB (d:=[]) hp (LV hL) h2 h6 (f:=fun i j=>lx (ts.getD i []) (ts.getD j [])) fun i j hi hj=>by
  have hm:∀k,k<ts.length→ts.getD k []∈L:=fun k hk=>hp.mem_iff.mp (by rw[List.getD_eq_getElem?_getD,List.getElem?_eq_getElem hk];exact List.getElem_mem hk);exact QQ hL (hm i hi) (hm j hj)
 refine⟨_,?_,fun A κ hkind hask=>hkind _ ⟨rfl,fun i j=>lx (ts.getD i []) (ts.getD j []),?_,?_,rfl⟩⟩
 ·rw[←h4,List.map_map]
  rw[hl];exact IsAll.of_map fun p hp=>hi.atm (h5 p hp)
 ·rw[hl];exact hask
 ·rw[hl];exact h3
noncomputable def mkT(t:List Int):PV:=.tup (Aj t)
noncomputable def mkM(t:List Int):PV:=.mat (Aj t)
theorem MP{S:Shared}{vs:List Value}{ts:List (List Int)}{d:Nat}(hd:∀t∈ts,t.length=d)(hi:IsAll ad S.heap (ts.map mkT) vs)(i j:Nat)(C:Bool→Shared→Prop)(h1:i<ts.length)(h2:j<ts.length)(h:C (lx (ts.getD i []) (ts.getD j [])) S):kas_ask pw X.w A (tuples' true) vs i j C S:=by
 have i1:=hi.atm (d:=[]) h1;have i2:=hi.atm (d:=[]) h2;have hm:∀k,k<ts.length→(ts.getD k []).length=d:=fun k hk=>hd _ (by rw[List.getD_eq_getElem?_getD,List.getElem?_eq_getElem hk];exact List.getElem_mem hk);have l1:=hm i h1;have l2:=hm j h2;unfold kas_ask
 generalize vs.getD i Value.none=u at*
 generalize vs.getD j Value.none=v at*
 unfold mkT at i1 i2
 cases i1 with
 | tup ho hc hd hn il=>
 cases i2 with
 | tup ho' hc' hd' hn' il'=>
 have e1:=il.length;have e2:=il'.length;refine kat_lt ho hd ho' hd' ?_;rw[decide_eq_false (by simp only[List.size_toArray,e1,e2,Aj,List.length_map];exact ac5 l1 l2)];exact QT il il' (l1.trans l2.symm) h
theorem Il{h:Heap}:∀{ts:List (List Int)} {vs:List Value},IsAll ad h (ts.map mkT) vs→(∀t∈ts,t≠[])→∃fs,KatTups h vs fs∧fs.length=ts.length∧∀v∈fs,∃i t,v=.int i t:=by
 intro ts
 induction ts with
 | nil=>
  intro vs h _
  cases h
  exact⟨[],trivial,rfl,fun v hv=>by cases hv⟩
 | cons t ts ih=>
  intro vs h hne;obtain⟨a,us,ia,r,rfl⟩:=IsAll.vCons h;obtain⟨fs,k,hl,hf⟩:=ih r fun t ht=>hne t (.tail _ ht)
  cases t with
  | nil=>exact absurd rfl (hne [] (.head _))
  | cons x t=>
   obtain⟨a,o,ws,n,rfl,ho,hc,hd,hn,il⟩:=Is.vTup ia;obtain⟨b,us',ib,il',rfl⟩:=IsAll.vCons il;obtain⟨tk,rfl⟩:=Is.vInt ib
   exact⟨.int x tk::fs,KatTups.cons ho hc hd rfl k,by rw[List.length_cons,hl,List.length_cons],fun v hv=>by
    rcases List.mem_cons.mp hv with rfl| hv
    ·exact⟨_,_,rfl⟩
    ·exact hf v hv⟩
theorem KF{S:Shared}{vs:List Value}{ts:List (List Int)}(hne:∀t∈ts,t≠[])(h2:2≤ts.length)(hi:IsAll ad S.heap (ts.map mkT) vs)(Q:SortKind→Shared→Prop)(q:Q (tuples' true) S):wpAny (md X) A (keyKind' vs.toArray) Q (fun O O=>False) S:=by
 obtain⟨fs,k,hl,hf⟩:=Il hi hne;refine kat_kind (T:=.type "int") k (by exact ac4 h2 hl) (fun v hv=>?_) (by decide) q;obtain⟨i,t,rfl⟩:=hf v hv;exact Looks.now
end
theorem Upd.via{o o':Own}{a:Addr}{q:PO}(u:Upd o a q o')(p:PO):∃o1,Upd o a p o1∧Upd o1 a q o':=by
 induction u with
 | here=>exact⟨_,.here,.here⟩
 | there u ih=>obtain⟨o1,h1,h2⟩:=ih;exact⟨_,.there h1,.there h2⟩
noncomputable def DS(X:Cx)(mk:List Int→PV)(ts L:List (List Int)):Prop:=∀σ S vs,St X σ S→IsAll (ads σ.own) S.heap (ts.map mk) vs→2≤ts.length→∃ws,IsAll (ads σ.own) S.heap (L.map mk) ws∧∀A,A.units<cLine→D7 pw X.w A vs ws S
theorem DS.tup{X:Cx}{ts L:List (List Int)}{d:Nat}(hd:∀t∈ts,t.length=d)(h0:0<d)(h6:ts.length≤6)(hp:ts.Perm L)(hL:L.Pairwise fun a b=>lx a b=true):DS X mkT ts L:=fun σ S vs hs hi h2=>by
 obtain⟨ws,iw,k⟩:=Hf (X:=X) hi h2 h6 hp hL;exact⟨ws,iw,fun A O=>k A _ (fun Q q=>KF (fun t ht e=>by have:=hd t ht;rw[e]at this;simp at this;exact ax2 h0 this) h2 hi Q q) (MP hd hi)⟩
theorem St.offs{X:Cx}{σ:PS}{s:Shared}(x:St X σ s){n:Nat}(h:s.heap.objs.size≤n):n∉ads σ.own:=fun hm=>by
 obtain⟨⟨a,p⟩,hp,e⟩:=List.mem_map.mp hm;obtain⟨o,ho⟩:=(x.own a p hp).some;have:=Heap.lt_size ho;have e':a=n:=e;exact absurd (show s.heap.objs.size≤a from e'▸h) (Nat.not_le.mpr this)
section
variable {X:Cx}{A:Around}{σ:PS}{Q:PV→PS→Prop}{mk:List Int→PV}{ts L:List (List Int)}{v:PV}
theorem Ez{ts L:List (List Int)}(hp:ts.Perm L)(h:ts.length<2):L=ts:=by
 match ts,h with
 | [],_=>exact hp.nil_eq.symm
 | [t],_=>exact List.perm_singleton.mp hp.symm
theorem OP{a:Addr}{o o':Own}{g:Array GenState}(hu:A.in1.units<cLine)(hS:DS X mk ts L)(h6:ts.length≤6)(hp:ts.Perm L)(hm:(a,.list (ts.map mk))∈o)(u:Upd o a (.list (L.map mk)) o')(q:Q .none ⟨o',g⟩):ON X A Is (fun l=>call (.builtin "list.sort") l) [.raw (.ref a)] Q ⟨o,g⟩:=fun s vs hs i=>by
 cases i with
 | cons i i'=>
  cases i;cases i'
  obtain⟨vs,⟨n,ho⟩,iv⟩:=hs.own _ _ hm;obtain⟨o1,u1,u2⟩:=u.via (.list []);have hsb:=Heap.SameBut.update s.heap a (Obj.mapSeq (fun O=>(#[]:Array Value)));obtain⟨n',hn'⟩:=AA (n:=n) (vs:=vs) (ws:=[]) (f:=(fun O=>(#[]:Array Value))) rfl
  obtain⟨t₁,k₁⟩:=hs.upd (s':={s with heap:=s.heap.update a (Obj.mapSeq (fun O=>(#[]:Array Value)))}) u1 hsb rfl rfl
   ⟨[],⟨n',by rw[Heap.get?_update_self _ ho (by rw[hn'];rfl),hn']⟩,.nil⟩
  obtain⟨t₂,k₂,_,_⟩:=t₁.push (s':={s with heap:=(s.heap.update a (Obj.mapSeq (fun O=>(#[]:Array Value)))).push (seqObj "tuple" vs.toArray 0)}) _ rfl rfl rfl;obtain⟨t₃,k₃,_,_⟩:=t₂.push (s':={s with heap:=Au s.heap a vs}) (seqObj "list" #[] 0) rfl rfl rfl;have i3:=((iv.keep k₁).keep k₂).keep k₃
  have hl:vs.length=ts.length:=by rw[iv.length,List.length_map]
  obtain⟨ws,iw,hk,hw⟩:∃ws,IsAll (ads o1) (Au s.heap a vs) (L.map mk) ws∧(2≤vs.length→∀A,A.units<cLine→D7 pw X.w A vs ws {s with heap:=Au s.heap a vs})∧(vs.length<2→ws=vs):=by
   by_cases h2:2≤ts.length
   ·obtain⟨ws,iw,k⟩:=hS _ _ vs t₃ i3 h2
    exact⟨ws,iw,fun O=>k,fun h=>absurd h (by exact a82 hl h2)⟩
   ·refine⟨vs,?_,fun h=>absurd h (by exact a83 hl h2),fun O=>rfl⟩
    rw[Ez hp (by exact a39 h2)];exact i3
  refine wpAny_call_entry PySem.F.slot_list_sort ⟨_,ho,rfl⟩ PySem.F.entry_list_sort (F4 ho (by exact a84 h6 hl) (fun h=>hk h _ hu) hw ?_ ?_) (args_list_sort _)
  ·rw[iw.length,List.length_map,←hp.length_eq];exact h6
  obtain⟨m,hom⟩:∃m,(Au s.heap a vs).get? a=some (seqObj "list" #[] m):=
   ⟨n',Heap.get?_push_of_some _ (Heap.get?_push_of_some _ (by rw[Heap.get?_update_self _ ho (by rw[hn'];rfl),hn']))⟩
  have hsb2:=Heap.SameBut.update (Au s.heap a vs) a (Obj.mapSeq (fun O=>ws.toArray));obtain⟨n2,hn2⟩:=AA (n:=m) (vs:=[]) (ws:=ws) (f:=(fun O=>ws.toArray)) rfl
  have kk:Ad (ads o1) (Au s.heap a vs) (ads o1) ((Au s.heap a vs).update a (Obj.mapSeq (fun O=>ws.toArray))):=fun b ob e n=>⟨(hsb2.2 b fun e=>n (by rw[e];exact u2.mem_addr)).trans e,n⟩
  obtain⟨t₄,k₄⟩:=t₃.upd (s':={s with heap:=(Au s.heap a vs).update a (Obj.mapSeq (fun O=>ws.toArray))}) u2 hsb2 rfl rfl
   ⟨ws,⟨n2,by rw[Heap.get?_update_self _ hom (by rw[hn2];rfl),hn2]⟩,iw.keep kk⟩
  exact⟨_,rfl,_,_,.none,t₄,((k₁.trans k₂).trans k₃).trans k₄,q⟩
theorem KQ(hu:A.in1.in1.units<cLine)(hS:DS X mk ts L)(h6:ts.length≤6)(hp:ts.Perm L)(hv:LstV σ v (ts.map mk))(q:Q (.lst (L.map mk)) σ):ON X A Is (fun l=>call (.builtin "sorted") l) [v] Q σ:=fun s us hs i=>by
 cases i with
 | cons i i'=>
  cases i'
  obtain⟨l,vs,rfl,_,iv,hl⟩:=hv.at hs i
  have hlen:vs.length=ts.length:=by rw[iv.length,List.length_map]
  refine Calls.call_function_entry kind_sorted plain_sorted entry_sorted (args_sorted1 _) ?_;unfold Builtin.«sorted»;refine wpAny_bind (m:=checkCount "sorted" 1 1 _) (wpAny_pure ?_);refine wpAny_bind (collect_list hl ?_ (by rw[sizeLine_eq];exact a85 h6 hlen));refine wpAny_bind (wpAny_newList ?_ (by rw[sizeLine_eq];exact a85 h6 hlen))
  have hsz:((s.heap.push (seqObj "list" #[] 0)).update s.heap.objs.size (Obj.mapSeq (· ++vs.toArray))).objs.size=s.heap.objs.size+1:=by
   rw[Heap.size_update,size_push']
  have hoL:(((s.heap.push (seqObj "list" #[] 0)).update s.heap.objs.size (Obj.mapSeq (· ++vs.toArray))).push (seqObj "list" vs.toArray 0)).get? (s.heap.objs.size+1)=some (seqObj "list" vs.toArray 0):=by
   rw[←hsz];exact Heap.get?_push_size _ rfl
  have keep:∀b o,s.heap.get? b=some o→(((s.heap.push (seqObj "list" #[] 0)).update s.heap.objs.size (Obj.mapSeq (· ++vs.toArray))).push (seqObj "list" vs.toArray 0)).get? b=some o:=fun b o q=>by
   have hlt:b<s.heap.objs.size:=Heap.lt_size q;rw[Heap.get?_push_ne _ _ _ (by rw[hsz];exact Nat.ne_of_lt (Nat.lt_succ_of_lt hlt)),Heap.get?_update_ne _ _ _ _ (Nat.ne_of_lt hlt),Heap.get?_push_ne _ _ _ (Nat.ne_of_lt hlt)];exact q
  show wpAny _ _ _ _ _ {s with heap:=((s.heap.push (seqObj "list" #[] 0)).update s.heap.objs.size (Obj.mapSeq (· ++vs.toArray))).push (seqObj "list" vs.toArray 0)};rw[hsz]
  generalize hD:((s.heap.push (seqObj "list" #[] 0)).update s.heap.objs.size (Obj.mapSeq (· ++vs.toArray))).push (seqObj "list" vs.toArray 0)=H at*
  generalize ea:s.heap.objs.size+1=a at*
  have hna:a∉ads σ.own:=hs.offs (by rw[←ea];exact Nat.le_succ _)
  have hne:∀b o,s.heap.get? b=some o→b≠a:=fun b o q=>by
   rw[←ea];exact Nat.ne_of_lt (Nat.lt_succ_of_lt (Heap.lt_size q))
  have keepU:∀(H':Heap) (f:Obj→Obj),(∀b o,s.heap.get? b=some o→H'.get? b=some o)→∀b o,s.heap.get? b=some o→(H'.update a f).get? b=some o:=fun H' f k b o e=>by
   rw[Heap.get?_update_ne _ _ _ _ (hne b o e)];exact k b o e
  have keepM:∀b o,s.heap.get? b=some o→(Au H a vs).get? b=some o:=fun b o e=>
   Heap.get?_push_of_some _ (Heap.get?_push_of_some _ (keepU H _ keep b o e))
  obtain⟨m,hom⟩:∃m,(Au H a vs).get? a=some (seqObj "list" #[] m):=by
   obtain⟨e1,ho1⟩:∃e1,(H.update a (Obj.mapSeq fun O=>(#[]:Array Value))).get? a=some (seqObj "list" #[] e1):=⟨_,get?_update_seq hoL fun O=> #[]⟩
   exact⟨e1,Heap.get?_push_of_some _ (Heap.get?_push_of_some _ ho1)⟩
  obtain⟨t₃,k₃⟩:=hs.new (s':={s with heap:=Au H a vs}) (a:=a) (p:=.list []) (Heap.get?_none_of_le (by rw[←ea];exact Nat.le_succ _)) keepM rfl rfl ⟨[],⟨m,hom⟩,.nil⟩;have i3:=iv.keep k₃
  obtain⟨ws,iw,hk,hw⟩:∃ws,IsAll (a::ads σ.own) (Au H a vs) (L.map mk) ws∧(2≤vs.length→∀A,A.units<cLine→D7 pw X.w A vs ws {s with heap:=Au H a vs})∧(vs.length<2→ws=vs):=by
   by_cases h2:2≤ts.length
   ·obtain⟨ws,iw,k⟩:=hS _ _ vs t₃ i3 h2
    exact⟨ws,iw,fun O=>k,fun h=>absurd h (by exact a82 hlen h2)⟩
   ·refine⟨vs,?_,fun h=>absurd h (by exact a83 hlen h2),fun O=>rfl⟩
    rw[Ez hp (by exact a39 h2)];exact i3
  refine wpAny_bind (wpAny_holding (wpAny_call_entry slot_list_sort ⟨_,hoL,rfl⟩ entry_list_sort (F4 (s:={s with heap:=H}) (ws:=ws) hoL (by exact a84 h6 hlen) (fun h=>hk h _ hu) hw ?_ ?_) (args_list_sort _)))
  ·rw[iw.length,List.length_map,←hp.length_eq];exact h6
  obtain⟨n2,ho2⟩:∃n2,((Au H a vs).update a (Obj.mapSeq fun O=>ws.toArray)).get? a=some (seqObj "list" ws.toArray n2):=⟨_,get?_update_seq hom fun O=>ws.toArray⟩
  obtain⟨t₄,k₄⟩:=hs.grow (s':={s with heap:=(Au H a vs).update a (Obj.mapSeq fun O=>ws.toArray)}) (keepU _ _ keepM) rfl rfl
  have kk:Ad (a::ads σ.own) (Au H a vs) (ads σ.own) ((Au H a vs).update a (Obj.mapSeq (fun O=>ws.toArray))):=fun b ob e n=>by
   exact⟨by rw[Heap.get?_update_ne _ _ _ _ fun x=>n (by rw[x];exact .head _)];exact e,fun x=>n (.tail _ x)⟩
  refine⟨_,rfl,wpAny_pure ⟨_,rfl,_,_,.lst ho2 rfl rfl rfl hna (iw.keep kk),t₄,k₄,q⟩⟩
end
theorem LS(X:Cx):findIn (kf X.w.params) (.ref 143) "__lt__"=some (some (.builtin "tuple.__lt__")):=by kernel_rfl
theorem KK:plainId "tuple.__lt__"=true:=by decide+kernel
theorem MR:builtinKind "tuple.__lt__"=some .slot:=by decide+kernel
theorem KJ:splitId "tuple.__lt__"=some ("tuple","__lt__"):=by decide+kernel
section
variable {X:Cx}{A:Around}{E:Value→Shared→Prop}{s:Shared}{ad:List Addr}{σ:PS}
theorem Mw{R:Option PySem.Fin×Unit→Shared→Prop}{body:Value×Value→Option PySem.Fin×Unit→Sem (ForInStep (Option PySem.Fin×Unit))}(hb1:∀a t u (R':ForInStep (Option PySem.Fin×Unit)→Shared→Prop),R' (.yield (none,())) s→wpAny (md X) A (body (.int a t,.int a u) (none,())) R' E s)(hb2:∀a b t u (R':ForInStep (Option PySem.Fin×Unit)→Shared→Prop),a≠b→R' (.done (some (.done (.ret (.bool (decide (a<b))))),())) s→wpAny (md X) A (body (.int a t,.int b u) (none,())) R' E s):∀{l k:List Int} {us ws:List Value},IsAll ad s.heap (Aj l) us→IsAll ad s.heap (Aj k) ws→l.length=k.length→(l=k→R (none,()) s)→(l≠k→R (some (.done (.ret (.bool (lx l k)))),()) s)→wpAny (md X) A (forIn (us.zip ws) (none,()) body) R E s:=by
 intro l
 induction l with
 | nil=>
  intro k us ws i1 i2 hl h1 h2
  cases k with
  | nil=>
   cases i1;cases i2
   rw[List.zip_nil_left,List.forIn_nil];exact wpAny_pure (h1 rfl)
  | cons y k=>simp at hl
 | cons x l ih=>
  intro k us ws i1 i2 hl h1 h2
  cases k with
  | nil=>simp at hl
  | cons y k=>
   obtain⟨a,us,ia,r,rfl⟩:=IsAll.vCons i1;obtain⟨t,rfl⟩:=Is.vInt ia;obtain⟨a,ws,ia,r',rfl⟩:=IsAll.vCons i2;obtain⟨u,rfl⟩:=Is.vInt ia;rw[List.zip_cons_cons,List.forIn_cons];by_cases e:x=y
   ·subst e
    refine wpAny_bind (hb1 x t u _ ?_);refine ih r r' (by simpa using hl) (fun e=>h1 (by rw[e])) (fun n=>?_);have:=h2 fun e=>n (by injection e);unfold lx at this;rw[if_pos rfl]at this;exact this
   ·refine wpAny_bind (hb2 x y t u _ e ?_)
    have:=h2 fun e'=>e (by injection e');unfold lx at this;rw[if_neg e]at this;exact wpAny_pure this
theorem QP(hs:St X σ s){l k:List Int}{u v:Value}(iu:Is (ads σ.own) s.heap (mkM l) u)(iv:Is (ads σ.own) s.heap (mkM k) v)(hl:l.length=k.length){Q:Value→Shared→Prop}(q:Q (.bool (lx l k)) s):wpAny (md X) A (call (.builtin "tuple.__lt__") [u,v]) Q E s:=by
 unfold mkM at iu iv
 cases iu with
 | mat ho hc hd hn il=>
 cases iv with
 | mat ho' hc' hd' hn' il'=>
 rename_i xa xo us n ya yo vs n';have TT:Looks (md X) s.heap (isInstance (.ref xa) (.type "tuple")) true:=(Ed (X:=X) ho hc).andThen (hs.look (CI X));have TT':Looks (md X) s.heap (isInstance (.ref ya) (.type "tuple")) true:=(Ed (X:=X) ho' hc').andThen (hs.look (CI X));refine wpAny_call (codeAny_call_builtin KK F.entry_tuple_lt ?_);refine @check_slot (md X) _ _ s "tuple.__lt__" "tuple" "__lt__" (.ref xa) [.ref ya] [] _ MR KJ TT (F.args_tuple_lt_2 _ _) ?_
 show wpAny _ _ (do
  let(a,[b]) ←slotArgs "__lt__" 1 ⟨[.ref xa,.ref ya],[]⟩| unsupported "internal:tuple.compare"
  if !(←isInstance b (.type "tuple"))then return ←ret .notImplemented
  let xs ←Tuple.tupleItemsOf a
  let ys ←Tuple.tupleItemsOf b
  for (x,y)in xs.toList.zip ys.toList do
   if !(←eqBool x y)then
    match CmpOp.Lt with
    | .Eq=>return ←ret (.bool false)
    | .NotEq=>return ←ret (.bool true)
    | _=>rule "tuple.compare.by-the-first-pair-that-differs";return ←ret (←richCompare .Lt x y)
  ret (Tuple.tupleCompareSizes .Lt xs.size ys.size)) _ _ s
 refine wpAny_bind (m:=slotArgs "__lt__" 1 ⟨[.ref xa,.ref ya],[]⟩) (wpAny_pure ?_)
 dsimp only
 refine wpAny_bind (TT'.here ?_);rw[if_neg (by decide)];refine wpAny_bind (m:=Tuple.tupleItemsOf (.ref xa)) (wpAny_bind (m:=seqItems? (.ref xa)) (wpAny_seqItems ho hd (wpAny_pure ?_)));refine wpAny_bind (m:=Tuple.tupleItemsOf (.ref ya)) (wpAny_bind (m:=seqItems? (.ref ya)) (wpAny_seqItems ho' hd' (wpAny_pure ?_)))
 dsimp only
 refine wpAny_bind (Mw (fun a t u R' h=>?_) (fun a b t u R' hne h=>?_) il il' hl (fun e=>?_) fun e=>?_)
 ·dsimp only
  refine wpAny_bind (wpAny_eqBool_int ?_);rw[if_neg (by simp)];exact wpAny_pure h
 ·dsimp only
  refine wpAny_bind (wpAny_eqBool_int ?_);rw[if_pos (by simpa using hne)];refine wpAny_bind (wpAny_rule ?_);refine wpAny_bind (m:=richCompare .Lt (.int a t) (.int b u)) (PyProof.Rows.lt_int ?_);exact wpAny_bind (wpAny_pure (wpAny_pure h))
 ·dsimp only
  refine wpAny_pure ?_
  have e2:us.length=vs.length:=by rw[il.length,il'.length];simp[Aj,hl]
  subst e;rw[DH]at q
  have:Tuple.tupleCompareSizes .Lt (List.toArray us).size (List.toArray vs).size=.bool false:=by
   unfold Tuple.tupleCompareSizes;simp only[List.size_toArray,e2];rw[decide_eq_false (Nat.lt_irrefl _)]
  rw[this];exact q
 ·dsimp only
  exact wpAny_pure q
theorem Nj(hu:A.units<cLine)(hs:St X σ s){l k:List Int}{u v:Value}(iu:Is (ads σ.own) s.heap (mkM l) u)(iv:Is (ads σ.own) s.heap (mkM k) v)(hl:l.length=k.length){Q:Bool→Shared→Prop}(q:Q (lx l k) s):wpAny (md X) A (oneLt' true u v) Q E s:=by
 have hcall:∀Q:Value→Shared→Prop,Q (.bool (lx l k)) s→wpAny (md X) A (call (.builtin "tuple.__lt__") [u,v]) Q E s:=fun Q q=>QP hs iu iv hl q;unfold mkM at iu iv
 cases iu with
 | mat ho hc hd hn il=>
 rename_i xa xo us n;rw[oneLt'_eq];simp only[if_true];refine wpAny_bind (wpAny_cRoomFor hu ?_);have SI:Looks (md X) s.heap (specialOf (.ref xa) "__lt__") (some (.builtin "tuple.__lt__")):=(Ed (X:=X) ho hc).andThen (looks_findIn hs.kf (LS X));refine wpAny_bind ?_;simp only[callSpecialIfBound?,bindSpecialIfBound?];refine wpAny_holding (wpAny_bind (wpAny_bind (SI.here ?_)));simp only[F.slot_tuple_lt.bind];refine wpAny_bind (wpAny_askSetting (wpAny_ite ?_));split
 ·refine wpAny_bind (wpAny_pure (wpAny_pure ?_))
  exact wpAny_bind (hcall _ (wpAny_pure (wpAny_truthy_bool q)))
 ·refine wpAny_tryCatch (wpAny_bind (wpAny_pure (wpAny_pure ?_)))
  exact wpAny_bind (hcall _ (wpAny_pure (wpAny_truthy_bool q)))
theorem QV{h:Heap}{t:List Int}{v:Value}(i:Is ad h (mkM t) v):∃a o,v=.ref a∧h.get? a=some o∧o.cls=.ref 143:=by
 unfold mkM at i
 cases i with
 | mat ho hc hd hn il=>exact⟨_,_,rfl,ho,hc⟩
theorem LR{h:Heap}:∀{ts:List (List Int)} {vs:List Value},IsAll ad h (ts.map mkM) vs→∀v∈vs,∃a o,v=.ref a∧h.get? a=some o∧o.cls=.ref 143:=by
 intro ts
 induction ts with
 | nil=>intro vs h v hv;cases h;cases hv
 | cons t ts ih=>
  intro vs h v hv;obtain⟨a,us,ia,r,rfl⟩:=IsAll.vCons h
  rcases List.mem_cons.mp hv with rfl| hv
  ·exact QV ia
  ·exact ih r v hv
theorem DS.mat{X:Cx}{ts L:List (List Int)}{d:Nat}(hd:∀t∈ts,t.length=d)(h6:ts.length≤6)(hp:ts.Perm L)(hL:L.Pairwise fun a b=>lx a b=true):DS X mkM ts L:=fun σ S vs hs hi h2=>by
 obtain⟨ws,iw,k⟩:=Hf (X:=X) hi h2 h6 hp hL;refine⟨ws,iw,fun A hu=>k A oneType' (fun Q q=>?_) fun i j C h1 h2 h=>?_⟩
 ·refine kas_kind (T:=.ref 143) (by rw[hi.length,List.length_map];exact h2) (fun v hv=>?_) (by decide) (by decide) q
  obtain⟨a,o,rfl,ho,hc⟩:=LR hi v hv;exact Ed ho hc
 ·have hm:∀k,k<ts.length→(ts.getD k []).length=d:=fun k hk=>hd _ (by rw[List.getD_eq_getElem?_getD,List.getElem?_eq_getElem hk];exact List.getElem_mem hk)
  unfold kas_ask;rw[keyLt'_oneType];exact Nj hu hs (hi.atm (d:=[]) h1) (hi.atm (d:=[]) h2) ((hm i h1).trans (hm j h2).symm) h
end
end
section
section
variable {α β:Type}
noncomputable def lcp[DecidableEq α]:List α→List α→Nat
 | x::xs,y::ys=>if x=y then lcp xs ys+1 else 0
 | _,_=>0
noncomputable def CP[DecidableEq α](A B:List α)(ahi bhi i j:Nat):Nat:=lcp ((A.take ahi).drop i) ((B.take bhi).drop j)
noncomputable abbrev Tri:=Nat×Nat×Nat
noncomputable def HS[DecidableEq α](A B:List α)(ahi bhi i:Nat)(b:Tri)(j:Nat):Tri:=if b.1<CP A B ahi bhi i j then(CP A B ahi bhi i j,i,j)else b
noncomputable def CB[DecidableEq α](A B:List α)(ahi blo bhi:Nat)(b:Tri)(i:Nat):Tri:=(List.range' blo (bhi-blo)).foldl (HS A B ahi bhi i) b
noncomputable def Bc[DecidableEq α](A B:List α)(alo ahi blo bhi:Nat):Tri:=(List.range' alo (ahi-alo)).foldl (CB A B ahi blo bhi) (0,alo,blo)
noncomputable def Fl[DecidableEq α](A B:List α):Nat→Nat→Nat→Nat→Nat→List Tri
 | 0,_,_,_,_=>[]
 | f+1,alo,ahi,blo,bhi=>
  let b:=Bc A B alo ahi blo bhi
  if b.1=0 then[]else Fl A B f alo b.2.1 blo b.2.2++(b.2.1,b.2.2,b.1)::Fl A B f (b.2.1+b.1) ahi (b.2.2+b.1) bhi
noncomputable def Ck[DecidableEq α](A B:List α)(alo ahi blo bhi:Nat):List Tri:=Fl A B (ahi-alo+1) alo ahi blo bhi
noncomputable def Ar[DecidableEq α](A B:List α):List Tri:=Ck A B 0 A.length 0 B.length
noncomputable def units(t:Tri):List (Nat×Nat):=(List.range t.2.2).map fun k=>(t.1+k,t.2.1+k)
noncomputable def kept[DecidableEq α](A B:List α):List (Nat×Nat):=(Ar A B).flatMap units
noncomputable def BC{τ:Type}(mi pl bl:τ)(one two:List β):List (Nat×Nat)→Nat→Nat→List (τ×β)
 | [],_,_=>[]
 | (p,q)::r,i,j=>((one.take p).drop i).map (fun x=>(mi,x))++((two.take q).drop j).map (fun x=>(pl,x))++((one.take (p+1)).drop p).map (fun x=>(bl,x))++BC mi pl bl one two r (p+1) (q+1)
noncomputable def Af:List Tri→Tri→List Tri
 | [],s=>if s.2.2=0 then[]else[s]
 | t::r,s=>if s.1+s.2.2=t.1∧s.2.1+s.2.2=t.2.1 then Af r (s.1,s.2.1,s.2.2+t.2.2)else(if s.2.2=0 then[]else[s])++Af r t
noncomputable abbrev Cd:=Nat×Nat×Nat×Nat×Nat
noncomputable def AO:List Tri→Nat→Nat→List Cd
 | [],_,_=>[]
 | t::r,i,j=>(if i<t.1∧j<t.2.1 then[(1,i,t.1,j,t.2.1)]else if i<t.1 then[(2,i,t.1,j,t.2.1)]else if j<t.2.1 then[(3,i,t.1,j,t.2.1)]else[])++
   (if t.2.2=0 then[]else[(0,t.1,t.1+t.2.2,t.2.1,t.2.1+t.2.2)])++AO r (t.1+t.2.2) (t.2.1+t.2.2)
noncomputable def Bn(n:Nat):List Cd→List Cd
 | []=>[]
 | (t,i1,i2,j1,j2)::r=>(if t=0 then(t,max i1 (i2-n),i2,max j1 (j2-n),j2)else(t,i1,i2,j1,j2))::r
noncomputable def AC(n:Nat):List Cd→List Cd
 | []=>[]
 | [(t,i1,i2,j1,j2)]=>[if t=0 then(t,i1,min i2 (i1+n),j1,min j2 (j1+n))else(t,i1,i2,j1,j2)]
 | c::d::r=>c::AC n (d::r)
noncomputable def A2(n:Nat):List Cd→List Cd→List (List Cd)
 | [],g=>if g=[]then[]else if g.length=1∧(g.map (·.1)).headD 1=0 then[]else[g]
 | (t,i1,i2,j1,j2)::r,g=>if t=0∧n+n<i2-i1 then(g++[(t,i1,min i2 (i1+n),j1,min j2 (j1+n))])::A2 n r [(t,max i1 (i2-n),i2,max j1 (j2-n),j2)]
   else A2 n r (g++[(t,i1,i2,j1,j2)])
noncomputable def CT(l:List Cd):List Cd:=if l=[]then[(0,0,1,0,1)]else l
noncomputable def AK(n:Nat)(l:List Cd):List (List Cd):=A2 n (AC n (Bn n (CT l))) []
end
section
variable {α β:Type}[DecidableEq α]
noncomputable def Mt(A B:List α)(ahi bhi i j k:Nat):Prop:=i+k≤ahi∧j+k≤bhi∧∀t,t<k→∃x,A[i+t]? =some x∧B[j+t]? =some x
theorem LY:∀(xs ys:List α) (k:Nat),k≤lcp xs ys↔∀t,t<k→∃x,xs[t]? =some x∧ys[t]? =some x
 | xs,ys,0=>by simp
 | [],ys,k+1=>by
  have:lcp ([]:List α) ys=0:=by cases ys<;>rfl
  rw[this];refine⟨fun h=>by omega,fun h=>?_⟩;obtain⟨x,hx,_⟩:=h 0 (by exact a35);simp at hx
 | x::xs,[],k+1=>by
  rw[show lcp (x::xs) ([]:List α)=0 from rfl];refine⟨fun h=>by omega,fun h=>?_⟩;obtain⟨x,_,hx⟩:=h 0 (by exact a35);simp at hx
 | x::xs,y::ys,k+1=>by
  show k+1≤(if x=y then lcp xs ys+1 else 0)↔_;by_cases hxy:x=y
  ·rw[if_pos hxy]
   subst hxy;rw[Nat.add_le_add_iff_right,LY xs ys k];refine⟨fun h t ht=>?_,fun h t ht=>by simpa using h (t+1) (by exact al1 ht)⟩
   cases t with
   | zero=>exact⟨x,by simp,by simp⟩
   | succ t=>simpa using h t (by exact al0 ht)
  ·rw[if_neg hxy]
   refine⟨fun h=>by omega,fun h=>?_⟩;obtain⟨z,h1,h2⟩:=h 0 (by exact a35);simp at h1 h2;exact absurd (h1.trans h2.symm) hxy
theorem Gx{A B:List α}{ahi bhi i j k:Nat}(hi:i≤ahi)(hj:j≤bhi):k≤CP A B ahi bhi i j↔Mt A B ahi bhi i j k:=by
 unfold CP Mt;rw[LY];constructor
 ·intro h
  have key:∀t,t<k→(i+t<ahi∧j+t<bhi)∧∃x,A[i+t]? =some x∧B[j+t]? =some x:=fun t ht=>by
   obtain⟨x,h1,h2⟩:=h t ht;rw[List.getElem?_drop,List.getElem?_take]at h1 h2;split at h1
   ·split at h2
    ·exact⟨⟨by assumption,by assumption⟩,x,h1,h2⟩
    ·cases h2
   ·cases h1
  refine⟨?_,?_,fun t ht=>(key t ht).2⟩
  ·cases k with
   | zero=>exact U4 hi
   | succ k=>have:=(key k (by exact a20)).1.1;exact a13 this
  ·cases k with
   | zero=>exact U4 hj
   | succ k=>have:=(key k (by exact a20)).1.2;exact a13 this
 ·rintro⟨h1,h2,h3⟩ t ht
  obtain⟨x,e1,e2⟩:=h3 t ht;exact⟨x,by rw[List.getElem?_drop,List.getElem?_take,if_pos (by exact U3 h1 ht)];exact e1,by rw[List.getElem?_drop,List.getElem?_take,if_pos (by exact U3 h2 ht)];exact e2⟩
structure Ci (A B:List α)(alo ahi blo bhi:Nat)(b:Tri):Prop where
 zero:b.1=0→b.2.1=alo∧b.2.2=blo
 ok:0<b.1→alo≤b.2.1∧blo≤b.2.2∧Mt A B ahi bhi b.2.1 b.2.2 b.1
 most:∀i j k,alo≤i→blo≤j→0<k→Mt A B ahi bhi i j k→k≤b.1∧(k=b.1→b.2.1<i∨(b.2.1=i∧b.2.2≤j))
theorem Ci.unique{A B:List α}{alo ahi blo bhi:Nat}{b c:Tri}(x:Ci A B alo ahi blo bhi b)(y:Ci A B alo ahi blo bhi c):b=c:=by
 have hs:b.1=c.1:=by
  rcases Nat.eq_zero_or_pos b.1 with hb| hb
  ·rcases Nat.eq_zero_or_pos c.1 with hc| hc
   ·exact ak9 hb hc
   ·obtain⟨h1,h2,h3⟩:=y.ok hc
    have:=(x.most _ _ _ h1 h2 hc h3).1;exact ak8 hb this
  ·obtain⟨h1,h2,h3⟩:=x.ok hb
   have l1:=(y.most _ _ _ h1 h2 hb h3).1
   have hc:0<c.1:=by exact ak7 hb l1
   obtain⟨g1,g2,g3⟩:=y.ok hc;have l2:=(x.most _ _ _ g1 g2 hc g3).1;exact a44 l1 l2
 rcases Nat.eq_zero_or_pos b.1 with hb| hb
 ·have h1:=x.zero hb
  have h2:=y.zero (by exact ak6 hs hb);obtain⟨b1,b2,b3⟩:=b;obtain⟨c1,c2,c3⟩:=c;simp only at hs h1 h2;rw[hs,h1.1,h1.2,h2.1,h2.2]
 ·obtain⟨h1,h2,h3⟩:=x.ok hb
  have hc:0<c.1:=by exact ak5 hs hb
  obtain⟨g1,g2,g3⟩:=y.ok hc;have l1:=(y.most _ _ _ h1 h2 hb h3).2 hs;have l2:=(x.most _ _ _ g1 g2 hc g3).2 hs.symm;obtain⟨b1,b2,b3⟩:=b;obtain⟨c1,c2,c3⟩:=c;simp only at hs l1 l2
  have e1:b2=c2:=by exact ak4 l1 l2
  have e2:b3=c3:=by exact ak3 l1 l2
  rw[hs,e1,e2]
structure Cm (A B:List α)(alo ahi blo bhi i₀ j₀:Nat)(b:Tri):Prop where
 zero:b.1=0→b.2.1=alo∧b.2.2=blo
 ok:0<b.1→alo≤b.2.1∧blo≤b.2.2∧Mt A B ahi bhi b.2.1 b.2.2 b.1∧(b.2.1<i₀∨(b.2.1=i₀∧b.2.2<j₀))
 most:∀i j k,alo≤i→blo≤j→0<k→Mt A B ahi bhi i j k→(i<i₀∨(i=i₀∧j<j₀))→k≤b.1∧(k=b.1→b.2.1<i∨(b.2.1=i∧b.2.2≤j))
theorem NV{A B:List α}{alo ahi blo bhi i j:Nat}{b:Tri}(hi:i<ahi)(hj:j<bhi)(hai:alo≤i)(hbj:blo≤j)(h:Cm A B alo ahi blo bhi i j b):Cm A B alo ahi blo bhi i (j+1) (HS A B ahi bhi i b j):=by
 have hm:=fun k=>Gx (A:=A) (B:=B) (ahi:=ahi) (bhi:=bhi) (i:=i) (j:=j) (k:=k) (by exact a6 hi) (by exact a6 hj);unfold HS;by_cases hlt:b.1<CP A B ahi bhi i j
 ·rw[if_pos hlt]
  refine⟨fun e=>by simp only at e;exact ak2 hlt e,fun O=>⟨hai,hbj,(hm _).mp (Nat.le_refl _),.inr ⟨rfl,by simp⟩⟩,fun i' j' k' h1 h2 h3 h4 h5=>?_⟩;simp only;by_cases hh:i'=i∧j'=j
  ·obtain⟨rfl,rfl⟩:=hh
   have:=(hm k').mpr h4;exact⟨this,fun O=>.inr ⟨rfl,Nat.le_refl _⟩⟩
  ·have:=h.most i' j' k' h1 h2 h3 h4 (by exact Od h5 hh)
   exact⟨by exact UJ hlt this,fun e=>by exact Ts hlt this e⟩
 ·rw[if_neg hlt]
  refine⟨h.zero,fun e=>?_,fun i' j' k' h1 h2 h3 h4 h5=>?_⟩
  ·obtain⟨a,b',c,d⟩:=h.ok e
   exact⟨a,b',c,by exact Tr d⟩
  ·by_cases hh:i'=i∧j'=j
   ·obtain⟨rfl,rfl⟩:=hh
    have:=(hm k').mpr h4;refine⟨by exact UI hlt this,fun e=>?_⟩
    have hb:0<b.1:=by exact aj7 h3 e
    obtain⟨_,_,_,d⟩:=h.ok hb;exact aj6 d
   ·exact h.most i' j' k' h1 h2 h3 h4 (by exact Od h5 hh)
theorem Ky{A B:List α}{alo ahi blo bhi i:Nat}{b:Tri}(hi:i<ahi)(hai:alo≤i)(h:Cm A B alo ahi blo bhi i blo b):Cm A B alo ahi blo bhi (i+1) blo (CB A B ahi blo bhi b i):=by
 have key:∀(n lo:Nat) (b:Tri),blo≤lo→lo+n≤bhi→Cm A B alo ahi blo bhi i lo b→Cm A B alo ahi blo bhi i (lo+n) ((List.range' lo n).foldl (HS A B ahi bhi i) b):=by
  intro n
  induction n with
  | zero=>intro lo b _ _ h;exact h
  | succ n ih=>
   intro lo b h1 h2 h;rw[List.range'_succ,List.foldl_cons];have:=ih (lo+1) _ (by exact a53 h1) (by exact a43 h2) (NV hi (by exact a42 h2) hai h1 h);rw[show lo+1+n=lo+(n+1)by exact U2]at this;exact this
 unfold CB
 have fin:∀(b:Tri) (e:Nat),blo≤e→bhi≤e→Cm A B alo ahi blo bhi i e b→Cm A B alo ahi blo bhi (i+1) blo b:=by
  intro b e he he' h;refine⟨h.zero,fun hb=>?_,fun i' j' k' h1 h2 h3 h4 h5=>?_⟩
  ·obtain⟨a,b',c,d⟩:=h.ok hb
   exact⟨a,b',c,by exact ak1 d⟩
  ·refine h.most i' j' k' h1 h2 h3 h4 ?_
   have:=h4.2.1;exact aj8 he' h2 h3 h5 this
 rcases Nat.le_total blo bhi with hle| hle
 ·have:=key (bhi-blo) blo b (Nat.le_refl _) (by exact U1 hle) h
  exact fin _ _ (by exact aj5) (by exact U0) this
 ·rw[show bhi-blo=0 by exact Uz hle]
  exact fin _ blo (Nat.le_refl _) hle h
theorem De{A B:List α}{alo ahi blo bhi:Nat}:Ci A B alo ahi blo bhi (Bc A B alo ahi blo bhi):=by
 have key:∀(n lo:Nat) (b:Tri),alo≤lo→lo+n≤ahi→Cm A B alo ahi blo bhi lo blo b→Cm A B alo ahi blo bhi (lo+n) blo ((List.range' lo n).foldl (CB A B ahi blo bhi) b):=by
  intro n
  induction n with
  | zero=>intro lo b _ _ h;exact h
  | succ n ih=>
   intro lo b h1 h2 h;rw[List.range'_succ,List.foldl_cons];have:=ih (lo+1) _ (by exact a53 h1) (by exact a43 h2) (Ky (by exact a42 h2) h1 h);rw[show lo+1+n=lo+(n+1)by exact U2]at this;exact this
 have start:Cm A B alo ahi blo bhi alo blo (0,alo,blo):=⟨fun O=>⟨rfl,rfl⟩,fun h=>by simp at h,fun i j k h1 h2 h3 h4 h5=>by exact ak0 h1 h2 h5⟩
 have fin:∀(b:Tri) (e:Nat),ahi≤e→Cm A B alo ahi blo bhi e blo b→Ci A B alo ahi blo bhi b:=fun b e he h=>
  ⟨h.zero,fun hb=>by obtain⟨a,b',c,d⟩:=h.ok hb;exact⟨a,b',c⟩,fun i j k h1 h2 h3 h4=>h.most i j k h1 h2 h3 h4 (by have:=h4.1;exact aj9 he h3 this)⟩
 unfold Bc
 rcases Nat.le_total alo ahi with hle| hle
 ·have:=key (ahi-alo) alo (0,alo,blo) (Nat.le_refl _) (by exact U1 hle) start
  exact fin _ _ (by exact U0) this
 ·rw[show ahi-alo=0 by exact Uz hle]
  exact fin _ alo hle start
noncomputable def rowAt(A B:List α)(alo blo bhi:Nat):Nat→Nat→Nat
 | 0,_=>0
 | n+1,j=>if blo≤j∧j<bhi∧(∃x,A[alo+n]? =some x∧B[j]? =some x)then(if j=0 then 0 else rowAt A B alo blo bhi n (j-1))+1 else 0
end
section
variable {α β:Type}[DecidableEq α]
theorem DF{A B:List α}{alo blo bhi:Nat}:∀{n j:Nat},0<rowAt A B alo blo bhi n j→j<bhi∧rowAt A B alo blo bhi n j≤n∧rowAt A B alo blo bhi n j+blo≤j+1∧∀t,t<rowAt A B alo blo bhi n j→∃x,A[alo+n-rowAt A B alo blo bhi n j+t]? =some x∧B[j+1-rowAt A B alo blo bhi n j+t]? =some x
 | 0,j,h=>by simp[rowAt]at h
 | n+1,j,h=>by
  unfold rowAt at h ⊢;split at h
  ·rename_i hc
   rw[if_pos hc];obtain⟨c1,c2,x,c3,c4⟩:=hc;by_cases hj:j=0
   ·simp only[if_pos hj]at h ⊢
    refine⟨c2,by exact UY,by exact UX c1,fun t ht=>⟨x,?_,?_⟩⟩
    ·rw[show alo+(n+1)-(0+1)+t=alo+n by exact UW ht];exact c3
    ·rw[show j+1-(0+1)+t=j by exact UU ht];exact c4
   ·simp only[if_neg hj]at h ⊢
    generalize hk:rowAt A B alo blo bhi n (j-1)=k at*
    rcases Nat.eq_zero_or_pos k with h0| h0
    ·subst h0
     refine⟨c2,by exact UY,by exact UX c1,fun t ht=>⟨x,?_,?_⟩⟩
     ·rw[show alo+(n+1)-(0+1)+t=alo+n by exact UW ht];exact c3
     ·rw[show j+1-(0+1)+t=j by exact UU ht];exact c4
    ·have ih:=DF (A:=A) (B:=B) (alo:=alo) (blo:=blo) (bhi:=bhi) (n:=n) (j:=j-1) (by rw[hk];exact h0)
     rw[hk]at ih;obtain⟨i1,i2,i3,i4⟩:=ih;refine⟨c2,by exact a67 i2,by exact at6 hj i3,fun t ht=>?_⟩;by_cases htk:t<k
     ·obtain⟨y,y1,y2⟩:=i4 t htk
      refine⟨y,?_,?_⟩
      ·rw[show alo+(n+1)-(k+1)+t=alo+n-k+t by exact at5];exact y1
      ·rw[show j+1-(k+1)+t=j-1+1-k+t by exact at4 h0];exact y2
     ·refine⟨x,?_,?_⟩
      ·rw[show alo+(n+1)-(k+1)+t=alo+n by exact at3 i2 ht htk];exact c3
      ·rw[show j+1-(k+1)+t=j by exact at2 hj i3 ht htk];exact c4
  ·omega
theorem E1{A B:List α}{alo blo bhi:Nat}:∀{n j i₀ j₀ k:Nat},alo≤i₀→blo≤j₀→i₀+k=alo+n→j₀+k=j+1→j<bhi→(∀t,t<k→∃x,A[i₀+t]? =some x∧B[j₀+t]? =some x)→k≤rowAt A B alo blo bhi n j
 | 0,j,i₀,j₀,k,h1,h2,h3,h4,h5,h6=>by exact au3 h1 h3
 | n+1,j,i₀,j₀,0,h1,h2,h3,h4,h5,h6=>by exact a40
 | n+1,j,i₀,j₀,k+1,h1,h2,h3,h4,h5,h6=>by
  obtain⟨x,x1,x2⟩:=h6 k (by exact a20);rw[show i₀+k=alo+n by exact UZ h3]at x1;rw[show j₀+k=j by exact au2 h4]at x2;unfold rowAt;rw[if_pos ⟨by exact au1 h2 h4,h5,x,x1,x2⟩];by_cases hj:j=0
  ·rw[if_pos hj];exact au0 h4 hj
  ·rw[if_neg hj]
   rcases Nat.eq_zero_or_pos k with h0| h0
   ·exact at9 h0
   ·have:=E1 (A:=A) (B:=B) (alo:=alo) (blo:=blo) (bhi:=bhi) (n:=n) (j:=j-1) (i₀:=i₀) (j₀:=j₀) (k:=k) h1 h2 (by exact UZ h3) (by exact at8 h4 h0) (by exact at7 h5) (fun t ht=>h6 t (by exact a66 ht))
    exact a67 this
noncomputable def DL(m:Nat→Nat)(i blo bhi:Nat):List Nat→(Nat→Nat)→Tri→(Nat→Nat)×Tri
 | [],new,b=>(new,b)
 | j::js,new,b=>if j<blo then DL m i blo bhi js new b else if bhi≤j then(new,b)else
   DL m i blo bhi js (fun x=>if x=j then(if j=0 then 0 else m (j-1))+1 else new x) (if b.1<(if j=0 then 0 else m (j-1))+1 then((if j=0 then 0 else m (j-1))+1,i+1-((if j=0 then 0 else m (j-1))+1),j+1-((if j=0 then 0 else m (j-1))+1))else b)
noncomputable def CV(B:List α)(x:α):List Nat:=(List.range B.length).filter fun j=>decide (B[j]? =some x)
noncomputable def HL(A B:List α)(blo bhi:Nat)(s:(Nat→Nat)×Tri)(i:Nat):(Nat→Nat)×Tri:=match A[i]? with
 | some x=>DL s.1 i blo bhi (CV B x) (fun O=>0) s.2
 | none=>(fun O=>0,s.2)
structure AU (A B:List α)(alo ahi blo bhi i₀ j₀:Nat)(b:Tri):Prop where
 zero:b.1=0→b.2.1=alo∧b.2.2=blo
 ok:0<b.1→alo≤b.2.1∧blo≤b.2.2∧Mt A B ahi bhi b.2.1 b.2.2 b.1∧(b.2.1+b.1<i₀+1∨(b.2.1+b.1=i₀+1∧b.2.2+b.1<j₀+1))
 most:∀i j k,alo≤i→blo≤j→0<k→Mt A B ahi bhi i j k→(i+k<i₀+1∨(i+k=i₀+1∧j+k<j₀+1))→k≤b.1∧(k=b.1→b.2.1<i∨(b.2.1=i∧b.2.2≤j))
theorem AU.skip{A B:List α}{alo ahi blo bhi i j₀ j₁:Nat}{b:Tri}(h:AU A B alo ahi blo bhi i j₀ b)(hle:j₀≤j₁)(hno:∀j,j₀≤j→j<j₁→blo≤j→j<bhi→∀x,A[i]? =some x→B[j]? =some x→False):AU A B alo ahi blo bhi i j₁ b:=by
 refine⟨h.zero,fun hb=>?_,fun i' j' k' h1 h2 h3 h4 h5=>?_⟩
 ·obtain⟨a,c,d,e⟩:=h.ok hb
  exact⟨a,c,d,by exact at0 hle e⟩
 ·by_cases hh:i'+k'=i+1∧j₀+1≤j'+k'
  ·exfalso
   obtain⟨m1,m2,m3⟩:=h4;obtain⟨x,x1,x2⟩:=m3 (k'-1) (by exact UT h3);rw[show i'+(k'-1)=i by exact US h3 hh]at x1;exact hno (j'+(k'-1)) (by exact UQ hh) (by exact as0 h3 h5 hh) (by exact Rw h2) (by exact UP h3 m2) x x1 x2
  ·exact h.most i' j' k' h1 h2 h3 h4 (by exact ar9 h5 hh)
theorem AU.row{A B:List α}{alo ahi blo bhi i j₀:Nat}{b:Tri}(h:AU A B alo ahi blo bhi i j₀ b)(hno:∀j,j₀≤j→blo≤j→j<bhi→∀x,A[i]? =some x→B[j]? =some x→False):AU A B alo ahi blo bhi (i+1) 0 b:=by
 refine⟨h.zero,fun hb=>?_,fun i' j' k' h1 h2 h3 h4 h5=>?_⟩
 ·obtain⟨a,c,d,e⟩:=h.ok hb
  exact⟨a,c,d,by exact at1 e⟩
 ·by_cases hh:i'+k'=i+1∧j₀+1≤j'+k'
  ·exfalso
   obtain⟨m1,m2,m3⟩:=h4;obtain⟨x,x1,x2⟩:=m3 (k'-1) (by exact UT h3);rw[show i'+(k'-1)=i by exact US h3 hh]at x1;exact hno (j'+(k'-1)) (by exact UQ hh) (by exact Rw h2) (by exact UP h3 m2) x x1 x2
  ·exact h.most i' j' k' h1 h2 h3 h4 (by exact ar7 h3 h5 hh)
theorem NS{A B:List α}{alo ahi blo bhi n:Nat}{x:α}{m:Nat→Nat}(hm:∀j,m j=rowAt A B alo blo bhi n j)(hn:alo+n<ahi)(hx:A[alo+n]? =some x):∀(js:List Nat) (j₀:Nat) (new:Nat→Nat) (b:Tri),js.Pairwise (· < ·)→(∀j∈js,j₀≤j∧B[j]? =some x)→(∀j,j₀≤j→B[j]? =some x→j∈js)→(∀j,j<j₀→new j=rowAt A B alo blo bhi (n+1) j)→(∀j,j₀≤j→new j=0)→AU A B alo ahi blo bhi (alo+n) j₀ b→(∀j,(DL m (alo+n) blo bhi js new b).1 j=rowAt A B alo blo bhi (n+1) j)∧AU A B alo ahi blo bhi (alo+n+1) 0 (DL m (alo+n) blo bhi js new b).2:=by
 have zero:∀j,(blo≤j→j<bhi→B[j]? =some x→False)→rowAt A B alo blo bhi (n+1) j=0:=fun j h=>by
  unfold rowAt;rw[if_neg];rintro⟨h1,h2,y,y1,y2⟩;rw[hx]at y1;cases y1;exact h h1 h2 y2
 intro js
 induction js with
 | nil=>
  intro j₀ new b _ _ hall h1 h2 hb;refine⟨fun j=>?_,hb.row fun j hj O O y y1 y2=>?_⟩
  ·show new j=_
   by_cases hj:j<j₀
   ·exact h1 j hj
   ·rw[h2 j (by exact a12 hj),zero j fun O O e=>by simpa using hall j (by exact a12 hj) e]
  ·rw[hx]at y1;cases y1
   simpa using hall j hj y2
 | cons j js ih=>
  intro j₀ new b hs hin hall h1 h2 hb;have hj:=hin j List.mem_cons_self;have hs':=List.pairwise_cons.mp hs
  have nom:∀j',j₀≤j'→j'<j→B[j']? =some x→False:=fun j' a b c=>by
   rcases List.mem_cons.mp (hall j' a c)with e| e
   ·exact as7 b e
   ·have:=hs'.1 _ e;exact as6 b this
  have hb':AU A B alo ahi blo bhi (alo+n) j b:=hb.skip hj.1 fun j' a b O O y y1 y2=>by rw[hx]at y1;cases y1;exact nom j' a b y2
  have h1':∀j',j'<j→new j'=rowAt A B alo blo bhi (n+1) j':=fun j' hj'=>by
   by_cases hh:j'<j₀
   ·exact h1 j' hh
   ·rw[h2 j' (by exact a12 hh),zero j' fun O O e=>nom j' (by exact a12 hh) hj' e]
  have rest:(∀j'∈js,j+1≤j'∧B[j']? =some x):=fun j' hj'=>⟨by have:=hs'.1 _ hj';exact a4 this,(hin j' (List.mem_cons_of_mem _ hj')).2⟩
  have rall:∀j',j+1≤j'→B[j']? =some x→j'∈js:=fun j' a c=>by
   rcases List.mem_cons.mp (hall j' (by omega) c)with e| e
   ·omega
   ·exact e
  unfold DL;by_cases c1:j<blo
  ·rw[if_pos c1]
   refine ih (j+1) new b hs'.2 rest rall (fun j' hj'=>?_) (fun j' hj'=>h2 j' (by omega)) (hb'.skip (by exact UM) fun j' a b e O O O O=>by exact UL c1 b e);by_cases hh:j'<j
   ·exact h1' j' hh
   ·rw[h2 j' (by omega),zero j' fun e O O=>by exact UL c1 hj' e]
  ·rw[if_neg c1]
   by_cases c2:bhi≤j
   ·rw[if_pos c2]
    refine⟨fun j'=>?_,hb'.row fun j' a O b O O O=>by exact ar8 c2 a b⟩;show new j'=_;by_cases hh:j'<j
    ·exact h1' j' hh
    ·rw[h2 j' (by omega),zero j' fun O e O=>by exact ar6 c2 hh e]
   ·rw[if_neg c2]
    have hrow:(if j=0 then 0 else m (j-1))+1=rowAt A B alo blo bhi (n+1) j:=by
     have e:rowAt A B alo blo bhi (n+1) j=(if j=0 then 0 else rowAt A B alo blo bhi n (j-1))+1:=by
      conv=>lhs;unfold rowAt
      exact if_pos ⟨by exact a12 c1,by exact a70 c2,x,hx,hj.2⟩
     rw[e,hm]
    rw[hrow];have hrun:=DF (A:=A) (B:=B) (alo:=alo) (blo:=blo) (bhi:=bhi) (n:=n+1) (j:=j) (by exact ar5 hrow);have hmost:=fun i₀ j₀ k=>E1 (A:=A) (B:=B) (alo:=alo) (blo:=blo) (bhi:=bhi) (n:=n+1) (j:=j) (i₀:=i₀) (j₀:=j₀) (k:=k)
    generalize hk:rowAt A B alo blo bhi (n+1) j=k at*
    obtain⟨r1,r2,r3,r4⟩:=hrun;refine ih (j+1) _ _ hs'.2 rest rall (fun j' hj'=>?_) (fun j' hj'=>?_) ?_
    ·by_cases hh:j'=j
     ·subst hh;rw[if_pos rfl,hk]
     ·rw[if_neg hh];exact h1' j' (by exact a69 hj' hh)
    ·rw[if_neg (by exact ar4 hj')];exact h2 j' (by omega)
    ·by_cases hlt:b.1<k
     ·rw[if_pos hlt]
      refine⟨fun e=>by simp only at e;exact ar3 hrow e,fun O=>⟨by simp only;exact ar2 r2,by simp only;exact ar1 r3,⟨by simp only;exact ar0 hn r2,by simp only;exact aq9 c2 r3,?_⟩,by simp only;exact aq8 r2 r3⟩,fun i' j' k' g1 g2 g3 g4 g5=>?_⟩
      ·simp only
       intro t ht;obtain⟨y,y1,y2⟩:=r4 t ht;exact⟨y,by rw[show alo+n+1-k+t=alo+(n+1)-k+t by exact aq7];exact y1,y2⟩
      ·simp only
       by_cases hh:i'+k'=alo+n+1∧j'+k'=j+1
       ·have:=hmost i' j' k' g1 g2 (by exact UK hh) hh.2 (by exact a70 c2) g4.2.2
        exact⟨this,fun e=>by exact aq6 hh e⟩
       ·have:=hb'.most i' j' k' g1 g2 g3 g4 (by exact Od g5 hh)
        exact⟨by exact UJ hlt this,fun e=>by exact Ts hlt this e⟩
     ·rw[if_neg hlt]
      refine⟨hb'.zero,fun e=>?_,fun i' j' k' g1 g2 g3 g4 g5=>?_⟩
      ·obtain⟨a,c,d,e⟩:=hb'.ok e
       exact⟨a,c,d,by exact Tr e⟩
      ·by_cases hh:i'+k'=alo+n+1∧j'+k'=j+1
       ·have:=hmost i' j' k' g1 g2 (by exact UK hh) hh.2 (by exact a70 c2) g4.2.2
        refine⟨by exact UI hlt this,fun e=>?_⟩
        have hb0:0<b.1:=by exact aq5 hrow hlt
        obtain⟨_,_,_,e'⟩:=hb'.ok hb0;exact aq4 hh e e'
       ·exact hb'.most i' j' k' g1 g2 g3 g4 (by exact Od g5 hh)
theorem E4{B:List α}{x:α}{j:Nat}:j∈CV B x↔B[j]? =some x:=by
 unfold CV;rw[List.mem_filter,List.mem_range,decide_eq_true_eq];exact⟨fun h=>h.2,fun h=>⟨(List.getElem?_eq_some_iff.mp h).1,h⟩⟩
theorem Hs(B:List α)(x:α):(CV B x).Pairwise (· < ·):=List.Pairwise.filter _ List.pairwise_lt_range
theorem Ms{A B:List α}{alo ahi blo bhi n:Nat}{s:(Nat→Nat)×Tri}(hA:ahi≤A.length)(hm:∀j,s.1 j=rowAt A B alo blo bhi n j)(hn:alo+n<ahi)(hb:AU A B alo ahi blo bhi (alo+n) 0 s.2):(∀j,(HL A B blo bhi s (alo+n)).1 j=rowAt A B alo blo bhi (n+1) j)∧AU A B alo ahi blo bhi (alo+n+1) 0 (HL A B blo bhi s (alo+n)).2:=by
 have hx:A[alo+n]? =some (A[alo+n]'(by exact a1 hA hn)):=List.getElem?_eq_getElem (by exact a1 hA hn);unfold HL;rw[hx];exact NS hm hn hx (CV B _) 0 _ _ (Hs B _) (fun j hj=>⟨Nat.zero_le _,E4.mp hj⟩) (fun j O h=>E4.mpr h) (fun j hj=>by exact as4 hj) (fun O O=>rfl) hb
theorem AU.start{A B:List α}{alo ahi blo bhi:Nat}:AU A B alo ahi blo bhi alo 0 (0,alo,blo):=
 ⟨fun O=>⟨rfl,rfl⟩,fun h=>by simp at h,fun i j k h1 h2 h3 h4 h5=>by exact as5 h1 h3 h5⟩
theorem AU.done{A B:List α}{alo ahi blo bhi:Nat}{b:Tri}{e:Nat}(he:ahi≤e)(h:AU A B alo ahi blo bhi e 0 b):Ci A B alo ahi blo bhi b:=
 ⟨h.zero,fun hb=>by obtain⟨a,b',c,d⟩:=h.ok hb;exact⟨a,b',c⟩,fun i j k h1 h2 h3 h4=>h.most i j k h1 h2 h3 h4 (by have:=h4.1;exact as8 he this)⟩
theorem K1{A B:List α}{alo ahi blo bhi:Nat}{b:Tri}(h:Ci A B alo ahi blo bhi b)(h1:alo<b.2.1)(h2:blo<b.2.2){x:α}(e1:A[b.2.1-1]? =some x)(e2:B[b.2.2-1]? =some x):False:=by
 rcases Nat.eq_zero_or_pos b.1 with hb| hb
 ·have:=(h.zero hb).1;exact as9 h1 this
 ·obtain⟨_,_,m1,m2,m3⟩:=h.ok hb
  have:=(h.most (b.2.1-1) (b.2.2-1) (b.1+1) (by exact a68 h1) (by exact a68 h2) (by exact a35) ⟨by exact UR h1 m1,by exact UR h2 m2,fun t ht=>by
   rcases Nat.eq_zero_or_pos t with h0| h0
   ·subst h0;exact⟨x,e1,e2⟩
   ·obtain⟨y,y1,y2⟩:=m3 (t-1) (by exact as1 ht h0)
    exact⟨y,by rw[show b.2.1-1+t=b.2.1+(t-1)by exact UO h1 h0];exact y1,by rw[show b.2.2-1+t=b.2.2+(t-1)by exact UO h2 h0];exact y2⟩⟩).1
  exact UN this
theorem IN{A B:List α}{alo ahi blo bhi:Nat}{b:Tri}(h:Ci A B alo ahi blo bhi b)(h1:b.2.1+b.1<ahi)(h2:b.2.2+b.1<bhi){x:α}(e1:A[b.2.1+b.1]? =some x)(e2:B[b.2.2+b.1]? =some x):False:=by
 have hs:alo≤b.2.1∧blo≤b.2.2∧Mt A B ahi bhi b.2.1 b.2.2 b.1:=by
  rcases Nat.eq_zero_or_pos b.1 with hb| hb
  ·have:=h.zero hb
   exact⟨by exact as3 this,by exact as2 this,by exact a6 h1,by exact a6 h2,fun t ht=>by omega⟩
  ·exact h.ok hb
 obtain⟨a1,a2,m1,m2,m3⟩:=hs
 have:=(h.most b.2.1 b.2.2 (b.1+1) a1 a2 (by exact a35) ⟨by exact a13 h1,by exact a13 h2,fun t ht=>by
  by_cases h0:t=b.1
  ·subst h0;exact⟨x,e1,e2⟩
  ·exact m3 t (by exact a69 ht h0)⟩).1
 exact UN this
end
section
variable {α β:Type}[DecidableEq α]{A B:List α}
theorem CF:∀{f f' alo ahi blo bhi:Nat},ahi-alo<f→ahi-alo<f'→Fl A B f alo ahi blo bhi=Fl A B f' alo ahi blo bhi
 | 0,_,alo,ahi,blo,bhi,h,_=>by omega
 | _+1,0,alo,ahi,blo,bhi,_,h=>by omega
 | f+1,f'+1,alo,ahi,blo,bhi,h,h'=>by
  have hb:=De (A:=A) (B:=B) (alo:=alo) (ahi:=ahi) (blo:=blo) (bhi:=bhi);unfold Fl
  generalize Bc A B alo ahi blo bhi=b at*
  by_cases h0:b.1=0
  ·simp only[h0,if_true]
  ·obtain⟨o1,o2,o3,o4,o5⟩:=hb.ok (by exact a16 h0)
   simp only[if_neg h0];rw[CF (f:=f) (f':=f') (by exact T3 h h0 o1 o3) (by exact T3 h' h0 o1 o3),CF (f:=f) (f':=f') (alo:=b.2.1+b.1) (by exact T1 h h0 o1 o3) (by exact T1 h' h0 o1 o3)]
theorem Cw(alo ahi blo bhi:Nat):Ck A B alo ahi blo bhi=if(Bc A B alo ahi blo bhi).1=0 then[]else Ck A B alo (Bc A B alo ahi blo bhi).2.1 blo (Bc A B alo ahi blo bhi).2.2++((Bc A B alo ahi blo bhi).2.1,(Bc A B alo ahi blo bhi).2.2,(Bc A B alo ahi blo bhi).1)::Ck A B ((Bc A B alo ahi blo bhi).2.1+(Bc A B alo ahi blo bhi).1) ahi ((Bc A B alo ahi blo bhi).2.2+(Bc A B alo ahi blo bhi).1) bhi:=by
 have hb:=De (A:=A) (B:=B) (alo:=alo) (ahi:=ahi) (blo:=blo) (bhi:=bhi)
 conv=>lhs;unfold Ck;unfold Fl
 generalize Bc A B alo ahi blo bhi=b at*
 by_cases h0:b.1=0
 ·simp only[h0,if_true]
 ·obtain⟨o1,o2,o3,o4,o5⟩:=hb.ok (by exact a16 h0)
  simp only[if_neg h0];unfold Ck;rw[CF (f:=ahi-alo) (f':=b.2.1-alo+1) (by exact XM h0 o1 o3) (by exact XK),CF (f:=ahi-alo) (f':=ahi-(b.2.1+b.1)+1) (alo:=b.2.1+b.1) (by exact XI h0 o1 o3) (by exact XF)]
theorem IO{alo ahi blo bhi:Nat}(h:¬(alo<ahi∧blo<bhi)):(Bc A B alo ahi blo bhi).1=0:=by
 have hb:=De (A:=A) (B:=B) (alo:=alo) (ahi:=ahi) (blo:=blo) (bhi:=bhi)
 rcases Nat.eq_zero_or_pos (Bc A B alo ahi blo bhi).1 with h0| h0
 ·exact h0
 ·obtain⟨o1,o2,o3,o4,o5⟩:=hb.ok h0
  exact absurd ⟨by exact T5 h0 o1 o3,by exact T5 h0 o2 o4⟩ h
theorem DX{alo ahi blo bhi:Nat}(h:¬(alo<ahi∧blo<bhi)):Ck A B alo ahi blo bhi=[]:=by
 rw[Cw,if_pos (IO h)]
noncomputable def bl(x y:Tri):Prop:=x.1+x.2.2≤y.1∧x.2.1+x.2.2≤y.2.1
noncomputable def O6(alo ahi blo bhi:Nat)(x:Tri):Prop:=alo≤x.1∧x.1+x.2.2≤ahi∧blo≤x.2.1∧x.2.1+x.2.2≤bhi∧0<x.2.2
theorem Dn:∀(n:Nat) {alo ahi blo bhi:Nat},ahi-alo≤n→(∀x∈Ck A B alo ahi blo bhi,O6 alo ahi blo bhi x)∧(Ck A B alo ahi blo bhi).Pairwise bl
 | 0,alo,ahi,blo,bhi,h=>by
  rw[DX (by exact XR h)];exact⟨fun x hx=>by simp at hx,List.Pairwise.nil⟩
 | n+1,alo,ahi,blo,bhi,h=>by
  have hb:=De (A:=A) (B:=B) (alo:=alo) (ahi:=ahi) (blo:=blo) (bhi:=bhi);rw[Cw]
  generalize Bc A B alo ahi blo bhi=b at*
  by_cases h0:b.1=0
  ·rw[if_pos h0]
   exact⟨fun x hx=>by simp at hx,List.Pairwise.nil⟩
  ·rw[if_neg h0]
   obtain⟨o1,o2,o3,o4,o5⟩:=hb.ok (by exact a16 h0);obtain⟨l1,l2⟩:=Dn n (alo:=alo) (ahi:=b.2.1) (blo:=blo) (bhi:=b.2.2) (by exact XD h h0 o3);obtain⟨r1,r2⟩:=Dn n (alo:=b.2.1+b.1) (ahi:=ahi) (blo:=b.2.2+b.1) (bhi:=bhi) (by exact X9 h h0 o1);refine⟨fun x hx=>?_,List.pairwise_append.mpr ⟨l2,List.pairwise_cons.mpr ⟨fun y hy=>?_,r2⟩,fun x hx y hy=>?_⟩⟩
   ·rcases List.mem_append.mp hx with hx| hx
    ·obtain⟨a,b,c,d,e⟩:=l1 x hx;exact⟨a,by exact T0 o3 b,c,by exact T0 o4 d,e⟩
    ·rcases List.mem_cons.mp hx with rfl| hx
     ·exact⟨o1,o3,o2,o4,by simp only;exact a16 h0⟩
     ·obtain⟨a,b,c,d,e⟩:=r1 x hx;exact⟨by exact Oc o1 a,b,by exact Oc o2 c,d,e⟩
   ·obtain⟨a,b,c,d,e⟩:=r1 y hy;exact⟨a,c⟩
   ·obtain⟨a,b',c,d,e⟩:=l1 x hx
    rcases List.mem_cons.mp hy with rfl| hy
    ·exact⟨b',d⟩
    ·obtain⟨a',b'',c',d',e'⟩:=r1 y hy;exact⟨by exact Oc b' a',by exact Oc d c'⟩
theorem B6(x:Tri)(hx:x∈Ar A B):O6 0 A.length 0 B.length x:=(Dn _ (Nat.le_refl _)).1 x hx
theorem DQ:(Ar A B).Pairwise bl:=(Dn _ (Nat.le_refl _)).2
noncomputable def ch(x y:Nat×Nat):Prop:=x.1<y.1∧x.2<y.2
theorem DA{t:Tri}{x:Nat×Nat}(h:x∈units t):t.1≤x.1∧x.1<t.1+t.2.2∧t.2.1≤x.2∧x.2<t.2.1+t.2.2:=by
 unfold units at h;obtain⟨k,hk,rfl⟩:=List.mem_map.mp h;rw[List.mem_range]at hk;exact⟨by simp,by simp;exact Rv hk,by simp,by simp;exact Rv hk⟩
theorem KB(t:Tri):(units t).Pairwise ch:=by
 unfold units;rw[List.pairwise_map];exact List.Pairwise.imp (fun{a b} h=>by unfold ch;simp only;exact XQ h) List.pairwise_lt_range
theorem NQ{l:List Tri}(h:l.Pairwise bl):(l.flatMap units).Pairwise ch:=by
 induction l with
 | nil=>exact List.Pairwise.nil
 | cons t r ih=>
  rw[List.flatMap_cons];have h':=List.pairwise_cons.mp h;refine List.pairwise_append.mpr ⟨KB t,ih h'.2,fun x hx y hy=>?_⟩;obtain⟨u,hu,hy⟩:=List.mem_flatMap.mp hy;have a:=DA hx;have b:=DA hy;have c:=h'.1 u hu;unfold bl at c;unfold ch;exact XO a b c
theorem Ei:(kept A B).Pairwise ch:=NQ DQ
theorem H5(x:Nat×Nat)(hx:x∈kept A B):x.1<A.length∧x.2<B.length:=by
 obtain⟨t,ht,hx⟩:=List.mem_flatMap.mp hx;have a:=DA hx;obtain⟨b1,b2,b3,b4,b5⟩:=B6 t ht;exact XN a b2 b4
theorem DN:∀{l:List (Nat×Nat)} {a n:Nat},l.Pairwise ch→(∀x∈l,a≤x.1∧x.1<n)→l.length≤n-a
 | [],_,_,_,_=>by simp
 | x::r,a,n,h,hb=>by
  have h':=List.pairwise_cons.mp h;have hx:=hb x List.mem_cons_self
  have:=DN (l:=r) (a:=x.1+1) (n:=n) h'.2 fun y hy=>⟨(h'.1 y hy).1,(hb y (List.mem_cons_of_mem _ hy)).2⟩
  rw[List.length_cons];exact XJ hx this
theorem Du:(kept A B).length≤A.length:=by
 have:=DN (l:=kept A B) (a:=0) (n:=A.length) Ei fun x hx=>⟨Nat.zero_le _,(H5 x hx).1⟩
 exact T4 this
theorem Cf:(Ar A B).length≤A.length:=by
 have h:((Ar A B).map fun t=>(t.1,t.2.1)).Pairwise ch:=by
  rw[List.pairwise_map];refine List.Pairwise.imp_of_mem (fun{x y} hx hy h=>?_) DQ;have:=B6 x hx;obtain⟨_,_,_,_,e⟩:=this;unfold bl at h;unfold ch;simp only;exact XL h e
 have:=DN (a:=0) (n:=A.length) h fun x hx=>by
  obtain⟨t,ht,rfl⟩:=List.mem_map.mp hx;obtain⟨_,b,_,_,e⟩:=B6 t ht;exact⟨Nat.zero_le _,by simp only;exact XH b e⟩
 rw[List.length_map]at this;exact T4 this
theorem Db(t:Tri)(r:List Tri)(s:Tri):Af (t::r) s=if s.1+s.2.2=t.1∧s.2.1+s.2.2=t.2.1 then Af r (s.1,s.2.1,s.2.2+t.2.2)else(if s.2.2=0 then[]else[s])++Af r t:=rfl
theorem AT{t:Tri}{r:List Tri}{s:Tri}(h:s.1+s.2.2=t.1∧s.2.1+s.2.2=t.2.1):Af (t::r) s=Af r (s.1,s.2.1,s.2.2+t.2.2):=if_pos h
theorem Bj{t:Tri}{r:List Tri}{s:Tri}(h:¬(s.1+s.2.2=t.1∧s.2.1+s.2.2=t.2.1)):Af (t::r) s=(if s.2.2=0 then[]else[s])++Af r t:=if_neg h
theorem Hz(p q a b:Nat)(r:List Tri)(s:Tri):Af ((p,q,a+b)::r) s=Af ((p,q,a)::(p+a,q+a,b)::r) s:=by
 obtain⟨i,j,k⟩:=s;by_cases h:i+k=p∧j+k=q
 ·rw[AT (t:=(p,q,a+b)) h,AT (t:=(p,q,a)) h,AT (t:=(p+a,q+a,b)) ⟨by simp only;exact XG h,by simp only;exact XC h⟩]
  simp only[Nat.add_assoc]
 ·rw[Bj (t:=(p,q,a+b)) h,Bj (t:=(p,q,a)) h,AT (t:=(p+a,q+a,b)) (s:=(p,q,a)) ⟨rfl,rfl⟩]
theorem C0:∀(k:Nat) (p q:Nat) (r:List Tri) (s:Tri),Af ((p,q,k+1)::r) s=Af ((((List.range (k+1)).map fun t=>(p+t,q+t,1)):List Tri)++r) s
 | 0,p,q,r,s=>by simp[List.range_succ]
 | k+1,p,q,r,s=>by
  rw[show k+1+1=1+(k+1)by exact XE,Hz p q 1 (k+1) r s]
  have e:((List.range (1+(k+1))).map fun t=>(p+t,q+t,1))=(p,q,1)::((List.range (k+1)).map fun t=>(p+1+t,q+1+t,1)):=by
   rw[show 1+(k+1)=(k+1)+1 by exact XA,List.range_succ_eq_map,List.map_cons,List.map_map]
   congr 1
   refine List.map_congr_left fun t O=>?_;simp only[Function.comp];rw[show p+t.succ=p+1+t by exact a96,show q+t.succ=q+1+t by exact a96]
  rw[e,List.cons_append];by_cases h:s.1+s.2.2=p∧s.2.1+s.2.2=q
  ·rw[AT (t:=(p,q,1)) h,AT (t:=(p,q,1)) h];exact C0 k (p+1) (q+1) r _
  ·rw[Bj (t:=(p,q,1)) h,Bj (t:=(p,q,1)) h,C0 k (p+1) (q+1) r]
theorem EA:∀(l:List Tri) (s:Tri),(∀x∈l,0<x.2.2)→Af l s=Af ((l.flatMap units).map fun x=>(x.1,x.2,1)) s
 | [],s,_=>rfl
 | (p,q,k)::r,s,h=>by
  have hk:=h (p,q,k) List.mem_cons_self;simp only at hk
  obtain⟨k,rfl⟩:∃k',k=k'+1:=⟨k-1,by exact XB hk⟩
  have key:∀(u:List Tri) (s:Tri) (r r':List Tri),(∀s,Af r s=Af r' s)→Af (u++r) s=Af (u++r') s:=by
   intro u
   induction u with
   | nil=>intro s r r' h;exact h s
   | cons t u ih=>
    intro s r r' h;rw[List.cons_append,List.cons_append];rw[Db,Db,ih _ r r' h,ih _ r r' h]
  rw[C0,List.flatMap_cons,List.map_append]
  have e:((units (p,q,k+1)).map fun x=>(x.1,x.2,1))=((List.range (k+1)).map fun t=>(p+t,q+t,1)):=by
   unfold units;rw[List.map_map];rfl
  rw[e];exact key _ s _ _ fun s=>EA r s fun x hx=>h x (List.mem_cons_of_mem _ hx)
end
noncomputable abbrev HZ:=Nat×Nat×Nat×Nat×Nat
noncomputable def Ct:Cd→List HZ
 | (t,i1,i2,j1,j2)=>if t=0 then(List.range' i1 (i2-i1)).map fun i=>(1,0,i,0,0)
  else(if t=1∨t=2 then(List.range' i1 (i2-i1)).map fun i=>(1,1,i,0,0)else[])++(if t=1∨t=3 then(List.range' j1 (j2-j1)).map fun i=>(1,2,i,0,0)else[])
noncomputable def BU(f l:Cd):HZ:=(0,f.2.1,l.2.2.1-f.2.1,f.2.2.2.1,l.2.2.2.2-f.2.2.2.1)
noncomputable def Ay:Cd:=(0,0,0,0,0)
noncomputable def BV(g:List Cd):List HZ:=BU (g.headD Ay) (g.getLastD Ay)::g.flatMap Ct
noncomputable def AL(tags:List Nat):List Nat:=(List.range tags.length).filter fun s=> !(Nat.beq (tags.getD s 0) 0)
noncomputable def Cz(n s c:Nat):Bool:=Nat.ble s (c+n)&&Nat.ble c (s+n)
noncomputable def Av(n:Nat)(tags:List Nat):List Nat:=(List.range tags.length).filter fun s=>(AL tags).any (Cz n s)
noncomputable def Eg(l:List Nat)(s:Nat):Bool:=l.any (Nat.beq s)
noncomputable def Bi(l:List Nat):Nat→Nat→Nat
 | 0,e=>e
 | f+1,e=>if Eg l e then Bi l f (e+1)else e
noncomputable def Ae(o:Nat)(tags:List Nat):Nat:=(tags.filter fun t=> !(Nat.beq t o)).length
noncomputable def Bx(tags:List Nat)(s e:Nat):HZ:=(0,Ae 2 (tags.take s),Ae 2 ((tags.take e).drop s),Ae 1 (tags.take s),Ae 1 ((tags.take e).drop s))
noncomputable def AQ(l:List Nat)(s:Nat):Bool:=Nat.beq s 0|| !(Eg l (s-1))
noncomputable def B1(n:Nat)(steps:List (Nat×Nat)):List HZ:=
 (Av n (steps.map (·.1))).flatMap fun s=>(if AQ (Av n (steps.map (·.1))) s then[Bx (steps.map (·.1)) s (Bi (Av n (steps.map (·.1))) (steps.length+1) s)]else[])++
  [(1,(steps.getD s (0,0)).1,(steps.getD s (0,0)).2,0,0)]
end
section
open PySem PySem.W PyProof.Rows PySem.Calls PySem.SeqAt PySem.MeetsSeq Builtin Builtin.ObjectAttr
section
variable {α:Type}[DecidableEq α]
theorem Ng{A B:List α}{ahi bhi i j k:Nat}(d:α)(hi:i≤ahi)(hj:j≤bhi)(hA:ahi≤A.length)(hB:bhi≤B.length)(hk:k≤CP A B ahi bhi i j):k+1≤CP A B ahi bhi i j↔(i+k<ahi∧j+k<bhi∧A.getD (i+k) d=B.getD (j+k) d):=by
 rw[Gx hi hj]at hk ⊢;obtain⟨h1,h2,h3⟩:=hk;constructor
 ·rintro⟨g1,g2,g3⟩
  obtain⟨x,e1,e2⟩:=g3 k (by exact a20);refine⟨by exact Uy g1,by exact Uy g2,?_⟩;rw[List.getD_eq_getElem?_getD,List.getD_eq_getElem?_getD,e1,e2]
 ·rintro⟨g1,g2,g3⟩
  refine⟨by exact a13 g1,by exact a13 g2,fun t ht=>?_⟩;by_cases e:t=k
  ·subst e
   rw[List.getD_eq_getElem?_getD,List.getD_eq_getElem?_getD,List.getElem?_eq_getElem (by exact a1 hA g1:i+t<A.length),List.getElem?_eq_getElem (by exact a1 hB g2:j+t<B.length)]at g3;refine⟨A[i+t],List.getElem?_eq_getElem _,?_⟩;rw[List.getElem?_eq_getElem (by exact a1 hB g2:j+t<B.length)];exact congrArg some g3.symm
  ·exact h3 t (by exact a69 ht e)
theorem Nf{A B:List α}{ahi bhi i j:Nat}(hi:i≤ahi)(hj:j≤bhi):i+CP A B ahi bhi i j≤ahi∧j+CP A B ahi bhi i j≤bhi:=by
 obtain⟨h1,h2,_⟩:=(Gx (A:=A) (B:=B) hi hj).mp (Nat.le_refl _);exact⟨h1,h2⟩
end
theorem Fu{pos p:Pos}{c cv:Value}(l:List Value)(h:TriplesOk l)(hc:codeAmong p (l++[rawInt pos.line,rawInt pos.col,c])=some cv):codeAmong p l=some cv∨cv=c:=by
 fun_induction TriplesOk l with
 | case1=>
  simp only[List.nil_append,codeAmong,rawInt]at hc;split at hc
  ·exact .inr (by cases hc;rfl)
  ·cases hc
 | case2 a t b u x rest ih=>
  simp only[List.cons_append,codeAmong]at hc ⊢;split at hc
  ·rename_i e;rw[if_pos e];exact .inl hc
  ·rename_i e;rw[if_neg e];exact ih h hc
 | case3 l h1 h2=>exact h.elim
theorem St.updE{X:Cx}{o o':Own}{g:Array GenState}{s s':Shared}{a:Addr}{q:PO}(x:St X ⟨o,g⟩ s)(u:Upd o a q o')(eh:Heap.ExtBut a s.heap s'.heap)(eg:s'.gens=s.gens)(eo:s'.os=s.os)(hq:IsO X (ads o) s'.heap a q):St X ⟨o',g⟩ s'∧Al ⟨o,g⟩ s ⟨o',g⟩ s':=by
 have k:Al ⟨o,g⟩ s ⟨o',g⟩ s':=fun b ob e n=>by
  simp only[u.ads];exact⟨eh b ob (fun e=>n (by rw[e];exact u.mem_addr)) e,n⟩
 refine⟨⟨fun b ob e=>?_,by simp only[u.ads];exact x.nodup,fun b p hp=>?_,eg.trans x.gens,eo.trans x.os⟩,k⟩
 ·obtain⟨u,n⟩:=x.stat b ob e
  exact k b ob u n
 ·rcases u.mem x.nodup b p hp with⟨rfl,rfl⟩| ⟨hb,hm⟩
  ·simp only[u.ads];exact hq
  ·obtain⟨ob,ho⟩:=(x.own b p hm).some
   exact(x.own b p hm).keep k ((eh _ _ hb ho).trans ho.symm)
theorem Upd.self{o:Own}{a:Addr}{q:PO}(h:(a,q)∈o):Upd o a q o:=by
 induction o with
 | nil=>cases h
 | cons x r ih=>
  rcases List.mem_cons.mp h with rfl| h
  ·exact .here
  ·exact .there (ih h)
noncomputable def GL:List DictEntry→Bool
 | []=>true
 | e::r=>(match e.key with | .str _ _=>true| _=>false)&&GL r
theorem FZ:∀{l:List DictEntry},GL l=true→∀e∈l,∃n t,e.key=.str n t
 | [],_,e,h=>by cases h
 | x::r,h,e,he=>by
  simp only[GL,Bool.and_eq_true]at h
  rcases List.mem_cons.mp he with rfl| he
  ·revert h
   cases e.key<;>intro h<;>first| exact⟨_,_,rfl⟩| exact absurd h.1 Bool.false_ne_true
  ·exact FZ h.2 e he
theorem SU(P:Params):(hq P).get? 4=some (OY pw P):=Aa P 4 _ (by decide) (by kernel_rfl) rfl
noncomputable def Rh(o:Obj):Array DictEntry:=match o.data with | .dict es _=>es| _=> #[]
theorem SW(P:Params):GL (Rh (Gj pw P)).toList=true:=by kernel_rfl
theorem SX(P:Params):nsFind (Rh (Gj pw P)) "__builtins__"=some (.ref 4):=by kernel_rfl
noncomputable def Fo(P:Params):Str→Option Value:=nsFind (Rh (Gj pw P))
theorem V7(P:Params):(hq P).Ns 3 (Fo P):=⟨_,_,_,Jq P,rfl,fun e he=>FZ (SW P) e (Array.mem_toList_iff.mpr he),fun O=>rfl⟩
theorem V8(P:Params)(t:Addr)(h:t≠4):(hq P).BuiltinsAt (Fo P) t:=⟨4,_,SX P,by decide,by decide,Ne.symm h,SU P,rfl,rfl,rfl⟩
theorem H7(P:Params):CodeHd (hq P) 296 292:=⟨_,_,_,_,_,_,_,_,_,G9 P,rfl,rfl,rfl,rfl,rfl,rfl,rfl,rfl,by decide⟩
theorem Nt(P:Params):CodeHd (hq P) 28 24:=⟨_,_,_,_,_,_,_,_,_,IH P,rfl,rfl,rfl,rfl,rfl,rfl,rfl,rfl,by decide⟩
noncomputable abbrev Dt(name qual:Str)(params:Arguments)(body:Expr)(scope:Scope)(pm:Value)(cv:Value):FuncData:=kla_fn name qual params body scope [] pm cv .none
section
variable {X:Cx}{A:Around}{Q:PV→PS→Prop}{x:Addr×PO}{o:Own}{g:Array GenState}{name qual:Str}{params:Arguments}{body:Expr}{scope:Scope}{env:Env}{c t:Addr}{pos:Pos}{firstLine:Nat}
theorem St.newAt{x:Addr×PO}{s s':Shared}(hs:St X ⟨x::o,g⟩ s){a:Addr}{p:PO}(ha:s.heap.get? a=none)(eh:∀b o,s.heap.get? b=some o→s'.heap.get? b=some o)(eg:s'.gens=s.gens)(eo:s'.os=s.os)(hp:IsO X (a::ads (x::o)) s'.heap a p):St X ⟨x::(a,p)::o,g⟩ s'∧Al ⟨x::o,g⟩ s ⟨x::(a,p)::o,g⟩ s':=by
 obtain⟨t,k⟩:=hs.new ha eh eg eo hp;obtain⟨t',k'⟩:=St.perm (o':=x::(a,p)::o) t (.swap _ _ _);exact⟨t',k.trans k'⟩
theorem Ma(he:env.globals=3)(hcode:env.code=.ref c)(C:CodeHd (hq X.w.params) c t)(ht3:3≠t)(ht4:t≠4)(hcl:closureFor scope env=pure [])(hm:(t,.tab qual)∈x::o)(q:∀f,Q (.raw (.ref f)) ⟨x::(f,.lam (Dt name qual params body scope ((Fo X.w.params "__name__").getD .none)) qual)::o,g⟩){s:Shared}(hs:St X ⟨x::o,g⟩ s):wpAny (md X) A (makeFunction name qual params (.expr body) scope env [] [] [] pos firstLine) (Po X Is Q ⟨x::o,g⟩ s) NoE s:=by
 obtain⟨ps,hP,htr,hcs⟩:=hs.own _ _ hm;have hg:s.heap.Ns mainGlobals (Fo X.w.params):=(V7 X.w.params).keeps hs.hz;have C':CodeHd s.heap c t:=C.keeps hs.hz;obtain⟨bm,ob,hbm,hne0,_,hneP,hbo,hcls,hdict,hdata⟩:=V8 X.w.params t ht4;have hbo':=hs.hz _ _ hbo;rw[makeFunction_eq];simp only[List.zip_nil_right,List.filterMap_nil,List.isEmpty_nil,if_true,pure_bind];unfold makeTail;rw[hcl,he];refine wpAny_bind (wpAny_pure ?_);simp only[List.isEmpty_nil,if_true];refine wpAny_bind (wpAny_pure ?_)
 cases hf:codeAmong pos ps.toList with
 | some cv=>
  obtain⟨c',rfl,ic⟩:=hcs _ _ hf;refine wpAny_bind (wpAny_functionCode_hit hcode (C'.code hP htr) hf ?_);refine wpAny_bind (wpAny_builtinsFor hg hbm hne0 hbo' hcls hdict hdata ?_);refine wpAny_bind (wpAny_nsGet hg ?_);refine wpAny_bind (wpAny_pure (wpAny_newObj_type ?_ (by size_fits)))
  obtain⟨t₁,k₁⟩:=hs.newAt (a:=s.heap.objs.size) (p:=.lam (Dt name qual params body scope ((Fo X.w.params "__name__").getD .none)) qual) (s':={s with heap:=s.heap.push {cls:=.type "function",data:=.func (Dt name qual params body scope ((Fo X.w.params "__name__").getD .none) (.ref c'))}}) (Heap.get?_none_of_le (Nat.le_refl _)) (fun b o e=>Heap.get?_push_of_some _ e) rfl rfl
   ⟨_,c',Heap.get?_push_size _ rfl,rfl,rfl,ic.keep fun b ob e n=>⟨Heap.get?_push_of_some _ e,fun hm=>by
    rcases List.mem_cons.mp hm with rfl| hm
    ·exact absurd (Heap.lt_size e) (Nat.lt_irrefl _)
    ·exact n hm⟩⟩
  exact⟨_,_,.raw _,t₁,k₁,q _⟩
 | none=>
  refine wpAny_bind (wpAny_functionCodeX hcode (C'.code hP htr) (C'.tab hP) hf fun c' h' tk hx hge hlt O hrec htb hown=>?_);have hg':=hg.extBut hx ht3;refine wpAny_bind (wpAny_builtinsFor hg' hbm hne0 (hx _ _ hneP hbo') hcls hdict hdata ?_);refine wpAny_bind (wpAny_nsGet hg' ?_);refine wpAny_bind (wpAny_pure (wpAny_newObj_type ?_ (by size_fits)));obtain⟨P',hP1,hP2,hP3⟩:=hown
  have ic:∀ad:List Addr,c'∉ad→Eh ad h' qual c':=fun ad hn=>by
   obtain⟨c2,oc,vs,tq,e2,hoc,hd,hv⟩:=hrec
   cases e2
   obtain⟨⟨o2,vs2,e1,e2,e3,e4⟩,_⟩:=hP3;rw[hoc]at e1;cases e1;exact⟨hn,oc,vs,tq,hoc,hd,e2,hv⟩
  have hc'n:c'∉ads (x::o):=hs.offs hge
  have kk:Ad (ads (x::o)) s.heap (ads (x::o)) h':=fun b ob e n=>⟨hx b ob (fun e=>n (by rw[e];exact(Upd.self hm).mem_addr)) e,n⟩
  obtain⟨t₀,k₀⟩:=hs.updE (s':={s with heap:=h',toks:=tk}) (Upd.self hm) hx rfl rfl ⟨_,htb.2,by rw[Array.toList_append];exact TriplesOk_snoc _ _ _ _ htr,fun p cv hc=>by
   rw[Array.toList_append]at hc
   rcases Fu _ htr hc with h| rfl
   ·obtain⟨c2,e2,i2⟩:=hcs _ _ h
    exact⟨c2,e2,i2.keep kk⟩
   ·exact⟨c',rfl,ic _ hc'n⟩⟩
  obtain⟨t₁,k₁⟩:=t₀.newAt (a:=h'.objs.size) (p:=.lam (Dt name qual params body scope ((Fo X.w.params "__name__").getD .none)) qual) (s':={s with heap:=h'.push {cls:=.type "function",data:=.func (Dt name qual params body scope ((Fo X.w.params "__name__").getD .none) (.ref c'))},toks:=tk}) (Heap.get?_none_of_le (Nat.le_refl _)) (fun b o e=>Heap.get?_push_of_some _ e) rfl rfl
   ⟨_,c',Heap.get?_push_size _ rfl,rfl,rfl,(ic _ hc'n).keep fun b ob e n=>⟨Heap.get?_push_of_some _ e,fun hm=>by
    rcases List.mem_cons.mp hm with rfl| hm
    ·exact absurd (Heap.lt_size e) (Nat.lt_irrefl _)
    ·exact n hm⟩⟩
  exact⟨_,_,.raw _,t₁,k₀.trans k₁,q _⟩
theorem ME(he:env.globals=3)(hcode:env.code=.ref c)(C:CodeHd (hq X.w.params) c t)(ht3:3≠t)(ht4:t≠4)(hcl:closureFor scope env=pure [])(hdef:defaultsOf params env=([],[]))(hm:(t,.tab (env.qual++"<lambda>"))∈x::o)(q:∀f,Q (.raw (.ref f)) ⟨x::(f,.lam (Dt "<lambda>" (env.qual++"<lambda>") params body scope ((Fo X.w.params "__name__").getD .none)) (env.qual++"<lambda>"))::o,g⟩):WV X A (eval (.Lambda params body scope pos) env) Q ⟨x::o,g⟩:=fun s hs=>
 kla_eval hdef (Ma he hcode C ht3 ht4 hcl hm q hs)
theorem Mz{n:Nat}{f:Addr}{F:Value→FuncData}{body:Expr}{scope:Scope}{ns:List Str}{args:List PV}{σ:PS}(hm:(f,.lam F qual)∈σ.own)(hF:∀cv,(F cv).code=cv∧(F cv).qualname=qual∧(F cv).scope=scope∧(F cv).body=.expr body∧(F cv).globals=3∧(F cv).closure=[]∧(F cv).builtins=0)(hco:scope.isCoroutine=false)(hgen:scope.isGenerator=false)(hk:scope.kind=.function)(hcell:∀x∈scope.names,x.2≠.cell)(hloc:∀x∈ns,scope.names.lookup x=some .local)(hbind:∀cv (vs:List Value),vs.length=args.length→bindArgs (F cv) ⟨vs,[]⟩=pure (ns.zip vs))(hlen:ns.length=args.length)(hn:n<500)(h:∀env,En env scope.names []→WV X (AR (n+1)) (eval body env) (fun v σ'=>Lvs Q v σ') ⟨(env.locals,.ns (ns.zip args).reverse)::σ.own,σ.gens⟩):OC X (AR n) (.ref f) [] args Q σ:=by
 intro s vs hs iv;obtain⟨o,c',ho,hd,hc,icd⟩:=hs.own _ _ hm;obtain⟨f1,f2,f3,f4,f5,f6,f7⟩:=hF (.ref c');obtain⟨nc,oc,ws,tq,e1,e2,e3,e4⟩:=icd;have hvl:vs.length=args.length:=iv.length;refine codeAny_mono (R:=fun r s'=>match r with | .ok (.ret v)=>Po X Is Q σ s v s'| .ok _=>False| .error e=>False) (kla_callFunE (by show 400+n<recursionLimit;unfold recursionLimit;exact a34 hn) ho hd (by rw[f3];exact hco) (by rw[f3];exact hgen) f4 (by rw[f1,f2];exact⟨c',oc,ws,tq,rfl,e1,e2,e4⟩) ?_) (fun O O q=>q);rw[hbind _ _ hvl];have hz1:(ns.zip vs).map Prod.fst=ns:=List.map_fst_zip (by exact au5 hlen hvl);refine wpAny_pure (wpAny_newFunctionEnv (by rw[f3];exact hcell) (fun x hx=>by rw[f3];exact hloc _ (hz1▸List.mem_map.mpr ⟨x,hx,rfl⟩)) (fun h₀ hns hsb=>?_) (by rw[f3];exact hk));have hk₀:∀b o,s.heap.get? b=some o→h₀.get? b=some o:=fun b o e=>hsb.extBut b o (Nat.ne_of_lt (Heap.lt_size e)) (Heap.get?_push_of_some _ e);refine⟨hs.lim.keeps hk₀,?_⟩
 have k₀:Ad (ads σ.own) s.heap (s.heap.objs.size::ads σ.own) h₀:=fun b ob e m=>⟨hk₀ b ob e,fun hm=>by
  rcases List.mem_cons.mp hm with rfl| hm
  ·exact absurd (Heap.lt_size e) (Nat.lt_irrefl _)
  ·exact m hm⟩
 have hz2:(ns.zip vs).map Prod.snd=vs:=List.map_snd_zip (by exact au4 hlen hvl);have hz3:(ns.zip args).map Prod.fst=ns:=List.map_fst_zip (by exact a11 hlen);have hz4:(ns.zip args).map Prod.snd=args:=List.map_snd_zip (by exact a46 hlen)
 obtain⟨t,ke⟩:=hs.new (s':={s with heap:=h₀,toks:=s.toks+(ns.zip vs).length}) (p:=.ns (ns.zip args).reverse) (Ax _) hk₀ rfl rfl
  ⟨_,hns,fun x=>Dd (by rw[List.map_reverse,List.map_reverse,hz1,hz3]) (by rw[List.map_reverse,List.map_reverse,hz2,hz4];exact(iv.keep k₀).reverse) x⟩
 refine kla_codeExpr ?_;refine Aq AR.deeper ?_;refine(h _ ⟨?_,?_,?_,?_,?_⟩).run t fun v s' b σ' i t' k' q=>?_
 ·show(F _).scope.kind=_;rw[f3];exact hk
 ·intro x;show(F _).scope.names.lookup x=_;rw[f3]
 ·show(F _).closure=_;exact f6
 ·exact f5
 ·exact f7
 obtain⟨v',σ'',lv,q⟩:=q;obtain⟨t'',k'',i''⟩:=lv.go t' i;exact⟨v',σ'',i'',t'',(ke.trans k').trans k'',q⟩
theorem Kept.lam{f:Addr}{F:Value→FuncData}{q:Str}{σ:PS}(hm:(f,.lam F q)∈σ.own):Kept X σ (.raw (.ref f)):=fun s v hs i=>by
 cases i
 obtain⟨o,c,ho,hd,_⟩:=hs.own _ _ hm;refine⟨.frame,.inl rfl,?_⟩;unfold keeperOf;refine(Looks.ld (part:=none) ho).andThen ?_;rw[hd];exact .now
end
noncomputable def Bk(x:Str):List (Nat×Nat):=(Str.lineSpans x).map fun(i,j,k)=>(i,if true=true then k else j)
noncomputable def Am(x:Str):List Str:=(Bk x).map fun p=>Str.strSub x p.1 p.2
section
variable {X:Cx}{A:Around}{env:Env}{σ:PS}{Q:PV→PS→Prop}
theorem W_strM{ob:Expr}{name:Str}{id:String}{apos pos:Pos}{args:List Expr}(slot:Slot "str" name id)(hty:typeOf (.builtin id)=pure (.type "method_descriptor"))(hbase:attributeBase ob name env (eval ob env)=eval ob env)(hfew:((backTo pos (starEach args env)).all (fun x=> !x.1)&&(backToKw pos (keywordEach [] env)).all (fun x=>x.1.isSome)&&decide (args.length+([]:List Keyword).length+(if([]:List Keyword).isEmpty then 0 else 1)<30))=true)(hline:(apos.endLine==pos.line)=true)(ha:A9 env args)(hp:∀pos,((backTo pos (starEach args env)).any (·.1))=false)(h:WV X A (eval ob env) (fun ov σ₁=>∃x,ov=.str x∧WEs X A env args (fun xs σ₂=>ON X A Is (fun l=>call (.builtin id) l) (.str x::xs) Q σ₂) σ₁) σ):WV X A (eval (.Call (.Attribute ob name apos) args [] pos) env) Q σ:=
 Ch (T:="str") (id:=id) hbase hfew hline PySem.F.plainAttrs_str slot hty ha hp (W.mono h fun ov σ₁ t2=>by obtain⟨x,e,q⟩:=t2;subst e;exact⟨D8.str,q⟩)
theorem DC (x:Str) (t:Tok):«str.splitlines» ⟨[.str x t,.bool true],[]⟩=(do
  let keep ←truthy (.bool true)
  let spans:=(Str.lineSpans x).map fun(i,j,k)=>(i,if keep=true then k else j)
  if(true&&spans==[(0,x.length)])=true then(do rule "str.splitlines.same-object";ret (←newList [.str x t]))
  else ret (←newList (←spans.mapM fun(i,j)=>mkStr (Str.strSub x i j)))):=rfl
theorem DV{ad:List Addr}{h:Heap}:∀(l:List Str) (k:Nat),IsAll ad h (Ac l) (strsFrom k l)
 | [],_=>.nil
 | x::l,k=>.cons (.str x k) (DV l (k+1))
theorem Dl{x:Str}(hsz:x.length≤100000)(hsz2:(Bk x).length≤100000)(q:Q (.lst (Ac (Am x))) σ):ON X A Is (fun l=>call (.builtin "str.splitlines") l) [.str x,.bool true] Q σ:=fun s vs hs i=>by
 cases i with
 | cons i i'=>
  cases i
  cases i' with
  | cons i i'=>
   cases i;cases i'
   refine wpAny_call_entry PySem.F.slot_str_splitlines (typeIs_str s x ω) PySem.F.entry_str_splitlines ?_ (PySem.F.args_str_splitlines_2 _ _);rw[DC];refine wpAny_bind (wpAny_truthy_bool ?_)
   show wpAny _ _ (if(true&&Bk x==[(0,x.length)])=true then(do rule "str.splitlines.same-object";ret (←newList [.str x ω]))
    else(do ret (←newList (←(Bk x).mapM fun(i,j)=>mkStr (Str.strSub x i j))))) _ _ s
   by_cases h:(true&&Bk x==[(0,x.length)])=true
   ·rw[if_pos h]
    have e:Ac (Am x)=[.str x]:=by
     simp only[Bool.true_and,beq_iff_eq]at h;unfold Am;rw[h];show[PV.str (Str.strSub x 0 x.length)]=_;rw[strSub_whole]
    rw[e]at q;obtain⟨t₁,k₁,i₁⟩:=hs.newFrozen (vs:=[.str x ω]) (l:=[.str x]) (.cons (.str x ω) .nil);exact wpAny_bind (wpAny_rule (wpAny_bind (wpAny_newList (wpAny_pure ⟨_,rfl,_,_,i₁,t₁,k₁,q⟩) (by show 1≤sizeLine;decide))))
   ·rw[if_neg h]
    have hl:(Am x).length≤100000:=by unfold Am;rw[List.length_map];exact hsz2
    obtain⟨t₀,k₀⟩:=hs.same (s':={s with toks:=s.toks+(Bk x).length}) rfl rfl rfl;obtain⟨t₁,k₁,i₁⟩:=t₀.newFrozen (vs:=strsFrom s.toks (Am x)) (l:=Ac (Am x)) (DV _ _);exact wpAny_bind (wpAny_mapM_mkStr_of (fun(p:Nat×Nat)=>Str.strSub x p.1 p.2) (fun p=>Nat.le_trans (strSub_length_le ..) (by rw[sizeLine_eq];exact U5 hsz)) _ _ _ (wpAny_bind (wpAny_newList (wpAny_pure ⟨_,rfl,_,_,i₁,t₁,k₀.trans k₁,q⟩) (by rw[strsFrom_length,sizeLine_eq];show(Am x).length≤_;exact U5 hl))))
theorem Kw{X:Cx}{n:Nat}{a:Addr}{o:Obj}{fd:FuncData}{body:List Stmt}{ns:List Str}{args:List PV}{Q:PV→PS→Prop}{σ:PS}(ho:(Mine.hq X.w.params).get? a=some o)(hdata:o.data=.func fd)(hcd:(Mine.hq X.w.params).CodeRec fd.code fd.qualname)(hbody:fd.body=.stmts body)(hbind:∀vs:List Value,vs.length=args.length→bindArgs fd ⟨vs,[]⟩=pure (ns.zip vs))(hlen:ns.length=args.length)(hcell:∀x∈fd.scope.names,x.2≠.cell)(hloc:∀x∈ns,fd.scope.names.lookup x=some .local)(hco:fd.scope.isCoroutine=false)(hgen:fd.scope.isGenerator=false)(hk:fd.scope.kind=.function)(hg:fd.globals=3)(hb:fd.builtins=0)(hc:fd.closure=[])(hn:n<500)(h:∀env,En env fd.scope.names []→env.code=fd.code→env.qual=fd.qualname++".<locals>."→WF X (AR (n+1)) (execs body env) (fun f σ'=>Lvs Q f.val σ') ⟨(env.locals,.ns (ns.zip args).reverse)::σ.own,σ.gens⟩):OC X (AR n) (.ref a) [] args Q σ:=
 EX (kw:=[]) ho hdata hcd hbody (.plain hbind hlen) hcell (by rw[List.map_fst_zip (by exact a11 hlen)];exact hloc) hco hgen hk hn fun L=>
  h _ ⟨hk,fun O=>rfl,hc,hg,hb⟩ rfl rfl
theorem DR{x:Addr×PO}{o:Own}{g:Array GenState}{params:Arguments}{body:Expr}{scope:Scope}{c t:Addr}{pos:Pos}{w:Str}{ns:List (Str×NameKind)}(he:En env ns [])(hcode:env.code=.ref c)(hw:env.qual=w)(C:CodeHd (hq X.w.params) c t)(ht3:3≠t)(ht4:t≠4)(hcl:closureFor scope (Dz ns [])=pure [])(hdef:defaultsOf params env=([],[]))(hm:(t,.tab (w++"<lambda>"))∈x::o)(q:∀f,Q (.raw (.ref f)) ⟨x::(f,.lam (Dt "<lambda>" (w++"<lambda>") params body scope ((Fo X.w.params "__name__").getD .none)) (w++"<lambda>"))::o,g⟩):WV X A (eval (.Lambda params body scope pos) env) Q ⟨x::o,g⟩:=by
 subst hw;exact ME he.g hcode C ht3 ht4 ((he.clos scope).trans hcl) hdef hm q
end
theorem Bg.of{X:Cx}{fd:FuncData}{kw:List (Str×Value)}{args dps:List PV}{dvs:List Value}{ns:List Str}(hb:∀(s:Shared) (vs:List Value),(∀b o,(Mine.hq X.w.params).get? b=some o→s.heap.get? b=some o)→vs.length=args.length→BindsTo s fd ⟨vs,kw⟩ (ns.zip (vs++dvs)))(hd:∀ad h,IsAll ad h dps dvs)(hlen:ns.length=args.length+dps.length):Bg X fd kw args (ns.zip (args++dps)):=fun σ s vs hs i=>by
 have hv:=i.length;have hdl:=(hd [] s.heap).length;refine⟨_,hb s vs hs.hz hv,?_,?_⟩
 ·rw[List.map_fst_zip (by rw[List.length_append];exact ac3 hlen hv hdl),List.map_fst_zip (by rw[List.length_append];exact a11 hlen)]
 ·rw[List.map_snd_zip (by rw[List.length_append];exact a46 hlen),List.map_snd_zip (by rw[List.length_append];exact ac2 hlen hv hdl)]
  exact IsAll.append (hd _ _) i
theorem DP{X:Cx}{n:Nat}{a:Addr}{o:Obj}{fd:FuncData}{body:List Stmt}{kw:List (Str×Value)}{ns:List Str}{args ps:List PV}{Q:PV→PS→Prop}{σ:PS}(ho:(Mine.hq X.w.params).get? a=some o)(hdata:o.data=.func fd)(hcd:(Mine.hq X.w.params).CodeRec fd.code fd.qualname)(hbody:fd.body=.stmts body)(hbind:Bg X fd kw args (ns.zip ps))(hlen:ns.length=ps.length)(hcell:∀x∈fd.scope.names,x.2≠.cell)(hloc:∀x∈ns,fd.scope.names.lookup x=some .local)(hco:fd.scope.isCoroutine=false)(hgen:fd.scope.isGenerator=false)(hk:fd.scope.kind=.function)(hg:fd.globals=3)(hb:fd.builtins=0)(hc:fd.closure=[])(hn:n<500)(h:∀env,En env fd.scope.names []→env.code=fd.code→env.qual=fd.qualname++".<locals>."→WF X (AR (n+1)) (execs body env) (fun f σ'=>Lvs Q f.val σ') ⟨(env.locals,.ns (ns.zip ps).reverse)::σ.own,σ.gens⟩):OC X (AR n) (.ref a) kw args Q σ:=
 EX (kw:=kw) ho hdata hcd hbody hbind hcell (by rw[List.map_fst_zip (by exact a11 hlen)];exact hloc) hco hgen hk hn fun L=>
  h _ ⟨hk,fun O=>rfl,hc,hg,hb⟩ rfl rfl
theorem NZ(X:Cx)(fd:FuncData)(o:Obj)(ho:Lo pw X.w.params=o)(hfd:o.data=.func fd)(a b c:PV):Bg X fd [] [a,b,c] ((["text","prefix","predicate"]:List Str).zip [a,b,c]):=by
 subst ho
 cases hfd
 refine Bg.of (dps:=[]) (dvs:=[]) (fun s vs hk h=>?_) (fun O O=>.nil) rfl
 revert vs
 exact IC fun a b c=>BindsTo.of_defaults rfl (hk _ _ (Re _)) rfl rfl rfl
section
variable {X:Cx}{A:Around}{σ:PS}{B:Bool→PS→Prop}{v:PV}{l:List PV}
theorem BR(h:LstV σ v l)(hsz:l.length≤100000)(q:B (!l.isEmpty) σ):O1 X A RE truthy v B σ:=by
 intro s va hs iv;obtain⟨a,vs,rfl,_,il,hl⟩:=h.at hs iv;have hn:=il.length;refine wpAny_truthy_list hl (by rw[List.size_toArray];exact af3 hsz hn) ?_;obtain⟨t,k⟩:=hs.same (s':={s with toks:=s.toks+1+1}) rfl rfl rfl;refine⟨_,σ,?_,t,k,q⟩;show(_:Bool)=_
 cases l with
 | nil=>cases il;rfl
 | cons x l=>cases il;rfl
end
theorem OC.past{X:Cx}{A:Around}{f:Value}{kw:List (Str×Value)}{args:List PV}{Q:PV→PS→Prop}{pre a r:Own}{g:Array GenState}(h:OC X A f kw args (fun v σ'=>∃a' g',σ'=⟨a'++(pre++r),g'⟩∧Q v ⟨pre++(a'++r),g'⟩) ⟨a++(pre++r),g⟩):OC X A f kw args Q ⟨pre++(a++r),g⟩:=fun s vs hs i=>by
 obtain⟨t,k⟩:=hs.perm (o':=a++(pre++r)) (List.perm_append_comm_assoc _ _ _);refine codeAny_mono (h s vs t (i.keep k)) fun res s' hr=>?_
 match res,hr with
 | .ok (.ret v),hr=>
  obtain⟨x,σ',ix,t',k',a',g',rfl,q⟩:=hr;obtain⟨t'',k''⟩:=t'.perm (o':=pre++(a'++r)) (List.perm_append_comm_assoc _ _ _);exact⟨x,_,ix.keep k'',t'',(k.trans k').trans k'',q⟩
 | .ok .next,hr=>exact hr.elim
 | .ok .brk,hr=>exact hr.elim
 | .ok .cont,hr=>exact hr.elim
 | .error e,hr=>exact hr.elim
theorem Rj(X:Cx):recIn (kf X.w.params) 99 "classmethod"=some [.ref 97,.bool false]:=by rfl
theorem Kk(X:Cx):findIn (kf X.w.params) (.ref 143) "__len__"=some (some (.builtin "tuple.__len__")):=by kernel_rfl
theorem JP:plainId "tuple.__len__"=true:=by decide+kernel
theorem KI:builtinKind "tuple.__len__"=some .slot:=by decide+kernel
theorem JO:splitId "tuple.__len__"=some ("tuple","__len__"):=by decide+kernel
noncomputable abbrev mth:PO:=.ext (fun o=>o=methodObj (.ref 97) (.ref 143))
noncomputable abbrev itP(na:Addr)(i:Nat):PO:=.ext (fun o=>o.cls=.type "list_iterator"∧o.data=.fields #[.ref na,.int i 0])
noncomputable abbrev tiP(it:Addr):PO:=.ext (fun o=>o=F0 it)
noncomputable abbrev Cc(ti b:Addr):PO:=.ext (fun o=>o=Gv ti b)
section
variable {X:Cx}{A:Around}{env:Env}{σ:PS}{Q:PV→PS→Prop}{l:List PV}
theorem K6{x:Addr×PO}{o:Own}{g:Array GenState}{ex:Bool}(q:∀b,Q (.raw (.ref b)) ⟨x::(b,mth)::o,g⟩):O1 X A Is (fun ov=>getAttr ov "_make" ex) (.raw (.ref 143)) Q ⟨x::o,g⟩:=fun s va hs i=>by
 cases i
 obtain⟨t,k⟩:=hs.pushOwn (o:=methodObj (.ref 97) (.ref 143)) (s':={s with heap:=s.heap.push (methodObj (.ref 97) (.ref 143)),toks:=s.toks+1}) rfl rfl rfl rfl (p:=mth) fun k e=>⟨_,e,rfl⟩
 obtain⟨t',k'⟩:=t.perm (List.Perm.swap _ _ _);exact cls_bind hs.kf (DY X) (I6 X) (wpAny_call (cm_get (s:={s with toks:=s.toks+1}) hs.kf (Rj X) (handed_on rfl ⟨_,_,.raw _,t',k.trans k',q _⟩)))
theorem Mx{b:Addr}{o:Own}{g:Array GenState}{args:List PV}(hb:(b,mth)∈o)(h:OC X A (.ref 97) [] (.raw (.ref 143)::args) Q ⟨o,g⟩):OC X A (.ref b) [] args Q ⟨o,g⟩:=fun s vs hs i=>by
 obtain⟨bo,hbo,rfl⟩:=hs.own _ _ hb;exact method_call hbo (h s (.ref 143::vs) hs (.cons (.raw _) i))
theorem Nl(hsz:l.length<1000)(q:Q (.int l.length) σ):ON X A Is (fun l=>call (.builtin "len") l) [.mat l] Q σ:=by
 intro s vs hs i
 cases i with
 | cons i i'=>
  cases i'
  cases i with
  | mat ho hc hd hn il=>
  rename_i xa xo us n;have TT:Looks (md X) s.heap (isInstance (.ref xa) (.type "tuple")) true:=(Ed (X:=X) ho hc).andThen (hs.look (CI X));have SI:Looks (md X) s.heap (specialOf (.ref xa) "__len__") (some (.builtin "tuple.__len__")):=(Ed (X:=X) ho hc).andThen (looks_findIn hs.kf (Kk X));have hl:us.length=l.length:=il.length
  have hcall:∀(A:Around) (Q':Value→Shared→Prop),Q' (.int l.length s.toks) {s with toks:=s.toks+1}→wpAny (md X) A (call (.builtin "tuple.__len__") [.ref xa]) Q' NoE s:=fun A Q' q'=>by
   refine wpAny_call (codeAny_call_builtin JP F.entry_tuple_len ?_);refine @check_slot (md X) _ _ s "tuple.__len__" "tuple" "__len__" (.ref xa) [] [] _ KI JO TT (F.args_tuple_len_1 _) ?_
   show wpAny _ _ (do
    let(t,_) ←slotArgs "__len__" 0 ⟨[.ref xa],[]⟩
    retInt (←Tuple.tupleItemsOf t).size) _ _ s
   refine wpAny_bind (m:=slotArgs "__len__" 0 ⟨[.ref xa],[]⟩) (wpAny_pure ?_)
   dsimp only
   refine wpAny_bind (m:=Tuple.tupleItemsOf (.ref xa)) (wpAny_bind (m:=seqItems? (.ref xa)) (wpAny_seqItems ho hd (wpAny_pure ?_)));rw[show((us.toArray.size:Nat):Int)=l.length by rw[List.size_toArray,hl]];exact wpAny_bind (wpAny_mkInt (wpAny_pure q'))
  refine Calls.call_function_entry kind_len plain_len entry_len (args_len1 _) ?_;unfold Builtin.«len»;refine wpAny_bind (m:=oneArg "len" _) (wpAny_pure ?_);refine wpAny_bind (m:=callSpecial? (.ref xa) (Str.ofString "__len__")) ?_;unfold callSpecial?;refine wpAny_bind (SI.here ?_);refine wpAny_holding ?_;simp only[bindSpecial];refine wpAny_bind (wpAny_pure ?_);refine wpAny_bind (hcall _ _ (wpAny_pure ?_));refine wpAny_bind (wpAny_holding (wpAny_pure ?_));refine wpAny_bind (wpAny_letGo ?_);show wpAny _ _ (if(l.length:Int)<0 then _ else _) _ _ _;rw[if_neg (by exact UD)];show wpAny _ _ (if(l.length:Int)≥2 ^ 63 then _ else _) _ _ _;rw[if_neg (by exact an0 hsz)];refine wpAny_bind (wpAny_mkInt (wpAny_pure ⟨_,rfl,?_⟩));obtain⟨t,k⟩:=hs.same (s':={s with toks:=s.toks+1+1}) rfl rfl rfl;exact⟨_,σ,.int _ _,t,k,q⟩
end
section
variable {X:Cx}{A:Around}{env:Env}{σ:PS}{Q:PV→PS→Prop}{l:List PV}
theorem My{b na:Addr}{L:List PV}{x:Addr×PO}{o:Own}{g:Array GenState}(hm:(na,.list L)∈x::o)(q:∀mo ti it,Q (.raw (.ref mo)) ⟨x::(mo,Cc ti b)::(ti,tiP it)::(it,itP na 0)::o,g⟩):ON X A Is (fun l=>call (.type "map") l) [.raw (.ref b),.raw (.ref na)] Q ⟨x::o,g⟩:=fun s vs hs i=>by
 obtain⟨va,vb,rfl,ia,ib⟩:∃a b,vs=[a,b]∧Is _ _ _ a∧Is _ _ _ b:=by
  cases i with | cons i i'=>cases i' with | cons j i'=>cases i';exact⟨_,_,rfl,i,j⟩
 cases ia
 obtain⟨a,vs,e,_,il,hil⟩:=(LstV.own hm).at hs ib
 cases ib
 cases e
 obtain⟨⟨c,dct,dt,sl⟩,hl,hc,n,hd⟩:=hil
 replace hc:c=.type "list":=hc
 replace hd:dt=.seq vs.toArray n:=hd
 subst hc hd;refine callType_new IL (by decide) (Er _ _) (Fn _ _) (fun obj=>F.args_object_init_3 obj _ _) Fs (Fp b na vs.toArray n dct sl) ⟨hl,?_⟩
 obtain⟨t1,k1⟩:=hs.pushOwn (o:=C5 na 0) (s':={s with heap:=s.heap.push (C5 na 0)}) rfl rfl rfl rfl (p:=itP na 0) fun k e=>⟨_,e,rfl,rfl⟩
 obtain⟨t2,k2⟩:=t1.pushOwn (o:=F0 s.heap.objs.size) (s':={s with heap:=(s.heap.push (C5 na 0)).push (F0 s.heap.objs.size)}) rfl rfl rfl rfl (p:=tiP s.heap.objs.size) fun k e=>⟨_,e,rfl⟩
 obtain⟨t3,k3⟩:=t2.pushOwn (o:=Gv (s.heap.push (C5 na 0)).objs.size b) (s':={s with heap:=((s.heap.push (C5 na 0)).push (F0 s.heap.objs.size)).push (Gv (s.heap.push (C5 na 0)).objs.size b)}) rfl rfl rfl rfl (p:=Cc (s.heap.push (C5 na 0)).objs.size b) fun k e=>⟨_,e,rfl⟩
 refine⟨⟨_,Heap.get?_push_size _ rfl,rfl⟩,?_⟩;obtain⟨t4,k4⟩:=t3.perm (o':=x::(_,Cc (s.heap.push (C5 na 0)).objs.size b)::(_,tiP s.heap.objs.size)::(s.heap.objs.size,itP na 0)::o) (List.perm_middle (l₁:=[_,_,_]));exact⟨_,_,.raw _,t4,((k1.trans k2).trans k3).trans k4,q _ _ _⟩
end
section
variable {X:Cx}{A:Around}{env:Env}{σ:PS}{Q:PV→PS→Prop}{l:List PV}
noncomputable def JI(X:Cx):Prop:=∀(n:Nat),n<480→∀(t:List PV) (Q:PV→PS→Prop) (σ:PS),t.length=3→Q (.mat t) σ→OC X (AR n) (.ref 97) [] [.raw (.ref 143),.tup t] Q σ
theorem HX.map{n:Nat}(hn:n<400)(hML:JI X){B:Around}(le:Around.Le B (AR (n+4))){T:List (List PV)}(hT:∀t∈T,t.length=3){mo ti it b na:Addr}{y:Addr×PO}{r:Own}{g:Array GenState}(hna:(na,.list (T.map .tup))∈y::r)(hb:(b,mth)∈y::r):HX X B "map" mo (fun l o G=>∃done rem,T=done++rem∧l=rem.map .mat∧G=g∧o=y::(mo,Cc ti b)::(ti,tiP it)::(it,itP na done.length)::r) (fun o G=>G=g∧o=y::(mo,Cc ti b)::(ti,tiP it)::r) where
 nx v r' o' G D acc s hJ t:=by
  obtain⟨done,rem,e1,e2,rfl,rfl⟩:=hJ
  cases rem with
  | nil=>cases e2
  | cons x rem=>
  obtain⟨rfl,rfl⟩:v=.mat x∧r'=rem.map .mat:=by simp only[List.map_cons,List.cons.injEq]at e2;exact e2
  have hmem:∀(k:Nat) z,z∈y::r→z∈(D,PO.list acc)::y::(mo,Cc ti b)::(ti,tiP it)::(it,itP na k)::r:=fun k z hz=>by
   rcases List.mem_cons.mp hz with rfl| hz
   ·exact .tail _ (.head _)
   ·exact .tail _ (.tail _ (.tail _ (.tail _ (.tail _ hz))))
  obtain⟨_,hmo,rfl⟩:=t.own mo (Cc ti b) (.tail _ (.tail _ (.head _)));obtain⟨_,hti,rfl⟩:=t.own ti (tiP it) (.tail _ (.tail _ (.tail _ (.head _))));obtain⟨io,hio,hic,hid⟩:=t.own it (itP na done.length) (.tail _ (.tail _ (.tail _ (.tail _ (.head _)))));obtain⟨a,vs,e,_,il,hil⟩:=(LstV.own (hmem done.length _ hna)).at t (.raw _)
  cases e
  have hit:s.heap.IsListIter it na done.length:=⟨io,hio,hic,hid⟩
  have hx:(T.map PV.tup)[done.length]? =some (.tup x):=by rw[e1];simp
  obtain⟨va,hva,ix⟩:=il.get hx
  have hT':s.TypeIs (.ref mo) "map":=⟨_,hmo,rfl⟩
  refine Aq le ?_;unfold pyNext;refine wpAny_bind (wpAny_attempt (wpAny_callSpecial?_slot (name:=Str.ofString "__next__") hT' AV (wpAny_call_entry AV hT' C7 ?_ (CU _))));show wpAny _ _ (field (.ref mo) 0 >>= _) _ _ _;refine wpAny_bind (wpAny_field hmo rfl (x:=.ref ti) rfl ?_);refine wpAny_bind (wpAny_seqItems hti rfl ?_)
  dsimp only
  simp only[←Array.forIn_toList,List.forIn_cons,List.forIn_nil];refine wpAny_bind (wpAny_bind (wpAny_bind (wpAny_holding (wpAny_nextOf_list_item hit hil (by simpa using hva) fun h1 hit1 hs1=>?_))));refine wpAny_pure (wpAny_pure ?_)
  have hnm:∀z∈((D,PO.list acc)::y::(mo,Cc ti b)::(ti,tiP it)::[]:Own),z.1≠it:=by
   have nd:=t.nodup;simp only[ads,List.map_cons,List.nodup_cons,List.mem_cons,not_or]at nd;intro z hz e;simp only[List.mem_cons,List.not_mem_nil,or_false]at hz
   rcases hz with rfl| rfl| rfl| rfl
   ·exact nd.1.2.2.2.1 e
   ·exact nd.2.1.2.2.1 e
   ·exact nd.2.2.1.2.1 e
   ·exact nd.2.2.2.1.1 e
  obtain⟨io1,hio1,hic1,hid1⟩:=hit1;obtain⟨t1,k1⟩:=t.upd (s':={s with heap:=h1}) (a:=it) (q:=itP na (done.length+1)) (.there (.there (.there (.there .here)))) hs1 rfl rfl ⟨io1,hio1,hic1,hid1⟩;obtain⟨_,hmo1,rfl⟩:=t1.own mo (Cc ti b) (.tail _ (.tail _ (.head _)));refine wpAny_bind (wpAny_field hmo1 rfl (x:=.ref b) rfl ?_);refine wpAny_bind (wpAny_holding ?_);refine Aq AR.in1 ((Mx (X:=X) (A:=AR (n+4+1)) (Q:=fun v σ'=>v=.mat x∧σ'=⟨(D,PO.list acc)::y::(mo,Cc ti b)::(ti,tiP it)::(it,itP na (done.length+1))::r,G⟩) (hmem (done.length+1) _ hb) (hML (n+4+1) (by exact ZM hn) x _ _ (hT x (by rw[e1];simp)) ⟨rfl,rfl⟩)).on.run t1 (.cons (ix.keep k1) .nil) fun v2 s2 v' σ' iv t2 k2 q=>?_);obtain⟨rfl,rfl⟩:=q;refine wpAny_bind (wpAny_letGo (wpAny_pure ⟨_,rfl,wpAny_pure ?_⟩));exact⟨_,_,_,rfl,iv,t2,k1.trans k2,done++[x],rem,by rw[e1,List.append_assoc];rfl,rfl,rfl,by rw[List.length_append];rfl⟩
 en o' G D acc s hJ t:=by
  obtain⟨done,rem,e1,e2,rfl,rfl⟩:=hJ
  cases rem with
  | cons x rem=>cases e2
  | nil=>
  have hmem:∀(k:Nat) z,z∈y::r→z∈(D,PO.list acc)::y::(mo,Cc ti b)::(ti,tiP it)::(it,itP na k)::r:=fun k z hz=>by
   rcases List.mem_cons.mp hz with rfl| hz
   ·exact .tail _ (.head _)
   ·exact .tail _ (.tail _ (.tail _ (.tail _ (.tail _ hz))))
  obtain⟨_,hmo,rfl⟩:=t.own mo (Cc ti b) (.tail _ (.tail _ (.head _)));obtain⟨_,hti,rfl⟩:=t.own ti (tiP it) (.tail _ (.tail _ (.tail _ (.head _))));obtain⟨io,hio,hic,hid⟩:=t.own it (itP na done.length) (.tail _ (.tail _ (.tail _ (.tail _ (.head _)))));obtain⟨a,vs,e,_,il,hil⟩:=(LstV.own (hmem done.length _ hna)).at t (.raw _)
  cases e
  have hit:s.heap.IsListIter it na done.length:=⟨io,hio,hic,hid⟩
  have hx:vs.toArray[done.length]? =none:=by
   have:=il.length;rw[List.append_nil]at e1;rw[e1,List.length_map]at this;simp[this]
  have hT':s.TypeIs (.ref mo) "map":=⟨_,hmo,rfl⟩
  have hne:it∉ads ((D,PO.list acc)::y::(mo,Cc ti b)::(ti,tiP it)::r):=by
   have nd:=t.nodup;rw[show ads ((D,PO.list acc)::y::(mo,Cc ti b)::(ti,tiP it)::(it,itP na done.length)::r)=ads ([(D,PO.list acc),y,(mo,Cc ti b),(ti,tiP it)]++(it,itP na done.length)::r)from rfl,ads,(List.perm_middle.map Prod.fst).nodup_iff]at nd;exact(List.nodup_cons.mp nd).1
  refine Aq le ?_;unfold pyNext;refine wpAny_bind (wpAny_attempt (wpAny_callSpecial?_slot (name:=Str.ofString "__next__") hT' AV (wpAny_call_entry AV hT' C7 ?_ (CU _))));show wpAny _ _ (field (.ref mo) 0 >>= _) _ _ _;refine wpAny_bind (wpAny_field hmo rfl (x:=.ref ti) rfl ?_);refine wpAny_bind (wpAny_seqItems hti rfl ?_)
  dsimp only
  simp only[←Array.forIn_toList,List.forIn_cons,List.forIn_nil];refine wpAny_bind (wpAny_bind (wpAny_bind (wpAny_holding (wpAny_nextOf_list_end rfl hit hil hx fun h1 x hk hx1=>?_))));obtain⟨ox,hox,hcx⟩:=hx1;refine wpAny_bind (wpAny_isInstance (T:="StopIteration") (b:=true) ⟨ox,hox,hcx⟩ isSubtype_stop ?_);refine wpAny_pure ?_;obtain⟨t1,k1⟩:=t.drop (o':=(D,PO.list acc)::y::(mo,Cc ti b)::(ti,tiP it)::r) (((((List.sublist_cons_self _ _).cons₂ _).cons₂ _).cons₂ _).cons₂ _)
  have t2:St X ⟨(D,PO.list acc)::y::(mo,Cc ti b)::(ti,tiP it)::r,G⟩ {s with heap:=h1}:=t1.iter (it:=it) hne (fun o eo=>by
   have:=(t.stat _ _ eo).2
   exact this (.tail _ (.tail _ (.tail _ (.tail _ (.head _)))))) (fun o eo=>by
   rw[hio]at eo;cases eo
   exact AG.of_cls (by rw[hic];decide)) (fun b o hb eb=>hk b o hb eb) rfl rfl
  refine⟨_,_,rfl,t2,?_,rfl,rfl⟩;intro z o hz hnz;have hz1:z≠it:=fun e=>hnz (e▸.tail _ (.tail _ (.tail _ (.tail _ (.head _)))));exact⟨hk z o hz1 hz,fun h=>hnz (((((((List.sublist_cons_self _ _).cons₂ _).cons₂ _).cons₂ _).cons₂ _).map Prod.fst).subset h)⟩
 ty l o' G D acc s hJ t:=by
  obtain⟨done,rem,e1,e2,rfl,rfl⟩:=hJ;obtain⟨_,hmo,rfl⟩:=t.own mo (Cc ti b) (.tail _ (.tail _ (.head _)));refine⟨⟨_,hmo,rfl⟩,fun e=>?_⟩;have nd:=t.nodup;simp only[ads,List.map_cons,List.nodup_cons]at nd;exact nd.1 (e▸.tail _ (.head _))
 self l o' G D acc s Q E hJ t q:=by
  obtain⟨done,rem,e1,e2,rfl,rfl⟩:=hJ;obtain⟨_,hmo,rfl⟩:=t.own mo (Cc ti b) (.tail _ (.tail _ (.head _)))
  have hT':s.TypeIs (.ref mo) "map":=⟨_,hmo,rfl⟩
  refine wpAny_pyIter_slot hT' CR (wpAny_call_entry CR hT' ES ?_ (Fv _));show wpAny _ _ (ret (.ref mo)) _ _ s;exact wpAny_pure ⟨_,rfl,"map",_,hT',AV.lookup,q⟩
end
section
variable {X:Cx}{A:Around}{env:Env}{σ:PS}{Q:PV→PS→Prop}{P:PF→PS→Prop}{l:List PV}
theorem W_AttrT{value:Expr}{attr:Str}{pos:Pos}(hb:attributeBase value attr env (eval value env)=eval value env)(h:WV X A (eval value env) (fun v σ₁=>O1 X A Is (fun ov=>getAttr ov attr true) v Q σ₁) σ):WV X A (eval (.Attribute value attr pos) env) Q σ:=fun s hs=>by
 rw[arm_eval_Attribute,hb];refine wpAny_bind (h.run hs fun va s₁ a σ₁ ia t₁ k₁ h₁=>wpAny_bind (wpAny_standAt (wpAny_bind (wpAny_holding (h₁.run t₁ ia fun vb s₂ b σ₂ ib t₂ k₂ q=>?_)))));exact wpAny_bind (wpAny_letTemporaryGo (wpAny_pure ⟨b,σ₂,ib,t₂,k₁.trans k₂,q⟩))
theorem K8{t t' t'':Expr}{pos:Pos}{value:Expr}(ht:(assignEach [t,t',t''] env).map (·.2)=[assign t env,assign t' env,assign t'' env])(h:WV X A (eval value env) (fun v σ₁=>TG X A env t v (fun O σ₂=>TG X A env t' v (fun O σ₃=>TG X A env t'' v (fun O σ₄=>P .next σ₄) σ₃) σ₂) σ₁) σ)(hs:swapsWithSole [t,t',t''] value pos.line env=pure false)(hw:swappedStores [t,t',t''] value env=pure none):WF X A (exec (.Assign [t,t',t''] value pos) env) P σ:=by
 refine Fa ?_ hs hw;rw[ht];exact h.mono fun v σ' h'=>TA_cons (fun s va hs i=>wpAny_mono (h' s va hs i) (fun O O t2=>by obtain⟨b,σ'',e,t,k,z⟩:=t2;exact⟨b,σ'',e,t,k,TA_cons (fun s va hs i=>wpAny_mono (z s va hs i) (fun O O t2=>by obtain⟨b,σ'',e,t,k,z⟩:=t2;exact⟨b,σ'',e,t,k,TA_one z⟩) fun O O h=>h)⟩) fun O O h=>h)
end
section
variable {X:Cx}{A B:Around}{G₀:Array GenState}{c:Code}{fs:List Frame}{vs:List PV}{o gp:Own}{G:Array GenState}{env:Env}{K:Flow→Sem PySem.Fin}{H:Value→Sem PySem.Fin}
theorem A6{rest:List Stmt}(h:GS X A G₀ c fs ((execs rest env).wrap K H id id) vs o gp G):GS X A G₀ c fs (R5 rest env K H .next) vs o gp G:=h
theorem Oi{gp':Own}{t:Sem PySem.Fin}(v:Cn X ⟨gp++o,G⟩ ⟨gp'++o,G⟩)(h:GS X A G₀ c fs t vs o gp' G):GS X A G₀ c fs t vs o gp G:=fun s hs gp₀ s₀ k=>
 let⟨t,k'⟩:=v s hs
 h s t gp₀ s₀ (k.trans k')
end
section
variable {X:Cx}{A:Around}{v:PV}{U:Unit→PS→Prop}{g:Array GenState}
theorem KT{a:Addr}{k:Int}{ys:List PV}{o o':Own}(hm:(a,.list ys)∈o)(h0:k<0)(h1: -(ys.length:Int)≤k)(hsz:ys.length≤sizeLine)(u:Upd o a (.list (ys.set (k+ys.length).toNat v)) o')(q:U () ⟨o',g⟩):O3 X A setItem (.raw (.ref a)) (.int k) v U ⟨o,g⟩:=fun s va vb vc hs ia ib ic=>by
 cases ia
 cases ib
 obtain⟨vs,⟨n,ho⟩,iv⟩:=hs.own _ _ hm
 have hT:s.TypeIs (.ref a) "list":=⟨_,ho,rfl⟩
 have e1:=iv.length;have hfit:Builtin.List.listFitsIndex k=true:=fitsIndex_neg h0 (by rw[sizeLine_eq]at hsz;exact YH h1 hsz);unfold setItem
 try with_reducible refine wpAny_holding ?_
 first| refine wpAny_bind (wpAny_pure ?_)| skip
 refine wpAny_bind (wpAny_sequenceKey hT (by decide) ?_)
 refine wpAny_bind (wpAny_callSpecial?_slot (name:=Str.ofString "__setitem__") hT PySem.slot_list_setitem
  (wpAny_call_entry PySem.slot_list_setitem hT PySem.entry_list_setitem ?_ (PySem.args_list_setitem _ _ _)))
 show wpAny _ _ (Builtin.List.listSubscript? (.int k ω) >>= _) _ _ s;refine wpAny_bind (wpAny_listSubscript_int hfit ?_);clear hfit;have hidx:seqIndex? k vs.toArray.size=some (k+vs.toArray.size).toNat:=seqIndex_neg h0 (by rw[List.size_toArray,e1];exact h1)
 have hjl:(k+vs.toArray.size).toNat<vs.length:=by rw[List.size_toArray];exact YG h0 h1 e1
 obtain⟨j,rfl⟩:∃j:Nat,k=Int.negSucc j:=by
  cases k with
  | ofNat n=>exact absurd h0 (Int.not_lt.mpr (Int.ofNat_nonneg n))
  | negSucc n=>exact⟨n,rfl⟩
 show wpAny _ _ ((Builtin.List.listItems (.ref a) >>= fun xs=>pure ((seqIndex? (Int.negSucc j) xs.size).bind fun i=>xs[i]?.map (i,·))) >>= _) _ _ s;refine wpAny_bind (wpAny_bind ?_);show wpAny _ _ (seqItems? (.ref a) >>= _) _ _ s;refine wpAny_bind (wpAny_seqItems ho rfl (wpAny_pure (wpAny_pure ?_)));rw[hidx]
 have hx:vs.toArray[(Int.negSucc j+(vs.toArray.size:Int)).toNat]? =some vs[(Int.negSucc j+(vs.toArray.size:Int)).toNat]:=by
  rw[List.getElem?_toArray,List.getElem?_eq_getElem hjl]
 simp only[Option.bind_some,hx,Option.map_some];rw[List.size_toArray,e1]
 generalize (Int.negSucc j+(ys.length:Int)).toNat=j at*
 show wpAny _ _ (setSeqItemAt a j vc >>= _) _ _ s
 have he:vs.toArray.setIfInBounds j vc=(vs.set j vc).toArray:=by simp
 obtain⟨n',hn'⟩:=AA (n:=n) (f:=fun xs=>xs.setIfInBounds j vc) he;have hsb:=Heap.SameBut.update s.heap a (Obj.mapSeq fun xs=>xs.setIfInBounds j vc)
 have k':Ad (ads o) s.heap (ads o) (s.heap.update a (Obj.mapSeq fun xs=>xs.setIfInBounds j vc)):=fun b ob e n=>⟨(hsb.2 b fun e=>n (by rw[e];exact u.mem_addr)).trans e,n⟩
 obtain⟨t,ke⟩:=hs.upd (s':={s with heap:=s.heap.update a (Obj.mapSeq fun xs=>xs.setIfInBounds j vc)}) u hsb rfl rfl
  ⟨vs.set j vc,⟨n',by rw[Heap.get?_update_self _ ho (by rw[hn'];rfl),hn']⟩,(iv.keep k').set j (ic.keep k')⟩
 refine wpAny_bind (wpAny_setSeqItemAt ho rfl ?_)
 first
  | exact wpAny_bind (wpAny_pure (wpAny_pure ⟨.none,rfl,wpAny_pure ⟨(),_,rfl,t,ke,q⟩⟩))
  | exact wpAny_pure ⟨.none,rfl,wpAny_pure ⟨(),_,rfl,t,ke,q⟩⟩
end
section
variable {X:Cx}{gp:Own}{G:Array GenState}
theorem FY {n:Nat} {a:Addr} {ob:Obj} {fd:FuncData} {body:List Stmt} {kw:List (Str×Value)} {args ps:List PV} {ns:List Str} {Q:PV→PS→Prop} {ow:Own}
  (ho:(Mine.hq X.w.params).get? a=some ob) (hdata:ob.data=.func fd) (hcd:(Mine.hq X.w.params).CodeRec fd.code fd.qualname)
  (hbody:fd.body=.stmts body) (hbind:Bg X fd kw args (ns.zip ps)) (hlen:ns.length=ps.length)
  (hcell:∀x∈fd.scope.names,x.2≠.cell) (hloc:∀x∈ns,fd.scope.names.lookup x=some .local)
  (hco:fd.scope.isCoroutine=false) (hgen:fd.scope.isGenerator=true) (hk:fd.scope.kind=.function) (hg:fd.globals=3) (hb:fd.builtins=0) (hc:fd.closure=[]) (hn:n<500)
  (h:∀env ga,En env fd.scope.names []→env.scope.isCoroutine=false→env.code=fd.code→∃vs,(∀o,GS X (AR (n+1)) (G.push .running) (.func body env) [] ((execs body env).wrap (fun f=>.pure (.done (.ret (match f with | .ret v=>v| _=>.none)))) (fun e=>(leaving env e).wrap (fun O=>.raise e) .raise id id) id id) vs o ((env.locals,.ns (ns.zip ps).reverse)::gp) (G.push .running))∧
   ∀G',CC X (AR (n+1)) G vs ((env.locals,.ns (ns.zip ps).reverse)::gp) G'→Q (.raw (.ref ga)) ⟨(ga,Ba G.size)::(env.locals,.ns (ns.zip ps).reverse)::(gp++ow),G'⟩):
  OC X (AR n) (.ref a) kw args Q ⟨gp++ow,G⟩:=
 M0 ho hdata hcd hbody hbind hcell (by rw[List.map_fst_zip (by exact a11 hlen)];exact hloc) hco hgen hk hn fun L ga=>
  h (callEnv fd L a) ga ⟨hk,fun O=>rfl,hc,hg,hb⟩ hco rfl
end
section
variable {X:Cx}{A:Around}{env:Env}{σ:PS}{Q:PV→PS→Prop}{B:Bool→PS→Prop}
noncomputable def OCK(X:Cx)(A:Around)(f:Value)(k:Str)(kv:PV)(args:List PV)(Q:PV→PS→Prop)(σ:PS):Prop:=
 ∀s vs u,St X σ s→IsAll (ads σ.own) s.heap args vs→Is (ads σ.own) s.heap kv u→codeAny (md X) A (.call f ⟨vs,[(k,u)]⟩) (fun r s'=>match r with | .ok (.ret v)=>Po X Is Q σ s v s'| .ok _=>False| .error e=>False) s
theorem MI {func:Expr} {e:Expr} {es:List Expr} {k:Str} {ke:Expr} {kp pos:Pos} {fa:Addr} (ha:A9 env (e::es)) (hp:∀pos,((backTo pos (starEach (e::es) env)).any (·.1))=false)
  (he:eval (.Call func (e::es) [⟨some k,ke,kp⟩] pos) env=(do callWith pos (←eval func env) [] (backTo pos (starEach (e::es) env)) (backToKw pos (keywordEach [⟨some k,ke,kp⟩] env))))
  (h:WV X A (eval func env) (fun f σ₁=>f=.raw (.ref fa)∧WEs X A env (e::es) (fun xs σ₂=>WV X A (eval ke env) (fun kv σ₃=>Kept X σ₃ (.raw (.ref fa))∧OCK X A (.ref fa) k kv xs Q σ₃) σ₂) σ₁) σ):
  WV X A (eval (.Call func (e::es) [⟨some k,ke,kp⟩] pos) env) Q σ:=fun s hs=>by
 rw[he];refine wpAny_bind (h.run hs fun f s₁ pv σ₁ i t₁ k₁ q=>?_);obtain⟨rfl,q⟩:=q
 cases i
 have ha':starEach (e::es) env=(false,eval e env)::starEach es env:=ha
 have hb:backTo pos (starEach (e::es) env)=(false,eval e env)::backTo pos (starEach es env):=by rw[ha'];rfl
 have hk:backToKw pos (keywordEach [⟨some k,ke,kp⟩] env)=[(some k,do let v ←eval ke env;standAt pos;pure v)]:=rfl;rw[hk];refine callWith_of (P:=fun h=>∃k,(k=Keeper.frame∨k=Keeper.machine∨k=Keeper.boundFrame)∧Looks (md X) h (keeperOf (.ref fa)) k) (by rw[hp];rfl) (fun O x=>x) ?_;rw[hb];refine evalArgs_kw rfl ?_;rw[←hb];refine(q pos).run t₁ fun vs s₂ xs σ₂ is t₂ k₂ q₂=>?_;refine wpAny_evalAll_cons ?_;refine wpAny_bind (q₂.run t₂ fun v s₃ kv σ₃ iv t₃ k₃ q₃=>wpAny_bind (wpAny_standAt (wpAny_pure (wpAny_evalAll_nil ⟨q₃.1 s₃ _ t₃ (.raw _),?_⟩))));show wpAny _ _ (call (.ref fa) ([]++vs) [(k,v)]) _ _ _
 exact wpAny_call (codeAny_mono (q₃.2 s₃ vs v t₃ (is.keep k₃) iv) fun r s' z=>by
  match r,z with
  | .ok (.ret w),z=>exact z.from ((k₁.trans k₂).trans k₃)
  | .ok .next,z=>exact z.elim
  | .ok .brk,z=>exact z.elim
  | .ok .cont,z=>exact z.elim
  | .error e,z=>exact z.elim)
theorem Gb{l:Expr}{c1 c2:Str}{k1 k2:Nat}{p1 p2 ps pos:Pos}{cd:Addr}{co:Obj}{cvs:Array Value}(hcode:env.code=.ref cd)(hco:(Mine.hq X.w.params).get? cd=some co)(hcd:co.data=.fields cvs)(h:WV X A (eval l env) (fun a σ₁=>∃x,a=.str x∧B (x==c1||x==c2) σ₁) σ):WT X A env (.Compare l [.In] [.Set [.Constant (.str c1) k1 p1,.Constant (.str c2) k2 p2] 0 ps] pos) B σ:=fun s hs=>by
 refine kdi_test rfl ?_;refine h.run hs fun va s₁ a σ₁ ia t₁ k₁ q=>?_;obtain⟨x,rfl,q⟩:=q
 cases ia
 obtain⟨oc,od,odt,osl⟩:=co
 replace hcd:odt=.fields cvs:=hcd
 subst hcd;rw[arm_eval_Set];refine wpAny_bind (wpAny_standAt ?_)
 have hX:Frag.In [(cd,(⟨oc,od,.fields cvs,osl⟩:Obj))] s₁.heap:=fun b o e=>by
  simp only[List.lookup]at e;split at e
  ·rename_i hb
   cases e
   rw[beq_iff_eq.mp hb];exact t₁.hz _ _ hco
  ·cases e
 refine wpAny_bind (kds_main hX (by rw[hcode];simp[kdsCode,List.lookup]) fun b=>?_);rw[kds_star _ rfl,List.map_map];refine kds_core (ts:=(evalEach [.Constant (.str c1) k1 p1,.Constant (.str c2) k2 p2] env).map fun t=>do let v ←t;standAt ps;pure v) rfl ?_ ?_ ?_ fun led=>?_
 ·refine List.findIdx?_eq_none_iff.mpr fun x hx=>?_
  obtain⟨t,_,rfl⟩:=List.mem_map.mp hx
  rfl
 ·rw[List.length_map,kds_len];exact Nat.le_of_ble_eq_true rfl
 ·rw[List.map_map];try rfl
 refine kds_all ps _ _ _ ?_
 dsimp only[KdsAll]
 have hD:s₁.heap.objs.size∉ads σ₁.own:=t₁.off;have hDz:∀o,(Mine.hq X.w.params).get? s₁.heap.objs.size≠some o:=fun o eo=>absurd (Heap.lt_size (t₁.hz _ _ eo)) (Nat.lt_irrefl _);have hold:∀b o,s₁.heap.get? b=some o→(s₁.heap.push {cls:=.type "set",dict:=none,data:=.set #[] 0 (.fresh 0 0 led)}).get? b=some o:=fun b o e=>Heap.get?_push_of_some _ e;obtain⟨t₂,k₂⟩:=t₁.grow (s':={s₁ with heap:=s₁.heap.push {cls:=.type "set",dict:=none,data:=.set #[] 0 (.fresh 0 0 led)}}) hold rfl rfl;have g2:(s₁.heap.push {cls:=.type "set",dict:=none,data:=.set #[] 0 (.fresh 0 0 led)}).get? s₁.heap.objs.size=some {cls:=.type "set",dict:=none,data:=.set #[] 0 (.fresh 0 0 led)}:=Heap.get?_push_size _ rfl;have hne:∀b o,s₁.heap.get? b=some o→b≠s₁.heap.objs.size:=fun b o e=>Nat.ne_of_lt (Heap.lt_size e)
 generalize s₁.heap.objs.size=D at*
 refine(W_str (Q:=fun v σ'=>v=.str c1∧σ'=σ₁) ⟨rfl,rfl⟩:WV X A _ _ σ₁).run t₂ fun v3 s₃ pv3 σ3 i3 t₃ k₃ q3=>?_;obtain⟨rfl,rfl⟩:=q3
 cases i3
 have g3:=(k₃ _ _ g2 hD).1;refine(W_str (Q:=fun v σ'=>v=.str c2∧σ'=σ3) ⟨rfl,rfl⟩:WV X A _ _ σ3).run t₃ fun v4 s₄ pv4 σ4 i4 t₄ k₄ q4=>?_;obtain⟨rfl,rfl⟩:=q4
 cases i4
 have g4:=(k₄ _ _ g3 hD).1;have hS0:Heap.SetOf (strKind pw X.w) s₄.heap D (fun O=>false) 0:=(setObjOf_fresh led).setOf g4 (by decide);refine kds_fill_cons ?_;unfold setAdd;refine wpAny_holding (wpAny_bind ((strKind pw X.w).pyHash (k:=c1) (strKind_is _ _ _ _) ?_));refine wpAny_setAddHashed_of (s:={s₄ with toks:=s₄.toks+1}) (knd:=strKind pw X.w) (k:=c1) (strKind_is _ _ _ _) rfl hS0 (by decide) fun h5 hsb5 hS5=>?_;refine kds_fill_cons ?_;unfold setAdd;refine wpAny_holding (wpAny_bind ((strKind pw X.w).pyHash (k:=c2) (strKind_is _ _ _ _) ?_));refine wpAny_setAddHashed_of (s:={s₄ with heap:=h5,toks:=s₄.toks+1+1}) (knd:=strKind pw X.w) (k:=c2) (strKind_is _ _ _ _) rfl hS5 (by decide) fun h6 hsb6 hS6=>?_;refine kds_fill_nil rfl ?_;refine kdi_mark ?_;obtain⟨so,es,ep,st,ho,hex,hd,hel,hmem,hb,hf,hn⟩:=hS6
 have hf':({st with led:=false}:SetTable).fits es.size=true:=by cases st;exact hf
 unfold setUnled;refine wpAny_bind (wpAny_setState_of ho hd hf ?_)
 dsimp only
 refine wpAny_storeSet_of ho hd ?_ (fits_of_scanBound hb);obtain⟨_,hS⟩:=SetOf_store (knd:=strKind pw X.w) ho hex hd hel hmem hb hf';have hsb:=Heap.SameBut.update h6 D (Obj.putSet es {st with led:=false});refine wpAny_inSet_of (knd:=strKind pw X.w) (k:=x) (strKind_is _ _ _ _) rfl hS ?_;have kall:∀z o,z≠D→s₄.heap.get? z=some o→(h6.update D (Obj.putSet es {st with led:=false})).get? z=some o:=fun z o hz e=>(hsb.2 z hz).trans ((hsb6.2 z hz).trans ((hsb5.2 z hz).trans e))
 have t₅:=t₄.iter (s':={s₄ with heap:=h6.update D (Obj.putSet es {st with led:=false}),toks:=s₄.toks+1+1+1}) (it:=D) hD hDz (fun o e=>by
  rw[g4]at e;cases e;exact AG.of_cls (by dsimp only;decide)) kall rfl rfl
 refine wpAny_truthy_bool ⟨_,σ4,rfl,t₅,?_,?_⟩
 ·exact k₁.trans fun b o e hb=>⟨kall b o (hne b o e) ((k₂.trans (k₃.trans k₄)) b o e hb).1,hb⟩
 ·have e:((false||decide (x=c1))||decide (x=c2))=(x==c1||x==c2):=by
   rw[Bool.eq_iff_iff];simp
  rw[←e]at q;exact q
end
section
variable {X:Cx}{A:Around}{env:Env}{σ:PS}{Q:PV→PS→Prop}{P:PF→PS→Prop}{v:PV}
theorem Mf{ad:List Addr}{h:Heap}:∀{ns:List Int} {vs:List Value},IsAll ad h (Aj ns) vs→IntsAre vs ns:=by
 intro ns
 induction ns with
 | nil=>intro vs h;cases h;exact .nil
 | cons n ns ih=>
  intro vs h;obtain⟨a,us,ia,r,rfl⟩:=IsAll.vCons h;obtain⟨t,rfl⟩:=Is.vInt ia;exact .cons _ _ (ih r)
theorem Op{ns:List Int}(hh:A.handled=none)(h:LstV σ v (Aj ns))(q:Q (.int ns.sum) σ):ON X A Is (fun l=>call (.builtin "sum") l) [v] Q σ:=by
 intro s vs hs i
 cases i with
 | cons i i'=>
  cases i'
  obtain⟨a,vs,rfl,_,il,hl⟩:=h.at hs i;have hi:=Mf il;obtain⟨xs,hx⟩:=hi.allInts.items
  have hn:numsOf vs.toArray.toList=ns:=by rw[show vs.toArray.toList=vs from rfl,hi.numsOf]
  rw[hx]at hl hn;rw[nums_intItems]at hn;refine sum_intListG hh hl fun h' tk t' hk=>?_;obtain⟨t,k⟩:=hs.grow (s':={s with heap:=h',toks:=tk}) hk rfl rfl;rw[preSum_eq,List.take_of_length_le (by simp),hn];exact⟨_,σ,.int _ _,t,k,q⟩
theorem ON.view{α β:Type}{R:List Addr→Heap→β→α→Prop}{f:List Value→Sem α}{l:List PV}{Q:β→PS→Prop}{σ σ':PS}(v:Cn X σ σ')(h:ON X A R f l Q σ'):ON X A R f l Q σ:=fun s vs hs i=>by
 obtain⟨t,k⟩:=v s hs;exact wpAny_mono (h s vs t (i.keep k)) (fun O O p=>p.from k) fun O O e=>e
theorem Fx{ns:List (Str×NameKind)}{cs cl:List (Str×Addr)}{elt iter:Expr}{scope:Scope}{pos:Pos}{x y:Str}{f:PV→PV}{z:Str}{spos py q1 q2 q3:Pos}{k:Nat}(hh:A.handled=none)(he:En env ns cs)(hsw:swapsWith (.ListComp elt [⟨.Tuple [.Name x q1,.Name y q2] k q3,iter,[],0⟩] scope pos) (some (.Name z py)) spos.line env=pure true)(hclos:closureFor scope (Dz ns cs)=pure cl)(hcell:∀y∈scope.names,y.2≠.cell)(hkind:scope.kind=.function)(hnames:∀y∈scope.names,y.2=.local→scope.names.lookup y.1=some .local)(hxy:(y==x)=false)(hx:(Be scope.names ns).lookup x=some .local)(hy:(Be scope.names ns).lookup y=some .local)(h:WV X A (eval iter env) (fun v σ₁=>∃(l:List (PV×PV)) (o:Own) (g:Array GenState),σ₁=⟨o,g⟩∧Fc X v (l.map fun v=>.tup [v.1,v.2]) o∧l.length≤sizeLine∧Ve X A (Be scope.names ns) cl x y elt l f o g∧TG X A env (.Name z py) (.lst ((l.map fun v=>.tup [v.1,v.2]).map f)) (fun O σ'=>P .next σ') ⟨o,g⟩) σ)(hs:∀x,foldedSetIterable iter env x=pure x):WF X A (exec (.Assign [.Name z py] (.ListComp elt [⟨.Tuple [.Name x q1,.Name y q2] k q3,iter,[],0⟩] scope pos) spos) env) P σ:=
 GO hh (fun O=>true) f (mk2 x y) hsw ((he.clos scope).trans hclos) hcell hkind hnames (W.mono h fun v σ₁ t=>by
  obtain⟨l,o,g,e,src,sz,hel,q⟩:=t
  exact⟨_,o,g,e,src,by rw[List.length_map];exact sz,Vh hh he hkind hxy hx hy hel,by rw[List.filter_eq_self.mpr fun O O=>rfl];exact q⟩) hs
end
theorem Kd(l:List Int)(lo hi st:Option Int):∃xs:List Int,pick (Aj l) lo hi st=Aj xs∧xs.length≤(sliceRange (sliceBounds lo hi st l.length).1 (sliceBounds lo hi st l.length).2.1 (sliceBounds lo hi st l.length).2.2).length:=by
 refine⟨(sliceRange (sliceBounds lo hi st l.length).1 (sliceBounds lo hi st l.length).2.1 (sliceBounds lo hi st l.length).2.2).filterMap (l[·]?),?_,List.length_filterMap_le _ _⟩;unfold pick Aj;rw[List.length_map,List.map_filterMap]
 congr 1
 funext i
 rw[List.getElem?_map]
theorem F9(l:List Int)(k:Nat)(hk:k≤3)(hl:l.length≤40):∃xs:List Int,pick (Aj l) (some (k:Int)) none (some 4)=Aj xs∧xs.length≤50:=by
 obtain⟨xs,e,h⟩:=Kd l (some (k:Int)) none (some 4);refine⟨xs,e,Nat.le_trans h ?_⟩;unfold sliceRange sliceBounds;rw[List.length_map,List.length_range];simp only[Option.getD_some]
 have h4:(4:Int) > 0:=by decide
 simp only[h4,if_true]
 split<;>omega
end
section
open PySem PySem.W PyProof.Rows PySem.Calls
noncomputable def Ev(X:Cx)(A:Around)(env:Env)(σ:PS)(e:Expr)(v:PV):Prop:=∀Q:PV→PS→Prop,Q v σ→WV X A (eval e env) Q σ
noncomputable def Evs(X:Cx)(A:Around)(env:Env)(σ:PS)(es:List Expr)(vs:List PV):Prop:=∀Q:List PV→PS→Prop,Q vs σ→WEs X A env es Q σ
section
variable {X:Cx}{A:Around}{env:Env}{ns:List (Str×NameKind)}{cs:List (Str×Addr)}
theorem EvN{m:List (Str×PV)}{o:Own}{g:Array GenState}(he:En env ns cs){x:Str}{v:PV}{pos:Pos}(hl:ns.lookup x=some .local)(hm:m.lookup x=some v)(hd:(x==("__debug__":Str))=false):Ev X A env ⟨(env.locals,.ns m)::o,g⟩ (.Name x pos) v:=fun O q=>En.name he hl hm hd q
theorem EvC{σ:PS}(he:En env ns cs){x:Str}{v:PV}{pos:Pos}{c:Addr}(hl:ns.lookup x=some .cell)(hc:cs.lookup x=some c)(hm:(c,.cell (some v))∈σ.own)(hd:(x==("__debug__":Str))=false):Ev X A env σ (.Name x pos) v:=fun O q=>En.cell he hl hc hm hd q
section
variable {σ:PS}{pos:Pos}{k:Nat}
theorem EvI{i:Int}:Ev X A env σ (.Constant (.int i) k pos) (.int i):=fun O q=>W_int q
theorem EvS{i:Str}:Ev X A env σ (.Constant (.str i) k pos) (.str i):=fun O q=>W_str q
theorem EvO:Ev X A env σ (.Constant .none k pos) .none:=fun O q=>W_none q
theorem EvT{b:Bool}:Ev X A env σ (.Constant (.bool b) k pos) (.bool b):=fun O q=>W_bool q
theorem EvA{l r:Expr}{a b:Int}(ha:Ev X A env σ l (.int a))(hb:Ev X A env σ r (.int b)):Ev X A env σ (.BinOp l .Add r pos) (.int (a+b)):=fun O q=>W_BinOp (ha _ (hb _ (add_ii q)))
theorem EvM{l r:Expr}{a b:Int}(ha:Ev X A env σ l (.int a))(hb:Ev X A env σ r (.int b)):Ev X A env σ (.BinOp l .Sub r pos) (.int (a-b)):=fun O q=>W_BinOp (ha _ (hb _ (sub_ii q)))
theorem EsN:Evs X A env σ [] []:=fun O q=>Es_nil q
theorem EsC{e:Expr}{v:PV}{es:List Expr}{vs:List PV}(h:Ev X A env σ e v)(hs:Evs X A env σ es vs)(hst:starEach (e::es) env=(false,eval e env)::starEach es env):Evs X A env σ (e::es) (v::vs):=
 fun O q=>Es_cons (h _ (hs _ q)) hst
theorem UV{e:Expr}{v:PV}{Q:PV→PS→Prop}(h:Ev X A env σ e v)(q:Q v σ):WV X A (eval e env) Q σ:=h _ q
theorem UEs{es:List Expr}{vs:List PV}{Q:List PV→PS→Prop}(h:Evs X A env σ es vs)(q:Q vs σ):WEs X A env es Q σ:=h _ q
theorem UBin{l r:Expr}{op:Operator}{a b:PV}{Q:PV→PS→Prop}(ha:Ev X A env σ l a)(hb:Ev X A env σ r b)(h:O2 X A Is (binaryOp op) a b Q σ):WV X A (eval (.BinOp l op r pos) env) Q σ:=
 W_BinOp (ha _ (hb _ h))
theorem USub{l r:Expr}{a b:PV}{Q:PV→PS→Prop}(ha:Ev X A env σ l a)(hb:Ev X A env σ r b)(h:O2 X A Is (subscriptTail l r) a b Q σ):WV X A (eval (.Subscript l r pos) env) Q σ:=
 W_Sub (ha _ (hb _ h))
theorem UCmp{l r:Expr}{op:CmpOp}{a b:PV}{Q:PV→PS→Prop}(ha:Ev X A env σ l a)(hb:Ev X A env σ r b)(h:O2 X A Is (compareOp op) a b Q σ)(hm:behindInMarks op r=false):WV X A (eval (.Compare l [op] [r] pos) env) Q σ:=W_cmp (ha _ (hb _ h)) hm
theorem UWT{l r:Expr}{op:CmpOp}{a b:PV}{B:Bool→PS→Prop}(ha:Ev X A env σ l a)(hb:Ev X A env σ r b)(h:O2 X A Is (compareOp op) a b (fun c σ₃=>O1 X A RE truthy c B σ₃) σ)(hm:behindInMarks op r=false):WT X A env (.Compare l [op] [r] pos) B σ:=WT_cmp (ha _ (hb _ h)) hm
theorem UTup{es:List Expr}{vs:List PV}{Q:PV→PS→Prop}(h:Evs X A env σ es vs)(q:vs.length≤sizeLine∧Q (.tup vs) σ):WV X A (eval (.Tuple es k pos) env) Q σ:=W_Tuple (h _ q)
theorem UCall {func:Expr} {args:List Expr} {v:Value} {xs:List PV} {Q:PV→PS→Prop} (hf:Ev X A env σ func (.raw v)) (hs:Evs X A env σ args xs)
  (ha:A9 env args) (hp:∀pos,((backTo pos (starEach args env)).any (·.1))=false)
  (he:eval (.Call func args [] pos) env=(do callWith pos (←eval func env) [] (backTo pos (starEach args env)) (backToKw pos (keywordEach [] env))))
  (h:Kept X σ (.raw v)∧ON X A Is (fun l=>call v l) ([]++xs) Q σ):WV X A (eval (.Call func args [] pos) env) Q σ:=
 W_Call (hf _ (CW_raw ha hp (hs _ h))) he
theorem Eb_len(he:En env ns cs)(hl:ns.lookup ("len":Str)=some .globalImplicit):Ev X A env σ (.Name "len" pos) (.raw (.builtin "len")):=fun O q=>En.b_len he hl q
theorem Eb_range(he:En env ns cs)(hl:ns.lookup ("range":Str)=some .globalImplicit):Ev X A env σ (.Name "range" pos) (.raw (.type "range")):=fun O q=>En.b_range he hl q
theorem Eb_isinstance(he:En env ns cs)(hl:ns.lookup ("isinstance":Str)=some .globalImplicit):Ev X A env σ (.Name "isinstance" pos) (.raw (.builtin "isinstance")):=fun O q=>En.b_isinstance he hl q
theorem Eb_str(he:En env ns cs)(hl:ns.lookup ("str":Str)=some .globalImplicit):Ev X A env σ (.Name "str" pos) (.raw (.type "str")):=fun O q=>En.b_str he hl q
theorem Eb_sum(he:En env ns cs)(hl:ns.lookup ("sum":Str)=some .globalImplicit):Ev X A env σ (.Name "sum" pos) (.raw (.builtin "sum")):=fun O q=>En.b_sum he hl q
theorem Eb_sorted(he:En env ns cs)(hl:ns.lookup ("sorted":Str)=some .globalImplicit):Ev X A env σ (.Name "sorted" pos) (.raw (.builtin "sorted")):=fun O q=>En.b_sorted he hl q
theorem Eb_max(he:En env ns cs)(hl:ns.lookup ("max":Str)=some .globalImplicit):Ev X A env σ (.Name "max" pos) (.raw (.builtin "max")):=fun O q=>En.b_max he hl q
theorem Eb_min(he:En env ns cs)(hl:ns.lookup ("min":Str)=some .globalImplicit):Ev X A env σ (.Name "min" pos) (.raw (.builtin "min")):=fun O q=>En.b_min he hl q
theorem Eb_set(he:En env ns cs)(hl:ns.lookup ("set":Str)=some .globalImplicit):Ev X A env σ (.Name "set" pos) (.raw (.type "set")):=fun O q=>En.b_set he hl q
theorem Eg_law_line(he:En env ns cs)(hl:ns.lookup ("_law_line":Str)=some .globalImplicit):Ev X A env σ (.Name "_law_line" pos) (.raw (.ref 283)):=fun O q=>En.g_law_line he hl q
theorem Eg_law_quoted(he:En env ns cs)(hl:ns.lookup ("_law_quoted":Str)=some .globalImplicit):Ev X A env σ (.Name "_law_quoted" pos) (.raw (.ref 290)):=fun O q=>En.g_law_quoted he hl q
theorem Eg_law_indented(he:En env ns cs)(hl:ns.lookup ("_law_indented":Str)=some .globalImplicit):Ev X A env σ (.Name "_law_indented" pos) (.raw (.ref 297)):=fun O q=>En.g_law_indented he hl q
theorem Eg_law_kept(he:En env ns cs)(hl:ns.lookup ("_law_kept":Str)=some .globalImplicit):Ev X A env σ (.Name "_law_kept" pos) (.raw (.ref 307)):=fun O q=>En.g_law_kept he hl q
theorem Eg_law_steps(he:En env ns cs)(hl:ns.lookup ("_law_steps":Str)=some .globalImplicit):Ev X A env σ (.Name "_law_steps" pos) (.raw (.ref 312)):=fun O q=>En.g_law_steps he hl q
theorem Eg_law_part(he:En env ns cs)(hl:ns.lookup ("_law_part":Str)=some .globalImplicit):Ev X A env σ (.Name "_law_part" pos) (.raw (.ref 317)):=fun O q=>En.g_law_part he hl q
theorem Eg_check_types(he:En env ns cs)(hl:ns.lookup ("_check_types":Str)=some .globalImplicit):Ev X A env σ (.Name "_check_types" pos) (.raw (.ref 276)):=fun O q=>En.g_check_types he hl q
theorem Eg_SequenceMatcher(he:En env ns cs)(hl:ns.lookup ("SequenceMatcher":Str)=some .globalImplicit):Ev X A env σ (.Name "SequenceMatcher" pos) (.raw (.ref 250)):=fun O q=>En.g_SequenceMatcher he hl q
theorem Eg_Match(he:En env ns cs)(hl:ns.lookup ("Match":Str)=some .globalImplicit):Ev X A env σ (.Name "Match" pos) (.raw (.ref 143)):=fun O q=>En.g_Match he hl q
end
end
theorem K_end2{ι:Type}{L K:ι→PF→PS→Prop}(h:∀n,L n=K n){n:ι}{f:PF}{σ:PS}(x:L n f σ):K n f σ:=h n▸x
theorem MG{X:Cx}{A:Around}{env:Env}{σ:PS}{P:PF→PS→Prop}{target iter:Expr}{body:List Stmt}{pos:Pos}(hh:A.handled=none)(h:WV X A (eval iter env) (fun x σ₁=>∃(l:List PV) (I:List PV→PS→Prop),(∀r σ,I r σ→LstV σ x l)∧I l σ₁∧(∀K:List PV→PF→PS→Prop,(∀r,Br I r P=K r)→∀v r σ,I (v::r) σ→TG X A env target v (fun O σ'=>WF X A (execs body env) (K r) σ') σ)∧(∀σ,I [] σ→P .next σ)) σ)(hs:∀x,foldedSetIterable iter env x=pure x):WF X A (exec (.For target iter body [] pos) env) P σ:=
 MH hh (W.mono h fun x σ₁ t=>by
  obtain⟨l,I,h1,h2,h7,h8⟩:=t
  exact⟨l,I,h1,h2,h7 _ fun O=>rfl,h8⟩) hs
noncomputable def IV(m' m:List (Str×PV)):Prop:=m'.map (fun p=>m.lookup p.1)=m'.map (fun p=>some p.2)
theorem IV.go{m:List (Str×PV)}{x:Str}{v:PV}:∀{m':List (Str×PV)},IV m' m→m'.lookup x=some v→m.lookup x=some v
 | [],_,e=>nomatch e
 | p::r,h,e=>by
  rw[List.lookup_cons]at e
  cases hxy:x==p.1 with
  | false=>rw[hxy]at e;exact IV.go (m':=r) (List.tail_eq_of_cons_eq h) e
  | true=>
   rw[hxy]at e;rw[beq_iff_eq.mp hxy];exact(List.head_eq_of_cons_eq h).trans e
noncomputable def Wk(σ σ':PS):Prop:=(∀r l,(r,PO.list l)∈σ'.own→(r,PO.list l)∈σ.own)∧∀(X:Cx) (s:Shared),St X σ s→St X σ' s∧Al σ s σ' s
theorem Wk.refl{σ:PS}:Wk σ σ:=⟨fun O O h=>h,fun O O t=>⟨t,Ad.refl _ _⟩⟩
theorem Wk.trans{σ σ' σ'':PS}(a:Wk σ σ')(b:Wk σ' σ''):Wk σ σ'':=⟨fun r l h=>a.1 r l (b.1 r l h),fun X s t=>⟨(b.2 X s (a.2 X s t).1).1,(a.2 X s t).2.trans (b.2 X s (a.2 X s t).1).2⟩⟩
theorem Wk.ns{a:Addr}{m m':List (Str×PV)}{o:Own}{g:Array GenState}(h:IV m' m):Wk ⟨(a,.ns m)::o,g⟩ ⟨(a,.ns m')::o,g⟩:=⟨fun r l hm=>by
  cases hm with
  | tail _ hm=>exact .tail _ hm,fun X s t=>
 ⟨⟨t.stat,t.nodup,fun b p hm=>by
  rcases List.mem_cons.mp hm with e| hm
  ·obtain⟨f,hf,r⟩:=t.own a _ List.mem_cons_self
   cases e
   exact⟨f,hf,fun x y q=>r x y (h.go q)⟩
  ·exact t.own b p (.tail _ hm),t.gens,t.os⟩,Ad.refl _ _⟩⟩
theorem Wk.drop{o o':Own}{g:Array GenState}(p:o'.Sublist o):Wk ⟨o,g⟩ ⟨o',g⟩:=⟨fun O O h=>p.subset h,fun O O t=>t.drop p⟩
theorem Wk.nd{a:Addr}{m m':List (Str×PV)}{o o':Own}{g:Array GenState}(h:IV m' m)(p:o'.Sublist o):Wk ⟨(a,.ns m)::o,g⟩ ⟨(a,.ns m')::o',g⟩:=(Wk.ns h).trans (.drop (p.cons_cons _))
theorem LstV.wk{σ σ':PS}{x:PV}{l:List PV}(w:Wk σ σ')(h:LstV σ' x l):LstV σ x l:=by
 cases h with
 | frozen=>exact .frozen
 | own h=>exact .own (w.1 _ _ h)
theorem W.wk{α β:Type}{X:Cx}{A:Around}{R:List Addr→Heap→β→α→Prop}{t:Sem α}{Q:β→PS→Prop}{σ σ':PS}(w:Wk σ σ')(h:W X A R t Q σ'):W X A R t Q σ:=
 fun s hs=>wpAny_mono (h s (w.2 X s hs).1) (fun O O q=>q.from (w.2 X s hs).2) fun O O e=>e
theorem O1.wk{α β:Type}{X:Cx}{A:Around}{R:List Addr→Heap→β→α→Prop}{f:Value→Sem α}{a:PV}{Q:β→PS→Prop}{σ σ':PS}(w:Wk σ σ')(h:O1 X A R f a Q σ'):O1 X A R f a Q σ:=
 fun s va hs ia=>wpAny_mono (h s va (w.2 X s hs).1 (ia.keep (w.2 X s hs).2)) (fun O O q=>q.from (w.2 X s hs).2) fun O O e=>e
theorem IsF.keep{ad ad':List Addr}{h h':Heap}(k:Ad ad h ad' h'){x:PF}{v:Flow}(i:IsF ad h x v):IsF ad' h' x v:=by
 cases i with
 | next=>exact .next
 | brk=>exact .brk
 | cont=>exact .cont
 | ret i=>exact .ret (i.keep k)
noncomputable def Les(P:PF→PS→Prop)(f:PF)(σ:PS):Prop:=∃σ',Wk σ σ'∧P f σ'
theorem Les.of{P:PF→PS→Prop}{f:PF}{σ:PS}(h:P f σ):Les P f σ:=⟨σ,.refl,h⟩
theorem HU{X:Cx}{A:Around}{t:Sem Flow}{P:PF→PS→Prop}{σ:PS}(h:WF X A t (Les P) σ):WF X A t P σ:=
 fun s hs=>wpAny_mono (h s hs) (fun O s' q=>by
  obtain⟨b,σ',i,t,k,σ'',w,q⟩:=q
  exact⟨b,σ'',i.keep (w.2 X s' t).2,(w.2 X s' t).1,k.trans (w.2 X s' t).2,q⟩) fun O O e=>e
noncomputable def PF.go:PF→Bool
 | .next=>true
 | .cont=>true
 | _=>false
theorem Br.mk{ι:Type}{I:ι→PS→Prop}{r:ι}{P:PF→PS→Prop}{σ:PS}(h:I r σ):∀f,PF.go f=true→Br I r P f σ
 | .next,_=>h
 | .cont,_=>h
section
variable {X:Cx}{A:Around}{env:Env}{σ:PS}{P:PF→PS→Prop}{G:Type}{t:Sem Flow}{pos:Pos}
theorem BJ(st:G→PS)(ok:G→Prop)(h:∀K:PF→PS→Prop,(∀g,ok g→∀σ',Wk σ' (st g)→K .next σ')→(∀f σ',P f σ'→K f σ')→WF X A t K σ)(k:∀g,ok g→P .next (st g)):WF X A t P σ:=
 HU (h _ (fun g hg O w=>⟨_,w,k g hg⟩) fun O O=>.of)
theorem D3{test:Expr}{body:List Stmt}(st:G→PS)(ok:G→Prop)(mes:G→Nat)(g0:G)(h0:ok g0)(hw:Wk σ (st g0))(turn:∀g,ok g→∀K:PF→PS→Prop,(∀f,PF.go f=true→∀g',ok g'→mes g'<mes g→∀σ',Wk σ' (st g')→K f σ')→(∀σ',P .next σ'→K .brk σ')→(∀v σ',P (.ret v) σ'→K (.ret v) σ')→WT X A env test (fun b σ'=>if b then WF X A (execs body env) K σ' else P .next σ') (st g)):WF X A (exec (.While test body [] pos) env) P σ:=
 JF (fun n σ=>∃g,ok g∧mes g=n∧Wk σ (st g)) (mes g0) ⟨g0,h0,rfl,hw⟩ fun n σ q=>by
  obtain⟨g,hg,rfl,w⟩:=q;exact W.wk w (turn g hg (Br _ () P) (fun f hf g hg hn σ' w=>Br.mk (I:=fun O σ''=>∃m,m<mes _∧∃g,ok g∧mes g=m∧Wk σ'' (st g)) ⟨_,hn,g,hg,rfl,w⟩ f hf) (fun O h=>h) fun O O h=>h)
theorem Em{target iter:Expr}{body:List Stmt}(hh:A.handled=none)(a b:Nat)(hab:a≤b)(hb:b≤16777216)(st:Nat→G→PS)(ok:Nat→G→Prop)(h:∀Q:PV→PS→Prop,(∀g,ok a g→∀σ',Wk σ' (st a g)→Q (.rng a b) σ')→WV X A (eval iter env) Q σ)(turn:∀i,a≤i→i<b→∀g,ok i g→∀K:PF→PS→Prop,(∀f,PF.go f=true→∀g,ok (i+1) g→∀σ',Wk σ' (st (i+1) g)→K f σ')→(∀σ',P .next σ'→K .brk σ')→(∀v σ',P (.ret v) σ'→K (.ret v) σ')→TG X A env target (.int i) (fun O σ'=>WF X A (execs body env) K σ') (st i g))(fin:∀g,ok b g→P .next (st b g))(hs:∀x,foldedSetIterable iter env x=pure x):WF X A (exec (.For target iter body [] pos) env) P σ:=by
 have up:∀i,i<b→Bp (i:Int) (b:Int)=.int i::Bp ((i+1:Nat):Int) (b:Int):=fun i hi=>by
  unfold Bp;rw[show((b:Int)-(i:Int)).toNat=b-i by exact Tp,show((b:Int)-((i+1:Nat):Int)).toNat=b-(i+1)by exact Tp,show b-i=(b-(i+1))+1 by exact Xk hi,List.range_succ_eq_map,List.map_cons,List.map_map];refine congr (congrArg _ ?_) ?_
  ·exact congrArg PV.int (Int.add_zero _)
  ·exact List.map_congr_left fun k O=>congrArg PV.int Wi
 have end_:Bp (b:Int) (b:Int)=[]:=by
  unfold Bp;rw[Int.sub_self];rfl
 refine HU (R1 (P:=Les P) hh (h _ fun g hg σ' w=>⟨a,b,fun r σ=>∃i g,a≤i∧i≤b∧r=Bp (i:Int) (b:Int)∧ok i g∧Wk σ (st i g),rfl,by exact a8,by exact Wh hab hb,by exact a8,by exact Wg hb,⟨a,g,Nat.le_refl _,hab,rfl,hg,w⟩,?_,?_⟩) hs)
 ·intro v r σ q
  obtain⟨i,g,hi,hib,e,hg,w⟩:=q
  rcases Nat.lt_or_ge i b with hlt| hge
  ·rw[up i hlt]at e
   obtain⟨rfl,rfl⟩:=List.cons.inj e;exact O1.wk w (turn i hi hlt g hg (Br _ (Bp ((i+1:Nat):Int) (b:Int)) (Les P)) (fun f hf g hg σ' w=>Br.mk (I:=fun r σ=>∃i g,a≤i∧i≤b∧r=Bp (i:Int) (b:Int)∧ok i g∧Wk σ (st i g)) ⟨i+1,g,Nat.le_succ_of_le hi,hlt,rfl,hg,w⟩ f hf) (fun O h=>.of h) fun O O h=>.of h)
  ·rw[Nat.le_antisymm hib hge,end_]at e;cases e
 ·intro σ q
  obtain⟨i,g,hi,hib,e,hg,w⟩:=q
  rcases Nat.lt_or_ge i b with hlt| hge
  ·rw[up i hlt]at e;cases e
  ·rw[Nat.le_antisymm hib hge]at hg w
   exact⟨_,w,fin g hg⟩
theorem CO{target iter:Expr}{body:List Stmt}{α:Type}(hh:A.handled=none)(xs:List α)(val:α→PV)(st:Nat→G→PS)(ok:Nat→G→Prop)(h:∀Q:PV→PS→Prop,(∀x g,(∀i g,LstV (st i g) x (xs.map val))→ok 0 g→∀σ',Wk σ' (st 0 g)→Q x σ')→WV X A (eval iter env) Q σ)(turn:∀i y,xs[i]? =some y→∀g,ok i g→∀K:PF→PS→Prop,(∀f,PF.go f=true→∀g,ok (i+1) g→∀σ',Wk σ' (st (i+1) g)→K f σ')→(∀σ',P .next σ'→K .brk σ')→(∀v σ',P (.ret v) σ'→K (.ret v) σ')→TG X A env target (val y) (fun O σ'=>WF X A (execs body env) K σ') (st i g))(fin:∀g,ok xs.length g→P .next (st xs.length g))(hs:∀x,foldedSetIterable iter env x=pure x):WF X A (exec (.For target iter body [] pos) env) P σ:=by
 refine HU (MH (P:=Les P) hh (h _ fun x g src hg σ' w=>⟨xs.map val,fun r σ=>∃i g,r=(xs.drop i).map val∧i≤xs.length∧ok i g∧Wk σ (st i g),fun r σ q=>?_,⟨0,g,rfl,Nat.zero_le _,hg,w⟩,fun v r σ q=>?_,fun σ q=>?_⟩) hs)
 ·obtain⟨i,g,_,_,_,w⟩:=q
  exact LstV.wk w (src i g)
 ·obtain⟨i,g,e,hi,hg,w⟩:=q
  cases hy:xs[i]? with
  | none=>rw[List.drop_eq_nil_of_le (List.getElem?_eq_none_iff.mp hy)]at e;cases e
  | some y=>
   rw[A0 hy]at e;obtain⟨rfl,rfl⟩:=List.cons.inj e;exact O1.wk w (turn i y hy g hg (Br _ ((xs.drop (i+1)).map val) (Les P)) (fun f hf g hg σ' w=>Br.mk (I:=fun r σ=>∃i g,r=(xs.drop i).map val∧i≤xs.length∧ok i g∧Wk σ (st i g)) ⟨i+1,g,rfl,(List.getElem?_eq_some_iff.mp hy).1,hg,w⟩ f hf) (fun O h=>.of h) fun O O h=>.of h)
 ·obtain⟨i,g,e,hi,hg,w⟩:=q
  have:i=xs.length:=Nat.le_antisymm hi (List.drop_eq_nil_iff.mp (List.map_eq_nil_iff.mp e.symm));subst this;exact⟨_,w,fin g hg⟩
theorem Oe{elts:List Expr}{kt:Nat}{tpos:Pos}{iter:Expr}{body:List Stmt}{α:Type}(hh:A.handled=none)(xs:List α)(val:α→PV)(st:Nat→G→PS)(ok:Nat→G→Prop)(h:∀Q:PV→PS→Prop,(∀x g,(∀i g,LstV (st i g) x (xs.map val))→ok 0 g→∀σ',Wk σ' (st 0 g)→Q x σ')→∀s,St X σ s→wpAny (md X) A (eval iter env) (Po X (R6 X σ s) Q σ s) NoE s)(turn:∀i y,xs[i]? =some y→∀g,ok i g→∀K:PF→PS→Prop,(∀f,PF.go f=true→∀g,ok (i+1) g→∀σ',Wk σ' (st (i+1) g)→K f σ')→(∀σ',P .next σ'→K .brk σ')→(∀v σ',P (.ret v) σ'→K (.ret v) σ')→TG X A env (.Tuple elts kt tpos) (.tup [.int i,val y]) (fun O σ'=>WF X A (execs body env) K σ') (st i g))(fin:∀g,ok xs.length g→P .next (st xs.length g))(hs:∀x,foldedSetIterable iter env x=pure x):WF X A (exec (.For (.Tuple elts kt tpos) iter body [] pos) env) P σ:=by
 refine HU (R2 (P:=Les P) hh (h _ fun x g src hg σ' w=>⟨xs.map val,fun i r σ=>∃g,r=(xs.drop i).map val∧i≤xs.length∧ok i g∧Wk σ (st i g),fun i r σ q=>?_,⟨g,rfl,Nat.zero_le _,hg,w⟩,fun i v r σ q=>?_,fun i σ q=>?_⟩) hs)
 ·obtain⟨g,_,_,_,w⟩:=q
  exact LstV.wk w (src i g)
 ·obtain⟨g,e,hi,hg,w⟩:=q
  cases hy:xs[i]? with
  | none=>rw[List.drop_eq_nil_of_le (List.getElem?_eq_none_iff.mp hy)]at e;cases e
  | some y=>
   rw[A0 hy]at e;obtain⟨rfl,rfl⟩:=List.cons.inj e;exact O1.wk w (turn i y hy g hg (Br _ () (Les P)) (fun f hf g hg σ' w=>Br.mk (I:=fun(_:Unit) σ=>∃g,(xs.drop (i+1)).map val=(xs.drop (i+1)).map val∧i+1≤xs.length∧ok (i+1) g∧Wk σ (st (i+1) g)) ⟨g,rfl,(List.getElem?_eq_some_iff.mp hy).1,hg,w⟩ f hf) (fun O h=>.of h) fun O O h=>.of h)
 ·obtain⟨g,e,hi,hg,w⟩:=q
  have:i=xs.length:=Nat.le_antisymm hi (List.drop_eq_nil_iff.mp (List.map_eq_nil_iff.mp e.symm));subst this;exact⟨_,w,fin g hg⟩
end
theorem D4{X:Cx}{A:Around}{env:Env}{σ:PS}{P:PF→PS→Prop}{pos:Pos}{test:Expr}{body:List Stmt}(h:∀B:Bool→PS→Prop,B false σ→WT X A env test B σ)(q:P .next σ):WF X A (exec (.While test body [] pos) env) P σ:=
 JF (fun O σ'=>σ'=σ) 0 rfl fun O O e=>by subst e;exact h _ q
theorem Wk.perm{o o':Own}{g:Array GenState}(p:o.Perm o'):Wk ⟨o,g⟩ ⟨o',g⟩:=⟨fun O O h=>p.mem_iff.mpr h,fun O O t=>t.perm p⟩
theorem MF{X:Cx}{A:Around}{env:Env}{σ:PS}{P:PF→PS→Prop}{pos:Pos}{test:Expr}{body orelse:List Stmt}(p:Prop)(h:∀B:Bool→PS→Prop,(∀c:Bool,(c=true↔p)→B c σ)→WT X A env test B σ)(ht:p→WF X A (execs body env) P σ)(hf:¬p→WF X A (execs orelse env) P σ):WF X A (exec (.If test body orelse pos) env) P σ:=W_If (h _ fun c hc=>match c,hc with
 | true,hc=>ht (hc.mp rfl)
 | false,hc=>hf fun hp=>nomatch hc.mpr hp)
theorem Wk.l1{a r:Addr}{m m':List (Str×PV)}{L L':List PV}{o:Own}{g:Array GenState}(h:IV m' m)(e:L=L'):Wk ⟨(a,.ns m)::(r,.list L)::o,g⟩ ⟨(a,.ns m')::(r,.list L')::o,g⟩:=e▸Wk.ns h
theorem MC{X:Cx}{A:Around}{t:Sem Value}{P:PV→PS→Prop}{σ:PS}(h:WV X A t (fun v σ'=>∃σ'',Wk σ' σ''∧P v σ'') σ):WV X A t P σ:=
 fun s hs=>wpAny_mono (h s hs) (fun O s' q=>by
  obtain⟨b,σ',i,t,k,σ'',w,q⟩:=q
  exact⟨b,σ'',i.keep (w.2 X s' t).2,(w.2 X s' t).1,k.trans (w.2 X s' t).2,q⟩) fun O O e=>e
section
variable {X:Cx}{A B:Around}{G₀:Array GenState}{c:Code}{fs:List Frame}{vs:List PV}{o gp:Own}{G:Array GenState}{env:Env}{K:Flow→Sem PySem.Fin}{H:Value→Sem PySem.Fin}{Γ:Type}
theorem Ia{gp':Own}{t:Sem PySem.Fin}(w:Wk ⟨gp++o,G⟩ ⟨gp'++o,G⟩)(h:GS X A G₀ c fs t vs o gp' G):GS X A G₀ c fs t vs o gp G:=Oi (fun s hs=>w.2 X s hs) h
theorem FS{rest:List Stmt}:∀pre:List Stmt,(execs (pre++rest) env).wrap K H id id=(execs pre env).wrap (R5 rest env K H) H id id
 | []=>rfl
 | st::pre=>by
  rw[List.cons_append,execs_cons_wrap,execs_cons_wrap];refine congrArg (fun k=>(exec st env).wrap k H id id) (funext fun f=>?_)
  cases f with
  | next=>exact FS pre
  | _=>rfl
theorem BO{pre rest body:List Stmt}(e:body=pre++rest)(x:Bd A c fs B)(st:Γ→Own×Array GenState)(ok:Γ→Prop)(h:∀K':PF→PS→Prop,(∀g,ok g→∀σ',Wk σ' ⟨(st g).1++o,(st g).2⟩→K' .next σ')→WF X B (execs pre env) K' ⟨gp++o,G⟩)(k:∀g,ok g→GS X A G₀ c fs ((execs rest env).wrap K H id id) vs o (st g).1 (st g).2):GS X A G₀ c fs ((execs body env).wrap K H id id) vs o gp G:=by
 rw[e,FS];refine Ib x (HU (W.mono (h (fun f σ'=>f=.next∧∃g,ok g∧Wk σ' ⟨(st g).1++o,(st g).2⟩) fun g hg O w=>⟨rfl,g,hg,w⟩) fun f σ' q=>?_));obtain⟨rfl,g,hg,w⟩:=q;exact⟨_,w,_,_,rfl,k g hg⟩
theorem GQ{test:Expr}{body orelse:List Stmt}{pos:Pos}(x:Bd A c fs B)(p:Prop)(h:∀C:Bool→PS→Prop,(∀b:Bool,(b=true↔p)→C b ⟨gp++o,G⟩)→WT X B env test C ⟨gp++o,G⟩)(ht:p→GS X A G₀ c fs ((execs body env).wrap K H id id) vs o gp G)(hf:¬p→GS X A G₀ c fs ((execs orelse env).wrap K H id id) vs o gp G):GS X A G₀ c fs ((exec (.If test body orelse pos) env).wrap K H id id) vs o gp G:=ML x (h _ fun b hb=>⟨_,_,rfl,match b,hb with
 | true,hb=>ht (hb.mp rfl)
 | false,hb=>hf fun hp=>nomatch hb.mpr hp⟩)
theorem D9{st:Stmt}{rest:List Stmt}(sg:Γ→Own×Array GenState)(vg:Γ→List PV)(ok:Γ→Prop)(h1:∀K':Flow→Sem PySem.Fin,K' .cont=K .cont→(∀g,ok g→∀o gp G,Wk ⟨gp++o,G⟩ ⟨(sg g).1++o,(sg g).2⟩→G=(sg g).2→GS X A G₀ c fs (K' .next) (vg g) o gp G)→GS X A G₀ c fs ((exec st env).wrap K' H id id) vs o gp G)(h2:∀g,ok g→∀o,GS X A G₀ c fs ((execs rest env).wrap K H id id) (vg g) o (sg g).1 (sg g).2):GS X A G₀ c fs ((execs (st::rest) env).wrap K H id id) vs o gp G:=
 AE (h1 _ rfl fun g hg o gp G w e=>by subst e;exact Ia w (h2 g hg o))
theorem Ff{m:Nat}{target iter:Expr}{body:List Stmt}{pos:Pos}{α:Type}(x:Bd A c fs (AR m))(xs:List α)(val:α→PV)(G':Array GenState)(st:Nat→Γ→(Addr×PO)×Own)(vf:Nat→Γ→List PV)(ok:Nat→Γ→Prop)(h:∀Q:PV→PS→Prop,(∀xv g,(∀i g o,LstV ⟨(st i g).1::(st i g).2++o,G'⟩ xv (xs.map val))→ok 0 g→vs=vf 0 g→∀σ',Wk σ' ⟨(st 0 g).1::(st 0 g).2++o,G'⟩→Q xv σ')→WV X (AR m) (eval iter env) Q ⟨gp++o,G⟩)(turn:∀i y,xs[i]? =some y→∀g,ok i g→∀it ip c' fs' Kb Hb,Bd A c' fs' (AR m)→(∀g,ok (i+1) g→∀o gp',Wk ⟨gp'++o,G'⟩ ⟨(st (i+1) g).1::(it,ip)::(st (i+1) g).2++o,G'⟩→GS X A G₀ c' fs' (Kb .next) (vf (i+1) g) o gp' G'∧GS X A G₀ c' fs' (Kb .cont) (vf (i+1) g) o gp' G')→∀o,TG X (AR m) env target (val y) (fun O σ'=>∃gp',σ'=⟨gp'++o,G'⟩∧GS X A G₀ c' fs' ((execs body env).wrap Kb Hb id id) (vf i g) o gp' G') ⟨(st i g).1::(it,ip)::(st i g).2++o,G'⟩)(fin:∀g,ok xs.length g→∀o,GS X A G₀ c fs (K .next) (vf xs.length g) o ((st xs.length g).1::(st xs.length g).2) G')(hf:∀x,foldedSetIterable iter env x=pure x):GS X A G₀ c fs ((exec (.For target iter body [] pos) env).wrap K H id id) vs o gp G:=by
 refine Oj x (MC (h _ fun xv g src hg hv σ' w=>⟨_,w,xs.map val,fun r vs y q=>∃i g,r=(xs.drop i).map val∧i≤xs.length∧ok i g∧vs=vf i g∧y=(st i g).1∧q=(st i g).2,_,_,_,rfl,⟨0,g,rfl,Nat.zero_le _,hg,hv,rfl,rfl⟩,fun r vs y q o t=>?_,fun v r it ip c' fs' Kb Hb hF hK vs o y q t=>?_,fun vs o y q t=>?_⟩)) hf
 ·obtain⟨i,g,_,_,_,_,rfl,rfl⟩:=t
  exact src i g o
 ·obtain⟨i,g,e,hi,hg,rfl,rfl,rfl⟩:=t
  cases hy:xs[i]? with
  | none=>rw[List.drop_eq_nil_of_le (List.getElem?_eq_none_iff.mp hy)]at e;cases e
  | some z=>
   rw[A0 hy]at e;obtain⟨rfl,rfl⟩:=List.cons.inj e;exact turn i z hy g hg it ip c' fs' Kb Hb hF (fun g hg o gp' w=>(hK _ o _ _ ⟨i+1,g,rfl,(List.getElem?_eq_some_iff.mp hy).1,hg,rfl,rfl,rfl⟩).imp (Ia w) (Ia w)) o
 ·obtain⟨i,g,e,hi,hg,rfl,rfl,rfl⟩:=t
  have:i=xs.length:=Nat.le_antisymm hi (List.drop_eq_nil_iff.mp (List.map_eq_nil_iff.mp e.symm));subst this;exact fin g hg o
theorem MM{m:Nat}(hm:m<500){target iter:Expr}{body:List Stmt}{pos:Pos}{α:Type}(x:Bd A c fs (AR m))(xs:List α)(val:α→PV)(st:Nat→Γ→Addr×PO)(vf:Nat→Γ→List PV)(ok:Nat→Γ→Prop)(h:WV X (AR m) (eval iter env) (fun xv σ₁=>∃(a:Addr) (G₁:Array GenState) (gp2:Own) (G':Array GenState) (g:Γ),xv=.raw (.ref a)∧Wk σ₁ ⟨st 0 g::((a,Ba G₁.size)::gp2)++o,G'⟩∧CC X (AR (m+1)) G₁ (xs.map val) gp2 G'∧Ap G₀ G₁∧ok 0 g∧vs=vf 0 g) ⟨gp++o,G⟩)(turn:∀i y,xs[i]? =some y→∀g,ok i g→∀R G' c' fs' Kb Hb,Bd A c' fs' (AR m)→Ap G₀ G'→(∀g,ok (i+1) g→∀o gp',Wk ⟨gp'++o,G'⟩ ⟨st (i+1) g::R++o,G'⟩→GS X A G₀ c' fs' (Kb .next) (vf (i+1) g) o gp' G')→∀o,TG X (AR m) env target (val y) (fun O σ'=>∃gp',σ'=⟨gp'++o,G'⟩∧GS X A G₀ c' fs' ((execs body env).wrap Kb Hb id id) (vf i g) o gp' G') ⟨st i g::R++o,G'⟩)(fin:∀g,ok xs.length g→∀o G',Ap G₀ G'→GS X A G₀ c fs (K .next) (vf xs.length g) o [st xs.length g] G')(hf:∀x,foldedSetIterable iter env x=pure x):GS X A G₀ c fs ((exec (.For target iter body [] pos) env).wrap K H id id) vs o gp G:=by
 refine Ol hm x (MC (W.mono h fun xv σ₁ t=>?_)) hf;obtain⟨a,G₁,gp2,G',g,rfl,w,hg,he,hk,rfl⟩:=t;refine⟨⟨st 0 g::((a,Ba G₁.size)::gp2++[])++o,G'⟩,by rw[List.append_nil];exact w,a,G₁,_,gp2,fun r vs y q=>∃i g,r=(xs.drop i).map val∧i≤xs.length∧ok i g∧vs=vf i g∧y=st i g∧q=[],_,_,_,rfl,rfl,hg,he,⟨0,g,rfl,Nat.zero_le _,hk,rfl,rfl,rfl⟩,fun v r R G' c' fs' Kb Hb hF hge hK vs o y q t=>?_,fun vs o y q G' hge t=>?_⟩
 ·obtain⟨i,g,e,hi,hg,rfl,rfl,rfl⟩:=t
  cases hy:xs[i]? with
  | none=>rw[List.drop_eq_nil_of_le (List.getElem?_eq_none_iff.mp hy)]at e;cases e
  | some z=>
   rw[A0 hy]at e;obtain⟨rfl,rfl⟩:=List.cons.inj e;refine turn i z hy g hg (R++[]) G' c' fs' Kb Hb hF hge (fun g hg o gp' w=>Ia w (hK _ o _ _ ⟨i+1,g,rfl,(List.getElem?_eq_some_iff.mp hy).1,hg,rfl,rfl,rfl⟩).1) o
 ·obtain⟨i,g,e,hi,hg,rfl,rfl,rfl⟩:=t
  have:i=xs.length:=Nat.le_antisymm hi (List.drop_eq_nil_iff.mp (List.map_eq_nil_iff.mp e.symm));subst this;exact fin g hg o G' hge
end
end
section
open PySem PySem.W PyProof.Rows PySem.Calls PySem.SeqAt PySem.MeetsSeq Builtin Builtin.ObjectAttr
local macro_rules
 | `(tactic| walk_at $s:str) => do
  let t:=match s.getString with
   | "m"=>"~+List.Mem.head _;+A;+List.Mem.tail _ ?,@m"
   | "u"=>"~+Upd.here;+!Upd.there,@u"
   | "k"=>"~+A;=lk_eq _ _ _;+lk_ne rfl ?,@k;+R"
   | "l"=>"~+LstV.frozen;+LstV.own ?,@m"
   | "T"=>"~+trivial;+R"
   | "n"=>"WV _ _ (eval (Expr.Name #) _) _ _~'len _|En.b_len A rfl ?;
'range _|En.b_range A rfl ?;
'isinstance _|En.b_isinstance A rfl ?;
'str _|En.b_str A rfl ?;
'sum _|En.b_sum A rfl ?;
'sorted _|En.b_sorted A rfl ?;
'list _|En.b_list A rfl ?;
'map _|En.b_map A rfl ?;
'max _|En.b_max A rfl ?;
'min _|En.b_min A rfl ?;
'tuple _|En.b_tuple A rfl ?;
'set _|En.b_set A rfl ?;
'_law_line _|En.g_law_line A rfl ?;
'_law_quoted _|En.g_law_quoted A rfl ?;
'_law_indented _|En.g_law_indented A rfl ?;
'_law_written _|En.g_law_written A rfl ?;
'_law_kept _|En.g_law_kept A rfl ?;
'_law_steps _|En.g_law_steps A rfl ?;
'_law_part _|En.g_law_part A rfl ?;
'_law_report _|En.g_law_report A rfl ?;
'indent _|En.g_indent A rfl ?;
'unified_diff _|En.g_unified_diff A rfl ?;
'_check_types _|En.g_check_types A rfl ?;
'_format_range_unified _|En.g_format_range_unified A rfl ?;
'SequenceMatcher _|En.g_SequenceMatcher A rfl ?;
'Match _|En.g_Match A rfl ?"
   | "en"=>"Ev _ _ _ _ (Expr.Name #) _~'len _|Eb_len A rfl;
'range _|Eb_range A rfl;
'isinstance _|Eb_isinstance A rfl;
'str _|Eb_str A rfl;
'sum _|Eb_sum A rfl;
'sorted _|Eb_sorted A rfl;
'list _|Eb_list A rfl;
'map _|Eb_map A rfl;
'max _|Eb_max A rfl;
'min _|Eb_min A rfl;
'tuple _|Eb_tuple A rfl;
'set _|Eb_set A rfl;
'_law_line _|Eg_law_line A rfl;
'_law_quoted _|Eg_law_quoted A rfl;
'_law_indented _|Eg_law_indented A rfl;
'_law_written _|Eg_law_written A rfl;
'_law_kept _|Eg_law_kept A rfl;
'_law_steps _|Eg_law_steps A rfl;
'_law_part _|Eg_law_part A rfl;
'_law_report _|Eg_law_report A rfl;
'indent _|Eg_indent A rfl;
'unified_diff _|Eg_unified_diff A rfl;
'_check_types _|Eg_check_types A rfl;
'_format_range_unified _|Eg_format_range_unified A rfl;
'SequenceMatcher _|Eg_SequenceMatcher A rfl;
'Match _|Eg_Match A rfl"
   | "e"=>"Ev _ _ _ _ (Expr.#) _~Name _ _|@f;=EvI;=EvS;=EvO;=EvT;BinOp _ Operator.Add _ _|EvA @e @e;BinOp _ Operator.Sub _ _|EvM @e @e"
   | "f"=>"~+EvN A rfl rfl rfl;@en;+EvN A rfl @k rfl;+EvC A rfl rfl @m rfl"
   | "es"=>"Evs _ _ _ _ # _~=EsN;(List.cons _ _)|EsC @e @es R"
   | "v"=>"WV _ _ (eval (Expr.#) _) _ _~Name _ _|En.name A rfl rfl rfl ?;Name _ _|@n;Name _ _|En.name A rfl @k rfl ?;Name _ _|En.cell A rfl rfl @m rfl ?;W_int;W_str;W_none;W_bool;BinOp _ Operator.Add _ _|UV @e ?;BinOp _ Operator.Sub _ _|UV @e ?;BinOp _ _ _ _|UBin @e @e ?;W_BinOp;
Subscript _ (Expr.Slice _ _ _ _) _|W_Slice ? (Exists.intro _ G);Subscript _ _ _|USub @e @e ?;Subscript _ _ _|W_Sub ?;Attribute _ _ _|W_Attr rfl G ?;Attribute _ _ _|W_AttrT rfl ?;Tuple _ _ _|UTup @es ?;W_Tuple;Call (Expr.Name _ _) _ 0 _|UCall @e @es @T F R ?;Call (Expr.Name _ _) _ 0 _|W_Call ? rfl;W_IfExp;
Call (Expr.Attribute _ 'append _) 1 0 _|W_app R R R R F R ?;Call (Expr.Attribute _ 'pop _) 0 0 _|W_pop R R R F ?;Call (Expr.Attribute _ 'format _) _ 0 _|W_fmt R R R @T F ?;
Call (Expr.Attribute _ 'join _) _ 0 _|W_strM PySem.F.slot_str_join PySem.F.type_str_join R R R @T F ?;
Call (Expr.Attribute _ 'isspace _) _ 0 _|W_strM PySem.F.slot_str_isspace PySem.F.type_str_isspace R R R @T F ?;
Call (Expr.Attribute _ 'startswith _) _ 0 _|W_strM PySem.F.slot_str_startswith PySem.F.type_str_startswith R R R @T F ?;
Call (Expr.Attribute _ 'splitlines _) _ 0 _|W_strM PySem.F.slot_str_splitlines PySem.F.type_str_splitlines R R R @T F ?;
UnaryOp UnaryOp.Not _ _|W_not ?;UnaryOp UnaryOp.USub (Expr.Constant (Const.int _) _ _) _|W_neg ?;Compare _ 1 1 _|UCmp @e @e ? R;Compare _ 1 1 _|W_cmp ? rfl"
   | "s"=>"WF _ _ (exec (Stmt.#) _) _ _~Assign (List.cons (Expr.Tuple 2 _ _) 0) (Expr.Tuple 2 _ _) _|W_Swap2 rfl (by swE A R) R R R ?;
Assign (List.cons (Expr.Tuple 3 _ _) 0) (Expr.Tuple 3 _ _) _|W_Swap3 rfl (by swE A R) R R R R ?;
Assign (List.cons (Expr.Tuple 3 _ _) 0) (Expr.Tuple 3 _ _) _|W_Assign1 rfl ? R (by swE A R);Assign 1 _ _|W_Assign1 rfl ? R R;W_If;W_ret;
Expr _ _|En.expr A ? R;AugAssign (Expr.Name _ _) _ _ _|En.aug A rfl rfl ?;AugAssign (Expr.Name _ _) _ _ _|En.aug A rfl @k ?;Assign 2 _ _|W_Assign2 rfl ? R R;W_break;W_continue"
   | "o2"=>"~add_ii;sub_ii;iadd_ii;isub_ii;eq_ii;ne_ii;lt_ii;gt_ii;le_ii;ge_ii;eq_ss;ne_ss"
   | "o1"=>"O1 _ _ _ # _ _ _~truthy_bool;truthy_int;truthy_none;(storeName _ _)|En.storeN A rfl ?;(bindName _ _)|En.bind A rfl ?;(assign (Expr.Name _ _) _)|En.store A rfl ?"
   | "t"=>"WT _ _ _ (Expr.#) _ _~Compare _ 1 1 _|UWT @e @e ? R;Compare _ 1 1 _|WT_cmp ? rfl;Name _ _|WT_plain rfl ?;UnaryOp UnaryOp.Not _ _|WT_not ?;BoolOp _ _ _|WT_BoolOp ?;Compare _ 2 2 _|WT_chain ? rfl;Call _ _ _ _|WT_plain rfl ?"
   | "w"=>"#~WV _ _ (eval _ _) _ _|@v;WF _ _ (exec _ _) _ _|@s;O2 _ _ _ _ _ _ _ _|@o2;TG _ _ _ (Expr.Name _ _) _ _ _|En.store A rfl ?;TG _ _ _ (Expr.Name _ _) _ _ _|En.storeC A rfl rfl @m @u ?;
TG_Attr;TG_Sub;O1 _ _ _ _ _ _ _|@o1;Seq_next;Seq_brk;Seq_cont;Seq_ret;W_seq;Es_nil;WEs _ _ _ (List.cons _ _) _ _|UEs @es ?;WEs _ _ _ (List.cons _ _) _ _|Es_cons ? rfl;WT _ _ _ _ _ _|@t;CW _ _ _ _ _ (PV.raw _) _ _ _|CW_raw @T F ?;
And (Kept _ _ (PV.raw (Value.builtin _))) _|And.intro Kept.blt ?;And (Kept _ _ (PV.raw (Value.type _))) _|And.intro Kept.type ?;W_nil;and_cons;all_nil;Opt_none;Opt_some;TGs_nil;TGs_cons;TA_cons;TA_one;K_end A;K_end2 A"
   | _=>""
  if t=="" then Lean.Macro.throwUnsupported else return zf t
theorem Gr{X:Cx}{n:Nat}(hn:n<490){a b k:Int}{Q:PV→PS→Prop}{σ:PS}(q:Q (.mat [.int a,.int b,.int k]) σ):OC X (AR n) (.ref 90) [] [.raw (.ref 143),.int a,.int b,.int k] Q σ:=by
 refine AM (ns:=["_cls","a","b","size"]) (Rc _) rfl ⟨89,_,_,_,rfl,Rd _,rfl,rfl⟩ rfl (by exact Nm fun a b c d=>rfl) rfl (by decide) (by decide) rfl rfl rfl rfl rfl rfl (by exact a32 hn) fun env he=>?_;refine W_seq ?_;refine IR (W_str ?_) he.inter (by rfl);refine W_seq ?_;refine W_ret ?_;refine JH (T:="tuple") (id:="tuple.__new__") rfl rfl (fun O=>rfl) rfl Es Cj (by decide) ?_;walk_at"w";refine⟨rfl,⟨_,_,_,_,rfl⟩,?_⟩
 repeat walk_at"w"
 refine⟨Nat.le_of_ble_eq_true rfl,?_⟩;walk_at"w";refine Fz ?_ (Nat.le_of_ble_eq_true rfl) (.inr rfl);exact .drop (List.sublist_cons_self _ _) q
theorem Na{X:Cx}{A:Around}{σ:PS}{s:Shared}{xa:Addr}{u1 u2 u3:Value}(hs:St X σ s)(TI:Looks (md X) s.heap (typeOf (.ref xa)) (.ref 143)):wpAny (md X) A (Builtin.«object.__init__» ⟨[.ref xa,u1,u2,u3],[]⟩) (fun fin s'=>fin=.done (.ret .none)∧s'=s) NoE s:=by
 unfold Builtin.«object.__init__»
 dsimp only
 rw[if_pos (by rfl)];refine wpAny_bind (TI.here ?_);refine wpAny_bind ((looks_findIn hs.kf (Dc X)).here ?_);refine wpAny_bind ((hs.look (EB X)).here ?_);rw[if_neg (by decide),if_neg (by simp)];exact wpAny_pure ⟨rfl,rfl⟩
theorem MZ{X:Cx}{A:Around}{σ:PS}{s:Shared}{xa:Addr}{u1 u2 u3:Value}(hs:St X σ s)(TI:Looks (md X) s.heap (typeOf (.ref xa)) (.ref 143)):wpAny (md X) A (call (.builtin "object.__init__") [.ref xa,u1,u2,u3]) (fun v s'=>v=.none∧s'=s) NoE s:=by
 have TO:Looks (md X) s.heap (isInstance (.ref xa) (.type "object")) true:=TI.andThen (hs.look (Kh X));refine wpAny_call (codeAny_call_builtin oi_plain entry_oi ?_);refine @check_slot (md X) _ _ s "object.__init__" "object" "__init__" (.ref xa) [u1,u2,u3] [] _ oi_kind oi_split TO (KY _ _ _ _) ?_;refine wpAny_mono (Na hs TI) ?_ (fun O O e=>e);rintro fin s' ⟨rfl,rfl⟩;exact⟨rfl,rfl⟩
theorem IA{X:Cx}{n:Nat}(hn:n<480){a b k:Int}{Q:PV→PS→Prop}{σ:PS}(q:Q (.mat [.int a,.int b,.int k]) σ):OC X (AR n) (.ref 143) [] [.int a,.int b,.int k] Q σ:=fun s vs hs i=>by
 obtain⟨u1,u2,u3,rfl⟩:∃u1 u2 u3,vs=[u1,u2,u3]:=IC (P:=fun vs=>∃u1 u2 u3,vs=[u1,u2,u3]) (fun u1 u2 u3=>⟨u1,u2,u3,rfl⟩) vs i.length;refine codeAny_of_tree ?_;show wpAny _ _ (callAny (.ref 143) _) _ _ _;refine nd_load (hs.hz _ _ (J6 _)) ?_;show wpAny _ _ (callAny.viaDunder (.ref 143) _) _ _ _;unfold callAny.viaDunder;refine wpAny_bind ((looks_specialIn hs.kf (I8 X)).here ?_)
 dsimp only
 rw[tc_bind];refine wpAny_bind (wpAny_pure (wpAny_bind (wpAny_pure ?_)));refine wpAny_pure (a:=PySem.Fin.again (.call (.builtin "type.__call__") ⟨.ref 143::[u1,u2,u3],[]⟩)) (And.intro rfl ?_);refine codeAny_call_builtin_at (Code.quiet_builtin _ (by decide+kernel)) entry_typeCall (check_slot tc_kind tc_split (hs.look (I5 X)) (tc_args _ _ _) ?_);unfold Builtin.«type.__call__»
 dsimp only
 rw[if_neg (by decide)];refine wpAny_bind ((hs.look (Kj X)).here ?_);rw[if_neg (by decide)];refine wpAny_bind ((hs.look (EB X)).here ?_)
 dsimp only
 refine wpAny_bind (cls_bind hs.kf (DY X) (Ki X) (wpAny_call (sm_get (s:={s with toks:=s.toks+1}) hs.kf (OQ X) (handed_on rfl ?_))));obtain⟨t₁,k₁⟩:=hs.same (s':={s with toks:=s.toks+1}) rfl rfl rfl;refine wpAny_bind (wpAny_holding ?_);refine Aq AR.under ?_;refine((Gr (Q:=fun v σ'=>v=.mat [.int a,.int b,.int k]∧σ'=σ) (by exact a33 hn) ⟨rfl,rfl⟩).on).run t₁ (.cons (.raw _) (i.keep k₁)) fun obj s₂ v σ₂ iv t₂ k₂ q'=>?_;obtain⟨rfl,rfl⟩:=q'
 cases iv with
 | mat ho hc hd hm il=>
  rename_i xa ox us nn
  have TI:Looks (md X) s₂.heap (typeOf (.ref xa)) (.ref 143):=(by
   have:=(Looks.ld (M:=md X) (part:=none) ho).andThen (f:=fun o=>pure o.cls) .now
   rw[hc]at this;exact this)
  unfold isInstance callSpecial? specialOf;refine wpAny_bind (wpAny_bind (TI.here ?_));refine(t₂.look (LT X)).here ?_;rw[if_neg (by decide)];refine wpAny_bind (wpAny_holding (wpAny_bind (wpAny_bind (TI.here ((looks_findIn t₂.kf (Dc X)).here ?_)))))
  dsimp only
  refine wpAny_holding ?_;rw[oi_bind];refine wpAny_bind (wpAny_pure ?_);refine wpAny_bind (wpAny_mono (MZ t₂ TI) (fun r s₃ z=>?_) fun O O e=>e);obtain⟨rfl,rfl⟩:=z;refine wpAny_pure ?_
  dsimp only
  rw[if_neg (by decide)];exact wpAny_pure ⟨_,_,.mat ho hc hd hm il,t₂,k₁.trans k₂,q⟩
theorem set_seq1{X:Cx}{n:Nat}(hn:n<490){x dx:Addr}{k:Nat}{ys:List Str}{m:List (Str×PV)}{Q:PV→PS→Prop}{r:Own}{g:Array GenState}(hk:k≤50)(hm:m.lookup ("a":Str)=some PV.none)(q:Q .none ⟨(x,.inst 250 dx)::(dx,.fld (k+3) (Ao (Ao (Ao m "a" (.lst (Ac ys))) "matching_blocks" .none) "opcodes" .none))::r,g⟩):OC X (AR n) (.ref 182) [] [.raw (.ref x),.lst (Ac ys)] Q ⟨(x,.inst 250 dx)::(dx,.fld k m)::r,g⟩:=by
 refine AM (ns:=["self","a"]) (J4 _) rfl ⟨181,_,_,_,rfl,NI _,rfl,rfl⟩ rfl (by exact EH fun a b=>rfl) rfl (by decide) (by decide) rfl rfl rfl rfl rfl rfl (by exact a32 hn) fun env he=>?_;refine W_seq ?_;refine IR (W_str ?_) he.inter (by rfl)
 repeat walk_at"w"
 refine AD (dx:=dx) (by exact .tail _ (.head _)) (by exact .tail _ (.tail _ (.head _))) hm rfl (by rfl) ?_;refine Kp rfl ?_;refine truthy_bool ?_
 dsimp only[isNone,Bool.false_eq_true,if_false]
 rw[if_neg Bool.false_ne_true]
 repeat walk_at"w"
 refine A1 (by exact .tail _ (.head _)) (by exact .tail _ (.tail _ (.head _))) (by rfl) (by exact aj4 hk) (by exact .there (.there .here)) ?_
 repeat walk_at"w"
 refine A1 (by exact .tail _ (.head _)) (by exact .tail _ (.tail _ (.head _))) (by rfl) (by exact aj3 hk) (by exact .there (.there .here)) ?_
 repeat walk_at"w"
 refine A1 (by exact .tail _ (.head _)) (by exact .tail _ (.tail _ (.head _))) (by rfl) (by exact aj2 hk) (by exact .there (.there .here)) ?_
 repeat walk_at"w"
 exact .drop (List.sublist_cons_self _ _) q
noncomputable def LI(n:Nat):Str:=Str.ofString (toString (n:Int))
noncomputable def AH(s c:Nat):Str:=if c=1 then LI (s+1)else LI (if c=0 then s else s+1)++Str.ofString ","++LI c
theorem Dw{X:Cx}{n:Nat}(hn:n<490){s e:Nat}(hs:s≤e)(he:e≤900){Q:PV→PS→Prop}{σ:PS}(q:Q (.str (AH s (e-s))) σ):OC X (AR n) (.ref 261) [] [.int s,.int e] Q σ:=by
 refine AM (ns:=["start","stop"]) (GD _) rfl ⟨260,_,_,_,rfl,N9 _,rfl,rfl⟩ rfl (by exact EH fun a b=>rfl) rfl (by decide) (by decide) rfl rfl rfl rfl rfl rfl (by exact a32 hn) fun env he=>?_;refine W_seq ?_
 repeat walk_at"w"
 by_cases h1:(e:Int)-s=1
 ·simp only[beq_iff_eq.mpr h1,if_true]
  repeat walk_at"w"
  skip
  refine⟨_,rfl,?_⟩
  repeat walk_at"w"
  refine Tb (by exact T6) (by exact Yl (by assumption) h1) ?_;refine .drop (List.sublist_cons_self _ _) ?_;unfold AH at q;rw[if_pos (by exact Yk h1)]at q;exact q
 ·simp only[beq_eq_false_iff_ne.mpr h1,Bool.false_eq_true,if_false]
  repeat walk_at"w"
  have hc:(e:Int)-s=((e-s:Nat):Int):=by exact Yj hs
  by_cases h0:(e:Int)-s=0
  ·have hb:(!((e:Int)-s != 0))=true:=by rw[h0];rfl
   simp only[hb,if_true]
   repeat walk_at"w"
   skip
   repeat walk_at"w"
   skip
   refine⟨_,rfl,?_⟩
   repeat walk_at"w"
   refine Mm (by exact Yi) (by exact Yh (by assumption) h0) (by exact Yg h0) (by exact Ye h0) ?_;refine .drop (List.sublist_cons_self _ _) ?_;unfold AH at q;rw[if_neg (by exact Yd h0),if_pos (by exact Yc h0)]at q;rw[hc,show(s:Int)+1-1=s by exact Yb];exact q
  ·have hb:(!((e:Int)-s != 0))=false:=by simp[h0]
   simp only[hb,Bool.false_eq_true,if_false]
   repeat walk_at"w"
   skip
   refine⟨_,rfl,?_⟩
   repeat walk_at"w"
   refine Mm (by exact T6) (by exact XZ (by assumption) hc) (by exact XY hc) (by exact XX (by assumption)) ?_;refine .drop (List.sublist_cons_self _ _) ?_;unfold AH at q;rw[if_neg (by exact XW h1),if_neg (by exact XV hc h0)]at q;rw[hc];exact q
noncomputable abbrev Pr:=Int×Str
noncomputable def ln(p:Pr):Str:=Txt.mul "> " p.1++p.2++"\n"
noncomputable def pr(p:Pr):PV:=.tup [.int p.1,.str p.2]
noncomputable def Good(p:Pr):Prop:=0≤p.1∧p.1≤100∧p.2.length≤10
theorem Good.len{p:Pr}(h:Good p):(Txt.mul "> " p.1).length≤200:=by
 have:=len_mul "> " p.1
 have h2:("> ":Str).length=2:=by decide+kernel
 rw[h2]at this;obtain⟨h0,h1,_⟩:=h;rw[if_neg (by simp;exact Uo h0)]at this;omega
theorem IZ:("\n":Str).length=1:=by decide+kernel
theorem Good.ln_len{p:Pr}(h:Good p):(ln p).length≤220:=by
 unfold ln;rw[Str.length_append,Str.length_append,IZ];have:=h.len;have:=h.2.2;exact Xv (by assumption) this
theorem EI{X:Cx}{n:Nat}(hn:n<490){p:Pr}(hp:Good p){Q:PV→PS→Prop}{σ:PS}(q:Q (.str (ln p)) σ):OC X (AR n) (.ref 283) [] [pr p] Q σ:=by
 refine AM (ns:=["pair"]) (Ek _) rfl ⟨282,_,_,_,rfl,N6 _,rfl,rfl⟩ rfl (by exact Fq fun a=>rfl) rfl (by decide) (by decide) rfl rfl rfl rfl rfl rfl (by exact a32 hn) fun env he=>?_;refine W_seq ?_;have hl:=hp.len;have hw:=hp.2.2
 repeat walk_at"w"
 refine A4 (j:=0) (x:=.int p.1) rfl rfl (by decide) (by decide) (fun O O=>rfl) ?_;refine QN (mulOk_of (x:="> ") 2 100 (by decide+kernel) hp.2.1 (by have:=hp.1;exact Xu this) (by decide) (by decide)) ?_
 repeat walk_at"w"
 refine A4 (j:=1) (x:=.str p.2) rfl rfl (by decide) (by decide) (fun O O=>rfl) ?_;refine Bm (by rw[sizeLine_eq];exact Xs hl hw) ?_
 repeat walk_at"w"
 refine Bm (by rw[Str.length_append,IZ,sizeLine_eq];exact Xr hl hw) ?_;exact .drop (List.sublist_cons_self _ _) q
theorem E6{rs:List (Str×Addr)}{a:Str}(h:rs.map Prod.fst=[a]):∃c,rs=[(a,c)]:=by
 match rs,h with
 | [(n,c)],e=>simp only[List.map_cons,List.map_nil,List.cons.injEq,and_true]at e;exact⟨c,by rw[e]⟩
theorem Fy{rs:List (Str×Addr)}{a b:Str}(h:rs.map Prod.fst=[a,b]):∃c d,rs=[(a,c),(b,d)]:=by
 match rs,h with
 | (n,c)::r,e=>
  simp only[List.map_cons,List.cons.injEq]at e;obtain⟨d,rfl⟩:=E6 e.2;exact⟨c,d,by rw[e.1]⟩
theorem Ha{rs:List (Str×Addr)}{a b c:Str}(h:rs.map Prod.fst=[a,b,c]):∃x y z,rs=[(a,x),(b,y),(c,z)]:=by
 match rs,h with
 | (n,x)::r,e=>
  simp only[List.map_cons,List.cons.injEq]at e;obtain⟨y,z,rfl⟩:=Fy e.2;exact⟨x,y,z,by rw[e.1]⟩
noncomputable abbrev HW:=Str×Pr
noncomputable def sp(t:HW):PV:=.tup [.str t.1,pr t.2]
noncomputable def cnt(o:Str)(st:List HW):Nat:=(st.filter fun x=>x.1 != o).length
noncomputable def Hq:PV→Str
 | .tup (.str t::_)=>t
 | _=>""
theorem FR(o:Str)(st:List HW):(((st.map sp).filter fun v=>Hq v != o).map _root_.id).length=cnt o st:=by
 unfold cnt;rw[List.map_id,List.filter_map,List.length_map]
 rfl
theorem Hc{X:Cx}{A:Around}{nm:List (Str×NameKind)}{c:Addr}{e:Str}{st:List HW}{o:Own}{g:Array GenState}{i1 i2 i3 i4 i5:Pos}{k:Nat}(he:(nm.lookup ("step":Str))=some .local)(ho:nm.lookup ("other":Str)=some .cell)(hm:(c,PO.cell (some (PV.str e)))∈o):IT X A nm [("other",c)] "step" [.Compare (.Subscript (.Name "step" i1) (.Constant (.int 0) k i2) i3) [.NotEq] [.Name "other" i4] i5] (st.map sp) (fun v=>Hq v != e) o g:=by
 intro e' hen D ys v hv;obtain⟨t,ht,rfl⟩:=List.mem_map.mp hv;refine GP (WT_cmp (W_Sub ?_) rfl);refine En.name hen he (v:=sp t) rfl rfl (W_int ?_);show O2 X A Is (subscriptTail _ _) (PV.tup [.str t.1,pr t.2]) (.int 0) _ _;refine A4 (j:=0) (x:=.str t.1) rfl rfl (by decide) (by decide) (fun O O=>rfl) ?_;refine En.cell hen ho (by rfl) (.tail _ (.tail _ hm)) rfl ?_
 repeat walk_at"w"
 exact⟨rfl,rfl⟩
theorem GF{X:Cx}{A:Around}{nm:List (Str×NameKind)}{cl:List (Str×Addr)}{x:Str}{p:PV→Bool}{l:List PV}{o:Own}{g:Array GenState}{i1:Pos}(hx:nm.lookup x=some .local)(hd:(x==("__debug__":Str))=false):Om X A nm cl x (.Name x i1) l p _root_.id o g:=by
 intro e' hen D ys v hv hp;refine En.name hen hx ?_ hd ⟨rfl,rfl⟩;simp[List.lookup]
theorem Ah{b:Bool}{p q:Prop}(h:b=true)(x:p):if b=true then p else q:=by rw[if_pos h];exact x
theorem Ab{b:Bool}{p q:Prop}(h:b=false)(x:q):if b=true then p else q:=by rw[if_neg (by rw[h];exact Bool.false_ne_true)];exact x
theorem Hd{X:Cx}{A:Around}{a:Nat}{Q:PV→PS→Prop}{σ:PS}(h:a≤1900)(q:Q (.str (LI a)) σ):ON X A Is (fun l=>call (.type "str") l) [.int a] Q σ:=
 RA (by have:=Nat.log2_le_self (a:Int).natAbs;omega) q
theorem B3{a:Nat}(h:a≤100000):(LI a).length≤10:=toString_length_le (k:=10) (by exact a23) (by decide) (by exact Zb h)
theorem Df{a c:Nat}(h:a≤10000)(h':c≤10000):(AH a c).length≤30:=by
 unfold AH;split
 ·have:=B3 (a:=a+1) (by exact TN h);exact Za this
 ·rw[Str.length_append,Str.length_append]
  have h1:=B3 (a:=if c=0 then a else a+1) (by split<;>(first| exact TM h| exact TN h));have h2:=B3 (a:=c) (by exact TM h')
  have h3:(Str.ofString ",").length=1:=by decide+kernel
  exact YZ h1 h2 h3
theorem Jj{X:Cx}{A:Around}{o:Str}{l:List HW}{Q:PV→PS→Prop}{σ:PS}(h:l.length≤900)(q:Q (.int (cnt o l)) σ):ON X A Is (fun l=>call (.builtin "len") l) [.lst (((l.map sp).filter fun v=>Hq v != o).map _root_.id)] Q σ:=by
 have hc1:cnt o l≤l.length:=List.length_filter_le _ _;refine Cl .frozen (by rw[FR];exact YY h hc1) ?_;rw[FR];exact q
theorem H4{X:Cx}{n:Nat}(hn:n<490){st:List HW}{s e:Nat}{o:Str}(hst:st.length≤900){Q:PV→PS→Prop}{σ:PS}(q:Q (.str (AH (cnt o (st.take s)) (cnt o ((st.take e).drop s)))) σ):OC X (AR n) (.ref 317) [] [.lst (st.map sp),.int s,.int e,.str o] Q σ:=by
 refine B5 (ns:=["steps","s","end","other"]) (G7 _) rfl ⟨316,_,_,_,rfl,N0 _,rfl,rfl⟩ rfl (.plain (by exact Nm fun a b c d=>rfl) rfl) rfl rfl rfl rfl rfl rfl (by exact a32 hn) fun env rs hrs he=>?_;obtain⟨c,rfl⟩:=E6 (a:="other") (hrs.trans (by rfl));refine AP (En.storeN he rfl ?_);refine AP (En.storeN he rfl ?_);refine AP (En.storeN he rfl ?_);refine AP (Ce (c:=c) (w:=none) he rfl rfl (.tail _ (.head _)) (.there .here) ?_);refine D6 ?_;refine W_seq ?_;have hc1:∀l:List HW,cnt o l≤l.length:=fun l=>List.length_filter_le _ _;have hb0:cnt o (st.take s)≤900:=Nat.le_trans (hc1 _) (by rw[List.length_take];exact TL hst);have hb1:cnt o ((st.take e).drop s)≤900:=Nat.le_trans (hc1 _) (by rw[List.length_drop,List.length_take];exact TK hst)
 repeat walk_at"w"
 refine Bo (x:="step") rfl he (fun v=>Hq v != o) _root_.id (by rfl) (by decide) rfl (by decide) (by rfl) ?_ (fun O=>rfl)
 repeat walk_at"w"
 refine⟨st.map sp,none,some (s:Int),none,.frozen,by rw[List.length_map,sizeLine_eq];exact TJ hst,.none,.int _,.none,by decide,?_⟩;rw[CG,←List.map_take];refine⟨_,_,_,rfl,.list (fun g=>.frozen),by rw[List.length_map,List.length_take,sizeLine_eq];exact YX hst,Hc rfl rfl (.tail _ (.head _)),GF rfl rfl,?_⟩
 repeat walk_at"w"
 refine Jj (l:=st.take s) (by rw[List.length_take];exact TL hst) ?_
 repeat walk_at"w"
 refine Bo (x:="step") rfl he (fun v=>Hq v != o) _root_.id (by rfl) (by decide) rfl (by decide) (by rfl) ?_ (fun O=>rfl)
 repeat walk_at"w"
 refine⟨st.map sp,some (s:Int),some (e:Int),none,.frozen,by rw[List.length_map,sizeLine_eq];exact TJ hst,.int _,.int _,.none,by decide,?_⟩;rw[B2,←List.map_take,←List.map_drop];refine⟨_,_,_,rfl,.list (fun g=>.frozen),by rw[List.length_map,List.length_drop,List.length_take,sizeLine_eq];exact YW hst,Hc rfl rfl (.tail _ (.head _)),GF rfl rfl,?_⟩
 repeat walk_at"w"
 refine Jj (l:=(st.take e).drop s) (by rw[List.length_drop,List.length_take];exact TK hst) ?_
 repeat walk_at"w"
 unfold AH at q;by_cases h1:cnt o ((st.take e).drop s)=1
 ·refine Ah (by simp[h1]) ?_
  rw[if_pos h1]at q
  repeat walk_at"w"
  rw[show(cnt o (st.take s):Int)+1=((cnt o (st.take s)+1:Nat):Int)by exact a77];refine Hd (by exact TH hb0) ?_;exact .drop ((List.sublist_cons_self _ _).trans (List.sublist_cons_self _ _)) q
 ·refine Ab (by simp;exact YV h1) ?_
  rw[if_neg h1]at q
  repeat walk_at"w"
  have hz:(Str.ofString ",").length=1:=by decide+kernel
  by_cases h2:1<cnt o ((st.take e).drop s)
  ·refine Ah (by simp;exact YU h2) ?_
   rw[if_neg (by exact YT h2)]at q
   repeat walk_at"w"
   rw[show(cnt o (st.take s):Int)+1=((cnt o (st.take s)+1:Nat):Int)by exact a77];refine Hd (by exact TH hb0) ?_;have l1:=B3 (a:=cnt o (st.take s)+1) (by exact YS hb0);have l2:=B3 (a:=cnt o ((st.take e).drop s)) (by exact TF hb1)
   repeat walk_at"w"
   refine Bm (by rw[sizeLine_eq];exact TE hz l1) ?_
   repeat walk_at"w"
   refine Hd (by exact TD hb1) ?_;refine Bm (by rw[Str.length_append,sizeLine_eq];exact TC hz l1 l2) ?_;exact .drop ((List.sublist_cons_self _ _).trans (List.sublist_cons_self _ _)) q
  ·refine Ab (by simp;exact YR h2) ?_
   rw[if_pos (by exact YQ h1 h2)]at q
   repeat walk_at"w"
   refine Hd (by exact TD hb0) ?_;have l1:=B3 (a:=cnt o (st.take s)) (by exact TF hb0);have l2:=B3 (a:=cnt o ((st.take e).drop s)) (by exact YO h2)
   repeat walk_at"w"
   refine Bm (by rw[sizeLine_eq];exact TE hz l1) ?_
   repeat walk_at"w"
   refine Hd (by exact YN h2) ?_;refine Bm (by rw[Str.length_append,sizeLine_eq];exact TC hz l1 l2) ?_;exact .drop ((List.sublist_cons_self _ _).trans (List.sublist_cons_self _ _)) q
noncomputable def BZ:Nat→Str
 | 0=>" "
 | 1=>"-"
 | _=>"+"
noncomputable abbrev ISt:=Nat×Pr
noncomputable def ist(x:ISt):HW:=(BZ x.1,x.2)
noncomputable def Ak(its:List ISt):List Nat:=its.map (·.1)
noncomputable def B4(l:List Nat):List PV:=l.map fun(k:Nat)=>PV.int (k:Int)
noncomputable def Cy:PV→Nat
 | .int k=>k.toNat
 | _=>0
noncomputable def Ej(its:List ISt)(s e:Nat):Str:="@@ "++("-"++AH (Ae 2 ((Ak its).take s)) (Ae 2 (((Ak its).take e).drop s))++" +"++AH (Ae 1 ((Ak its).take s)) (Ae 1 (((Ak its).take e).drop s)))++" @@\n"
noncomputable def MU(x:ISt):Str:=BZ x.1++ln x.2
noncomputable def dfl:ISt:=(0,(0,""))
noncomputable def Cs(its:List ISt)(sh:List Nat)(s:Nat):List Str:=(if AQ sh s then[Ej its s (Bi sh (its.length+1) s)]else[])++[MU (its.getD s dfl)]
noncomputable def Bv(sh:List Nat):List Str:=if sh=[]then[]else["--- old\n","+++ new\n"]
noncomputable def Cv(n:Nat)(its:List ISt):List Str:=Bv (Av n (Ak its))++(Av n (Ak its)).flatMap (Cs its (Av n (Ak its)))
theorem BQ(a:Nat):Bp 0 (a:Int)=B4 (List.range a):=by
 unfold Bp B4;rw[show((a:Int)-0).toNat=a by exact Z7]
 exact List.map_congr_left fun i O=>by rw[Int.zero_add]
theorem BG(P:Nat→Bool):∀l:List Nat,(B4 l).filter (fun v=>P (Cy v))=B4 (l.filter P)
 | []=>rfl
 | a::l=>by
  have ih:=BG P l;unfold B4 at ih ⊢;rw[List.map_cons,List.filter_cons,List.filter_cons,ih];show(if P ((a:Int).toNat)=true then _ else _)=_;rw[Int.toNat_natCast]
  split<;>rfl
theorem Ds{l:List Nat}{v:PV}(h:v∈B4 l):∃k:Nat,k∈l∧v=.int (k:Int):=by
 obtain⟨k,hk,rfl⟩:=List.mem_map.mp h;exact⟨k,hk,rfl⟩
theorem LM(l:List Nat):(B4 l).length=l.length:=List.length_map _
theorem BW{α:Type}{l:List α}{k:Nat}{d:α}(h:k<l.length):l[k]? =some (l.getD k d):=by
 rw[List.getD_eq_getElem?_getD,List.getElem?_eq_getElem h];rfl
theorem JQ(t:Nat):(BZ t != " ")= !(Nat.beq t 0):=by
 match t with
 | 0=>decide+kernel
 | 1=>decide+kernel
 | t+2=>show((("+":Str) != " ")=_);rw[show(("+":Str) != " ")=true by decide+kernel];rfl
theorem Jc(c k k2:Nat):Cz c k k2=decide (k≤k2+c∧k2≤k+c):=by
 unfold Cz;rw[Bool.eq_iff_iff];simp
theorem QL{c k k2:Nat}(h:(k:Int)-c≤k2){σ:PS}:decide ((k2:Int)≤k+c)=Cz c k (Cy (.int (k2:Int)))∧σ=σ:=by
 refine⟨?_,rfl⟩;show _=Cz c k ((k2:Int).toNat);rw[Int.toNat_natCast,Jc];exact decide_eq_decide.mpr ⟨fun e=>⟨by exact Z6 h,by exact Z5 e⟩,fun e=>by exact Z4 e⟩
theorem QM{c k k2:Nat}(h:¬(k:Int)-c≤k2):false=Cz c k (Cy (.int (k2:Int))):=by
 show _=Cz c k ((k2:Int).toNat);rw[Int.toNat_natCast,Jc];exact(decide_eq_false (by exact Z3 h)).symm
theorem LK(c k:Nat)(l:List Nat):(!(B4 (l.filter (Cz c k))).isEmpty)=l.any (Cz c (Cy (.int (k:Int)))):=by
 show _=l.any (Cz c ((k:Int).toNat));rw[Int.toNat_natCast]
 induction l with
 | nil=>rfl
 | cons a l ih=>
  rw[List.filter_cons,List.any_cons]
  cases h:Cz c k a with
  | true=>rfl
  | false=>rw[if_neg Bool.false_ne_true,Bool.false_or];exact ih
theorem FE(l:List Nat):B4 l=Aj (l.map fun(k:Nat)=>(k:Int)):=by
 unfold B4 Aj;rw[List.map_map];rfl
theorem FK(l:List Nat)(k:Nat):(l.map fun(k:Nat)=>(k:Int)).contains (k:Int)=Eg l k:=by
 unfold Eg
 induction l with
 | nil=>rfl
 | cons a l ih=>
  rw[List.map_cons,List.contains_cons,List.any_cons,ih]
  congr 1
  rw[Bool.eq_iff_iff];simp;exact Z2
theorem Nq{X:Cx}{A:Around}{l:List Nat}{k:Nat}{Q:PV→PS→Prop}{σ:PS}(q:Q (.bool (Eg l k)) σ):O2 X A Is (compareOp .In) (.int k) (.lst (B4 l)) Q σ:=by
 rw[FE];refine Nr .frozen ?_;rw[FK];exact q
theorem I0{X:Cx}{A:Around}{l:List Nat}{k:Nat}{Q:PV→PS→Prop}{σ:PS}(q:Q (.bool (AQ l k)) σ):O2 X A Is (compareOp .NotIn) (.int ((k:Int)-1)) (.lst (B4 l)) Q σ:=by
 rw[FE];refine I1 .frozen ?_
 have:(!(l.map fun(k:Nat)=>(k:Int)).contains ((k:Int)-1))=AQ l k:=by
  unfold AQ
  cases k with
  | zero=>
   have:(l.map fun(k:Nat)=>(k:Int)).contains (((0:Nat):Int)-1)=false:=by
    rw[Bool.eq_false_iff];intro h;rw[List.contains_iff_mem]at h;obtain⟨a,_,ha⟩:=List.mem_map.mp h;exact Z1 ha
   rw[this];rfl
  | succ k=>
   rw[show((k+1:Nat):Int)-1=(k:Int)by exact Z0,FK]
   rfl
 rw[this];exact q
theorem HN(o:Nat)(ho:o=1∨o=2)(its:List ISt)(h:∀x∈its,x.1≤2):cnt (BZ o) (its.map ist)=Ae o (Ak its):=by
 unfold cnt Ae Ak;rw[List.filter_map,List.filter_map,List.length_map,List.length_map]
 congr 1
 refine List.filter_congr fun x hx=>?_;have h2:=h x hx;show(BZ x.1 != BZ o)= !(Nat.beq x.1 o);obtain⟨t,r⟩:=x;simp only at h2 ⊢
 match t,h2 with
 | 0,_=>rcases ho with rfl| rfl<;>decide+kernel
 | 1,_=>rcases ho with rfl| rfl<;>decide+kernel
 | 2,_=>rcases ho with rfl| rfl<;>decide+kernel
theorem Ip{l:List Nat}:∀{f e:Nat},Eg l e=false→Bi l f e=e
 | 0,_,_=>rfl
 | f+1,e,h=>by unfold Bi;rw[h];rfl
theorem Ca(its:List ISt)(sh:List Nat):∀done:List Nat,(done.flatMap (Cs its sh)).length≤2*done.length
 | []=>by simp
 | k::done=>by
  rw[List.flatMap_cons,List.length_append,List.length_cons];have:=Ca its sh done
  have:(Cs its sh k).length≤2:=by
   unfold Cs
   split<;>simp
  exact a93 (by assumption) this
theorem Cq(sh:List Nat):(Bv sh).length≤2:=by unfold Bv;split<;>simp
theorem LO{l:List Nat}{k:Nat}(h:Eg l k=true):k∈l:=by
 unfold Eg at h;obtain⟨a,ha,e⟩:=List.any_eq_true.mp h;rw[Nat.eq_of_beq_eq_true e];exact ha
theorem GY(a:List Str)(x:Str):Ac a++[.str x]=Ac (a++[x]):=by simp[Ac]
theorem HY{L ra:Addr}{m:List (Str×PV)}{r r':List PV}{o:Own}{g:Array GenState}(h:r=r'):(⟨(L,.ns m)::(ra,.list r)::o,g⟩:PS)=⟨(L,.ns m)::(ra,.list r')::o,g⟩:=by rw[h]
noncomputable def o8(ra ch cn cst:Addr)(L:List PV)(its:List ISt)(c:Nat)(o:Own):Own:=(ra,.list L)::(ch,.cell (some (.lst (B4 (AL (Ak its))))))::(cn,.cell (some (.int c)))::(cst,.cell (some (.lst ((its.map ist).map sp))))::o
theorem ID{X:Cx}{n:Nat}(hn:n<480){its:List ISt}{c:Nat}(hc:c≤10)(hlen:its.length≤100)(hgood:∀x∈its,Good x.2∧x.1≤2){Q:PV→PS→Prop}{σ:PS}(q:Q (.lst (Ac (Cv c its))) σ):OC X (AR n) (.ref 322) [] [.lst ((its.map ist).map sp),.int c] Q σ:=by
 refine B5 (ns:=["steps","n"]) (Jr _) rfl ⟨321,_,_,_,rfl,Nz _,rfl,rfl⟩ rfl (.plain (by exact EH fun a b=>rfl) rfl) rfl rfl rfl rfl rfl rfl (by exact a10 hn) fun env rs hrs he=>?_;obtain⟨ch,cn,cst,rfl⟩:=Ha (a:="changes") (b:="n") (c:="steps") (hrs.trans (by rfl));show TBs X _ env _ _ _ ⟨(env.locals,.ns [])::(ch,.cell none)::(cn,.cell none)::(cst,.cell none)::σ.own,σ.gens⟩;refine AP (Ce (c:=cst) (w:=none) he rfl rfl (.tail _ (.tail _ (.tail _ (.head _)))) (.there (.there (.there .here))) ?_);refine AP (Ce (c:=cn) (w:=none) he rfl rfl (.tail _ (.tail _ (.head _))) (.there (.there .here)) ?_);refine D6 ?_;refine W_seq ?_;have hcl:(AL (Ak its)).length≤100:=Nat.le_trans (List.length_filter_le _ _) (by rw[List.length_range];simp only[Ak,List.length_map];exact Zz hlen);refine W_Assign1 rfl ?_ (by exact he.swap_no (by rfl)) (by rfl);refine Bo (x:="s") rfl he (fun v=> !(Nat.beq ((Ak its).getD (Cy v) 0) 0)) _root_.id (by rfl) (by decide) rfl (by decide) (by rfl) ?_ (fun O=>rfl)
 repeat walk_at"w"
 refine Cl .frozen (by rw[List.length_map,List.length_map];exact Ua hlen) ?_
 repeat walk_at"w"
 refine C9 ?_;rw[List.length_map,List.length_map];refine⟨Bp 0 its.length,_,_,rfl,.range (by decide) (by decide) (by exact a8) (by exact TZ hlen),by rw[Co,sizeLine_eq];exact TY hlen,?_,GF rfl rfl,?_⟩
 ·intro e' hen D ys v hv
  rw[BQ]at hv;obtain⟨k,hk,rfl⟩:=Ds hv;rw[List.mem_range]at hk;refine GP (WT_cmp (W_Sub (W_Sub ?_)) rfl)
  repeat walk_at"w"
  refine An (x:=sp (ist (its.getD k dfl))) .frozen (by exact a23) (by rw[Int.toNat_natCast,List.getElem?_map,List.getElem?_map,BW hk];rfl) (by exact a76 hlen hk) (fun O O=>rfl) ?_
  repeat walk_at"w"
  refine A4 (l:=[.str (BZ (its.getD k dfl).1),pr (its.getD k dfl).2]) (j:=0) (x:=.str (BZ (its.getD k dfl).1)) rfl rfl (by decide) (by decide) (fun O O=>rfl) ?_
  repeat walk_at"w"
  refine⟨?_,rfl⟩;show(BZ (its.getD k dfl).1 != " ")= !(Nat.beq ((Ak its).getD (k:Int).toNat 0) 0);rw[JQ,Int.toNat_natCast]
  have:(Ak its).getD k 0=(its.getD k dfl).1:=by
   unfold Ak;rw[List.getD_eq_getElem?_getD,List.getElem?_map,List.getD_eq_getElem?_getD,List.getElem?_eq_getElem hk];rfl
  rw[this]
 rw[BQ,BG (fun k=> !(Nat.beq ((Ak its).getD k 0) 0)),List.map_id]
 have hch:(List.range its.length).filter (fun k=> !(Nat.beq ((Ak its).getD k 0) 0))=AL (Ak its):=by
  unfold AL;rw[show(Ak its).length=its.length from List.length_map _]
 rw[hch]
 repeat walk_at"w"
 refine EZ (x:="s") rfl he (fun v=>(AL (Ak its)).any (Cz c (Cy v))) _root_.id (by exact he.swap_yes (by rfl) (by rfl)) (by rfl) (by rfl) rfl (by decide) (by rfl) ?_ (fun O=>rfl)
 repeat walk_at"w"
 refine Cl .frozen (by rw[List.length_map,List.length_map];exact Ua hlen) ?_
 repeat walk_at"w"
 refine C9 ?_;rw[List.length_map,List.length_map];refine⟨_,_,_,_,rfl,rfl,by decide,by decide,by exact a8,by exact TZ hlen,by rw[Co,sizeLine_eq];exact TY hlen,fun ca e' he' D ys v hv=>?_,fun ca e' he' D ys v hv hp=>?_,?_⟩
 ·rw[BQ]at hv
  obtain⟨k,hk,rfl⟩:=Ds hv;refine GP (WT_cmp ?_ rfl);refine Bo (x:="c") rfl he' (fun v=>Cz c k (Cy v)) _root_.id (by rfl) (by decide) rfl (by decide) (by rfl) ?_ (fun O=>rfl)
  repeat walk_at"w"
  refine⟨B4 (AL (Ak its)),_,_,rfl,.list (fun g=>.frozen),by rw[LM,sizeLine_eq];exact Zy hcl,?_,GF rfl rfl,?_⟩
  ·intro e2 he2 D2 ys2 v2 hv2
   obtain⟨k2,hk2,rfl⟩:=Ds hv2;refine GP (WT_chain ?_ rfl)
   repeat walk_at"w"
   by_cases h1:(k:Int)-c≤k2
   ·refine Ah (by simp[h1]) ?_
    repeat walk_at"w"
    refine⟨?_,rfl⟩;exact(QL (σ:=σ) h1).1
   ·refine Ab (by simp;exact Zx h1) ?_
    exact⟨QM h1,rfl⟩
  refine AN (Es_nil ⟨Nat.zero_le _,?_⟩);refine I3 (by show 100+20*(n+1)<9900;exact a50 hn) .frozen .frozen ?_
  repeat walk_at"w"
  refine⟨?_,rfl⟩;rw[BG (Cz c k),List.map_id];exact LK c k _
 ·repeat walk_at"w"
  exact⟨rfl,rfl⟩
 rw[BQ,BG (fun k=>(AL (Ak its)).any (Cz c k)),List.map_id]
 have hsh:(List.range its.length).filter (fun k=>(AL (Ak its)).any (Cz c k))=Av c (Ak its):=by
  unfold Av;rw[show(Ak its).length=its.length from List.length_map _]
 rw[hsh]
 have hshl:∀k∈Av c (Ak its),k<its.length:=fun k hk=>by
  rw[←hsh]at hk;exact List.mem_range.mp (List.mem_filter.mp hk).1
 have hshn:(Av c (Ak its)).length≤100:=by
  rw[←hsh];exact Nat.le_trans (List.length_filter_le _ _) (by rw[List.length_range];exact hlen)
 unfold Cv at q
 generalize Av c (Ak its)=sh at*
 walk_at"w";walk_at"w";walk_at"w";refine W_Assign1 rfl (W.mono (Q:=fun v σ'=>∃ra,v=.raw (.ref ra)∧σ'=⟨(env.locals,.ns [("shown",.lst (B4 sh))])::(ra,.list (Ac (Bv sh)))::(ch,.cell (some (.lst (B4 (AL (Ak its))))))::(cn,.cell (some (.int c)))::(cst,.cell (some (.lst ((its.map ist).map sp))))::σ.own,σ.gens⟩) ?_ ?_) (by rfl) (by rfl)
 ·repeat walk_at"w"
  refine AN (Es_nil ⟨Nat.zero_le _,?_⟩);refine I3 (by show 100+20*(n+1)<9900;exact a50 hn) .frozen .frozen ?_
  repeat walk_at"w"
  cases sh with
  | nil=>
   refine Ab rfl ?_
   exact AX fun a=>⟨a,rfl,rfl⟩
  | cons x sh=>
   refine Ah rfl ?_;refine GN ?_
   repeat walk_at"w"
   exact⟨by rw[sizeLine_eq];decide,_,_,_,rfl,fun a=>⟨a,rfl,rfl⟩⟩
 rintro _ _ ⟨ra,rfl,rfl⟩
 repeat walk_at"w"
 refine CO rfl (G:=Unit) sh (fun(k:Nat)=>.int (k:Int)) (fun i O=>⟨(env.locals,.ns [("shown",.lst (B4 sh)),("rows",.raw (.ref ra))])::o8 ra ch cn cst (Ac (Bv sh++(sh.take i).flatMap (Cs its sh))) its c σ.own,σ.gens⟩) (fun O O=>True) (fun Q hQ=>?_) (fun i k hi O O K nx br rt=>?_) (fun O O=>?_) (fun O=>rfl)
 ·repeat walk_at"w"
  refine hQ _ () (fun O O=>.frozen) trivial _ ?_;rw[List.take_zero,List.flatMap_nil,List.append_nil];exact .ns rfl
 ·have hk:k<its.length:=hshl k (List.mem_of_getElem? hi)
  have hdl:(sh.take i).length≤100:=by rw[List.length_take];exact VW hshn
  walk_at"w";refine W_seq ?_;refine BJ (G:=Unit) (fun O=>⟨(env.locals,.ns [("shown",.lst (B4 sh)),("rows",.raw (.ref ra)),("s",.int (k:Int))])::o8 ra ch cn cst (Ac (Bv sh++(sh.take i).flatMap (Cs its sh)++(if AQ sh k then[Ej its k (Bi sh (its.length+1) k)]else[]))) its c σ.own,σ.gens⟩) (fun O=>True) (fun K2 jn ps=>?_) (fun O O=>?_)
  ·repeat walk_at"w"
   refine I0 ?_
   repeat walk_at"w"
   cases hf:AQ sh k with
   | false=>
    refine Ab rfl ?_
    repeat walk_at"w"
    exact jn () trivial _ (.l1 rfl (by rw[hf,if_neg Bool.false_ne_true,List.append_nil]))
   | true=>
    refine Ah rfl ?_
    repeat walk_at"w"
    refine D3 (G:=Nat×Nat) (fun h=>⟨(env.locals,.ns [("shown",.lst (B4 sh)),("rows",.raw (.ref ra)),("s",.int (k:Int)),("end",.int h.2)])::o8 ra ch cn cst (Ac (Bv sh++(sh.take i).flatMap (Cs its sh))) its c σ.own,σ.gens⟩)
     (fun h=>h.1+h.2=k+(its.length+1)∧Bi sh h.1 h.2=Bi sh (its.length+1) k) (fun h=>h.1) (its.length+1,k) ⟨by exact Zw,rfl⟩ (.ns rfl) fun h hh K3 nx3 br3 rt3=>?_
    repeat walk_at"w"
    refine Nq ?_
    repeat walk_at"w"
    cases hin:Eg sh h.2 with
    | true=>
     have hel:=hshl h.2 (LO hin)
     obtain⟨f,ef⟩:∃f',h.1=f'+1:=⟨h.1-1,by exact Zv hh.1 hel⟩
     rw[ef]at hh;refine Ah rfl ?_
     repeat walk_at"w"
     refine nx3 .next rfl (f,h.2+1) ⟨by exact Zu hh.1,?_⟩ (by rw[ef];exact Nat.lt_succ_self _) _ (.ns rfl)
     rw[←hh.2]
     conv=>rhs;unfold Bi
     rw[hin];rfl
    | false=>
     have he2:=hh.2;rw[Ip hin]at he2;refine Ab rfl ?_
     have hil:(its.map ist).length≤900:=by rw[List.length_map];exact Zt hlen
     have hg2:∀x∈its,x.1≤2:=fun x hx=>(hgood x hx).2
     have ct:∀o,(o=1∨o=2)→∀s,cnt (BZ o) ((its.map ist).take s)=Ae o ((Ak its).take s):=fun o ho s=>by
      rw[←List.map_take,HN o ho _ fun x hx=>hg2 x (List.mem_of_mem_take hx)];unfold Ak;rw[List.map_take]
     have cd:∀o,(o=1∨o=2)→∀s t,cnt (BZ o) (((its.map ist).take t).drop s)=Ae o (((Ak its).take t).drop s):=fun o ho s t=>by
      rw[←List.map_take,←List.map_drop,HN o ho _ fun x hx=>hg2 x (List.mem_of_mem_take (List.mem_of_mem_drop hx))];unfold Ak;rw[List.map_drop,List.map_take]
     have cl:∀o (l:List Nat),l.length≤900→Ae o l≤900:=fun o l h=>Nat.le_trans (List.length_filter_le _ _) h
     have hfr:∀o s t,(AH (Ae o ((Ak its).take s)) (Ae o (((Ak its).take t).drop s))).length≤30:=fun o s t=>
      Df (Nat.le_trans (cl _ _ (by simp only[Ak,List.length_take,List.length_map];exact Zs hlen)) (by exact TX)) (Nat.le_trans (cl _ _ (by simp only[Ak,List.length_take,List.length_drop,List.length_map];exact Zr hlen)) (by exact TX))
     have p1:=hfr 2 k h.2;have p2:=hfr 1 k h.2
     have z1:(Str.ofString "-").length=1:=by decide+kernel
     have z2:(Str.ofString " +").length=2:=by decide+kernel
     have z3:(Str.ofString "@@ ").length=3:=by decide+kernel
     have z4:(Str.ofString " @@\n").length=4:=by decide+kernel
     repeat walk_at"w"
     refine⟨Kept.fn (G7 _) rfl,(H4 (n:=n+1) (by exact a33 hn) (st:=its.map ist) (o:=BZ 2) hil ?_).on⟩;rw[ct 2 (.inr rfl),cd 2 (.inr rfl)];refine Bm (by rw[sizeLine_eq];exact Zq p1 z1) ?_
     repeat walk_at"w"
     refine Bm (by rw[Str.length_append,sizeLine_eq];exact Zp p1 z1 z2) ?_
     repeat walk_at"w"
     refine⟨Kept.fn (G7 _) rfl,(H4 (n:=n+1) (by exact a33 hn) (st:=its.map ist) (o:=BZ 1) hil ?_).on⟩;rw[ct 1 (.inl rfl),cd 1 (.inl rfl)];refine Bm (by simp only[Str.length_append];rw[sizeLine_eq];exact Zo p1 p2 z1 z2) ?_
     repeat walk_at"w"
     refine⟨ra,_,rfl,by walk_at"m",?_⟩
     repeat walk_at"w"
     refine Bm (by simp only[Str.length_append];rw[sizeLine_eq];exact Zn p1 p2 z1 z2 z3) ?_
     repeat walk_at"w"
     refine Bm (by simp only[Str.length_append];rw[sizeLine_eq];exact Zm p1 p2 z1 z2 z3 z4) ?_;refine⟨_,_,_,_,rfl,by walk_at"m",?_,by walk_at"u",?_⟩
     ·rw[At,List.length_append,sizeLine_eq]
      have:=Ca its sh (sh.take i);have:=Cq sh;exact Zl hdl (by assumption) this
     repeat walk_at"w"
     exact jn () trivial _ (.l1 rfl (by rw[hf,if_pos rfl,←he2,GY];rfl))
  ·repeat walk_at"w"
   refine⟨ra,_,rfl,by walk_at"m",?_⟩
   repeat walk_at"w"
   have hgk:Good (its.getD k dfl).2:=(hgood _ (by rw[List.getD_eq_getElem?_getD,List.getElem?_eq_getElem hk];exact List.getElem_mem hk)).1
   have hx:((its.map ist).map sp)[(k:Int).toNat]? =some (sp (ist (its.getD k dfl))):=by
    rw[Int.toNat_natCast,List.getElem?_map,List.getElem?_map,BW hk];rfl
   have lnl:=hgk.ln_len
   have tl:∀t,(BZ t).length≤1:=fun t=>by
    match t with
    | 0=>decide+kernel
    | 1=>decide+kernel
    | t+2=>show("+":Str).length≤1;decide+kernel
   have tl':=tl (its.getD k dfl).1;refine An (x:=sp (ist (its.getD k dfl))) .frozen (by exact a23) hx (by exact a76 hlen hk) (fun O O=>rfl) ?_
   repeat walk_at"w"
   refine A4 (l:=[.str (BZ (its.getD k dfl).1),pr (its.getD k dfl).2]) (j:=0) (x:=.str (BZ (its.getD k dfl).1)) rfl rfl (by decide) (by decide) (fun O O=>rfl) ?_
   repeat walk_at"w"
   refine An (x:=sp (ist (its.getD k dfl))) .frozen (by exact a23) hx (by exact a76 hlen hk) (fun O O=>rfl) ?_
   repeat walk_at"w"
   refine A4 (l:=[.str (BZ (its.getD k dfl).1),pr (its.getD k dfl).2]) (j:=1) (x:=pr (its.getD k dfl).2) rfl rfl (by decide) (by decide) (fun O O=>rfl) ?_
   repeat walk_at"w"
   refine⟨Kept.fn (Ek _) rfl,(EI (n:=n+1) (by exact a33 hn) hgk ?_).on⟩;refine Bm (by rw[sizeLine_eq];exact Zk lnl tl') ?_;refine⟨_,_,_,_,rfl,by walk_at"m",?_,by walk_at"u",?_⟩
   ·rw[At,List.length_append,List.length_append,sizeLine_eq]
    have:=Ca its sh (sh.take i);have:=Cq sh
    have:(if AQ sh k=true then[Ej its k (Bi sh (its.length+1) k)]else[]).length≤1:=by split<;>simp
    exact Zj hdl (by assumption) (by assumption) this
   repeat walk_at"w"
   refine nx .next rfl () trivial _ (.l1 rfl ?_)
   rw[List.take_succ,hi,GY,List.flatMap_append,Option.toList_some,List.flatMap_cons,List.flatMap_nil,List.append_nil,List.append_assoc,List.append_assoc]
   rfl
 ·rw[List.take_length]
  repeat walk_at"w"
  refine Lvs.freeze (a:=ra) (List.Perm.swap _ _ _) (.drop ?_ q);exact .cons _ (.cons _ (.cons _ (.cons _ (List.Sublist.refl _))))
noncomputable def np(x:Nat×Nat):PV:=.tup [.int (x.1:Int),.int (x.2:Int)]
noncomputable def JJ(X:Cx)(n:Nat)(one two:List Pr):Prop:=∀(Q:PV→PS→Prop) (σ:PS),Q (.lst ((kept one two).map np)) σ→OC X (AR n) (.ref 307) [] [.lst (one.map pr),.lst (two.map pr)] Q σ
noncomputable def Bh(t:Nat)(l:List Pr):List ISt:=l.map fun x=>(t,x)
theorem GE{X:Cx}{A:Around}{nm:List (Str×NameKind)}{cl:List (Str×Addr)}{x t:Str}{p:PV→Bool}{l:List PV}{o:Own}{g:Array GenState}{k k2:Nat}{i1 i2 i3:Pos}(hx:nm.lookup x=some .local)(hd:(x==("__debug__":Str))=false):Om X A nm cl x (.Tuple [.Constant (.str t) k i1,.Name x i2] k2 i3) l p (fun v=>.tup [.str t,v]) o g:=by
 intro e' hen D ys v hv hp;refine W_Tuple (Es_cons (W_str (Es_cons (En.name hen hx ?_ hd (Es_nil ⟨As rfl,rfl,rfl⟩)) rfl)) rfl);simp[List.lookup]
theorem Eu(t:Nat)(s:Str)(hs:s=BZ t)(l:List Pr):((l.map pr).filter fun O=>true).map (fun v=>PV.tup [.str s,v])=((Bh t l).map ist).map sp:=by
 subst hs;rw[List.filter_eq_self.mpr (fun O O=>rfl),Bh,List.map_map,List.map_map,List.map_map];rfl
theorem Kn{X:Cx}{n:Nat}(hn:n<480){one two:List Pr}(h1:one.length≤10)(h2:two.length≤10)(hK:JJ X (n+1) one two)(hk:((kept one two).length≤10)){Q:PV→PS→Prop}{σ:PS}(q:Q (.lst (((BC 1 2 0 one two (kept one two++[(one.length,two.length)]) 0 0).map ist).map sp)) σ):OC X (AR n) (.ref 312) [] [.lst (one.map pr),.lst (two.map pr)] Q σ:=by
 refine AM (ns:=["one","two"]) (Js _) rfl ⟨311,_,_,_,rfl,N1 _,rfl,rfl⟩ rfl (by exact EH fun a b=>rfl) rfl (by decide) (by decide) rfl rfl rfl rfl rfl rfl (by exact a10 hn) fun env he=>?_;refine W_seq ?_
 repeat walk_at"w"
 refine AX fun ra=>?_
 repeat walk_at"w"
 refine MG rfl ?_ (fun O=>rfl)
 repeat walk_at"w"
 refine⟨Kept.fn (Jt _) rfl,(hK _ _ ?_).on⟩;refine AN ?_
 repeat walk_at"w"
 refine Cl .frozen (by rw[List.length_map];exact a98 h1) ?_
 repeat walk_at"w"
 refine Cl .frozen (by rw[List.length_map];exact a98 h2) ?_
 repeat walk_at"w"
 rw[List.length_map,List.length_map];refine⟨As rfl,?_⟩;refine Es_nil ⟨As rfl,?_⟩;refine Cg (l:=(kept one two).map np) (l':=[np (one.length,two.length)]) .frozen .frozen (by rw[List.length_map,sizeLine_eq];show _+1≤_;exact av5 hk) ?_
 refine⟨_,fun rem σ'=>∃done todo m i j acc,kept one two++[(one.length,two.length)]=done++todo∧rem=todo.map np∧m.lookup ("one":Str)=some (PV.lst (one.map pr))∧m.lookup ("two":Str)=some (PV.lst (two.map pr))∧m.lookup ("steps":Str)=some (PV.raw (.ref ra))∧m.lookup ("i":Str)=some (PV.int ((i:Nat):Int))∧m.lookup ("j":Str)=some (PV.int ((j:Nat):Int))∧
  BC 1 2 0 one two (kept one two++[(one.length,two.length)]) 0 0=acc++BC 1 2 0 one two todo i j∧acc.length≤21*done.length∧
  σ'=⟨(env.locals,.ns m)::(ra,.list ((acc.map ist).map sp))::σ.own,σ.gens⟩,
  fun O O O=>.frozen,⟨[],_,_,0,0,[],rfl,?_,by walk_at"k",by walk_at"k",by walk_at"k",by walk_at"k",by walk_at"k",rfl,Nat.le_refl _,rfl⟩,?_,?_⟩
 ·exact(List.map_append (f:=np) (l₁:=kept one two) (l₂:=[(one.length,two.length)])).symm
 ·intro K hK;rintro v r σ' ⟨done,todo,m,i,j,acc,e1,e2,m1,m2,m3,m4,m5,hacc,hal,rfl⟩
  cases todo with
  | nil=>cases e2
  | cons x todo=>
  obtain⟨p,q'⟩:=x
  obtain⟨rfl,rfl⟩:v=np (p,q')∧r=todo.map np:=by
   simp only[List.map_cons,List.cons.injEq]at e2;exact e2
  have hdl:done.length≤10:=by have:=congrArg List.length e1;simp at this;exact av4 hk this
  refine Az rfl rfl rfl ?_;refine TGs_cons (En.store he rfl ?_);refine TGs_cons (En.store he rfl ?_);refine TGs_nil ?_
  repeat walk_at"w"
  refine Bo (x:="pair") rfl he (fun O=>true) (fun v=>.tup [.str "-",v]) (by rfl) (by decide) rfl (by decide) (by rfl) ?_ (fun O=>rfl)
  repeat walk_at"w"
  refine⟨one.map pr,some (i:Int),some (p:Int),none,.frozen,by rw[List.length_map,sizeLine_eq];exact a30 h1,.int _,.int _,.none,by decide,?_⟩;rw[B2,←List.map_take,←List.map_drop];refine⟨_,_,_,rfl,.list (fun g=>.frozen),by rw[List.length_map,List.length_drop,List.length_take,sizeLine_eq];exact a99 h1,fun O O O O O O=>Dh ⟨rfl,rfl⟩,GE rfl rfl,?_⟩;rw[Eu 1 (Str.ofString "-") rfl];refine Bo (x:="pair") rfl he (fun O=>true) (fun v=>.tup [.str "+",v]) (by rfl) (by decide) rfl (by decide) (by rfl) ?_ (fun O=>rfl)
  repeat walk_at"w"
  refine⟨two.map pr,some (j:Int),some (q':Int),none,.frozen,by rw[List.length_map,sizeLine_eq];exact a30 h2,.int _,.int _,.none,by decide,?_⟩;rw[B2,←List.map_take,←List.map_drop];refine⟨_,_,_,rfl,.list (fun g=>.frozen),by rw[List.length_map,List.length_drop,List.length_take,sizeLine_eq];exact a99 h2,fun O O O O O O=>Dh ⟨rfl,rfl⟩,GE rfl rfl,?_⟩;rw[Eu 2 (Str.ofString "+") rfl]
  have tl:∀t l,(((Bh t l).map ist).map sp).length=l.length:=fun t l=>by simp[Bh]
  have hd1:((one.take p).drop i).length≤10:=by rw[List.length_drop,List.length_take];exact Va h1
  have hd2:((two.take q').drop j).length≤10:=by rw[List.length_drop,List.length_take];exact Va h2
  refine Cg (l:=((Bh 1 ((one.take p).drop i)).map ist).map sp) (l':=((Bh 2 ((two.take q').drop j)).map ist).map sp) .frozen .frozen (by rw[tl,tl,sizeLine_eq];exact av3 hd1 hd2) ?_;refine G1 (by walk_at"m") .frozen (fun h=>by cases h) (by rw[List.length_append,tl,tl,List.length_map,List.length_map,sizeLine_eq];exact av2 hal hdl hd1 hd2) (by walk_at"u") ?_
  repeat walk_at"w"
  refine Bo (x:="pair") rfl he (fun O=>true) (fun v=>.tup [.str " ",v]) (by rfl) (by decide) rfl (by decide) (by rfl) ?_ (fun O=>rfl)
  repeat walk_at"w"
  refine⟨one.map pr,some (p:Int),some ((p+1:Nat):Int),none,.frozen,by rw[List.length_map,sizeLine_eq];exact a30 h1,.int _,.int _,.none,by decide,?_⟩;rw[B2,←List.map_take,←List.map_drop]
  have hd3:((one.take (p+1)).drop p).length≤10:=by rw[List.length_drop,List.length_take];exact av1
  refine⟨_,_,_,rfl,.list (fun g=>.frozen),by rw[List.length_map,sizeLine_eq];exact a30 hd3,fun O O O O O O=>Dh ⟨rfl,rfl⟩,GE rfl rfl,?_⟩;rw[Eu 0 (Str.ofString " ") rfl];refine G1 (by walk_at"m") .frozen (fun h=>by cases h) (by simp only[List.length_append,tl,List.length_map];rw[sizeLine_eq];exact av0 hal hdl hd1 hd2 hd3) (by walk_at"u") ?_
  repeat walk_at"w"
  have el:(Bh 0 ((one.take (p+1)).drop p)).length≤1:=by
   simp only[Bh,List.length_map,List.length_drop,List.length_take];exact au9
  refine⟨done++[(p,q')],todo,_,p+1,q'+1,acc++(Bh 1 ((one.take p).drop i)++Bh 2 ((two.take q').drop j)++Bh 0 ((one.take (p+1)).drop p)),by rw[e1,List.append_assoc];rfl,rfl,by walk_at"k",by walk_at"k",by walk_at"k",?_,?_,?_,?_,HY ?_⟩
  ·rw[show((p+1:Nat):Int)=(p:Int)+1 by exact a31];walk_at"k"
  ·rw[show((q'+1:Nat):Int)=(q':Int)+1 by exact a31];walk_at"k"
  ·rw[hacc,List.append_assoc];rfl
  ·rw[List.length_append,List.length_append,List.length_append,List.length_append,Bh,List.length_map,Bh,List.length_map]
   show _≤21*(done.length+1);exact au8 hal hd1 hd2 el
  ·simp only[List.map_append,List.append_assoc]
 ·rintro σ' ⟨done,todo,m,i,j,acc,e1,e2,m1,m2,m3,m4,m5,hacc,hal,rfl⟩
  cases todo with
  | cons x todo=>cases e2
  | nil=>
  repeat walk_at"w"
  refine Lvs.freeze (a:=ra) (.swap _ _ _) (.drop (List.sublist_cons_self _ _) ?_);rw[show BC 1 2 0 one two [] i j=[]from rfl,List.append_nil]at hacc;rw[hacc]at q;exact q
noncomputable def gp(x:Nat×Nat×Nat×Nat):PV:=.tup [.int (x.1:Int),.int (x.2.1:Int),.int (x.2.2.1:Int),.int (x.2.2.2:Int)]
noncomputable def AZ(gs:List (Nat×Nat×Nat×Nat)):Nat:=(gs.map fun g=>2*(g.2.1-g.1)+1).sum
noncomputable def rest(one two:List Pr)(g:Nat×Nat×Nat×Nat):List (Nat×Nat):=(Ck one two g.1 g.2.1 g.2.2.1 g.2.2.2).flatMap units
noncomputable def box(one two:List Pr)(g:Nat×Nat×Nat×Nat):Prop:=g.1≤g.2.1∧g.2.1≤one.length∧g.2.2.1≤g.2.2.2∧g.2.2.2≤two.length
theorem Ep:∀gs:List (Nat×Nat×Nat×Nat),gs.length≤AZ gs
 | []=>Nat.zero_le _
 | g::gs=>by
  have:=Ep gs;unfold AZ at*;rw[List.map_cons,List.sum_cons,List.length_cons];exact ao1 this
theorem RG{a b:Pr}(h:a=b):(a.1==b.1&&a.2==b.2)=true:=by subst h;simp
theorem RF{a b:Pr}(h:¬a=b):(a.1==b.1&&a.2==b.2)=false:=Bool.eq_false_iff.mpr fun e=>h (Prod.ext_iff.mpr (by simpa using e))
theorem F7{one two:List Pr}{x:Nat×Nat×Nat×Nat}{b:Nat×Nat×Nat}(e:Bc one two x.1 x.2.1 x.2.2.1 x.2.2.2=b):rest one two x=if b.1=0 then[]else rest one two (x.1,b.2.1,x.2.2.1,b.2.2)++units (b.2.1,b.2.2,b.1)++rest one two (b.2.1+b.1,x.2.1,b.2.2+b.1,x.2.2.2):=by
 subst e;unfold rest;simp only;rw[Cw];split
 ·rfl
 ·rw[List.flatMap_append,List.flatMap_cons,List.append_assoc]
theorem Ke{one two:List Pr}{ks:List (Nat×Nat)}{gs:List (Nat×Nat×Nat×Nat)}{x:Nat×Nat×Nat×Nat}{b:Nat×Nat×Nat}(e:Bc one two x.1 x.2.1 x.2.2.1 x.2.2.2=b)(c:0<b.1)(h:(ks++(gs++[x]).flatMap (rest one two)).Perm (kept one two)):(ks++units (b.2.1,b.2.2,b.1)++(gs++[(x.1,b.2.1,x.2.2.1,b.2.2),(b.2.1+b.1,x.2.1,b.2.2+b.1,x.2.2.2)]).flatMap (rest one two)).Perm (kept one two):=by
 refine List.Perm.trans ?_ h;rw[List.perm_iff_count];intro y;simp only[List.flatMap_append,List.flatMap_cons,List.flatMap_nil,List.append_nil,F7 e,if_neg (Nat.ne_of_gt c),List.count_append];exact ao2
theorem M1{one two:List Pr}{gs:List (Nat×Nat×Nat×Nat)}{x:Nat×Nat×Nat×Nat}{b:Nat×Nat×Nat}(h:∀y∈gs++[x],box one two y)(o1:x.1≤b.2.1)(o2:x.2.2.1≤b.2.2)(o3:b.2.1+b.1≤x.2.1)(o4:b.2.2+b.1≤x.2.2.2):∀y∈gs++[(x.1,b.2.1,x.2.2.1,b.2.2),(b.2.1+b.1,x.2.1,b.2.2+b.1,x.2.2.2)],box one two y:=fun y hy=>by
 obtain⟨b1,b2,b3,b4⟩:=h x (List.mem_append_right _ (.head _))
 rcases List.mem_append.mp hy with hy| hy
 ·exact h y (List.mem_append_left _ hy)
 ·rcases List.mem_cons.mp hy with rfl| hy
  ·exact⟨o1,by simp only;exact a48 b2 o3,o2,by simp only;exact a48 b4 o4⟩
  ·rw[List.mem_singleton.mp hy]
   exact⟨o3,b2,o4,b4⟩
noncomputable def m10(one two:List Pr)(rk rg:Addr)(l:List (Str×PV)):List (Str×PV):=("one",.lst (one.map pr))::("two",.lst (two.map pr))::("kept",.raw (.ref rk))::("gaps",.raw (.ref rg))::l
noncomputable def g10(x:Nat×Nat×Nat×Nat)(l:List (Str×PV)):List (Str×PV):=("alo",.int x.1)::("ahi",.int x.2.1)::("blo",.int x.2.2.1)::("bhi",.int x.2.2.2)::l
noncomputable def o10(rk rg cq cp:Addr)(L M:List PV)(vq vp:Option PV)(o:Own):Own:=(rg,.list L)::(rk,.list M)::(cq,.cell vq)::(cp,.cell vp)::o
noncomputable def si(n:Nat):Option PV:=some (.int n)
theorem DK{β:Type}{a i:Nat}(h:a≤i)(f:β→Nat→β)(z:β):(List.range' a (i+1-a)).foldl f z=f ((List.range' a (i-a)).foldl f z) i:=by
 rw[Nat.succ_sub h,List.range'_concat,List.foldl_append,Nat.one_mul,Nat.add_sub_cancel' h];rfl
set_option maxHeartbeats 4000000 in
theorem LZ{X:Cx}{n:Nat}(hn:n<480){one two:List Pr}(h1:one.length≤6)(h2:two.length≤6):JJ X n one two:=by
 intro Q σ q;refine B5 (ns:=["one","two"]) (Jt _) rfl ⟨306,_,_,_,rfl,N3 _,rfl,rfl⟩ rfl (.plain (by exact EH fun a b=>rfl) rfl) rfl rfl rfl rfl rfl rfl (by exact a10 hn) fun env rs hrs he=>?_;obtain⟨cq,cp,rfl⟩:=Fy (a:="q") (b:="p") (hrs.trans (by rfl));show TBs X _ env _ _ _ ⟨(env.locals,.ns [])::(cq,.cell none)::(cp,.cell none)::σ.own,σ.gens⟩;refine AP (En.storeN he rfl ?_);refine AP (En.storeN he rfl ?_);refine D6 ?_;refine W_seq ?_
 repeat walk_at"w"
 refine AX fun rk=>?_;refine GN ?_
 repeat walk_at"w"
 refine Cl .frozen (by rw[List.length_map];exact a49 h1) ?_
 repeat walk_at"w"
 refine Cl .frozen (by rw[List.length_map];exact a49 h2) ?_
 repeat walk_at"w"
 rw[List.length_map,List.length_map];refine⟨As rfl,?_⟩;refine Es_nil ⟨As rfl,_,_,_,rfl,fun rg=>?_⟩
 repeat walk_at"w"
 refine D3 (G:=List (Nat×Nat×Nat×Nat)×List (Nat×Nat)×Option PV×Option PV) (fun g=>⟨(env.locals,.ns (m10 one two rk rg []))::o10 rk rg cq cp (g.1.map gp) (g.2.1.map np) g.2.2.1 g.2.2.2 σ.own,σ.gens⟩)
  (fun g=>AZ g.1≤13∧(∀x∈g.1,box one two x)∧(g.2.1++g.1.flatMap (rest one two)).Perm (kept one two)) (fun g=>AZ g.1) ([(0,one.length,0,two.length)],[],none,none)
  ⟨by simp[AZ];exact UH h1,fun x hx=>by rw[List.mem_singleton.mp hx];exact⟨Nat.zero_le _,Nat.le_refl _,Nat.zero_le _,Nat.le_refl _⟩,by rw[List.nil_append,List.flatMap_singleton];exact .refl _⟩ (.ns rfl) fun g hg K nx br rt=>?_
 repeat walk_at"w"
 refine AN (Es_nil ⟨Nat.zero_le _,?_⟩);refine I3 (l:=g.1.map gp) (by show 100+20*(n+1)<9900;exact a50 hn) (by walk_at"l") .frozen ?_
 repeat walk_at"w"
 have hgl:g.1.length≤13:=Nat.le_trans (Ep _) hg.1;have hperm:=hg.2.2
 rcases List.eq_nil_or_concat g.1 with e| ⟨gs,x,e⟩
 ·rw[e]
  refine Ab rfl ?_
  repeat walk_at"w"
  rw[e,List.flatMap_nil,List.append_nil]at hperm
  have e:∀l:List (Nat×Nat),l.map np=(l.map fun x=>[(x.1:Int),(x.2:Int)]).map mkT:=fun l=>by rw[List.map_map];rfl
  rw[e g.2.1];refine KQ (L:=(kept one two).map fun x=>[(x.1:Int),(x.2:Int)]) (Nat.lt_of_le_of_lt (AR.in1s AR.in1).u (by show 100+20*(n+1+2)<9900;exact ao0 hn)) (.tup (d:=2) (fun t ht=>by obtain⟨x,_,rfl⟩:=List.mem_map.mp ht;rfl) (by decide) ?_ ?_ ?_) ?_ (hperm.map _) (by walk_at"l") ?_
  ·rw[List.length_map,hperm.length_eq];exact Nat.le_trans Du h1
  ·exact hperm.map _
  ·rw[List.pairwise_map]
   refine List.Pairwise.imp (fun{a b} h=>?_) Ei;obtain⟨h1,_⟩:=h;unfold lx;rw[if_neg (by exact an9 h1)];exact decide_eq_true (by exact a2 h1)
  ·rw[List.length_map,hperm.length_eq];exact Nat.le_trans Du h1
  rw[←e];exact .drop (((((List.sublist_cons_self _ _).trans (List.sublist_cons_self _ _)).trans (List.sublist_cons_self _ _)).trans (List.sublist_cons_self _ _)).trans (List.sublist_cons_self _ _)) q
 rw[List.concat_eq_append]at e
 have eL:g.1.map gp=gs.map gp++[gp x]:=by rw[e,List.map_append];rfl
 rw[eL];refine Ah (by simp) ?_;have hb:=hg.2.1 x (by rw[e];simp)
 have hw:AZ g.1=AZ gs+(2*(x.2.1-x.1)+1):=by rw[e];simp[AZ]
 rw[e,List.length_append]at hgl
 repeat walk_at"w"
 refine⟨rg,gs.map gp,_,_,_,_,rfl,rfl,by walk_at"m",by rw[List.length_map,sizeLine_eq];exact Tn hgl,by walk_at"u",?_⟩;refine Az rfl rfl rfl ?_;refine TGs_cons (En.store he rfl ?_);refine TGs_cons (En.store he rfl ?_);refine TGs_cons (En.store he rfl ?_);refine TGs_cons (En.store he rfl ?_);refine TGs_nil ?_
 repeat walk_at"w"
 refine⟨As rfl,?_⟩;refine Az rfl rfl rfl ?_;refine TGs_cons (En.store he rfl ?_);refine TGs_cons (En.storeC he rfl rfl (by walk_at"m") (by walk_at"u") ?_);refine TGs_cons (En.storeC he rfl rfl (by walk_at"m") (by walk_at"u") ?_);refine TGs_nil ?_;walk_at"w";refine W_seq ?_
 refine Em rfl x.1 x.2.1 hb.1 (by exact Tl h1 hb.2.1) (G:=Nat×Nat×Nat) (fun i b=>⟨(env.locals,.ns (m10 one two rk rg (g10 x [("size",.int b.1)])))::o10 rk rg cq cp (gs.map gp) (g.2.1.map np) (si b.2.2) (si b.2.1) σ.own,σ.gens⟩)
  (fun i b=>b=(List.range' x.1 (i-x.1)).foldl (CB one two x.2.1 x.2.2.1 x.2.2.2) (0,x.1,x.2.2.1)) (fun Q hQ=>?_) (fun i i1 i2 b hB K2 nx2 br2 rt2=>?_) (fun b hB=>?_) (fun O=>rfl)
 ·repeat walk_at"w"
  refine BI ?_;exact hQ (0,x.1,x.2.2.1) (by rw[Nat.sub_self];rfl) _ (.ns rfl)
 ·repeat walk_at"w"
  refine Em rfl x.2.2.1 x.2.2.2 hb.2.2.1 (by exact Tl h2 hb.2.2.2) (G:=Nat×Nat×Nat) (fun j c=>⟨(env.locals,.ns (m10 one two rk rg (g10 x [("size",.int c.1),("i",.int i)])))::o10 rk rg cq cp (gs.map gp) (g.2.1.map np) (si c.2.2) (si c.2.1) σ.own,σ.gens⟩)
   (fun j c=>c=(List.range' x.2.2.1 (j-x.2.2.1)).foldl (HS one two x.2.1 x.2.2.2 i) b) (fun Q hQ=>?_) (fun j j1 j2 c hc K3 nx3 br3 rt3=>?_) (fun c hc=>?_) (fun O=>rfl)
  ·repeat walk_at"w"
   refine BI ?_;exact hQ b (by rw[Nat.sub_self];rfl) _ (.ns rfl)
  ·have ml:=Nf (A:=one) (B:=two) (ahi:=x.2.1) (bhi:=x.2.2.2) (i:=i) (j:=j) (Nat.le_of_lt i2) (Nat.le_of_lt j2)
   repeat walk_at"w"
   refine BJ (G:=Nat) (fun k=>⟨(env.locals,.ns (m10 one two rk rg (g10 x [("size",.int c.1),("i",.int i),("j",.int j),("k",.int k)])))::o10 rk rg cq cp (gs.map gp) (g.2.1.map np) (si c.2.2) (si c.2.1) σ.own,σ.gens⟩)
    (fun k=>k=CP one two x.2.1 x.2.2.2 i j) (fun K4 jn ps=>?_) (fun k hk=>?_)
   ·refine D3 (G:=Nat) (fun k=>⟨(env.locals,.ns (m10 one two rk rg (g10 x [("size",.int c.1),("i",.int i),("j",.int j),("k",.int k)])))::o10 rk rg cq cp (gs.map gp) (g.2.1.map np) (si c.2.2) (si c.2.1) σ.own,σ.gens⟩)
     (fun k=>k≤CP one two x.2.1 x.2.2.2 i j) (fun k=>7-k) 0 (Nat.zero_le _) (.ns rfl) fun k hk K5 nx5 br5 rt5=>?_
    have go:=Ng (A:=one) (B:=two) (d:=((0,""):Pr)) (ahi:=x.2.1) (bhi:=x.2.2.2) (i:=i) (j:=j) (k:=k) (Nat.le_of_lt i2) (Nat.le_of_lt j2) hb.2.1 hb.2.2.2 hk
    have out:¬(k+1≤CP one two x.2.1 x.2.2.2 i j)→k=CP one two x.2.1 x.2.2.2 i j:=fun h=>by exact an8 hk h
    repeat walk_at"w"
    by_cases c1:i+k<x.2.1
    case neg=>exact Ab (decide_eq_false (by exact a14 c1)) (jn k (out fun h=>c1 (go.mp h).1) _ .refl)
    refine Ah (decide_eq_true (by exact a15 c1)) ?_
    repeat walk_at"w"
    by_cases c2:j+k<x.2.2.2
    case neg=>exact Ab (decide_eq_false (by exact a14 c2)) (jn k (out fun h=>c2 (go.mp h).2.1) _ .refl)
    refine Ah (decide_eq_true (by exact a15 c2)) ?_
    repeat walk_at"w"
    refine An (x:=pr (one.getD (i+k) (0,""))) .frozen (by exact a21) (by rw[show((i:Int)+k).toNat=i+k by exact a22,List.getElem?_map,BW (by exact a1 hb.2.1 c1)];rfl) (by exact UG h1 hb.2.1 c1) (fun O O=>rfl) ?_
    repeat walk_at"w"
    refine An (x:=pr (two.getD (j+k) (0,""))) .frozen (by exact a21) (by rw[show((j:Int)+k).toNat=j+k by exact a22,List.getElem?_map,BW (by exact a1 hb.2.2.2 c2)];rfl) (by exact UG h2 hb.2.2.2 c2) (fun O O=>rfl) ?_;refine MY (by show 100+20*(n+1)<9900;exact a50 hn) ?_
    repeat walk_at"w"
    by_cases c3:one.getD (i+k) (0,"")=two.getD (j+k) (0,"")
    case neg=>
     refine Ab (RF c3) ?_;exact Ab rfl (jn k (out fun h=>c3 (go.mp h).2.2) _ .refl)
    refine Ah (RG c3) ?_
    repeat walk_at"w"
    refine Ah rfl ?_
    repeat walk_at"w"
    exact nx5 .next rfl (k+1) (go.mpr ⟨c1,c2,c3⟩) (by exact Wf h1 hb.2.1 c1) _ (.ns rfl)
   ·repeat walk_at"w"
    by_cases c1:c.1<k
    ·refine Ah (decide_eq_true (by exact a2 c1)) ?_
     repeat walk_at"w"
     refine⟨As rfl,?_⟩;refine Az rfl rfl rfl ?_;refine TGs_cons (En.store he rfl ?_);refine TGs_cons (En.storeC he rfl rfl (by walk_at"m") (by walk_at"u") ?_);refine TGs_cons (En.storeC he rfl rfl (by walk_at"m") (by walk_at"u") ?_);refine TGs_nil ?_
     repeat walk_at"w"
     exact nx3 .next rfl (k,i,j) (by rw[DK j1,←hc,hk];exact(if_pos (hk▸c1)).symm) _ (.ns rfl)
    ·refine Ab (decide_eq_false (by exact a3 c1)) ?_
     repeat walk_at"w"
     exact nx3 .next rfl c (by rw[DK j1,←hc];exact(if_neg (hk▸c1)).symm) _ (.ns rfl)
  ·repeat walk_at"w"
   exact nx2 .next rfl c (by rw[DK i1,←hB];exact hc) _ (.ns rfl)
 have hbest:Bc one two x.1 x.2.1 x.2.2.1 x.2.2.2=b:=hB.symm;have kl:(kept one two).length≤6:=Nat.le_trans Du h1;have hpl:=hperm.length_eq;rw[List.length_append]at hpl;rw[e]at hperm
 repeat walk_at"w"
 by_cases c:0<b.1
 case neg=>
  refine Ab (decide_eq_false (by exact an7 c)) ?_
  repeat walk_at"w"
  rw[List.flatMap_append,List.flatMap_singleton,F7 hbest,if_pos (by exact an6 c),List.append_nil]at hperm
  exact nx .next rfl (gs,g.2.1,si b.2.2,si b.2.1) ⟨by exact UE hg.1 hw,fun y hy=>hg.2.1 y (by rw[e];exact List.mem_append_left _ hy),hperm⟩ (by exact UF hw) _ (.ns rfl)
 refine Ah (decide_eq_true (by exact an5 c)) ?_;have hbb:=De (A:=one) (B:=two) (alo:=x.1) (ahi:=x.2.1) (blo:=x.2.2.1) (bhi:=x.2.2.2);rw[hbest]at hbb;obtain⟨o1,o2,o3,o4,o5⟩:=hbb.ok c
 repeat walk_at"w"
 refine Bo (x:="k") rfl he (fun O=>true) (fun v=>np (b.2.1+Cy v,b.2.2+Cy v)) (by rfl) (by decide) rfl (by decide) (by rfl) ?_ (fun O=>rfl)
 repeat walk_at"w"
 refine C9 ?_;refine⟨Bp 0 b.1,_,_,rfl,.range (by decide) (by decide) (by exact a8) (by exact an4 h1 hb.2.1 o3),by rw[Co,sizeLine_eq];exact an3 h1 hb.2.1 o3,fun O O O O O O=>Dh ⟨rfl,rfl⟩,?_,?_⟩
 ·intro e' hen D ys v hv hp
  rw[BQ]at hv;obtain⟨k,hk,rfl⟩:=Ds hv
  repeat walk_at"w"
  exact⟨As rfl,rfl,rfl⟩
 rw[BQ,List.filter_eq_self.mpr (fun O O=>rfl)]
 have hu:(B4 (List.range b.1)).map (fun v=>np (b.2.1+Cy v,b.2.2+Cy v))=(units (b.2.1,b.2.2,b.1)).map np:=by
  unfold B4 units;rw[List.map_map,List.map_map]
  rfl
 rw[hu]
 have hul:(units (b.2.1,b.2.2,b.1)).length=b.1:=by unfold units;simp
 refine G1 (by walk_at"m") .frozen (fun h=>by cases h) (by rw[List.length_map,List.length_map,hul,sizeLine_eq];exact an2 h1 hb.2.1 kl hpl o3) (by walk_at"u") ?_
 repeat walk_at"w"
 refine AN ?_
 repeat walk_at"w"
 refine⟨As rfl,?_⟩
 repeat walk_at"w"
 refine⟨As rfl,?_⟩;refine Es_nil ⟨As rfl,?_⟩;refine G1 (by walk_at"m") .frozen (fun h=>by cases h) (by rw[List.length_map,sizeLine_eq];show _+2≤_;exact We hgl) (by walk_at"u") ?_
 repeat walk_at"w"
 have hwd:AZ (gs++[(x.1,b.2.1,x.2.2.1,b.2.2),(b.2.1+b.1,x.2.1,b.2.2+b.1,x.2.2.2)])=AZ gs+((2*(b.2.1-x.1)+1)+(2*(x.2.1-(b.2.1+b.1))+1)):=by simp[AZ]
 refine nx .next rfl (gs++[(x.1,b.2.1,x.2.2.1,b.2.2),(b.2.1+b.1,x.2.1,b.2.2+b.1,x.2.2.2)],g.2.1++units (b.2.1,b.2.2,b.1),si b.2.2,si b.2.1)
  ⟨by exact ao3 hg.1 hw c o1 o3 hwd,M1 (e▸hg.2.1) o1 o2 o3 o4,Ke hbest c hperm⟩ (by exact an1 hw c o1 o3 hwd) _ ?_
 rw[List.map_append,List.map_append];exact .ns rfl
noncomputable def white(p:Pr):Bool:=p.1==0&&([""," "]:List Str).contains p.2
noncomputable def more(mode:Nat)(p:Pr):Bool:=if mode=0 then !white p else if mode=1 then true else p.1==0
noncomputable def quo(mode:Nat)(p:Pr):Pr:=(if more mode p then p.1+1 else p.1,p.2)
theorem IE{X:Cx}{n:Nat}(hn:n<480){ps:List Pr}{mode:Nat}(hm:mode<3)(hl:ps.length≤10){Q:PV→PS→Prop}{σ:PS}(q:Q (.lst ((ps.map (quo mode)).map pr)) σ):OC X (AR n) (.ref 290) [] [.lst (ps.map pr),.int mode] Q σ:=by
 refine AM (ns:=["pairs","mode"]) (Jv _) rfl ⟨289,_,_,_,rfl,N5 _,rfl,rfl⟩ rfl (by exact EH fun a b=>rfl) rfl (by decide) (by decide) rfl rfl rfl rfl rfl rfl (by exact a10 hn) fun env he=>?_;refine W_seq ?_
 repeat walk_at"w"
 refine AX fun ra=>?_
 repeat walk_at"w"
 refine MH rfl ?_ (fun O=>rfl)
 repeat walk_at"w"
 refine⟨_,fun rem σ'=>∃done todo m,ps=done++todo∧rem=todo.map pr∧m.lookup ("mode":Str)=some (PV.int (mode:Int))∧m.lookup ("due":Str)=some (PV.raw (.ref ra))∧
  σ'=⟨(env.locals,.ns m)::(ra,.list ((done.map (quo mode)).map pr))::σ.own,σ.gens⟩,
  fun O O O=>.frozen,⟨[],ps,_,rfl,rfl,by walk_at"k",by walk_at"k",rfl⟩,?_,?_⟩
 ·rintro v r σ' ⟨done,todo,m,e1,e2,m1,m2,rfl⟩
  cases todo with
  | nil=>cases e2
  | cons p todo=>
  obtain⟨rfl,rfl⟩:v=pr p∧r=todo.map pr:=by
   simp only[List.map_cons,List.cons.injEq]at e2;exact e2
  have hdl:done.length≤10:=by have:=congrArg List.length e1;simp at this;exact ax9 hl this
  refine Az rfl rfl rfl ?_;refine TGs_cons (En.store he rfl ?_);refine TGs_cons (En.store he rfl ?_);refine TGs_nil ?_
  repeat walk_at"w"
  refine W.mono (Q:=fun v σ'=>v=.bool (white p)∧σ'=⟨(env.locals,.ns (Ao (Ao m ("marks":Str) (.int p.1)) ("word":Str) (.str p.2)))::(ra,.list ((done.map (quo mode)).map pr))::σ.own,σ.gens⟩) ?_ ?_
  ·refine Vc ?_
   repeat walk_at"w"
   unfold white
   cases h0:(p.1==0)with
   | false=>
    refine Ab rfl ?_;exact⟨rfl,rfl⟩
   | true=>
    refine Ah rfl ?_
    repeat walk_at"w"
    refine⟨As rfl,?_⟩;refine QW (ys:=[""," "]) ?_;exact⟨rfl,rfl⟩
  rintro _ _ ⟨rfl,rfl⟩
  repeat walk_at"w"
  refine AN ?_
  repeat walk_at"w"
  refine⟨As rfl,?_⟩
  repeat walk_at"w"
  refine An (x:=.bool (more mode p)) .frozen (by exact a23) ?_ (by exact UC hm) (fun O O=>rfl) ?_
  ·match mode,hm with
   | 0,_=>rfl
   | 1,_=>rfl
   | 2,_=>rfl
  repeat walk_at"w"
  refine⟨ra,_,rfl,by walk_at"m",?_⟩
  repeat walk_at"w"
  have fin:∀k:Int,k=(if more mode p then p.1+1 else p.1)→pr (quo mode p)=.tup [.int k,.str p.2]:=fun k hk=>by rw[hk];rfl
  have sz:((done.map (quo mode)).map pr).length≤sizeLine:=by rw[List.length_map,List.length_map,sizeLine_eq];exact a30 hdl
  have e3:ps=(done++[p])++todo:=by rw[e1,List.append_assoc];rfl
  cases hmo:more mode p with
  | true=>
   refine Ah rfl ?_
   repeat walk_at"w"
   refine⟨As rfl,_,_,_,_,rfl,by walk_at"m",sz,by walk_at"u",?_⟩
   repeat walk_at"w"
   refine⟨done++[p],todo,_,e3,rfl,by walk_at"k",by walk_at"k",HY ?_⟩;rw[List.map_append,List.map_append]
   congr 1
   show _=[pr (quo mode p)]
   rw[fin (p.1+1) (by rw[hmo];rfl)]
  | false=>
   refine Ab rfl ?_
   repeat walk_at"w"
   refine⟨As rfl,_,_,_,_,rfl,by walk_at"m",sz,by walk_at"u",?_⟩
   repeat walk_at"w"
   refine⟨done++[p],todo,_,e3,rfl,by walk_at"k",by walk_at"k",HY ?_⟩;rw[List.map_append,List.map_append]
   congr 1
   show _=[pr (quo mode p)]
   rw[fin p.1 (by rw[hmo];rfl)]
 ·rintro σ' ⟨done,todo,m,e1,e2,m1,m2,rfl⟩
  cases todo with
  | cons x todo=>cases e2
  | nil=>
  repeat walk_at"w"
  rw[List.append_nil]at e1;subst e1;refine Lvs.freeze (a:=ra) (.swap _ _ _) (.drop (List.sublist_cons_self _ _) q)
noncomputable def BP:List Str:=["a","b",""," "]
noncomputable def typed(x:Int):Pr:=((x.fdiv 4).fmod 2,BP.getD ((x.fdiv 8).fmod 4).toNat "")
noncomputable def fresh(x:Int):List Pr:=if x.fmod 4=2 then[]else[typed x]
noncomputable def place(x:Int)(n:Nat):Nat:=((x.fdiv 32).fmod (n+1)).toNat
noncomputable def Dj(ps:List Pr)(x:Int):List Pr:=ps.take (place x ps.length)++fresh x++ps.drop (if 1<x.fmod 4 then place x ps.length+1 else place x ps.length)
noncomputable def wr(ps:List Pr)(xs:List Int):List Pr:=xs.foldl Dj ps
theorem Bb(x:Int){b:Int}(h:0<b):0≤x.fmod b∧x.fmod b<b:=⟨Int.fmod_nonneg_of_pos _ h,Int.fmod_lt_of_pos _ h⟩
theorem Ik(x:Int):Good (typed x):=by
 have h1:=Bb (x.fdiv 4) (b:=2) (by decide);have h2:=Bb (x.fdiv 8) (b:=4) (by decide);refine⟨h1.1,?_,?_⟩
 ·show(x.fdiv 4).fmod 2≤100;exact X8 h1
 ·show(BP.getD ((x.fdiv 8).fmod 4).toNat "").length≤10
  have:((x.fdiv 8).fmod 4).toNat<4:=by exact a73 h2
  match((x.fdiv 8).fmod 4).toNat,this with
  | 0,_=>decide+kernel
  | 1,_=>decide+kernel
  | 2,_=>decide+kernel
  | 3,_=>decide+kernel
theorem FQ(x:Int):(fresh x).length≤1:=by unfold fresh;split<;>simp
theorem Hu(x:Int)(n:Nat):place x n≤n∧((place x n:Nat):Int)=(x.fdiv 32).fmod (n+1):=by
 have:=Bb (x.fdiv 32) (b:=(n:Int)+1) (by exact X7);unfold place;exact X6 this
theorem JM(ps:List Pr)(x:Int):(Dj ps x).length≤ps.length+1:=by
 have:=FQ x;have:=(Hu x ps.length).1;unfold Dj;rw[List.length_append,List.length_append,List.length_take,List.length_drop]
 split<;>(first| exact X5 (by assumption)| exact X4 (by assumption))
theorem Ih:∀(xs:List Int) (ps:List Pr),(wr ps xs).length≤ps.length+xs.length
 | [],ps=>Nat.le_refl _
 | x::xs,ps=>by
  have h1:=Ih xs (Dj ps x);have h2:=JM ps x
  show(wr (Dj ps x) xs).length≤ps.length+(xs.length+1)
  exact X3 h1 h2
noncomputable def Ii:PV→Pr
 | .tup [.int a,.str b]=>(a,b)
 | _=>(0,"")
noncomputable def m12(ws:List Pr):List (Str×PV):=[("pairs",.lst (ws.map pr)),("lines",.lst (Ac (ws.map ln)))]
theorem DZ{X:Cx}{n:Nat}(hn:n<480){ps:List Pr}{xs:List Int}(hl:ps.length≤10)(hx:xs.length≤50){Q:PV→PS→Prop}{σ:PS}(q:Q (.tup [.lst (((wr ps xs).take 6).map pr),.lst (Ac (((wr ps xs).take 6).map ln))]) σ):OC X (AR n) (.ref 302) [] [.lst (ps.map pr),.lst (Ac (ps.map ln)),.lst (Aj xs)] Q σ:=by
 refine AM (ns:=["pairs","lines","numbers"]) (G8 _) rfl ⟨301,_,_,_,rfl,N4 _,rfl,rfl⟩ rfl (by exact IC fun a b c=>rfl) rfl (by decide) (by decide) rfl rfl rfl rfl rfl rfl (by exact a10 hn) fun env he=>?_;refine W_seq ?_
 repeat walk_at"w"
 refine CO rfl (G:=List Pr) xs PV.int (fun O ws=>⟨(env.locals,.ns (m12 ws))::σ.own,σ.gens⟩) (fun d ws=>ws=wr ps (xs.take d)) (fun Q hQ=>?_) (fun d x hd ws hws K nx br rt=>?_) (fun ws hws=>?_) (fun O=>rfl)
 ·repeat walk_at"w"
  exact hQ _ ps (fun O O=>.frozen) rfl _ (.ns rfl)
 ·have hdl:(xs.take d).length≤50:=by rw[List.length_take];exact VV hx
  have hwl:=Ih (xs.take d) ps
  have ew:wr ps (xs.take (d+1))=Dj (wr ps (xs.take d)) x:=by unfold wr;rw[List.take_succ,hd,List.foldl_append];rfl
  rw[←hws]at hwl ew;walk_at"w"
  repeat walk_at"w"
  refine BE (b:=4) (by decide) (by decide+kernel) ?_
  repeat walk_at"w"
  refine Da (b:=2) (by decide) ?_
  repeat walk_at"w"
  refine AN ?_
  repeat walk_at"w"
  refine⟨by rw[sizeLine_eq];decide,?_⟩
  repeat walk_at"w"
  refine BE (b:=8) (by decide) (by decide+kernel) ?_
  repeat walk_at"w"
  refine Da (b:=4) (by decide) ?_;have f8:=Bb (x.fdiv 8) (b:=4) (by decide);refine An (l:=Ac BP) (x:=.str (typed x).2) .frozen f8.1 ?_ (by exact X2 f8) (fun O O=>rfl) ?_
  ·unfold Ac
   rw[List.getElem?_map,BW (d:=("":Str)) (by show _<4;exact a73 f8)];rfl
  repeat walk_at"w"
  refine⟨As rfl,?_⟩;show TG X _ env _ (pr (typed x)) _ _;walk_at"w";walk_at"w";walk_at"w";walk_at"w";have f4:=Bb x (b:=4) (by decide);refine W.mono (Q:=fun v σ'=>v=.lst ((fresh x).map pr)∧σ'=⟨(env.locals,.ns (Ao (Ao (m12 ws) ("x":Str) (.int x)) ("typed":Str) (pr (typed x))))::σ.own,σ.gens⟩) ?_ ?_
  ·repeat walk_at"w"
   refine Da (b:=4) (by decide) ?_
   repeat walk_at"w"
   unfold fresh;by_cases c:x.fmod 4=2
   ·refine Ah (decide_eq_true c) ?_
    rw[if_pos c];exact AN (Es_nil ⟨Nat.zero_le _,rfl,rfl⟩)
   ·refine Ab (decide_eq_false c) ?_
    rw[if_neg c];refine AN ?_
    repeat walk_at"w"
    exact⟨As rfl,rfl,rfl⟩
  rintro _ _ ⟨rfl,rfl⟩
  repeat walk_at"w"
  refine BE (b:=32) (by decide) (by decide+kernel) ?_
  repeat walk_at"w"
  refine Cl .frozen (by rw[List.length_map];exact X1 hl hdl hwl) ?_
  repeat walk_at"w"
  rw[List.length_map];refine Da (b:=(ws.length:Int)+1) (by exact X0) ?_;obtain⟨p1,p2⟩:=Hu x ws.length;rw[←p2];walk_at"w";walk_at"w";walk_at"w";walk_at"w";refine W.mono (Q:=fun v σ'=>v=.int ((if 1<x.fmod 4 then place x ws.length+1 else place x ws.length:Nat):Int)∧σ'=⟨(env.locals,.ns (Ao (Ao (Ao (Ao (m12 ws) ("x":Str) (.int x)) ("typed":Str) (pr (typed x))) ("fresh":Str) (.lst ((fresh x).map pr))) ("place":Str) (.int (place x ws.length))))::σ.own,σ.gens⟩) ?_ ?_
  ·repeat walk_at"w"
   refine Da (b:=4) (by decide) ?_
   repeat walk_at"w"
   by_cases c:1<x.fmod 4
   ·refine Ah (decide_eq_true c) ?_
    rw[if_pos c]
    repeat walk_at"w"
    exact⟨by rw[Int.natCast_add];rfl,rfl⟩
   ·refine Ab (decide_eq_false c) ?_
    rw[if_neg c]
    repeat walk_at"w"
    exact⟨rfl,rfl⟩
  rintro _ _ ⟨rfl,rfl⟩;have hw2:Dj ws x=ws.take (place x ws.length)++fresh x++ws.drop (if 1<x.fmod 4 then place x ws.length+1 else place x ws.length):=rfl;have hfl:=FQ x
  have hfg:∀p∈fresh x,Good p:=fun p hp=>by
   unfold fresh at hp;split at hp
   ·cases hp
   ·rw[List.mem_singleton.mp hp];exact Ik x
  generalize (if 1<x.fmod 4 then place x ws.length+1 else place x ws.length)=bh at*
  generalize place x ws.length=pl at*
  generalize fresh x=fr at*
  repeat walk_at"w"
  refine⟨ws.map pr,none,some (pl:Int),none,.frozen,by rw[List.length_map,sizeLine_eq];exact a29 hl hdl hwl,.none,.int _,.none,by decide,?_⟩;rw[CG,←List.map_take]
  repeat walk_at"w"
  refine Cg (l:=(ws.take pl).map pr) (l':=fr.map pr) .frozen .frozen (by rw[List.length_map,List.length_map,List.length_take,sizeLine_eq];exact Ty hl hdl hwl hfl) ?_;rw[←List.map_append]
  repeat walk_at"w"
  refine⟨ws.map pr,some (bh:Int),none,none,.frozen,by rw[List.length_map,sizeLine_eq];exact a29 hl hdl hwl,.int _,.none,.none,by decide,?_⟩;rw[F8,←List.map_drop];refine Cg (l:=(ws.take pl++fr).map pr) (l':=(ws.drop bh).map pr) .frozen .frozen (by rw[List.length_map,List.length_map,List.length_append,List.length_take,List.length_drop,sizeLine_eq];exact Tx hl hdl hwl hfl) ?_;rw[←List.map_append]
  repeat walk_at"w"
  have tl:∀l:List Pr,(Ac (l.map ln)).length=l.length:=fun l=>by rw[At,List.length_map]
  have tt:∀(l:List Pr) k,(Ac (l.map ln)).take k=Ac ((l.take k).map ln):=fun l k=>by unfold Ac;rw[List.map_take,List.map_take]
  have td:∀(l:List Pr) k,(Ac (l.map ln)).drop k=Ac ((l.drop k).map ln):=fun l k=>by unfold Ac;rw[List.map_drop,List.map_drop]
  have ta:∀l k:List Pr,Ac (l.map ln)++Ac (k.map ln)=Ac ((l++k).map ln):=fun l k=>by unfold Ac;rw[List.map_append,List.map_append]
  refine⟨Ac (ws.map ln),none,some (pl:Int),none,.frozen,by rw[tl,sizeLine_eq];exact a29 hl hdl hwl,.none,.int _,.none,by decide,?_⟩;rw[CG,tt];refine Bo (x:="pair") rfl he (fun O=>true) (fun v=>.str (ln (Ii v))) (by rfl) (by decide) rfl (by decide) (by rfl) ?_ (fun O=>rfl)
  repeat walk_at"w"
  refine⟨fr.map pr,_,_,rfl,.list (fun g=>.frozen),by rw[List.length_map,sizeLine_eq];exact Xz hfl,fun O O O O O O=>Dh ⟨rfl,rfl⟩,?_,?_⟩
  ·intro e' hen D ys v hv hp
   obtain⟨p,hp',rfl⟩:=List.mem_map.mp hv
   repeat walk_at"w"
   exact⟨Kept.fn (Ek _) rfl,(EI (n:=n+1) (by exact a33 hn) (hfg p hp') ⟨rfl,rfl⟩).on⟩
  rw[List.filter_eq_self.mpr (fun O O=>rfl),List.map_map];show O2 X _ Is _ _ (.lst (fr.map ((fun v=>PV.str (ln (Ii v))) ∘ pr))) _ _
  have hfc:fr.map ((fun v=>PV.str (ln (Ii v))) ∘ pr)=Ac (fr.map ln):=by
   unfold Ac;rw[List.map_map]
   rfl
  rw[hfc];refine Cg (l:=Ac ((ws.take pl).map ln)) (l':=Ac (fr.map ln)) .frozen .frozen (by rw[tl,tl,List.length_take,sizeLine_eq];exact Ty hl hdl hwl hfl) ?_;rw[ta]
  repeat walk_at"w"
  refine⟨Ac (ws.map ln),some (bh:Int),none,none,.frozen,by rw[tl,sizeLine_eq];exact a29 hl hdl hwl,.int _,.none,.none,by decide,?_⟩;rw[F8,td];refine Cg (l:=Ac ((ws.take pl++fr).map ln)) (l':=Ac ((ws.drop bh).map ln)) .frozen .frozen (by rw[tl,tl,List.length_append,List.length_take,List.length_drop,sizeLine_eq];exact Tx hl hdl hwl hfl) ?_;rw[ta]
  repeat walk_at"w"
  exact nx .next rfl (ws.take pl++fr++ws.drop bh) (hw2.symm.trans ew.symm) _ (.ns rfl)
 rw[List.take_length]at hws
 repeat walk_at"w"
 have hwl:=Ih xs ps;rw[←hws]at hwl
 have tl:∀l:List Pr,(Ac (l.map ln)).length=l.length:=fun l=>by rw[At,List.length_map]
 have tt:∀(l:List Pr) k,(Ac (l.map ln)).take k=Ac ((l.take k).map ln):=fun l k=>by unfold Ac;rw[List.map_take,List.map_take]
 refine⟨_,none,some ((6:Nat):Int),none,.frozen,by rw[List.length_map,sizeLine_eq];exact a29 hl hx hwl,.none,.int _,.none,by decide,?_⟩;rw[CG,←List.map_take]
 repeat walk_at"w"
 refine⟨_,none,some ((6:Nat):Int),none,.frozen,by rw[tl,sizeLine_eq];exact a29 hl hx hwl,.none,.int _,.none,by decide,?_⟩;rw[CG,tt]
 repeat walk_at"w"
 refine⟨As rfl,?_⟩;rw[hws];exact .drop (List.sublist_cons_self _ _) q
noncomputable def OG(X:Cx)(n:Nat)(f:Addr)(F:Value→FuncData)(qn:Str)(P:Str→Bool):Prop:=∀(o:Own) (g:Array GenState) (row:Str) (Q:PV→PS→Prop),(f,.lam F qn)∈o→Q (.bool (P row)) ⟨o,g⟩→ON X (AR n) Is (fun l=>call (.ref f) l) [.str row] Q ⟨o,g⟩
noncomputable def A7(P:Str→Bool)(r:Str):List Str:=if P r then["> ",r]else[r]
theorem CY(P:Str→Bool):∀l:List Str,(l.flatMap (A7 P)).length≤2*l.length
 | []=>by simp
 | r::l=>by
  have:=CY P l
  have h:(A7 P r).length≤2:=by unfold A7;split<;>simp
  rw[List.flatMap_cons,List.length_append,List.length_cons];exact a93 this h
theorem CX(P:Str→Bool):∀l:List Str,((l.flatMap (A7 P)).map (·.length)).sum≤(l.map (·.length)).sum+2*l.length
 | []=>by simp
 | r::l=>by
  have:=CX P l
  have h:((A7 P r).map (·.length)).sum≤r.length+2:=by
   unfold A7
   have z:(Str.ofString "> ").length=2:=by decide+kernel
   split
   ·show(("> ":Str).length+(r.length+0))≤_;exact aw6 z
   ·show r.length+0≤_;exact aw5
  rw[List.flatMap_cons,List.map_append,List.sum_append,List.map_cons,List.sum_cons,List.length_cons];exact aw4 this h
theorem DO{X:Cx}{Q:PV→PS→Prop}{n:Nat}{f:Addr}{name qual:Str}{params:Arguments}{body:Expr}{scope:Scope}{pm:Value}{ns:List Str}{args:List PV}{σ:PS}(hm:(f,.lam (Dt name qual params body scope pm) qual)∈σ.own)(hco:scope.isCoroutine=false)(hgen:scope.isGenerator=false)(hk:scope.kind=.function)(hcell:∀x∈scope.names,x.2≠.cell)(hloc:∀x∈ns,scope.names.lookup x=some .local)(hbind:∀cv (vs:List Value),vs.length=args.length→bindArgs (Dt name qual params body scope pm cv) ⟨vs,[]⟩=pure (ns.zip vs))(hlen:ns.length=args.length)(hn:n<500)(h:∀env,En env scope.names []→WV X (AR (n+1)) (eval body env) (fun v σ'=>Lvs Q v σ') ⟨(env.locals,.ns (ns.zip args).reverse)::σ.own,σ.gens⟩):OC X (AR n) (.ref f) [] args Q σ:=Mz hm (fun cv=>⟨rfl,rfl,rfl,rfl,rfl,rfl,rfl⟩) hco hgen hk hcell hloc hbind hlen hn h
set_option maxHeartbeats 2000000 in
theorem Mg{X:Cx}{n:Nat}(hn:n<480){rows:List Str}{P:Str→Bool}(hl:rows.length≤20)(hsz:(rows.map (·.length)).sum≤10000){pv:PV}{Q:PV→PS→Prop}{σ:PS}(hk:Am (Txt.join "" rows)=rows)(hjl:(Txt.join "" rows).length≤100000)(hv:(pv=.none∧P=(fun r=> !Txt.isspace r)∧(24,.tab ("indent"++".<locals>."++"<lambda>"))∈σ.own)∨(∃f F qn,pv=.raw (.ref f)∧(f,.lam F qn)∈σ.own∧OG X (n+1) f F qn P))(q:Q (.str (Txt.join "" (rows.flatMap (A7 P)))) σ):OC X (AR n) (.ref 29) [] [.str (Txt.join "" rows),.str "> ",pv] Q σ:=by
 refine DP (ns:=["text","prefix","predicate"]) (Mj _) rfl ⟨28,_,_,_,rfl,IH _,rfl,rfl⟩ rfl (NZ X _ _ rfl rfl _ _ _) rfl (by decide) (by decide) rfl rfl rfl rfl rfl rfl (by exact a10 hn) fun env he hco hqu=>?_;refine W_seq ?_;walk_at"w";walk_at"w";walk_at"w";walk_at"w"
 refine W.mono (Q:=fun f σ'=>f=.next∧∃m fa F qn o,m.lookup ("text":Str)=some (PV.str (Txt.join "" rows))∧m.lookup ("prefix":Str)=some (PV.str "> ")∧m.lookup ("predicate":Str)=some (PV.raw (.ref fa))∧σ.own.Sublist o∧(fa,.lam F qn)∈o∧OG X (n+1) fa F qn P∧
  σ'=⟨(env.locals,.ns m)::o,σ.gens⟩) ?_ ?_
 ·repeat walk_at"w"
  rcases hv with⟨rfl,rfl,h24⟩| ⟨f,F,qn,rfl,hm,ht⟩
  ·refine Kp rfl ?_
   repeat walk_at"w"
   refine Ah rfl ?_
   repeat walk_at"w"
   refine DR he hco hqu (Nt _) (by decide) (by decide) rfl rfl (.tail _ h24) fun f=>?_
   repeat walk_at"w"
   refine⟨rfl,_,f,_,_,_,by walk_at"k",by walk_at"k",by walk_at"k",List.sublist_cons_self _ _,.head _,?_,rfl⟩;intro o g row Q' hm q';refine(DO (n:=n+1) (ns:=["s"]) hm rfl rfl rfl (by decide) (by decide) (fun cv=>by exact Fq fun a=>rfl) rfl (by exact aw3 hn) fun env he=>?_).on
   repeat walk_at"w"
   refine⟨row,rfl,Es_nil (Ko ?_)⟩
   repeat walk_at"w"
   exact .drop (List.sublist_cons_self _ _) q'
  ·refine Kp rfl ?_
   repeat walk_at"w"
   refine Ab rfl ?_
   repeat walk_at"w"
   exact⟨rfl,_,f,F,qn,_,rfl,rfl,rfl,.refl _,hm,ht,rfl⟩
 rintro f σ' ⟨rfl,m,fa,F,qn,o,m1,m2,m3,hsub,hfa,ht,rfl⟩
 repeat walk_at"w"
 refine AX fun ra=>?_
 repeat walk_at"w"
 refine MG rfl ?_ (fun O=>rfl)
 repeat walk_at"w"
 refine⟨_,rfl,?_⟩
 repeat walk_at"w"
 refine Dl hjl (by have:=congrArg List.length hk;unfold Am at this;rw[List.length_map]at this;exact a94 hl this) ?_;rw[hk]
 refine⟨_,fun rem σ'=>∃done todo m,rows=done++todo∧rem=Ac todo∧m.lookup ("prefix":Str)=some (PV.str "> ")∧m.lookup ("predicate":Str)=some (PV.raw (.ref fa))∧m.lookup ("prefixed_lines":Str)=some (PV.raw (.ref ra))∧
  σ'=⟨(env.locals,.ns m)::(ra,.list (Ac (done.flatMap (A7 P))))::o,σ.gens⟩,
  fun O O O=>.frozen,⟨[],rows,_,rfl,rfl,by walk_at"k",by walk_at"k",by walk_at"k",rfl⟩,?_,?_⟩
 ·clear m1 m2 m3
  intro K hK;rintro v r σ' ⟨done,todo,m,e1,e2,m1,m2,m3,rfl⟩
  cases todo with
  | nil=>cases e2
  | cons row todo=>
  obtain⟨rfl,rfl⟩:v=.str row∧r=Ac todo:=by
   simp only[Ac,List.map_cons,List.cons.injEq]at e2;exact e2
  have hdl:done.length≤20:=by have:=congrArg List.length e1;simp at this;exact aw2 hl this
  have hpl:=CY P done
  have e3:rows=(done++[row])++todo:=by rw[e1,List.append_assoc];rfl
  have e4:Ac ((done++[row]).flatMap (A7 P))=Ac (done.flatMap (A7 P))++Ac (A7 P row):=by rw[List.flatMap_append,List.flatMap_singleton];unfold Ac;rw[List.map_append]
  repeat walk_at"w"
  refine⟨Kept.lam (.tail _ (.tail _ hfa)),ht _ _ _ _ (.tail _ (.tail _ hfa)) ?_⟩
  repeat walk_at"w"
  cases hP:P row with
  | true=>
   have ep:A7 P row=(["> ",row]:List Str):=by unfold A7;rw[if_pos hP]
   refine Ah rfl ?_
   repeat walk_at"w"
   refine⟨ra,_,rfl,by walk_at"m",?_⟩
   repeat walk_at"w"
   refine⟨_,_,_,_,rfl,by walk_at"m",by rw[At,sizeLine_eq];exact a95 hdl hpl,by walk_at"u",?_⟩
   repeat walk_at"w"
   refine⟨ra,_,rfl,by walk_at"m",?_⟩
   repeat walk_at"w"
   refine⟨_,_,_,_,rfl,by walk_at"m",by rw[List.length_append,At,sizeLine_eq];show _+1≤_;exact aw1 hdl hpl,by walk_at"u",?_⟩
   repeat walk_at"w"
   refine⟨done++[row],todo,_,e3,rfl,by walk_at"k",by walk_at"k",by walk_at"k",HY ?_⟩;rw[e4,ep,List.append_assoc];rfl
  | false=>
   have ep:A7 P row=[row]:=by unfold A7;rw[if_neg (by rw[hP];exact Bool.false_ne_true)]
   refine Ab rfl ?_
   repeat walk_at"w"
   refine⟨ra,_,rfl,by walk_at"m",?_⟩
   repeat walk_at"w"
   refine⟨_,_,_,_,rfl,by walk_at"m",by rw[At,sizeLine_eq];exact a95 hdl hpl,by walk_at"u",?_⟩
   repeat walk_at"w"
   refine⟨done++[row],todo,_,e3,rfl,by walk_at"k",by walk_at"k",by walk_at"k",HY ?_⟩;rw[e4,ep];rfl
 ·rintro σ' ⟨done,todo,m,e1,e2,m1,m2,m3,rfl⟩
  cases todo with
  | cons x todo=>cases e2
  | nil=>
  rw[List.append_nil]at e1;subst e1
  repeat walk_at"w"
  refine⟨_,rfl,?_⟩
  repeat walk_at"w"
  have hpl:=CY P rows;have hps:=CX P rows
  have z0:(Str.ofString "").length=0:=by decide+kernel
  refine Mc (by walk_at"l") (by rw[z0];exact aw0 hl hsz hps) ?_;exact .drop (hsub.trans ((List.sublist_cons_self _ _).trans (List.sublist_cons_self _ _))) q
noncomputable def Dp(mode:Nat):Str→Bool:=if mode=0 then(fun r=> !Txt.isspace r)else if mode=1 then(fun O=>true)else(fun r=> !Txt.startswith r ">")
noncomputable def Fi:Own:=[(24,.tab ("indent"++".<locals>."++"<lambda>")),(292,.tab ("_law_indented"++".<locals>."++"<lambda>"))]
set_option maxHeartbeats 2000000 in
theorem Gy{X:Cx}{n:Nat}(hn:n<470){rows rows':List Str}{mode:Nat}(hm:mode<3)(hl:rows.length≤20)(hl':rows'.length≤20)(hsz:(rows.map (·.length)).sum≤10000){Q:PV→PS→Prop}{σ:PS}(hk:Am (Txt.join "" rows)=rows)(hjl:(Txt.join "" rows).length≤100000)(hk':Am (Txt.join "" (rows.flatMap (A7 (Dp mode))))=rows')(hjl':(Txt.join "" (rows.flatMap (A7 (Dp mode)))).length≤100000)(h24:(24,.tab ("indent"++".<locals>."++"<lambda>"))∈σ.own)(h292:(292,.tab ("_law_indented"++".<locals>."++"<lambda>"))∈σ.own)(q:Q (.lst (Ac rows')) σ):OC X (AR n) (.ref 297) [] [.lst (Ac rows),.int mode] Q σ:=by
 refine Kw (ns:=["lines","mode"]) (Ju _) rfl ⟨296,_,_,_,rfl,G9 _,rfl,rfl⟩ rfl (by exact EH fun a b=>rfl) rfl (by decide) (by decide) rfl rfl rfl rfl rfl rfl (by exact a57 hn) fun env he hco hqu=>?_;refine W_seq ?_
 repeat walk_at"w"
 refine AN ?_
 repeat walk_at"w"
 refine DR he hco hqu (H7 _) (by decide) (by decide) rfl rfl (.tail _ h292) fun f1=>?_
 repeat walk_at"w"
 refine DR he hco hqu (H7 _) (by decide) (by decide) rfl rfl (.tail _ (.tail _ h292)) fun f2=>?_
 repeat walk_at"w"
 refine⟨As rfl,?_⟩
 repeat walk_at"w"
 refine An (x:=([PV.none,.raw (.ref f1),.raw (.ref f2)]:List PV).getD mode .none) .frozen (by exact a23) (by rw[Int.toNat_natCast];exact BW (by simp;exact Yu hm)) (by exact UC hm) (fun O O=>rfl) ?_;walk_at"w";walk_at"w";walk_at"w";walk_at"w";walk_at"w";refine W.mono (Q:=fun v σ'=>v=.str (Txt.join "" (rows.flatMap (A7 (Dp mode))))∧σ.own.Sublist σ'.own∧σ'.gens=σ.gens) ?_ ?_
 ·repeat walk_at"w"
  refine⟨_,rfl,?_⟩
  repeat walk_at"w"
  have z0:(Str.ofString "").length=0:=by decide+kernel
  refine Mc .frozen (by rw[z0];exact Yt hsz) ?_
  repeat walk_at"w"
  refine⟨Kept.fn (Mj _) rfl,(Mg (n:=n+1) (P:=Dp mode) (by exact T8 hn) hl hsz hk hjl ?_ ⟨rfl,?_,rfl⟩).on⟩
  ·match mode,hm with
   | 0,_=>exact .inl ⟨rfl,rfl,.tail _ (.tail _ (.tail _ h24))⟩
   | 1,_=>
    refine .inr ⟨f1,_,_,rfl,.tail _ (.tail _ (.head _)),?_⟩;intro o g row Q' hm q';refine(DO (n:=n+2) (ns:=["row"]) hm rfl rfl rfl (by decide) (by decide) (fun cv=>by exact Fq fun a=>rfl) rfl (by exact T7 hn) fun env he=>?_).on
    repeat walk_at"w"
    exact .drop (List.sublist_cons_self _ _) q'
   | 2,_=>
    refine .inr ⟨f2,_,_,rfl,.tail _ (.head _),?_⟩;intro o g row Q' hm q';refine(DO (n:=n+2) (ns:=["row"]) hm rfl rfl rfl (by decide) (by decide) (fun cv=>by exact Fq fun a=>rfl) rfl (by exact T7 hn) fun env he=>?_).on
    repeat walk_at"w"
    refine⟨row,rfl,?_⟩
    repeat walk_at"w"
    refine Gh ?_
    repeat walk_at"w"
    exact .drop (List.sublist_cons_self _ _) q'
  ·exact((List.sublist_cons_self _ _).trans (List.sublist_cons_self _ _)).trans (List.sublist_cons_self _ _)
 rintro _ ⟨o',g'⟩ ⟨rfl,hsub,hg⟩;refine⟨_,rfl,?_⟩
 repeat walk_at"w"
 refine Dl hjl' (by have:=congrArg List.length hk';unfold Am at this;rw[List.length_map]at this;exact a94 hl' this) ?_;rw[hk']
 repeat walk_at"w"
 simp only at hsub hg;subst hg;exact .drop hsub q
theorem Kz{X:Cx}{σ:PS}(fd:FuncData)(o:Obj)(ho:Iu pw X.w.params=o)(hfd:o.data=.func fd)(a b c d e f g:PV):GT X σ fd [] [a,b,c,d,e,f,g] ["a","b","args"] [a,b,.tup [c,d,e,f,g]]:=by
 subst ho
 cases hfd
 intro A s vs hs i
 cases i with | cons ia i=>
 cases i with | cons ib i=>
 have i0:=i
 cases i with | cons ic i=>
 cases i with | cons id i=>
 cases i with | cons ie i=>
 cases i with | cons if' i=>
 cases i with | cons ig i=>
 cases i
 obtain⟨t,k,it⟩:=hs.newTup i0;rename_i va vb vc vd ve vf vg;show wpAny _ _ (do let t ←newTuple [vc,vd,ve,vf,vg];pure [(("a":Str),va),(("b":Str),vb),(("args":Str),t)]) _ _ _;exact wpAny_bind (wpAny_newTuple (wpAny_pure ⟨rfl,.cons (ia.keep k) (.cons (ib.keep k) (.cons it .nil)),t,k⟩) (by show 5≤sizeLine;decide))
theorem HO{X:Cx}{n:Nat}(hn:n<480){as bs ss:List Str}(hl:as.length≤50)(hl':bs.length≤50){c d e f g:Str}{Q:PV→PS→Prop}{σ:PS}(q:Q .none σ):OC X (AR n) (.ref 276) [] [.lst (Ac as),.lst (Ac bs),.str c,.str d,.str e,.str f,.str g] Q σ:=by
 refine B5 (ns:=["a","b","args"]) (Jw _) rfl ⟨275,_,_,_,rfl,N7 _,rfl,rfl⟩ rfl (Kz _ _ rfl rfl _ _ _ _ _ _ _) rfl rfl rfl rfl rfl rfl (by exact a10 hn) fun env rs hrs he=>?_;obtain rfl:rs=[]:=List.map_eq_nil_iff.mp (hrs.trans (by rfl));show TBs X _ env _ _ _ ⟨(env.locals,.ns [])::σ.own,σ.gens⟩;refine AP (En.storeN he rfl ?_);refine AP (En.storeN he rfl ?_);refine AP (En.storeN he rfl ?_);refine D6 ?_;refine W_seq ?_
 have done:∀(m:List (Str×PV)),m.lookup ("args":Str)=some (.tup [.str c,.str d,.str e,.str f,.str g])→WF X (AR (n+1)) (execs ((fB (tS pw 10)).drop 2) env) (fun f σ'=>Lvs Q f.val σ') ⟨(env.locals,.ns m)::σ.own,σ.gens⟩:=fun m hm=>by
  refine W_seq ?_;refine R0 rfl ?_ (fun O=>rfl)
  repeat walk_at"w"
  refine⟨_,fun rem σ'=>∃ys m,rem=Ac ys∧σ'=⟨(env.locals,.ns m)::σ.own,σ.gens⟩,rfl,⟨[c,d,e,f,g],m,rfl,rfl⟩,?_,?_⟩
  ·rintro v r σ' ⟨ys,m,e2,rfl⟩
   cases ys with
   | nil=>cases e2
   | cons y ys=>
   obtain⟨rfl,rfl⟩:v=.str y∧r=Ac ys:=by
    simp only[Ac,List.map_cons,List.cons.injEq]at e2;exact e2
   repeat walk_at"w"
   refine Me ?_
   repeat walk_at"w"
   refine Ab rfl ?_
   repeat walk_at"w"
   exact⟨ys,_,rfl,rfl⟩
  ·rintro σ' ⟨ys,m,e2,rfl⟩
   repeat walk_at"w"
   exact .drop (List.sublist_cons_self _ _) q
 have two:∀(m:List (Str×PV)),m.lookup ("b":Str)=some (.lst (Ac bs))→m.lookup ("args":Str)=some (.tup [.str c,.str d,.str e,.str f,.str g])→WF X (AR (n+1)) (execs ((fB (tS pw 10)).drop 1) env) (fun f σ'=>Lvs Q f.val σ') ⟨(env.locals,.ns m)::σ.own,σ.gens⟩:=fun m hb hm=>by
  refine W_seq ?_
  repeat walk_at"w"
  refine BR .frozen (by rw[At];exact TP hl') ?_
  cases bs with
  | nil=>
   refine Ab rfl ?_;refine Ab rfl ?_;refine W_nil ?_;exact done m hm
  | cons b bs=>
   refine Ah rfl ?_
   repeat walk_at"w"
   refine An (l:=Ac (b::bs)) (x:=.str b) .frozen (by exact a18) rfl (by exact a5) (fun O O=>rfl) ?_
   repeat walk_at"w"
   refine Me ?_
   repeat walk_at"w"
   refine Ab rfl ?_;refine Ab rfl ?_;refine W_nil ?_;exact done m hm
 repeat walk_at"w"
 refine BR .frozen (by rw[At];exact TP hl) ?_
 cases as with
 | nil=>
  refine Ab rfl ?_;refine Ab rfl ?_;refine W_nil ?_;exact two _ (by walk_at"k") (by walk_at"k")
 | cons b as=>
  refine Ah rfl ?_
  repeat walk_at"w"
  refine An (l:=Ac (b::as)) (x:=.str b) .frozen (by exact a18) rfl (by exact a5) (fun O O=>rfl) ?_
  repeat walk_at"w"
  refine Me ?_
  repeat walk_at"w"
  refine Ab rfl ?_;refine Ab rfl ?_;refine W_nil ?_;exact two _ (by walk_at"k") (by walk_at"k")
noncomputable def tri(t:Tri):PV:=.mat [.int (t.1:Int),.int (t.2.1:Int),.int (t.2.2:Int)]
noncomputable def B0:Nat→Str
 | 0=>"equal"
 | 1=>"replace"
 | 2=>"delete"
 | _=>"insert"
noncomputable def Aw(c:Cd):PV:=.tup [.str (B0 c.1),.int (c.2.1:Int),.int (c.2.2.1:Int),.int (c.2.2.2.1:Int),.int (c.2.2.2.2:Int)]
noncomputable def Gd(X:Cx)(n:Nat)(m:List (Str×PV))(T:List Tri)(R:Own):Prop:=∀(x dx:Addr) (k:Nat) (r:Own) (g:Array GenState) (Q:PV→PS→Prop),(∀p∈R,p∈r)→k≤30→(∀k' m',k'≤60→m'.lookup ("opcodes":Str)=m.lookup ("opcodes":Str)→Q (.lst (T.map tri)) ⟨(x,.inst 250 dx)::(dx,.fld k' m')::r,g⟩)→
 OC X (AR n) (.ref 211) [] [.raw (.ref x)] Q ⟨(x,.inst 250 dx)::(dx,.fld k m)::r,g⟩
noncomputable def Bt(i ai j bj:Nat):Nat:=if i<ai∧j<bj then 1 else if i<ai then 2 else if j<bj then 3 else 0
noncomputable def EO(i ai j bj:Nat):Str:=if Bt i ai j bj=0 then"" else B0 (Bt i ai j bj)
noncomputable def EP(i ai j bj:Nat):List Cd:=if Bt i ai j bj=0 then[]else[(Bt i ai j bj,i,ai,j,bj)]
theorem FA(t:Tri)(T:List Tri)(i j:Nat):AO (t::T) i j=EP i t.1 j t.2.1++(if t.2.2=0 then[]else[(0,t.1,t.1+t.2.2,t.2.1,t.2.1+t.2.2)])++AO T (t.1+t.2.2) (t.2.1+t.2.2):=by
 show(if i<t.1∧j<t.2.1 then _ else _)++_++_=_;unfold EP Bt;by_cases h1:i<t.1∧j<t.2.1
 ·simp[h1]
 ·by_cases h2:i<t.1
  ·have h3:¬j<t.2.1:=fun h=>h1 ⟨h2,h⟩
   simp[h2,h3]
  ·by_cases h3:j<t.2.1<;>simp[h2,h3]
noncomputable def o16(ra x dx:Addr)(L:List PV)(k:Nat)(m:List (Str×PV))(r:Own):Own:=(ra,.list L)::(x,.inst 250 dx)::(dx,.fld k m)::r
theorem KN:∀c:Nat,(B0 c).length<100∧((B0 c).length:Int)≠0
 | 0=>by decide+kernel
 | 1=>by decide+kernel
 | 2=>by decide+kernel
 | c+3=>by show(Str.ofString "insert").length<100∧((Str.ofString "insert").length:Int)≠0;decide+kernel
theorem Ml(i ai j bj:Nat):(EP i ai j bj).length≤1:=by unfold EP;split<;>simp
set_option maxHeartbeats 4000000 in
theorem get_opcodes{X:Cx}{n:Nat}(hn:n<470){x dx:Addr}{k:Nat}{m:List (Str×PV)}{T:List Tri}(hT:T.length≤10)(hb:∀t∈T,t.1≤100∧t.2.1≤100∧t.2.2≤100){Q:PV→PS→Prop}{r:Own}{g:Array GenState}(hk:k≤25)(hm:m.lookup ("opcodes":Str)=some PV.none)(hmb:m.lookup ("get_matching_blocks":Str)=none){R:Own}(hR:∀p∈R,p∈r)(hB:∀a,Gd X (n+1) (Ao m "opcodes" a) T R)(q:∀ra k' m',k'≤60→Q (.raw (.ref ra)) ⟨(ra,.list ((AO T 0 0).map Aw))::(x,.inst 250 dx)::(dx,.fld k' m')::r,g⟩):OC X (AR n) (.ref 218) [] [.raw (.ref x)] Q ⟨(x,.inst 250 dx)::(dx,.fld k m)::r,g⟩:=by
 refine AM (ns:=["self"]) (Jz _) rfl ⟨217,_,_,_,rfl,NC _,rfl,rfl⟩ rfl (by exact Fq fun a=>rfl) rfl (by decide) (by decide) rfl rfl rfl rfl rfl rfl (by exact a57 hn) fun env he=>?_;refine W_seq ?_
 repeat walk_at"w"
 refine AD (dx:=dx) (by exact .tail _ (.head _)) (by exact .tail _ (.tail _ (.head _))) hm rfl (by rfl) ?_
 repeat walk_at"w"
 refine Jo rfl ?_
 repeat walk_at"w"
 refine Ab rfl ?_
 repeat walk_at"w"
 refine AX fun ra=>?_
 repeat walk_at"w"
 refine A1 (by exact .tail _ (.tail _ (.head _))) (by exact .tail _ (.tail _ (.tail _ (.head _)))) (by rfl) (by exact YB hk) (by exact .there (.there (.there .here))) ?_
 repeat walk_at"w"
 refine CO rfl (G:=Nat×Nat×List Cd×Nat×List (Str×PV)) T tri (fun O h=>⟨(env.locals,.ns [("answer",.raw (.ref ra)),("i",.int h.1),("j",.int h.2.1)])::o16 ra x dx (h.2.2.1.map Aw) h.2.2.2.1 h.2.2.2.2 r,g⟩)
  (fun d h=>AO T 0 0=h.2.2.1++AO (T.drop d) h.1 h.2.1∧h.2.2.1.length≤2*d∧h.2.2.2.1≤60) (fun Q hQ=>?_) (fun d t hd h hh K nx br rt=>?_) (fun h hh=>?_) (fun O=>rfl)
 ·refine BK rfl trivial (fun O=>rfl) (by rfl) (by rfl) (J0 _) rfl ?_
  repeat walk_at"w"
  refine⟨x,dx,_,_,rfl,by walk_at"m",by walk_at"m",?_,?_⟩
  ·exact lk_ne rfl hmb
  repeat walk_at"w"
  refine(OC.past (pre:=[_,_]) (a:=[_,_]) (hB (.raw (.ref ra)) x dx (k+1) _ _ _ (fun p hp=>List.mem_append_right [_,_] (hR p hp)) (by exact YA hk) fun k' m' hk' hm'=>⟨[_,_],_,rfl,?_⟩)).on;exact hQ _ (0,0,[],k',m') (fun O O=>.frozen) ⟨rfl,Nat.le_refl _,hk'⟩ _ (.ns rfl)
 ·obtain⟨hacc,hal,hk'⟩:=hh
  have hdl:d<10:=Nat.lt_of_lt_of_le (List.getElem?_eq_some_iff.mp hd).1 hT;rw[A0 hd,FA]at hacc;have hgl:=Ml h.1 t.1 h.2.1 t.2.1;refine IU rfl rfl rfl ?_;refine TGs_cons (En.store he rfl ?_);refine TGs_cons (En.store he rfl ?_);refine TGs_cons (En.store he rfl ?_);refine TGs_nil ?_;walk_at"w";walk_at"w";walk_at"w";walk_at"w";walk_at"w";walk_at"w";refine BJ (G:=Unit) (fun O=>⟨(env.locals,.ns [("answer",.raw (.ref ra)),("i",.int h.1),("j",.int h.2.1),("ai",.int t.1),("bj",.int t.2.1),("size",.int t.2.2),("tag",.str (EO h.1 t.1 h.2.1 t.2.1))])::o16 ra x dx (h.2.2.1.map Aw) h.2.2.2.1 h.2.2.2.2 r,g⟩) (fun O=>True) (fun K2 jn ps=>?_) (fun O O=>?_)
  ·repeat walk_at"w"
   by_cases c1:h.1<t.1
   ·refine Ah (decide_eq_true (by exact a2 c1)) ?_
    repeat walk_at"w"
    by_cases c2:h.2.1<t.2.1
    ·refine Ah (decide_eq_true (by exact a2 c2)) ?_
     repeat walk_at"w"
     refine Ah rfl ?_
     repeat walk_at"w"
     exact jn () trivial _ (by rw[show EO h.1 t.1 h.2.1 t.2.1="replace" by simp[EO,Bt,c1,c2,B0]];exact .ns rfl)
    ·refine Ab (decide_eq_false (by exact a3 c2)) ?_
     refine Ab rfl ?_
     repeat walk_at"w"
     refine Ah (decide_eq_true (by exact a2 c1)) ?_
     repeat walk_at"w"
     exact jn () trivial _ (by rw[show EO h.1 t.1 h.2.1 t.2.1="delete" by simp[EO,Bt,c1,c2,B0]];exact .ns rfl)
   ·refine Ab (decide_eq_false (by exact a3 c1)) ?_
    refine Ab rfl ?_
    repeat walk_at"w"
    refine Ab (decide_eq_false (by exact a3 c1)) ?_
    repeat walk_at"w"
    by_cases c2:h.2.1<t.2.1
    ·refine Ah (decide_eq_true (by exact a2 c2)) ?_
     repeat walk_at"w"
     exact jn () trivial _ (by rw[show EO h.1 t.1 h.2.1 t.2.1="insert" by simp[EO,Bt,c1,c2,B0]];exact .ns rfl)
    ·refine Ab (decide_eq_false (by exact a3 c2)) ?_
     repeat walk_at"w"
     exact jn () trivial _ (by rw[show EO h.1 t.1 h.2.1 t.2.1="" by simp[EO,Bt,c1,c2,B0]];exact .ns rfl)
  walk_at"w";walk_at"w";refine BJ (G:=Unit) (fun O=>⟨(env.locals,.ns [("answer",.raw (.ref ra)),("ai",.int t.1),("bj",.int t.2.1),("size",.int t.2.2)])::o16 ra x dx ((h.2.2.1++EP h.1 t.1 h.2.1 t.2.1).map Aw) h.2.2.2.1 h.2.2.2.2 r,g⟩) (fun O=>True) (fun K2 jn ps=>?_) (fun O O=>?_)
  ·repeat walk_at"w"
   by_cases c0:Bt h.1 t.1 h.2.1 t.2.1=0
   ·rw[show EO h.1 t.1 h.2.1 t.2.1="" from if_pos c0]
    refine truthy_str (by decide+kernel) ?_;refine Ab (by decide+kernel) ?_
    repeat walk_at"w"
    exact jn () trivial _ (.l1 rfl (by rw[show EP h.1 t.1 h.2.1 t.2.1=[]from if_pos c0,List.append_nil]))
   ·rw[show EO h.1 t.1 h.2.1 t.2.1=B0 (Bt h.1 t.1 h.2.1 t.2.1)from if_neg c0]
    obtain⟨t1,t2⟩:=KN (Bt h.1 t.1 h.2.1 t.2.1);refine truthy_str (by exact Y9 t1) ?_;refine Ah (by simpa using t2) ?_
    repeat walk_at"w"
    refine⟨ra,_,rfl,by walk_at"m",?_⟩
    repeat walk_at"w"
    refine⟨As rfl,_,_,_,_,rfl,by walk_at"m",by rw[List.length_map,sizeLine_eq];exact Y8 hal (Nat.le_of_lt hdl),by walk_at"u",?_⟩
    repeat walk_at"w"
    exact jn () trivial _ (.l1 rfl (by rw[show EP h.1 t.1 h.2.1 t.2.1=[_]from if_neg c0,List.map_append];rfl))
  repeat walk_at"w"
  by_cases c:t.2.2=0
  ·refine Ab (by rw[c];rfl) ?_
   repeat walk_at"w"
   exact nx .next rfl (t.1+t.2.2,t.2.1+t.2.2,h.2.2.1++EP h.1 t.1 h.2.1 t.2.1,h.2.2.2) ⟨by rw[hacc,if_pos c,List.append_nil,List.append_assoc],by rw[List.length_append];exact Y7 hal hgl,hk'⟩ _ (.ns rfl)
  ·refine Ah (by simpa using c) ?_
   repeat walk_at"w"
   refine⟨ra,_,rfl,by walk_at"m",?_⟩
   repeat walk_at"w"
   refine⟨As rfl,_,_,_,_,rfl,by walk_at"m",by rw[List.length_map,List.length_append,sizeLine_eq];exact YD hal (Nat.le_of_lt hdl) hgl,by walk_at"u",?_⟩
   repeat walk_at"w"
   exact nx .next rfl (t.1+t.2.2,t.2.1+t.2.2,h.2.2.1++EP h.1 t.1 h.2.1 t.2.1++[(0,t.1,t.1+t.2.2,t.2.1,t.2.1+t.2.2)],h.2.2.2)
    ⟨by rw[hacc,if_neg c,List.append_assoc,List.append_assoc,List.append_assoc],by rw[List.length_append,List.length_append];exact YC hal hgl,hk'⟩ _ (.l1 rfl (by rw[List.map_append (l₂:=[_])];rfl))
 ·obtain⟨hacc,hal,hk'⟩:=hh
  rw[List.drop_length,show AO [] h.1 h.2.1=[]from rfl,List.append_nil]at hacc;rw[←hacc]
  repeat walk_at"w"
  exact .drop (List.sublist_cons_self _ _) (q _ _ _ hk')
noncomputable def pos(l:List Str)(s:Str):List Int:=((List.range l.length).filter fun i=>l.getD i ""==s).map fun(i:Nat)=>(i:Int)
theorem Dq(l:List Str)(e s:Str):pos (l++[e]) s=pos l s++(if e=s then[(l.length:Int)]else[]):=by
 unfold pos;rw[List.length_append,List.length_singleton,List.range_succ,List.filter_append,List.map_append]
 congr 1
 ·congr 1
  refine List.filter_congr fun i hi=>?_;rw[List.mem_range]at hi;rw[List.getD_eq_getElem?_getD,List.getD_eq_getElem?_getD,List.getElem?_append_left hi]
 ·rw[List.filter_cons,List.filter_nil]
  have:(l++[e]).getD l.length ""=e:=by rw[List.getD_eq_getElem?_getD,List.getElem?_append_right (Nat.le_refl _),Nat.sub_self];rfl
  rw[this];by_cases h:e=s
  ·rw[if_pos h,if_pos (beq_iff_eq.mpr h)];rfl
  ·rw[if_neg h,if_neg (fun x=>h (beq_iff_eq.mp x))];rfl
theorem IY{l:List Str}{s:Str}(h:s∉l):pos l s=[]:=by
 unfold pos;rw[List.filter_eq_nil_iff.mpr,List.map_nil];intro i hi hs;rw[List.mem_range]at hi;rw[List.getD_eq_getElem?_getD,List.getElem?_eq_getElem hi]at hs;exact h (beq_iff_eq.mp hs▸List.getElem_mem hi)
noncomputable def lists(l:List Str)(ks:List (Str×Addr)):Own:=ks.map fun p=>(p.2,.list (Aj (pos l p.1)))
theorem EG{l:List Str}{e:Str}{ks:List (Str×Addr)}(h:e∉ks.map Prod.fst):lists (l++[e]) ks=lists l ks:=by
 unfold lists;refine List.map_congr_left fun p hp=>?_;have:e≠p.1:=fun x=>h (x▸List.mem_map.mpr ⟨p,hp,rfl⟩);rw[Dq,if_neg this,List.append_nil]
theorem FG{l:List Str}{e:Str}{a:Addr}:∀{ks:List (Str×Addr)},(ks.map Prod.fst).Nodup→ks.lookup e=some a→Upd (lists l ks) a (.list (Aj (pos l e)++[.int (l.length:Int)])) (lists (l++[e]) ks)
 | [],_,h=>by cases h
 | (s,b)::ks,nd,h=>by
  rw[List.map_cons,List.nodup_cons]at nd;by_cases hs:e=s
  ·subst hs
   rw[List.lookup_cons_self]at h
   cases(h)
   show Upd ((a,_)::lists l ks) _ _ ((a,.list (Aj (pos (l++[e]) e)))::lists (l++[e]) ks);rw[EG nd.1,Dq,if_pos rfl]
   have:Aj (pos l e++[(l.length:Int)])=Aj (pos l e)++[.int (l.length:Int)]:=by unfold Aj;rw[List.map_append];rfl
   rw[this];exact .here
  ·have hb:(e==s)=false:=beq_eq_false_iff_ne.mpr hs
   rw[List.lookup_cons,hb]at h;show Upd ((b,.list (Aj (pos l s)))::lists l ks) _ _ ((b,.list (Aj (pos (l++[e]) s)))::lists (l++[e]) ks);rw[Dq,if_neg hs,List.append_nil];exact .there (FG nd.2 h)
theorem Upd.app{a:Addr}{p q:PO}{B:Own}:∀A:Own,Upd (A++(a,p)::B) a q (A++(a,q)::B)
 | []=>.here
 | x::A=>.there (Upd.app A)
theorem Upd.left{a:Addr}{q:PO}{A A':Own}(B:Own)(u:Upd A a q A'):Upd (A++B) a q (A'++B):=by
 induction u with
 | here=>exact .here
 | there u ih=>exact .there ih
theorem CJ{l:List Str}{e:Str}{a:Addr}:∀{ks:List (Str×Addr)},ks.lookup e=some a→(a,PO.list (Aj (pos l e)))∈lists l ks
 | [],h=>by cases h
 | (s,b)::ks,h=>by
  rw[List.lookup_cons]at h;by_cases hs:e=s
  ·subst hs;rw[beq_self_eq_true]at h;cases h;exact .head _
  ·rw[beq_eq_false_iff_ne.mpr hs]at h;exact .tail _ (CJ h)
noncomputable def A3(bs:List Str)(s:Str):Option PV:=if s∈bs then some (.lst (Aj (pos bs s)))else none
set_option maxHeartbeats 4000000 in
theorem NT{X:Cx}{n:Nat}(hn:n<470){x dx:Addr}{k:Nat}{bs:List Str}{m:List (Str×PV)}{Q:PV→PS→Prop}{r:Own}{g:Array GenState}(hl:bs.length≤50)(hk:k≤30)(hm:m.lookup ("b":Str)=some (PV.lst (Ac bs)))(hj:m.lookup ("isjunk":Str)=some PV.none)(ha:m.lookup ("autojunk":Str)=some (PV.bool true))(q:∀d s1 s2 k',k'≤100→Q .none ⟨(s2,.set0)::(s1,.set0)::(d,.dictS k' (A3 bs))::(x,.inst 250 dx)::(dx,.fld (k+3) (Ao (Ao (Ao m "b2j" (.raw (.ref d))) "bjunk" (.raw (.ref s1))) "bpopular" (.raw (.ref s2))))::r,g⟩):OC X (AR n) (.ref 196) [] [.raw (.ref x)] Q ⟨(x,.inst 250 dx)::(dx,.fld k m)::r,g⟩:=by
 refine AM (ns:=["self"]) (J2 _) rfl ⟨195,_,_,_,rfl,NG _,rfl,rfl⟩ rfl (by exact Fq fun a=>rfl) rfl (by decide) (by decide) rfl rfl rfl rfl rfl rfl (by exact a57 hn) fun env he=>?_;refine W_seq ?_
 repeat walk_at"w"
 refine AD (dx:=dx) (by exact .tail _ (.head _)) (by exact .tail _ (.tail _ (.head _))) hm rfl (by rfl) ?_
 repeat walk_at"w"
 refine Of fun d=>?_
 repeat walk_at"w"
 refine A1 (by exact .tail _ (.tail _ (.head _))) (by exact .tail _ (.tail _ (.tail _ (.head _)))) (by rfl) (by exact Ub hk) (by exact .there (.there (.there .here))) ?_
 repeat walk_at"w"
 refine Oe rfl (G:=List (Str×Addr)×Nat) bs PV.str (fun i h=>⟨(env.locals,.ns [("self",.raw (.ref x)),("b",.lst (Ac bs)),("b2j",.raw (.ref d))])::(lists (bs.take i) h.1++((d,.dictS h.2 fun s=>(h.1.lookup s).map fun a=>.raw (.ref a))::(x,.inst 250 dx)::(dx,.fld (k+1) (Ao m "b2j" (.raw (.ref d))))::r)),g⟩)
  (fun i h=>(h.1.map Prod.fst).Nodup∧(∀s,(h.1.lookup s).isSome↔s∈bs.take i)∧h.2≤i) (fun Q hQ=>IS he rfl (by rfl) (by rfl) (by first| exact trivial| rfl) (fun O=>rfl) (by rfl) ?_) (fun i e hi h hh K nx br rt=>?_) (fun h hh=>?_) (fun O=>rfl)
 ·repeat walk_at"w"
  exact⟨_,Ac bs,rfl,.frozen,hQ _ ([],0) (fun O O=>.frozen) ⟨List.nodup_nil,fun s=>by simp,Nat.le_refl _⟩ _ (.ns rfl)⟩
 ·obtain⟨hnd,hks,hkd⟩:=hh
  have hil:=(List.getElem?_eq_some_iff.mp hi).1
  have hlen:(bs.take i).length=i:=by rw[List.length_take];exact Nat.min_eq_left (Nat.le_of_lt hil)
  have e3:bs.take (i+1)=bs.take i++[e]:=by rw[List.take_succ,hi];rfl
  rw[e3]at nx
  generalize bs.take i=done at*
  subst hlen;have hdl:done.length≤50:=Nat.le_trans (Nat.le_of_lt hil) hl
  have e4:(done++[e]).length=done.length+1:=by rw[List.length_append];rfl
  have hin:∀s,s∈done++[e]↔s∈done∨s=e:=fun s=>by rw[List.mem_append,List.mem_singleton]
  refine Az rfl rfl rfl ?_;refine TGs_cons (En.store he rfl ?_);refine TGs_cons (En.store he rfl ?_);refine TGs_nil ?_
  repeat walk_at"w"
  refine Ch (T:="dict") (id:="dict.setdefault") (by rfl) (by rfl) (by rfl) PySem.F.plainAttrs_dict PySem.F.slot_dict_setdefault PySem.F.type_dict_setdefault (by first| exact trivial| rfl) (fun O=>rfl) ?_
  repeat walk_at"w"
  refine⟨D8.dictS (.tail _ (List.mem_append_right _ (.head _))),?_⟩
  repeat walk_at"w"
  refine AX fun c=>?_
  repeat walk_at"w"
  have hpl:∀s,(pos done s).length≤50:=fun s=>by
   unfold pos;rw[List.length_map];exact Nat.le_trans (List.length_filter_le _ _) (by rw[List.length_range];exact Yy hdl)
  refine Gi (.tail _ (.tail _ (List.mem_append_right _ (.head _)))) (by rw[sizeLine_eq];exact ax6 hkd hdl) (fun y hy=>?_) (fun hno=>?_)
  ·cases hlk:h.1.lookup e with
   | none=>rw[hlk]at hy;cases hy
   | some a=>
   rw[hlk]at hy
   cases hy
   walk_at"w";walk_at"w";refine W.view (Cn.drop (((List.sublist_cons_self _ _)).cons₂ _)) ?_
   repeat walk_at"w"
   refine⟨a,_,rfl,.tail _ (List.mem_append_left _ (CJ hlk)),?_⟩
   repeat walk_at"w"
   refine⟨_,_,_,_,rfl,.tail _ (List.mem_append_left _ (CJ hlk)),by unfold Aj;rw[List.length_map,sizeLine_eq];have:=hpl e;exact Yx this,.there (Upd.left _ (FG hnd hlk)),?_⟩
   repeat walk_at"w"
   refine nx .next rfl h ⟨hnd,fun s=>?_,Nat.le_succ_of_le hkd⟩ _ (.ns rfl)
   rw[hin,hks];refine⟨.inl,fun h=>h.elim id fun h=>?_⟩;subst h;exact(hks s).mp (by rw[hlk];rfl)
  ·cases hlk:h.1.lookup e with
   | some a=>rw[hlk]at hno;cases hno
   | none=>
   refine⟨_,.there (.there (Upd.app _)),?_⟩
   have hnd':e∉h.1.map Prod.fst:=fun hq=>by
    obtain⟨p,hp,he'⟩:=List.mem_map.mp hq;obtain⟨s,a⟩:=p;simp only at he';subst he'
    have:=(hks s).mp (by
     cases hh:h.1.lookup s with
     | none=>exact absurd hp (fun hp=>by
       have:=List.lookup_eq_none_iff.mp hh _ hp
       simp at this)
     | some b=>rfl)
    have h2:=(hks s).mpr this;rw[hlk]at h2;cases h2
   have hnin:e∉done:=fun h=>by have:=(hks e).mpr h;rw[hlk]at this;cases this
   repeat walk_at"w"
   refine⟨c,_,rfl,.tail _ (.head _),?_⟩
   repeat walk_at"w"
   refine⟨_,_,_,_,rfl,.tail _ (.head _),Nat.zero_le _,.there .here,?_⟩
   repeat walk_at"w"
   refine nx .next rfl ((e,c)::h.1,h.2+1) ⟨by rw[List.map_cons,List.nodup_cons];exact⟨hnd',hnd⟩,fun s=>?_,Nat.succ_le_succ hkd⟩ _ ?_
   ·rw[hin,List.lookup_cons]
    by_cases hs:s=e
    ·subst hs;rw[beq_self_eq_true];exact⟨fun O=>.inr rfl,fun O=>rfl⟩
    ·rw[beq_eq_false_iff_ne.mpr hs]
     exact(hks s).trans ⟨.inl,fun h=>h.resolve_right hs⟩
   ·have hl1:lists (done++[e]) ((e,c)::h.1)=(c,.list [.int (done.length:Int)])::lists done h.1:=by
     show(c,PO.list (Aj (pos (done++[e]) e)))::lists (done++[e]) h.1=_;rw[EG hnd',Dq,if_pos rfl,IY hnin];rfl
    have hf:(fun s=>(((e,c)::h.1).lookup s).map fun a=>PV.raw (.ref a))=fun s=>if s=e then some (PV.raw (.ref c))else(h.1.lookup s).map fun a=>PV.raw (.ref a):=by
     funext s
     rw[List.lookup_cons];by_cases hs:s=e
     ·subst hs;rw[beq_self_eq_true,if_pos rfl];rfl
     ·rw[beq_eq_false_iff_ne.mpr hs,if_neg hs]
    rw[hl1,hf];exact .ns rfl
 obtain⟨hnd,hks,hkd⟩:=hh;rw[List.take_length]at hks ⊢
 have hf:∀s,((h.1.lookup s).map (fun a=>PV.raw (.ref a))=none∧A3 bs s=none)∨∃a l,(h.1.lookup s).map (fun a=>PV.raw (.ref a))=some (.raw (.ref a))∧(a,PO.list l)∈lists bs h.1∧A3 bs s=some (.lst l):=fun s=>by
  cases hlk:h.1.lookup s with
  | none=>
   refine .inl ⟨rfl,if_neg fun h=>?_⟩;have:=(hks s).mpr h;rw[hlk]at this;cases this
  | some a=>exact .inr ⟨a,_,rfl,CJ hlk,if_pos ((hks s).mp (by rw[hlk];rfl))⟩
 walk_at"w";refine W.view ((Cn.perm ((List.perm_middle.cons _).trans ((List.Perm.swap _ _ _).trans (List.perm_middle.symm.cons _)))).trans ((Cn.freezeDict hf).trans (Cn.perm (.swap _ _ _)))) ?_
 repeat walk_at"w"
 refine HQ fun s1=>?_
 repeat walk_at"w"
 refine A1 (by walk_at"m") (by walk_at"m") (by rfl) (by exact Yw hk) (by walk_at"u") ?_
 repeat walk_at"w"
 refine AD (dx:=dx) (by walk_at"m") (by walk_at"m") (v:=PV.none) ?hj rfl (by rfl) ?_
 case hj=>exact lk_ne rfl (lk_ne rfl hj)
 repeat walk_at"w"
 refine Ab rfl ?_
 repeat walk_at"w"
 refine HQ fun s2=>?_
 repeat walk_at"w"
 refine A1 (by walk_at"m") (by walk_at"m") (by rfl) (by exact Yv hk) (by walk_at"u") ?_
 repeat walk_at"w"
 refine Cl .frozen (by rw[At];exact Y1 hl) ?_
 repeat walk_at"w"
 refine WT_plain rfl ?_
 repeat walk_at"w"
 refine AD (dx:=dx) (by walk_at"m") (by walk_at"m") (v:=PV.bool true) ?ha rfl (by rfl) ?_
 case ha=>exact lk_ne rfl (lk_ne rfl (lk_ne rfl ha))
 repeat walk_at"w"
 refine Ah rfl ?_
 repeat walk_at"w"
 rw[At];refine Ab (decide_eq_false (by exact Y0 hl)) ?_;refine Ab rfl ?_
 repeat walk_at"w"
 exact .drop (List.sublist_cons_self _ _) (q d s1 s2 h.2 (by exact Yz hl hkd))
set_option maxHeartbeats 2000000 in
theorem set_seq2{X:Cx}{n:Nat}(hn:n<460){x dx:Addr}{k:Nat}{bs:List Str}{m:List (Str×PV)}{Q:PV→PS→Prop}{r:Own}{g:Array GenState}(hl:bs.length≤50)(hk:k≤20)(hm:m.lookup ("b":Str)=some PV.none)(hj:m.lookup ("isjunk":Str)=some PV.none)(ha:m.lookup ("autojunk":Str)=some (PV.bool true))(hc:m.lookup ("_SequenceMatcher__chain_b":Str)=none)(q:∀d s1 s2 k' m',k'≤100→m'=Ao (Ao (Ao (Ao (Ao (Ao (Ao m "b" (.lst (Ac bs))) "matching_blocks" .none) "opcodes" .none) "fullbcount" .none) "b2j" (.raw (.ref d))) "bjunk" (.raw (.ref s1))) "bpopular" (.raw (.ref s2))→Q .none ⟨(s2,.set0)::(s1,.set0)::(d,.dictS k' (A3 bs))::(x,.inst 250 dx)::(dx,.fld (k+7) m')::r,g⟩):OC X (AR n) (.ref 189) [] [.raw (.ref x),.lst (Ac bs)] Q ⟨(x,.inst 250 dx)::(dx,.fld k m)::r,g⟩:=by
 refine AM (ns:=["self","b"]) (J3 _) rfl ⟨188,_,_,_,rfl,NH _,rfl,rfl⟩ rfl (by exact EH fun a b=>rfl) rfl (by decide) (by decide) rfl rfl rfl rfl rfl rfl (by exact aj1 hn) fun env he=>?_;refine W_seq ?_
 repeat walk_at"w"
 refine AD (dx:=dx) (by walk_at"m") (by walk_at"m") hm rfl (by rfl) ?_;refine Kp rfl ?_
 repeat walk_at"w"
 refine Ab rfl ?_
 repeat walk_at"w"
 refine A1 (by walk_at"m") (by walk_at"m") (by rfl) (by exact aj0 hk) (by walk_at"u") ?_
 repeat walk_at"w"
 refine A1 (by walk_at"m") (by walk_at"m") (by rfl) (by exact ai9 hk) (by walk_at"u") ?_
 repeat walk_at"w"
 refine A1 (by walk_at"m") (by walk_at"m") (by rfl) (by exact ai8 hk) (by walk_at"u") ?_
 repeat walk_at"w"
 refine A1 (by walk_at"m") (by walk_at"m") (by rfl) (by exact ai7 hk) (by walk_at"u") ?_
 repeat walk_at"w"
 refine BK rfl trivial (fun O=>rfl) (by rfl) (by rfl) (J2 _) rfl ?_
 repeat walk_at"w"
 refine⟨x,dx,_,_,rfl,by walk_at"m",by walk_at"m",?_,?_⟩
 ·exact lk_ne rfl (lk_ne rfl (lk_ne rfl (lk_ne rfl hc)))
 repeat walk_at"w"
 refine(OC.past (pre:=[_]) (a:=[_,_]) (NT (n:=n+1) (by exact ai6 hn) hl (by exact ai5 hk) ?_ ?_ ?_ fun d s1 s2 k' hk'=>⟨[_,_,_,_,_],_,rfl,?_⟩)).on
 ·exact lk_ne rfl (lk_ne rfl (lk_ne rfl (lk_eq _ _ _)))
 ·exact lk_ne rfl (lk_ne rfl (lk_ne rfl (lk_ne rfl hj)))
 ·exact lk_ne rfl (lk_ne rfl (lk_ne rfl (lk_ne rfl ha)))
 repeat walk_at"w"
 exact .drop (List.sublist_cons_self _ _) (q d s1 s2 k' _ hk' rfl)
noncomputable def Hh(m:List (Str×PV))(as bs:List Str)(d s1 s2:Addr):List (Str×PV):=
 Ao (Ao (Ao (Ao (Ao (Ao (Ao (Ao (Ao (Ao m "a" (.lst (Ac as))) "matching_blocks" .none) "opcodes" .none) "b" (.lst (Ac bs))) "matching_blocks" .none) "opcodes" .none) "fullbcount" .none) "b2j" (.raw (.ref d))) "bjunk" (.raw (.ref s1))) "bpopular" (.raw (.ref s2))
set_option maxHeartbeats 2000000 in
theorem set_seqs{X:Cx}{n:Nat}(hn:n<450){x dx:Addr}{k:Nat}{as bs:List Str}{m:List (Str×PV)}{Q:PV→PS→Prop}{r:Own}{g:Array GenState}(hl:bs.length≤50)(hk:k≤10)(hma:m.lookup ("a":Str)=some PV.none)(hm:m.lookup ("b":Str)=some PV.none)(hj:m.lookup ("isjunk":Str)=some PV.none)(ha:m.lookup ("autojunk":Str)=some (PV.bool true))(hc:m.lookup ("_SequenceMatcher__chain_b":Str)=none)(hc1:m.lookup ("set_seq1":Str)=none)(hc2:m.lookup ("set_seq2":Str)=none)(q:∀d s1 s2 k',k'≤100→Q .none ⟨(s2,.set0)::(s1,.set0)::(d,.dictS k' (A3 bs))::(x,.inst 250 dx)::(dx,.fld (k+3+7) (Hh m as bs d s1 s2))::r,g⟩):OC X (AR n) (.ref 175) [] [.raw (.ref x),.lst (Ac as),.lst (Ac bs)] Q ⟨(x,.inst 250 dx)::(dx,.fld k m)::r,g⟩:=by
 refine AM (ns:=["self","a","b"]) (J5 _) rfl ⟨174,_,_,_,rfl,NJ _,rfl,rfl⟩ rfl (by exact IC fun a b c=>rfl) rfl (by decide) (by decide) rfl rfl rfl rfl rfl rfl (by exact Wo hn) fun env he=>?_;refine W_seq ?_
 repeat walk_at"w"
 refine BK rfl (by first| exact trivial| rfl) (fun O=>rfl) (by rfl) (by rfl) (J4 _) rfl ?_
 repeat walk_at"w"
 refine⟨x,dx,_,_,rfl,by walk_at"m",by walk_at"m",hc1,?_⟩
 repeat walk_at"w"
 refine(OC.past (pre:=[_]) (a:=[_,_]) (set_seq1 (n:=n+1) (by exact Wn hn) (by exact Wm hk) hma ⟨[_,_],_,rfl,?_⟩)).on
 repeat walk_at"w"
 refine BK rfl (by first| exact trivial| rfl) (fun O=>rfl) (by rfl) (by rfl) (J3 _) rfl ?_
 repeat walk_at"w"
 refine⟨x,dx,_,_,rfl,by walk_at"m",by walk_at"m",?_,?_⟩
 ·exact lk_ne rfl (lk_ne rfl (lk_ne rfl hc2))
 repeat walk_at"w"
 refine(OC.past (pre:=[_]) (a:=[_,_]) (set_seq2 (n:=n+1) (by exact Wl hn) hl (by exact Wj hk) ?_ ?_ ?_ ?_ fun d s1 s2 k' m' hk' hm'=>⟨[_,_,_,_,_],_,rfl,?_⟩)).on
 ·exact lk_ne rfl (lk_ne rfl (lk_ne rfl hm))
 ·exact lk_ne rfl (lk_ne rfl (lk_ne rfl hj))
 ·exact lk_ne rfl (lk_ne rfl (lk_ne rfl ha))
 ·exact lk_ne rfl (lk_ne rfl (lk_ne rfl hc))
 repeat walk_at"w"
 subst hm';exact .drop (List.sublist_cons_self _ _) (q d s1 s2 k' hk')
theorem M7(X:Cx)(fd:FuncData)(o:Obj)(ho:E9 pw X.w.params=o)(hfd:o.data=.func fd)(a b c d:PV):Bg X fd [] [a,b,c,d] ((["self","isjunk","a","b","autojunk"]:List Str).zip ([a,b,c,d]++[.bool true])):=by
 subst ho
 cases hfd
 refine Bg.of (dps:=[.bool true]) (dvs:=[.bool true]) (fun s vs hk h=>?_) (fun O O=>.cons (.bool true) .nil) rfl
 revert vs
 exact Nm fun a b c d=>BindsTo.of_defaults rfl (hk _ _ (NM _)) rfl rfl rfl
noncomputable def BS(as bs:List Str)(d s1 s2:Addr):List (Str×PV):=Hh (Ao (Ao (Ao (Ao [] "isjunk" .none) "a" .none) "b" .none) "autojunk" (.bool true)) as bs d s1 s2
set_option maxHeartbeats 2000000 in
theorem Np{X:Cx}{n:Nat}(hn:n<440){x dx:Addr}{as bs:List Str}{Q:PV→PS→Prop}{r:Own}{g:Array GenState}(hl:bs.length≤50)(q:∀d s1 s2 k',k'≤100→Q .none ⟨(s2,.set0)::(s1,.set0)::(d,.dictS k' (A3 bs))::(x,.inst 250 dx)::(dx,.fld 14 (BS as bs d s1 s2))::r,g⟩):OC X (AR n) (.ref 168) [] [.raw (.ref x),.none,.lst (Ac as),.lst (Ac bs)] Q ⟨(x,.inst 250 dx)::(dx,.fld 0 [])::r,g⟩:=by
 refine DP (ns:=["self","isjunk","a","b","autojunk"]) (NK _) rfl ⟨167,_,_,_,rfl,NL _,rfl,rfl⟩ rfl (M7 X _ _ rfl rfl _ _ _ _) rfl (by decide) (by decide) rfl rfl rfl rfl rfl rfl (by exact Ys hn) fun env he hco hqu=>?_;refine W_seq ?_
 repeat walk_at"w"
 refine A1 (by walk_at"m") (by walk_at"m") (by rfl) (by exact Yr) (by walk_at"u") ?_
 repeat walk_at"w"
 refine A1 (by walk_at"m") (by walk_at"m") (by rfl) (by exact Yq) (by walk_at"u") ?_
 repeat walk_at"w"
 refine A1 (by walk_at"m") (by walk_at"m") (by rfl) (by exact Yp) (by walk_at"u") ?_
 repeat walk_at"w"
 refine A1 (by walk_at"m") (by walk_at"m") (by rfl) (by exact Yo) (by walk_at"u") ?_
 repeat walk_at"w"
 refine BK rfl (by first| exact trivial| rfl) (fun O=>rfl) (by rfl) (by rfl) (J5 _) rfl ?_
 repeat walk_at"w"
 refine⟨x,dx,_,_,rfl,by walk_at"m",by walk_at"m",rfl,?_⟩
 repeat walk_at"w"
 refine(OC.past (pre:=[_]) (a:=[_,_]) (set_seqs (n:=n+1) (by exact Yn hn) hl (by exact Ym) rfl rfl rfl rfl rfl rfl rfl fun d s1 s2 k' hk'=>⟨[_,_,_,_,_],_,rfl,?_⟩)).on
 repeat walk_at"w"
 exact .drop (List.sublist_cons_self _ _) (q d s1 s2 k' hk')
theorem Kept.clsM{X:Cx}{σ:PS}:Kept X σ (.raw (.ref 143)):=fun s v hs i=>by
 cases i
 obtain⟨k,a,b⟩:=looks_keep (M:=md X) (K:=kf X.w.params) (f:=.ref 143) (by rfl) hs.kf;exact⟨k,a.elim .inl (fun e=>.inr (.inl e)),b⟩
theorem Bu{l:List Str}{i:Nat}(h:i<l.length):(Ac l)[i]? =some (.str (l.getD i "")):=by
 unfold Ac;rw[List.getElem?_map,List.getD_eq_getElem?_getD,List.getElem?_eq_getElem h];rfl
theorem Ht(bs:List Str)(s:Str):Aj (pos bs s)=B4 (CV bs s):=by
 unfold pos CV Aj B4;rw[List.map_map]
 congr 1
 refine List.filter_congr fun i hi=>?_;rw[List.mem_range]at hi;rw[List.getD_eq_getElem?_getD,List.getElem?_eq_getElem hi,Option.getD_some];by_cases h:bs[i]=s
 ·rw[beq_iff_eq.mpr h,h];simp
 ·rw[beq_eq_false_iff_ne.mpr h,eq_comm,decide_eq_false_iff_not];simpa using h
noncomputable def m21(as bs:List Str)(d bc nt:Addr)(alo ahi blo bhi:Nat)(b:Tri)(l:List (Str×PV)):List (Str×PV):=("a",.lst (Ac as))::("b",.lst (Ac bs))::("b2j",.raw (.ref d))::("isbjunk",.raw (.ref bc))::("nothing",.raw (.ref nt))::("alo",.int alo)::("ahi",.int ahi)::("blo",.int blo)::("bhi",.int bhi)::
 ("besti",.int b.2.1)::("bestj",.int b.2.2)::("bestsize",.int b.1)::l
noncomputable def o21(j2:Addr)(kd:Nat)(f:Int→Option PV)(nt bc s1:Addr)(o:Own):Own:=(j2,.dictI kd f)::(nt,.list [])::(bc,bm "set.__contains__" s1)::o
noncomputable def DI(f:Int→Option PV)(mm:Nat→Nat):Prop:=∀j:Int,(f j).getD (.int 0)=.int ((if j<0 then 0 else mm j.toNat:Nat):Int)
theorem DI.new:DI (fun O=>none) (fun O=>0):=fun j=>by simp
theorem DI.set{f:Int→Option PV}{mm:Nat→Nat}(h:DI f mm)(j k:Nat):DI (fun x=>if x=(j:Int)then some (.int (k:Int))else f x) (fun x=>if x=j then k else mm x):=fun x=>by
 simp only
 by_cases c:x=(j:Int)
 ·subst c
  rw[if_pos rfl,if_neg (by exact UD),if_pos (by exact Xo)];rfl
 ·rw[if_neg c,h x]
  by_cases c2:x<0
  ·rw[if_pos c2,if_pos c2]
  ·rw[if_neg c2,if_neg c2,if_neg (by exact Xn c c2)]
theorem DI.back{f:Int→Option PV}{mm:Nat→Nat}(h:DI f mm)(j:Nat):(f ((j:Int)-1)).getD (.int 0)=.int ((if j=0 then 0 else mm (j-1):Nat):Int):=by
 rw[h];by_cases c:j=0
 ·subst c;rfl
 ·rw[if_neg (by exact Xm c),if_neg c,show((j:Int)-1).toNat=j-1 by exact a38]
theorem OU{α:Type}[DecidableEq α]{A B:List α}{alo blo bhi n j:Nat}:rowAt A B alo blo bhi n j≤n∧rowAt A B alo blo bhi n j≤j+1:=by
 rcases Nat.eq_zero_or_pos (rowAt A B alo blo bhi n j)with h| h
 ·exact Xl h
 ·have:=DF h;omega
theorem Kt(m:Nat→Nat)(i blo bhi j:Nat)(js:List Nat)(new:Nat→Nat)(b:Tri):DL m i blo bhi (j::js) new b=if j<blo then DL m i blo bhi js new b else if bhi≤j then(new,b)else DL m i blo bhi js (fun x=>if x=j then(if j=0 then 0 else m (j-1))+1 else new x) (if b.1<(if j=0 then 0 else m (j-1))+1 then((if j=0 then 0 else m (j-1))+1,i+1-((if j=0 then 0 else m (j-1))+1),j+1-((if j=0 then 0 else m (j-1))+1))else b):=rfl
theorem M6(X:Cx)(fd:FuncData)(o:Obj)(ho:E8 pw X.w.params=o)(hfd:o.data=.func fd)(a b c d e:PV):Bg X fd [] [a,b,c,d,e] ((["self","alo","ahi","blo","bhi"]:List Str).zip [a,b,c,d,e]):=by
 subst ho
 cases hfd
 refine Bg.of (dps:=[]) (dvs:=[]) (fun s vs hk h=>?_) (fun O O=>.nil) rfl
 revert vs
 exact Vz fun a b c d e=>BindsTo.of_defaults rfl (hk _ _ (NF _)) rfl rfl rfl
set_option maxHeartbeats 8000000 in
theorem NR{X:Cx}{n0:Nat}(hn:n0<470){x dx d s1:Addr}{k kd:Nat}{as bs:List Str}{m:List (Str×PV)}{alo ahi blo bhi:Nat}{Q:PV→PS→Prop}{o:Own}{g:Array GenState}(hla:as.length≤50)(hlb:bs.length≤50)(hx:(x,.inst 250 dx)∈o)(hdx:(dx,.fld k m)∈o)(hd:(d,.dictS kd (A3 bs))∈o)(hs1:(s1,.set0)∈o)(ma:m.lookup ("a":Str)=some (PV.lst (Ac as)))(mb:m.lookup ("b":Str)=some (PV.lst (Ac bs)))(mj:m.lookup ("b2j":Str)=some (PV.raw (.ref d)))(mk:m.lookup ("bjunk":Str)=some (PV.raw (.ref s1)))(h1:alo≤ahi)(h2:ahi≤as.length)(h3:blo≤bhi)(h4:bhi≤bs.length)(q:Q (.mat [.int ((Bc as bs alo ahi blo bhi).2.1:Nat),.int ((Bc as bs alo ahi blo bhi).2.2:Nat),.int ((Bc as bs alo ahi blo bhi).1:Nat)]) ⟨o,g⟩):OC X (AR n0) (.ref 204) [] [.raw (.ref x),.int (alo:Int),.int (ahi:Int),.int (blo:Int),.int (bhi:Int)] Q ⟨o,g⟩:=by
 refine DP (ns:=["self","alo","ahi","blo","bhi"]) (J1 _) rfl ⟨203,_,_,_,rfl,NE _,rfl,rfl⟩ rfl (M6 X _ _ rfl rfl _ _ _ _ _) rfl (by decide) (by decide) rfl rfl rfl rfl rfl rfl (by exact a57 hn) fun env he hco hqu=>?_;refine W_seq ?_
 repeat walk_at"w"
 refine AD (by walk_at"m") (by walk_at"m") ma rfl (by rfl) ?_
 repeat walk_at"w"
 refine AD (by walk_at"m") (by walk_at"m") mb rfl (by rfl) ?_
 repeat walk_at"w"
 refine AD (by walk_at"m") (by walk_at"m") mj rfl (by rfl) ?_
 repeat walk_at"w"
 refine AD (by walk_at"m") (by walk_at"m") mk rfl (by rfl) ?_
 repeat walk_at"w"
 refine MA (by walk_at"m") fun bc=>?_
 repeat walk_at"w"
 refine⟨As rfl,?_⟩;refine Az rfl rfl rfl ?_;refine TGs_cons (En.store he rfl ?_);refine TGs_cons (En.store he rfl ?_);refine TGs_cons (En.store he rfl ?_);refine TGs_cons (En.store he rfl ?_);refine TGs_nil ?_
 repeat walk_at"w"
 refine Kp rfl ?_
 repeat walk_at"w"
 refine Ab rfl ?_
 repeat walk_at"w"
 refine Kp rfl ?_
 repeat walk_at"w"
 refine Ab rfl ?_
 repeat walk_at"w"
 refine JG fun j2=>?_
 repeat walk_at"w"
 refine AX fun nt=>?_
 repeat walk_at"w"
 refine Em rfl alo ahi h1 (by exact Wb hla h2) (G:=Tri×Addr×Nat×(Int→Option PV)×(Nat→Nat))
  (fun i h=>⟨(env.locals,.ns (m21 as bs d bc nt alo ahi blo bhi h.1 [("j2len",.raw (.ref h.2.1))]))::o21 h.2.1 h.2.2.1 h.2.2.2.1 nt bc s1 o,g⟩)
  (fun i h=>DI h.2.2.2.1 h.2.2.2.2∧(∀j,h.2.2.2.2 j=rowAt as bs alo blo bhi (i-alo) j)∧AU as bs alo ahi blo bhi i 0 h.1) (fun Q hQ=>?_) (fun i i1 i2 h hh K nx br rt=>?_) (fun h hh=>?_) (fun O=>rfl)
 ·repeat walk_at"w"
  refine BI ?_;exact hQ ((0,alo,blo),j2,0,fun O=>none,fun O=>0) ⟨.new,fun O=>by rw[Nat.sub_self];rfl,.start⟩ _ ((Wk.perm (.cons _ (.swap _ _ _))).trans (.ns rfl))
 ·have ea:alo+(i-alo)=i:=Nat.add_sub_cancel' i1
  have hA:as[i]? =some (as.getD i ""):=by
   rw[List.getD_eq_getElem?_getD,List.getElem?_eq_getElem (by exact a1 h2 i2)];rfl
  have hstep:=Ms (A:=as) (B:=bs) (n:=i-alo) (s:=(h.2.2.2.2,h.1)) h2 hh.2.1 (by rw[ea];exact i2) (by rw[ea];exact hh.2.2);rw[ea,show HL as bs blo bhi (h.2.2.2.2,h.1) i=DL h.2.2.2.2 i blo bhi (CV bs (as.getD i "")) (fun O=>0) h.1 by unfold HL;rw[hA]]at hstep;have hit:=Bu (l:=as) (i:=i) (by exact a1 h2 i2)
  generalize as.getD i ""=el at hstep hit
  have hpl:(CV bs el).length≤50:=by
   unfold CV;exact Nat.le_trans (List.length_filter_le _ _) (by rw[List.length_range];exact hlb)
  repeat walk_at"w"
  refine IP (by walk_at"m") fun gb=>?_
  repeat walk_at"w"
  refine JG fun nj=>?_
  repeat walk_at"w"
  refine BJ (G:=Tri×Nat×(Int→Option PV)×(Nat→Nat)) (fun w=>⟨(env.locals,.ns (m21 as bs d bc nt alo ahi blo bhi w.1 [("newj2len",.raw (.ref nj))]))::(nj,.dictI w.2.1 w.2.2.1)::(gb,bm "dict.get" h.2.1)::o21 h.2.1 h.2.2.1 h.2.2.2.1 nt bc s1 o,g⟩)
   (fun w=>DI w.2.2.1 w.2.2.2∧DL h.2.2.2.2 i blo bhi (CV bs el) (fun O=>0) h.1=(w.2.2.2,w.1)) (fun K2 jn ps=>?_) (fun w hw=>?_)
  ·refine CO rfl (G:=Tri×Nat×(Int→Option PV)×(Nat→Nat)) (CV bs el) (fun(j:Nat)=>.int (j:Int)) (fun O w=>⟨(env.locals,.ns (m21 as bs d bc nt alo ahi blo bhi w.1 [("newj2len",.raw (.ref nj)),("j2lenget",.raw (.ref gb)),("i",.int i)]))::(nj,.dictI w.2.1 w.2.2.1)::(gb,bm "dict.get" h.2.1)::o21 h.2.1 h.2.2.1 h.2.2.2.1 nt bc s1 o,g⟩)
    (fun z w=>DI w.2.2.1 w.2.2.2∧w.2.1≤z∧DL h.2.2.2.2 i blo bhi (CV bs el) (fun O=>0) h.1=DL h.2.2.2.2 i blo bhi ((CV bs el).drop z) w.2.2.2 w.1) (fun Q hQ=>?_) (fun z j hz w hw K3 nx3 br3 rt3=>?_) (fun w hw=>?_) (fun O=>rfl)
   ·refine Ch (T:="dict") (id:="dict.get") (by rfl) (by rfl) (by rfl) PySem.F.plainAttrs_dict PySem.F.slot_dict_get PySem.F.type_dict_get (by first| exact trivial| rfl) (fun O=>rfl) ?_
    repeat walk_at"w"
    refine⟨D8.dictS (by walk_at"m"),?_⟩
    repeat walk_at"w"
    refine An (x:=.str el) .frozen (by exact a23) hit (by exact Wa hla h2 i2) (fun O O=>rfl) ?_
    repeat walk_at"w"
    refine ST (by walk_at"m") ?_;refine hQ _ (h.1,0,_,fun O=>0) (fun O O=>?_) ⟨.new,Nat.le_refl _,rfl⟩ _ (.ns rfl);by_cases hin:el∈bs
    ·rw[show A3 bs el=some (.lst (Aj (pos bs el)))from if_pos hin,Ht]
     exact .frozen
    ·rw[show A3 bs el=none from if_neg hin,show(CV bs el).map (fun(j:Nat)=>PV.int (j:Int))=[]from(Ht bs el).symm.trans (by rw[IY hin];rfl)]
     exact .own (by walk_at"m")
   ·have hjl:j<bs.length:=(List.getElem?_eq_some_iff.mp (E4.mp (List.mem_of_getElem? hz))).1
    have hzl:z<50:=Nat.lt_of_lt_of_le (List.getElem?_eq_some_iff.mp hz).1 hpl;obtain⟨hDI,hkd,hdp⟩:=hw;rw[A0 hz,Kt]at hdp
    repeat walk_at"w"
    by_cases c1:j<blo
    ·refine Ah (decide_eq_true (by exact a2 c1)) ?_
     repeat walk_at"w"
     rw[if_pos c1]at hdp;exact nx3 .cont rfl w ⟨hDI,Nat.le_succ_of_le hkd,hdp⟩ _ (.ns rfl)
    refine Ab (decide_eq_false (by exact a3 c1)) ?_;rw[if_neg c1]at hdp
    repeat walk_at"w"
    by_cases c2:bhi≤j
    ·refine Ah (decide_eq_true (by exact Xj c2)) ?_
     repeat walk_at"w"
     rw[if_pos c2]at hdp;exact br3 _ (jn w ⟨hDI,hdp⟩ _ (.ns rfl))
    refine Ab (decide_eq_false (by exact Xi c2)) ?_;rw[if_neg c2]at hdp;have hbk:=hh.1.back j
    have hk1:(if j=0 then 0 else h.2.2.2.2 (j-1))≤i-alo∧(if j=0 then 0 else h.2.2.2.2 (j-1))≤j:=by
     by_cases c:j=0
     ·rw[if_pos c];exact Xh
     ·rw[if_neg c,hh.2.1]
      have:=OU (A:=as) (B:=bs) (alo:=alo) (blo:=blo) (bhi:=bhi) (n:=i-alo) (j:=j-1);exact Xg c this
    generalize (if j=0 then 0 else h.2.2.2.2 (j-1))=kk at hbk hk1 hdp
    repeat walk_at"w"
    refine⟨Kept.bm (by walk_at"m"),Kx (by walk_at"m") (by walk_at"m") ?_⟩;rw[hbk]
    repeat walk_at"w"
    have hs:=hDI.set j (kk+1);refine Vt (by walk_at"m") (by rw[sizeLine_eq];exact VZ hkd hzl) (by walk_at"u") ?_
    repeat walk_at"w"
    by_cases c3:w.1.1<kk+1
    ·refine Ah (decide_eq_true (by exact Xf c3)) ?_
     rw[if_pos c3]at hdp
     repeat walk_at"w"
     rw[show((i:Int)-((kk:Int)+1)+1)=((i+1-(kk+1):Nat):Int)by exact VY hk1,show((j:Int)-((kk:Int)+1)+1)=((j+1-(kk+1):Nat):Int)by exact Xe hk1]
     exact nx3 .next rfl ((kk+1,i+1-(kk+1),j+1-(kk+1)),w.2.1+1,_,_) ⟨hs,Nat.succ_le_succ hkd,hdp⟩ _ (.ns rfl)
    ·refine Ab (decide_eq_false (by exact Xd c3)) ?_
     rw[if_neg c3]at hdp
     repeat walk_at"w"
     exact nx3 .next rfl (w.1,w.2.1+1,_,_) ⟨hs,Nat.succ_le_succ hkd,hdp⟩ _ (.ns rfl)
   ·rw[List.drop_length]at hw
    exact jn w ⟨hw.1,hw.2.2⟩ _ (.ns rfl)
  ·rw[hw.2]at hstep
   repeat walk_at"w"
   exact nx .next rfl (w.1,nj,w.2.1,w.2.2.1,w.2.2.2) ⟨hw.1,by rw[Nat.succ_sub i1];exact hstep.1,hstep.2⟩ _ (.nd rfl (.cons_cons _ (.cons _ (.cons _ (.refl _)))))
 have hb:=De (A:=as) (B:=bs) (alo:=alo) (ahi:=ahi) (blo:=blo) (bhi:=bhi);have hbe:=Ci.unique hb (hh.2.2.done (Nat.le_refl _));rw[hbe]at hb q
 have hbox:alo≤h.1.2.1∧blo≤h.1.2.2∧h.1.2.1+h.1.1≤ahi∧h.1.2.2+h.1.1≤bhi:=by
  rcases Nat.eq_zero_or_pos h.1.1 with h0| h0
  ·obtain⟨z1,z2⟩:=hb.zero h0
   exact Xc h1 h3 h0 z1 z2
  ·obtain⟨o1,o2,o3,o4,_⟩:=hb.ok h0
   exact Xb o1 o2 o3 o4
 have hl1:alo<h.1.2.1→blo<h.1.2.2→as.getD (h.1.2.1-1) ""=bs.getD (h.1.2.2-1) ""→False:=fun u1 u2 e=>by
  refine K1 hb u1 u2 (x:=as.getD (h.1.2.1-1) "") ?_ ?_
  ·rw[List.getD_eq_getElem?_getD,List.getElem?_eq_getElem (by show h.1.2.1-1<_;exact Tw h2 hbox u1)];rfl
  ·rw[e,List.getD_eq_getElem?_getD,List.getElem?_eq_getElem (by show h.1.2.2-1<_;exact a58 h4 hbox u2)];rfl
 have hr1:h.1.2.1+h.1.1<ahi→h.1.2.2+h.1.1<bhi→as.getD (h.1.2.1+h.1.1) ""=bs.getD (h.1.2.2+h.1.1) ""→False:=fun u1 u2 e=>by
  refine IN hb u1 u2 (x:=as.getD (h.1.2.1+h.1.1) "") ?_ ?_
  ·rw[List.getD_eq_getElem?_getD,List.getElem?_eq_getElem (by show h.1.2.1+h.1.1<_;exact a1 h2 u1)];rfl
  ·rw[e,List.getD_eq_getElem?_getD,List.getElem?_eq_getElem (by show h.1.2.2+h.1.1<_;exact a1 h4 u2)];rfl
 walk_at"w";walk_at"w";refine D4 (fun B hB=>?_) ?_
 ·repeat walk_at"w"
  by_cases c1:alo<h.1.2.1
  case neg=>exact Ab (decide_eq_false (by exact a3 c1)) hB
  refine Ah (decide_eq_true (by exact a2 c1)) ?_
  repeat walk_at"w"
  by_cases c2:blo<h.1.2.2
  case neg=>exact Ab (decide_eq_false (by exact a3 c2)) hB
  refine Ah (decide_eq_true (by exact a2 c2)) ?_
  repeat walk_at"w"
  refine An (x:=.str (bs.getD (h.1.2.2-1) "")) .frozen (by exact a59 c2) (by rw[show((h.1.2.2:Int)-1).toNat=h.1.2.2-1 by exact a38];exact Bu (by exact a58 h4 hbox c2)) (by exact a80 hlb h4 hbox) (fun O O=>rfl) ?_;refine Es_nil ⟨Kept.bm (by walk_at"m"),CM (by walk_at"m") (by walk_at"m") ?_⟩
  repeat walk_at"w"
  refine Ah rfl ?_
  repeat walk_at"w"
  refine An (x:=.str (as.getD (h.1.2.1-1) "")) .frozen (by exact a59 c1) (by rw[show((h.1.2.1:Int)-1).toNat=h.1.2.1-1 by exact a38];exact Bu (by exact Tw h2 hbox c1)) (by exact Xa hla h2 hbox) (fun O O=>rfl) ?_
  repeat walk_at"w"
  refine An (x:=.str (bs.getD (h.1.2.2-1) "")) .frozen (by exact a59 c2) (by rw[show((h.1.2.2:Int)-1).toNat=h.1.2.2-1 by exact a38];exact Bu (by exact a58 h4 hbox c2)) (by exact a80 hlb h4 hbox) (fun O O=>rfl) ?_
  repeat walk_at"w"
  exact Ab (beq_eq_false_iff_ne.mpr fun e=>hl1 c1 c2 e) hB
 walk_at"w";walk_at"w";refine D4 (fun B hB=>?_) ?_
 ·repeat walk_at"w"
  by_cases c1:h.1.2.1+h.1.1<ahi
  case neg=>exact Ab (decide_eq_false (by exact a14 c1)) hB
  refine Ah (decide_eq_true (by exact a15 c1)) ?_
  repeat walk_at"w"
  by_cases c2:h.1.2.2+h.1.1<bhi
  case neg=>exact Ab (decide_eq_false (by exact a14 c2)) hB
  refine Ah (decide_eq_true (by exact a15 c2)) ?_
  repeat walk_at"w"
  refine An (x:=.str (bs.getD (h.1.2.2+h.1.1) "")) .frozen (by exact a21) (by rw[show((h.1.2.2:Int)+h.1.1).toNat=h.1.2.2+h.1.1 by exact a22];exact Bu (by exact a1 h4 c2)) (by exact a60 hlb h4 c2) (fun O O=>rfl) ?_;refine Es_nil ⟨Kept.bm (by walk_at"m"),CM (by walk_at"m") (by walk_at"m") ?_⟩
  repeat walk_at"w"
  refine Ah rfl ?_
  repeat walk_at"w"
  refine An (x:=.str (as.getD (h.1.2.1+h.1.1) "")) .frozen (by exact a21) (by rw[show((h.1.2.1:Int)+h.1.1).toNat=h.1.2.1+h.1.1 by exact a22];exact Bu (by exact a1 h2 c1)) (by exact a60 hla h2 c1) (fun O O=>rfl) ?_
  repeat walk_at"w"
  refine An (x:=.str (bs.getD (h.1.2.2+h.1.1) "")) .frozen (by exact a21) (by rw[show((h.1.2.2:Int)+h.1.1).toNat=h.1.2.2+h.1.1 by exact a22];exact Bu (by exact a1 h4 c2)) (by exact a60 hlb h4 c2) (fun O O=>rfl) ?_
  repeat walk_at"w"
  exact Ab (beq_eq_false_iff_ne.mpr fun e=>hr1 c1 c2 e) hB
 walk_at"w";walk_at"w";refine D4 (fun B hB=>?_) ?_
 ·repeat walk_at"w"
  by_cases c1:alo<h.1.2.1
  case neg=>exact Ab (decide_eq_false (by exact a3 c1)) hB
  refine Ah (decide_eq_true (by exact a2 c1)) ?_
  repeat walk_at"w"
  by_cases c2:blo<h.1.2.2
  case neg=>exact Ab (decide_eq_false (by exact a3 c2)) hB
  refine Ah (decide_eq_true (by exact a2 c2)) ?_
  repeat walk_at"w"
  refine An (x:=.str (bs.getD (h.1.2.2-1) "")) .frozen (by exact a59 c2) (by rw[show((h.1.2.2:Int)-1).toNat=h.1.2.2-1 by exact a38];exact Bu (by exact a58 h4 hbox c2)) (by exact a80 hlb h4 hbox) (fun O O=>rfl) ?_;refine Es_nil ⟨Kept.bm (by walk_at"m"),CM (by walk_at"m") (by walk_at"m") ?_⟩
  repeat walk_at"w"
  exact Ab rfl hB
 walk_at"w";walk_at"w";refine D4 (fun B hB=>?_) ?_
 ·repeat walk_at"w"
  by_cases c1:h.1.2.1+h.1.1<ahi
  case neg=>exact Ab (decide_eq_false (by exact a14 c1)) hB
  refine Ah (decide_eq_true (by exact a15 c1)) ?_
  repeat walk_at"w"
  by_cases c2:h.1.2.2+h.1.1<bhi
  case neg=>exact Ab (decide_eq_false (by exact a14 c2)) hB
  refine Ah (decide_eq_true (by exact a15 c2)) ?_
  repeat walk_at"w"
  refine An (x:=.str (bs.getD (h.1.2.2+h.1.1) "")) .frozen (by exact a21) (by rw[show((h.1.2.2:Int)+h.1.1).toNat=h.1.2.2+h.1.1 by exact a22];exact Bu (by exact a1 h4 c2)) (by exact a60 hlb h4 c2) (fun O O=>rfl) ?_;refine Es_nil ⟨Kept.bm (by walk_at"m"),CM (by walk_at"m") (by walk_at"m") ?_⟩
  repeat walk_at"w"
  exact Ab rfl hB
 repeat walk_at"w"
 refine⟨Kept.clsM,(IA (n:=n0+1) (by exact T8 hn) ?_).on⟩;exact .drop ((((List.sublist_cons_self _ _).trans (List.sublist_cons_self _ _)).trans (List.sublist_cons_self _ _)).trans (List.sublist_cons_self _ _)) q
set_option maxHeartbeats 2000000 in
theorem Gs{X:Cx}:JI X:=by
 intro n hn t Q σ ht q;refine AM (ns:=["cls","iterable"]) (Ra _) rfl ⟨96,_,_,_,rfl,Rb _,rfl,rfl⟩ rfl (by exact EH fun a b=>rfl) rfl (by decide) (by decide) rfl rfl rfl rfl rfl rfl (by exact a10 hn) fun env he=>?_;refine W_seq ?_
 repeat walk_at"w"
 refine JH (T:="tuple") (id:="tuple.__new__") rfl rfl (fun O=>rfl) rfl Es Cj (by decide) ?_;walk_at"w";refine⟨rfl,⟨_,_,_,_,rfl⟩,?_⟩
 repeat walk_at"w"
 refine Fz ?_ (by rw[ht,sizeLine_eq];exact av8) (.inr rfl)
 repeat walk_at"w"
 refine Nl (by exact av7 ht) ?_;rw[ht]
 repeat walk_at"w"
 refine Ab rfl ?_
 repeat walk_at"w"
 exact .drop (List.sublist_cons_self _ _) q
noncomputable def NW(as bs:List Str)(g:Nat×Nat×Nat×Nat):Prop:=g.1≤g.2.1∧g.2.1≤as.length∧g.2.2.1≤g.2.2.2∧g.2.2.2≤bs.length
noncomputable def Cu(as bs:List Str)(g:Nat×Nat×Nat×Nat):List Tri:=Ck as bs g.1 g.2.1 g.2.2.1 g.2.2.2
noncomputable def ls3(t:Tri):List Int:=[(t.1:Int),(t.2.1:Int),(t.2.2:Int)]
noncomputable def tp3(t:Tri):PV:=.tup [.int (t.1:Int),.int (t.2.1:Int),.int (t.2.2:Int)]
theorem CH:∀(l:List Tri) (s:Tri),(Af l s).length≤l.length+1
 | [],s=>by unfold Af;split<;>simp
 | t::r,s=>by
  rw[Db];split
  ·exact Nat.le_trans (CH r _) (by simp)
  ·have:=CH r t
   rw[List.length_append,List.length_cons]
   split<;>simp<;>(first| exact a53 this| exact ZK this)
noncomputable def m23(la lb:Nat)(x rq rm:Addr)(l:List (Str×PV)):List (Str×PV):=("self",.raw (.ref x))::("la",.int la)::("lb",.int lb)::("queue",.raw (.ref rq))::("matching_blocks",.raw (.ref rm))::l
noncomputable def n23(la lb:Nat)(x rm rn:Addr)(s:Tri)(l:List (Str×PV)):List (Str×PV):=("self",.raw (.ref x))::("la",.int la)::("lb",.int lb)::("matching_blocks",.raw (.ref rm))::("non_adjacent",.raw (.ref rn))::("i1",.int s.1)::("j1",.int s.2.1)::("k1",.int s.2.2)::l
noncomputable def o23(rm rq x dx:Addr)(M L:List PV)(k:Nat)(m0:List (Str×PV))(r:Own):Own:=(rm,.list M)::(rq,.list L)::(x,.inst 250 dx)::(dx,.fld k m0)::r
noncomputable def BL(y:Nat×Nat×Nat×Nat):List (Nat×Nat×Nat×Nat):=if y.1<y.2.1∧y.2.2.1<y.2.2.2 then[y]else[]
theorem FN(y:Nat×Nat×Nat×Nat):AZ (BL y)≤2*(y.2.1-y.1)+1:=by unfold BL;split<;>simp[AZ]
theorem Mk(y:Nat×Nat×Nat×Nat):(BL y).length≤1:=by unfold BL;split<;>simp
theorem FO(as bs:List Str)(y:Nat×Nat×Nat×Nat):(BL y).flatMap (Cu as bs)=Cu as bs y:=by
 unfold BL;split
 ·rw[List.flatMap_singleton]
 ·rw[List.flatMap_nil];exact(DX (by assumption)).symm
theorem HE{as bs:List Str}{y:Nat×Nat×Nat×Nat}(h1:y.2.1≤as.length)(h2:y.2.2.2≤bs.length):∀g∈BL y,NW as bs g:=fun g hg=>by
 unfold BL at hg;split at hg
 ·rename_i h
  rw[List.mem_singleton.mp hg];exact⟨Nat.le_of_lt h.1,h1,Nat.le_of_lt h.2,h2⟩
 ·cases hg
theorem GU(a b:List (Nat×Nat×Nat×Nat)):AZ (a++b)=AZ a+AZ b:=by simp[AZ]
theorem M3{as bs:List Str}{gs:List (Nat×Nat×Nat×Nat)}{ks:List Tri}{y:Nat×Nat×Nat×Nat}{b:Tri}(hw13:AZ (gs++[y])≤13)(hbox:∀g∈gs++[y],NW as bs g)(hperm:(ks++(gs++[y]).flatMap (Cu as bs)).Perm (Ar as bs))(hB:Bc as bs y.1 y.2.1 y.2.2.1 y.2.2.2=b)(c:¬b.1=0):(AZ (gs++BL (y.1,b.2.1,y.2.2.1,b.2.2)++BL (b.2.1+b.1,y.2.1,b.2.2+b.1,y.2.2.2))≤13∧(∀g∈gs++BL (y.1,b.2.1,y.2.2.1,b.2.2)++BL (b.2.1+b.1,y.2.1,b.2.2+b.1,y.2.2.2),NW as bs g)∧(ks++[(b.2.1,b.2.2,b.1)]++(gs++BL (y.1,b.2.1,y.2.2.1,b.2.2)++BL (b.2.1+b.1,y.2.1,b.2.2+b.1,y.2.2.2)).flatMap (Cu as bs)).Perm (Ar as bs))∧AZ (gs++BL (y.1,b.2.1,y.2.2.1,b.2.2)++BL (b.2.1+b.1,y.2.1,b.2.2+b.1,y.2.2.2))<AZ (gs++[y]):=by
 obtain⟨b1,b2,b3,b4⟩:=hbox y (List.mem_append_right _ (.head _));have hb:=De (A:=as) (B:=bs) (alo:=y.1) (ahi:=y.2.1) (blo:=y.2.2.1) (bhi:=y.2.2.2)
 have hrest:Cu as bs y=if b.1=0 then[]else Cu as bs (y.1,b.2.1,y.2.2.1,b.2.2)++(b.2.1,b.2.2,b.1)::Cu as bs (b.2.1+b.1,y.2.1,b.2.2+b.1,y.2.2.2):=by
  subst hB;unfold Cu;simp only;rw[Cw]
 rw[hB]at hb;obtain⟨o1,o2,o3,o4,o5⟩:=hb.ok (Nat.pos_of_ne_zero c);have hw1:=FN (y.1,b.2.1,y.2.2.1,b.2.2);have hw2:=FN (b.2.1+b.1,y.2.1,b.2.2+b.1,y.2.2.2)
 have hw:AZ (gs++[y])=AZ gs+(2*(y.2.1-y.1)+1):=by simp[AZ]
 rw[if_neg c]at hrest;rw[GU,GU];refine⟨⟨by exact ZG hw13 hw c o1 o3 hw1 hw2,fun g hg=>?_,?_⟩,by rw[hw];exact ZH c o1 o3 hw1 hw2⟩
 ·rcases List.mem_append.mp hg with hg| hg
  ·rcases List.mem_append.mp hg with hg| hg
   ·exact hbox g (List.mem_append_left _ hg)
   ·exact HE (by simp only;exact a48 b2 o3) (by simp only;exact a48 b4 o4) g hg
  ·exact HE (y:=(b.2.1+b.1,y.2.1,b.2.2+b.1,y.2.2.2)) b2 b4 g hg
 ·refine List.Perm.trans ?_ hperm
  rw[List.flatMap_append,List.flatMap_append,List.flatMap_append,List.flatMap_singleton,FO,FO,hrest,List.perm_iff_count];intro z;simp only[List.count_append,List.count_cons,List.count_nil];exact ZF
set_option maxHeartbeats 8000000 in
theorem M2{X:Cx}{n0:Nat}(hn:n0<380){d s1:Addr}{kd:Nat}{as bs:List Str}(hla:as.length≤6)(hlb:bs.length≤6){m0:List (Str×PV)}(ma:m0.lookup ("a":Str)=some (PV.lst (Ac as)))(mb:m0.lookup ("b":Str)=some (PV.lst (Ac bs)))(mj:m0.lookup ("b2j":Str)=some (PV.raw (.ref d)))(mk:m0.lookup ("bjunk":Str)=some (PV.raw (.ref s1)))(mmb:m0.lookup ("matching_blocks":Str)=some PV.none)(mfl:m0.lookup ("find_longest_match":Str)=none):Gd X n0 m0 (Af (Ar as bs) (0,0,0)++[(as.length,bs.length,0)]) [(d,.dictS kd (A3 bs)),(s1,.set0)]:=by
 intro x dx k r g Q hR hk q;have hd:(d,PO.dictS kd (A3 bs))∈r:=hR _ (.head _);have hs1:(s1,PO.set0)∈r:=hR _ (.tail _ (.head _));refine AM (ns:=["self"]) (J0 _) rfl ⟨210,_,_,_,rfl,ND _,rfl,rfl⟩ rfl (by exact Fq fun a=>rfl) rfl (by decide) (by decide) rfl rfl rfl rfl rfl rfl (by exact ZJ hn) fun env he=>?_;refine W_seq ?_
 repeat walk_at"w"
 refine AD (dx:=dx) (by walk_at"m") (by walk_at"m") mmb rfl (by rfl) ?_
 repeat walk_at"w"
 refine Jo rfl ?_
 repeat walk_at"w"
 refine Ab rfl ?_
 repeat walk_at"w"
 refine AD (dx:=dx) (by walk_at"m") (by walk_at"m") ma rfl (by rfl) ?_
 repeat walk_at"w"
 refine Cl .frozen (by rw[At];exact a49 hla) ?_
 repeat walk_at"w"
 refine AD (dx:=dx) (by walk_at"m") (by walk_at"m") mb rfl (by rfl) ?_
 repeat walk_at"w"
 refine Cl .frozen (by rw[At];exact a49 hlb) ?_;rw[At,At]
 repeat walk_at"w"
 refine GN ?_
 repeat walk_at"w"
 refine⟨As rfl,?_⟩;refine Es_nil ⟨As rfl,_,_,_,rfl,fun rq=>?_⟩
 repeat walk_at"w"
 refine AX fun rm=>?_
 repeat walk_at"w"
 refine BJ (G:=List Tri) (fun ks=>⟨(env.locals,.ns (m23 as.length bs.length x rq rm []))::o23 rm rq x dx (ks.map tri) [] k m0 r,g⟩) (fun ks=>ks.Perm (Ar as bs)) (fun K0 jn ps=>?_) (fun ks hperm=>?_)
 ·refine D3 (G:=List (Nat×Nat×Nat×Nat)×List Tri) (fun h=>⟨(env.locals,.ns (m23 as.length bs.length x rq rm []))::o23 rm rq x dx (h.2.map tri) (h.1.map gp) k m0 r,g⟩)
   (fun h=>AZ h.1≤13∧(∀y∈h.1,NW as bs y)∧(h.2++h.1.flatMap (Cu as bs)).Perm (Ar as bs)) (fun h=>AZ h.1) ([(0,as.length,0,bs.length)],[])
   ⟨by simp[AZ];exact UH hla,fun y hy=>by rw[List.mem_singleton.mp hy];exact⟨Nat.zero_le _,Nat.le_refl _,Nat.zero_le _,Nat.le_refl _⟩,by rw[List.nil_append,List.flatMap_singleton];exact .refl _⟩ (.ns rfl) fun h hh K nx br rt=>?_
  repeat walk_at"w"
  have hgl:=Nat.le_trans (Ep h.1) hh.1;refine BR (.own (by walk_at"m")) (by rw[List.length_map];exact ZL hgl) ?_
  rcases List.eq_nil_or_concat h.1 with e| ⟨gs,y,e⟩
  ·have hperm:=hh.2.2
   rw[e,List.flatMap_nil,List.append_nil]at hperm;rw[e];exact Ab rfl (jn h.2 hperm _ .refl)
  rw[List.concat_eq_append]at e;rw[show h.1.map gp=gs.map gp++[gp y]by rw[e,List.map_append];rfl];refine Ah (by simp) ?_;rw[e,List.length_append]at hgl;rw[e]at hh;obtain⟨b1,b2,b3,b4⟩:=hh.2.1 y (List.mem_append_right _ (.head _));have hpl:=hh.2.2.length_eq;rw[List.length_append]at hpl;have kl:(Ar as bs).length≤6:=Nat.le_trans Cf hla
  repeat walk_at"w"
  refine⟨rq,gs.map gp,_,_,_,_,rfl,rfl,by walk_at"m",by rw[List.length_map,sizeLine_eq];exact Tn hgl,by walk_at"u",?_⟩;refine Az rfl rfl rfl ?_;refine TGs_cons (En.store he rfl ?_);refine TGs_cons (En.store he rfl ?_);refine TGs_cons (En.store he rfl ?_);refine TGs_cons (En.store he rfl ?_);refine TGs_nil ?_
  repeat walk_at"w"
  refine BK rfl (by first| exact trivial| rfl) (fun O=>rfl) (by rfl) (by rfl) (J1 _) rfl ?_
  repeat walk_at"w"
  refine⟨x,dx,_,_,rfl,by walk_at"m",by walk_at"m",mfl,?_⟩
  repeat walk_at"w"
  refine(NR (n0:=n0+1) (by exact ZI hn) (by exact a36 hla) (by exact a36 hlb) (by walk_at"m") (by walk_at"m") (.tail _ (.tail _ (.tail _ (.tail _ (.tail _ hd))))) (.tail _ (.tail _ (.tail _ (.tail _ (.tail _ hs1))))) ma mb mj mk b1 b2 b3 b4 ?_).on
  generalize hB:Bc as bs y.1 y.2.1 y.2.2.1 y.2.2.2=b
  refine IU rfl rfl rfl ?_;refine TGs_cons (En.store he rfl ?_);refine TGs_cons (En.store he rfl ?_);refine TGs_cons (En.store he rfl ?_);refine TGs_nil ?_
  repeat walk_at"w"
  by_cases c:b.1=0
  ·refine Ab (by rw[c];rfl) ?_
   repeat walk_at"w"
   have hperm:=hh.2.2
   have hrest:Cu as bs y=[]:=by
    unfold Cu;rw[Cw,hB];exact if_pos c
   rw[List.flatMap_append,List.flatMap_singleton,hrest,List.append_nil]at hperm
   have hw:AZ (gs++[y])=AZ gs+(2*(y.2.1-y.1)+1):=by simp[AZ]
   exact nx .next rfl (gs,h.2) ⟨by exact UE hh.1 hw,fun z hz=>hh.2.1 z (List.mem_append_left _ hz),hperm⟩ (by rw[e];exact UF hw) _ (.ns rfl)
  refine Ah (by simpa using c) ?_;have hst:=M3 hh.1 hh.2.1 hh.2.2 hB c
  repeat walk_at"w"
  refine⟨rm,_,rfl,by walk_at"m",?_⟩
  repeat walk_at"w"
  refine⟨_,_,_,_,rfl,by walk_at"m",by rw[List.length_map,sizeLine_eq];exact Wd kl hpl,by walk_at"u",?_⟩;walk_at"w";walk_at"w";refine BJ (G:=Unit) (fun O=>⟨(env.locals,.ns (m23 as.length bs.length x rq rm [("ahi",.int y.2.1),("bhi",.int y.2.2.2),("i",.int b.2.1),("j",.int b.2.2),("k",.int b.1)]))::o23 rm rq x dx (h.2.map tri++[tri (b.2.1,b.2.2,b.1)]) ((gs++BL (y.1,b.2.1,y.2.2.1,b.2.2)).map gp) k m0 r,g⟩) (fun O=>True) (fun K2 jn2 ps2=>?_) (fun O O=>?_)
  ·refine MF (y.1<b.2.1∧y.2.2.1<b.2.2) (fun B hB=>?_) (fun c1=>?_) (fun c1=>?_)
   ·repeat walk_at"w"
    by_cases c1:y.1<b.2.1
    ·refine Ah (decide_eq_true (by exact a2 c1)) ?_
     repeat walk_at"w"
     by_cases c2:y.2.2.1<b.2.2
     ·refine Ah (decide_eq_true (by exact a2 c2)) ?_
      repeat walk_at"w"
      exact hB _ ⟨fun O=>⟨c1,c2⟩,fun O=>rfl⟩
     ·exact Ab (decide_eq_false (by exact a3 c2)) (hB _ ⟨nofun,fun h=>absurd h.2 c2⟩)
    ·refine Ab (decide_eq_false (by exact a3 c1)) ?_
     exact hB _ ⟨nofun,fun h=>absurd h.1 c1⟩
   ·repeat walk_at"w"
    refine⟨rq,_,rfl,by walk_at"m",?_⟩
    repeat walk_at"w"
    refine⟨As rfl,_,_,_,_,rfl,by walk_at"m",by rw[List.length_map,sizeLine_eq];exact VX hgl,by walk_at"u",?_⟩
    repeat walk_at"w"
    refine jn2 () trivial _ ?_;rw[show BL (y.1,b.2.1,y.2.2.1,b.2.2)=[(y.1,b.2.1,y.2.2.1,b.2.2)]from if_pos c1,List.map_append];exact .ns rfl
   ·repeat walk_at"w"
    refine jn2 () trivial _ ?_;rw[show BL (y.1,b.2.1,y.2.2.1,b.2.2)=[]from if_neg c1,List.append_nil];exact .ns rfl
  walk_at"w";walk_at"w";have e1:(h.2++[(b.2.1,b.2.2,b.1)]).map tri=h.2.map tri++[tri (b.2.1,b.2.2,b.1)]:=List.map_append;refine MF (b.2.1+b.1<y.2.1∧b.2.2+b.1<y.2.2.2) (fun B hB=>?_) (fun c1=>?_) (fun c1=>?_)
  ·repeat walk_at"w"
   by_cases c1:b.2.1+b.1<y.2.1
   ·refine Ah (decide_eq_true (by exact a15 c1)) ?_
    repeat walk_at"w"
    by_cases c2:b.2.2+b.1<y.2.2.2
    ·refine Ah (decide_eq_true (by exact a15 c2)) ?_
     repeat walk_at"w"
     exact hB _ ⟨fun O=>⟨c1,c2⟩,fun O=>rfl⟩
    ·exact Ab (decide_eq_false (by exact a14 c2)) (hB _ ⟨nofun,fun h=>absurd h.2 c2⟩)
   ·refine Ab (decide_eq_false (by exact a14 c1)) ?_
    exact hB _ ⟨nofun,fun h=>absurd h.1 c1⟩
  ·repeat walk_at"w"
   refine⟨rq,_,rfl,by walk_at"m",?_⟩
   repeat walk_at"w"
   refine⟨As rfl,_,_,_,_,rfl,by walk_at"m",by rw[List.length_map,List.length_append,sizeLine_eq];exact Wc hgl (Mk _),by walk_at"u",?_⟩
   repeat walk_at"w"
   refine nx .next rfl (_,_) hst.1 (by rw[e];exact hst.2) _ ?_
   rw[e1,show BL (b.2.1+b.1,y.2.1,b.2.2+b.1,y.2.2.2)=[_]from if_pos c1,List.map_append (l₂:=[_])];exact .ns rfl
  ·repeat walk_at"w"
   refine nx .next rfl (_,_) hst.1 (by rw[e];exact hst.2) _ ?_
   rw[e1,show BL (b.2.1+b.1,y.2.1,b.2.2+b.1,y.2.2.2)=[]from if_neg c1,List.append_nil];exact .ns rfl
 repeat walk_at"w"
 have hk6:ks.length≤6:=by rw[hperm.length_eq];exact Nat.le_trans Cf hla
 have hb6:(Ar as bs).length≤6:=Nat.le_trans Cf hla;refine Ch (T:="list") (id:="list.sort") (by rfl) (by rfl) (by rfl) PySem.F.plainAttrs_list PyProof.Rows.slot_list_sort PySem.F.type_list_sort (by first| exact trivial| rfl) (fun O=>rfl) ?_
 repeat walk_at"w"
 refine⟨D8.lst (.own (by walk_at"m")),?_⟩
 repeat walk_at"w"
 have e:∀l:List Tri,l.map tri=(l.map ls3).map mkM:=fun l=>by rw[List.map_map];rfl
 rw[e ks];refine OP (L:=(Ar as bs).map ls3) (Nat.lt_of_le_of_lt AR.in1.u (by show 100+20*(n0+1+1)<9900;exact ZE hn)) (.mat (d:=3) (fun t ht=>by obtain⟨x,_,rfl⟩:=List.mem_map.mp ht;rfl) (by rw[List.length_map];exact hk6) (hperm.map _) ?_) (by rw[List.length_map];exact hk6) (hperm.map _) (by walk_at"m") (by walk_at"u") ?_
 ·rw[List.pairwise_map]
  refine List.Pairwise.imp_of_mem (fun{a b} ha hb h=>?_) DQ;obtain⟨h1,_⟩:=h;have:=(B6 a ha).2.2.2.2;unfold ls3 lx;rw[if_neg (by exact ZD h1 this)];exact decide_eq_true (by exact ZC h1 this)
 rw[←e]
 repeat walk_at"w"
 refine K8 rfl ?_ (by rfl) (by rfl)
 repeat walk_at"w"
 refine AX fun rn=>?_
 repeat walk_at"w"
 have hml:=CH (Ar as bs) (0,0,0)
 refine CO rfl (G:=Tri×List Tri) (Ar as bs) tri (fun O h=>⟨(env.locals,.ns (n23 as.length bs.length x rm rn h.1 []))::(rn,.list (h.2.map tp3))::o23 rm rq x dx ((Ar as bs).map tri) [] k m0 r,g⟩)
  (fun i h=>Af (Ar as bs) (0,0,0)=h.2++Af ((Ar as bs).drop i) h.1) (fun Q hQ=>?_) (fun i t hi h hh K nx br rt=>?_) (fun h hh=>?_) (fun O=>rfl)
 ·repeat walk_at"w"
  exact hQ _ ((0,0,0),[]) (fun O O=>.own (by walk_at"m")) rfl _ (.ns rfl)
 ·rw[A0 hi]at hh
  have hal:h.2.length≤7:=by have:=congrArg List.length hh;rw[List.length_append]at this;exact Ue hb6 hml this
  refine IU rfl rfl rfl ?_;refine TGs_cons (En.store he rfl ?_);refine TGs_cons (En.store he rfl ?_);refine TGs_cons (En.store he rfl ?_);refine TGs_nil ?_;refine W_seq ?_;refine MF (h.1.1+h.1.2.2=t.1∧h.1.2.1+h.1.2.2=t.2.1) (fun B hB=>?_) (fun c=>?_) (fun c=>?_)
  ·repeat walk_at"w"
   by_cases c1:h.1.1+h.1.2.2=t.1
   ·refine Ah (by simp;exact Uc c1) ?_
    repeat walk_at"w"
    by_cases c2:h.1.2.1+h.1.2.2=t.2.1
    ·refine Ah (by simp;exact Uc c2) ?_
     repeat walk_at"w"
     exact hB _ ⟨fun O=>⟨c1,c2⟩,fun O=>rfl⟩
    ·exact Ab (by simp;exact Ud c2) (hB _ ⟨nofun,fun h=>absurd h.2 c2⟩)
   ·refine Ab (by simp;exact Ud c1) ?_
    exact hB _ ⟨nofun,fun h=>absurd h.1 c1⟩
  ·repeat walk_at"w"
   exact nx .next rfl ((h.1.1,h.1.2.1,h.1.2.2+t.2.2),h.2) (hh.trans (congrArg _ (AT c))) _ (.ns rfl)
  ·rw[Bj c,←List.append_assoc]at hh
   repeat walk_at"w"
   by_cases c:h.1.2.2=0
   ·refine Ab (by rw[c];rfl) ?_
    repeat walk_at"w"
    rw[if_pos c,List.append_nil]at hh
    exact nx .next rfl (t,h.2) hh _ (.ns rfl)
   ·refine Ah (by simpa using c) ?_
    repeat walk_at"w"
    refine⟨rn,_,rfl,by walk_at"m",?_⟩
    repeat walk_at"w"
    refine⟨As rfl,_,_,_,_,rfl,by walk_at"m",by rw[List.length_map,sizeLine_eq];exact a75 hal,by walk_at"u",?_⟩
    repeat walk_at"w"
    rw[if_neg c]at hh
    refine nx .next rfl (t,h.2++[h.1]) hh _ ?_
    rw[List.map_append];exact .ns rfl
 rw[List.drop_length]at hh
 have hal:h.2.length≤7:=by have:=congrArg List.length hh;rw[List.length_append]at this;exact Ue hb6 hml this
 walk_at"w";walk_at"w";refine BJ (G:=Unit) (fun O=>⟨(env.locals,.ns (n23 as.length bs.length x rm rn h.1 []))::(rn,.list ((Af (Ar as bs) (0,0,0)).map tp3))::o23 rm rq x dx ((Ar as bs).map tri) [] k m0 r,g⟩) (fun O=>True) (fun K jn ps=>?_) (fun O O=>?_)
 ·repeat walk_at"w"
  by_cases c:h.1.2.2=0
  ·refine Ab (by rw[c];rfl) ?_
   repeat walk_at"w"
   refine jn () trivial _ ?_;rw[hh,show Af [] h.1=[]from if_pos c,List.append_nil];exact .refl
  ·refine Ah (by simpa using c) ?_
   repeat walk_at"w"
   refine⟨rn,_,rfl,by walk_at"m",?_⟩
   repeat walk_at"w"
   refine⟨As rfl,_,_,_,_,rfl,by walk_at"m",by rw[List.length_map,sizeLine_eq];exact a75 hal,by walk_at"u",?_⟩
   repeat walk_at"w"
   refine jn () trivial _ ?_;rw[hh,show Af [] h.1=[h.1]from if_neg c,List.map_append];exact .ns rfl
 repeat walk_at"w"
 refine⟨rn,_,rfl,by walk_at"m",?_⟩
 repeat walk_at"w"
 refine⟨As rfl,_,_,_,_,rfl,by walk_at"m",by rw[List.length_map,sizeLine_eq];exact ZB hb6 hml,by walk_at"u",?_⟩
 repeat walk_at"w"
 have eT:(Af (Ar as bs) (0,0,0)).map tp3++[PV.tup [.int (as.length:Int),.int (bs.length:Int),.int 0]]=((Af (Ar as bs) (0,0,0)++[(as.length,bs.length,0)]).map fun t=>Aj (ls3 t)).map PV.tup:=by
  rw[List.map_map,List.map_append];rfl
 rw[eT];refine K6 fun b=>?_
 repeat walk_at"w"
 refine My (by walk_at"m") fun mo ti it=>?_
 have hTl:∀t∈(Af (Ar as bs) (0,0,0)++[(as.length,bs.length,0)]).map fun t=>Aj (ls3 t),t.length=3:=fun t ht=>by obtain⟨z,_,rfl⟩:=List.mem_map.mp ht;rfl
 repeat walk_at"w"
 refine CA (n:=n0+1) (x:=.none) (l:=((Af (Ar as bs) (0,0,0)++[(as.length,bs.length,0)]).map fun t=>Aj (ls3 t)).map .mat) (fun B le=>HX.map (n:=n0+1) (b:=b) (ti:=ti) (it:=it) (na:=rn) (by exact ZA hn) Gs le hTl ?_ ?_) I9 H0 (by decide) (by decide) (by decide) ?_ ⟨[],_,rfl,rfl,rfl,rfl⟩ ?_
 ·walk_at"m"
 ·walk_at"m"
 ·rw[List.length_map,List.length_map,List.length_append,sizeLine_eq];show _+1≤_;exact Z9 hb6 hml
 rintro o' G' ⟨rfl,rfl⟩
 repeat walk_at"w"
 refine A1 (dx:=dx) (by walk_at"m") (by walk_at"m") (by rfl) (by exact Ub hk) (by walk_at"u") ?_
 repeat walk_at"w"
 refine AD (dx:=dx) (by walk_at"m") (by walk_at"m") (lk_eq _ _ _) rfl (by rfl) ?_;rw[List.map_map];refine .drop (o':=(x,.inst 250 dx)::(dx,.fld (k+1) _)::r) (List.sublist_append_right [_,_,_,_,_,_,_] _) ?_;exact q (k+1) _ (by exact Z8 hk) (lk_ne rfl rfl)
noncomputable def EN(g:List Cd):PV:=.lst (g.map Aw)
theorem M5(X:Cx)(fd:FuncData)(o:Obj)(ho:E7 pw X.w.params=o)(hfd:o.data=.func fd)(a b:PV):Bg X fd [] [a,b] ((["self","n"]:List Str).zip [a,b]):=by
 subst ho
 cases hfd
 refine Bg.of (dps:=[]) (dvs:=[]) (fun s vs hk h=>?_) (fun O O=>.nil) rfl
 revert vs
 exact EH fun a b=>BindsTo.of_defaults rfl (hk _ _ (NB _)) rfl rfl rfl
theorem Vr(as bs:List Str)(d s1 s2:Addr):(BS as bs d s1 s2).lookup ("a":Str)=some (PV.lst (Ac as)):=rfl
theorem Vq(as bs:List Str)(d s1 s2:Addr):(BS as bs d s1 s2).lookup ("b":Str)=some (PV.lst (Ac bs)):=rfl
theorem Vm(as bs:List Str)(d s1 s2:Addr):(BS as bs d s1 s2).lookup ("b2j":Str)=some (PV.raw (.ref d)):=rfl
theorem Vl(as bs:List Str)(d s1 s2:Addr):(BS as bs d s1 s2).lookup ("bjunk":Str)=some (PV.raw (.ref s1)):=rfl
theorem Vj(as bs:List Str)(d s1 s2:Addr):(BS as bs d s1 s2).lookup ("opcodes":Str)=some PV.none:=rfl
theorem Vk(as bs:List Str)(d s1 s2:Addr):(BS as bs d s1 s2).lookup ("matching_blocks":Str)=some PV.none:=rfl
theorem Vp(as bs:List Str)(d s1 s2:Addr):(BS as bs d s1 s2).lookup ("find_longest_match":Str)=none:=rfl
theorem Vo(as bs:List Str)(d s1 s2:Addr):(BS as bs d s1 s2).lookup ("get_matching_blocks":Str)=none:=rfl
theorem Vn(as bs:List Str)(d s1 s2:Addr):(BS as bs d s1 s2).lookup ("get_opcodes":Str)=none:=rfl
noncomputable def Bw(as bs:List Str):List Tri:=Af (Ar as bs) (0,0,0)++[(as.length,bs.length,0)]
theorem E5:∀(T:List Tri) (i j:Nat),(AO T i j).length≤2*T.length
 | [],_,_=>Nat.zero_le _
 | t::T,i,j=>by
  have:=E5 T (t.1+t.2.2) (t.2.1+t.2.2);rw[FA,List.length_append,List.length_append,List.length_cons]
  have h1:(EP i t.1 j t.2.1).length≤1:=by unfold EP;split<;>simp
  have h2:(if t.2.2=0 then[]else[(0,t.1,t.1+t.2.2,t.2.1,t.2.1+t.2.2)]:List Cd).length≤1:=by split<;>simp
  omega
theorem Et{as bs:List Str}(h:as.length≤6):(Bw as bs).length≤8:=by
 unfold Bw;rw[List.length_append];have:=CH (Ar as bs) (0,0,0);have:=Cf (A:=as) (B:=bs);show _+1≤8;exact W8 h (by assumption) this
theorem Ew:∀t:Nat,(B0 t==("equal":Str))=decide (t=0)
 | 0=>by decide+kernel
 | 1=>by decide+kernel
 | 2=>by decide+kernel
 | t+3=>by
  rw[decide_eq_false (by exact W7)];show(("insert":Str)==("equal":Str))=false
  decide+kernel
theorem D0(N:Nat)(t i1 i2 j1 j2:Nat):∀l:List Cd,AC N (l++[(t,i1,i2,j1,j2)])=l++[if t=0 then(t,i1,min i2 (i1+N),j1,min j2 (j1+N))else(t,i1,i2,j1,j2)]
 | []=>rfl
 | [c]=>rfl
 | c::d::l=>by
  show c::AC N ((d::l)++[(t,i1,i2,j1,j2)])=_;rw[D0 N t i1 i2 j1 j2 (d::l)];rfl
noncomputable def m24(N:Nat)(rc:Addr)(l:List (Str×PV)):List (Str×PV):=("n",.int N)::("codes",.raw (.ref rc))::l
noncomputable def g24(N:Nat)(rg:Addr)(l:List (Str×PV)):List (Str×PV):=("n",.int N)::("nn",.int ((N:Int)+N))::("group",.raw (.ref rg))::l
noncomputable def d24(c:Cd):List (Str×PV):=[("tag",.str (B0 c.1)),("i1",.int c.2.1),("i2",.int c.2.2.1),("j1",.int c.2.2.2.1),("j2",.int c.2.2.2.2)]
theorem Nv{N:Nat}{c:Cd}{todo g:List Cd}(h:c.1=0∧N+N<c.2.2.1-c.2.1):A2 N (c::todo) g=(g++[(0,c.2.1,min c.2.2.1 (c.2.1+N),c.2.2.2.1,min c.2.2.2.2 (c.2.2.2.1+N))])::A2 N todo [(0,max c.2.1 (c.2.2.1-N),c.2.2.1,max c.2.2.2.1 (c.2.2.2.2-N),c.2.2.2.2)]:=by
 obtain⟨t,i1,i2,j1,j2⟩:=c;exact(if_pos h).trans (by cases h.1;rfl)
theorem Nu{N:Nat}{c:Cd}{todo g:List Cd}(h:¬(c.1=0∧N+N<c.2.2.1-c.2.1)):A2 N (c::todo) g=A2 N todo (g++[c]):=if_neg h
set_option maxHeartbeats 8000000 in
theorem H9{X:Cx}{n0:Nat}(hn:n0<350){x dx d s1 s2:Addr}{kd N:Nat}{as bs:List Str}(hla:as.length≤6)(hlb:bs.length≤6)(hN:N≤10)(hT:∀t∈Bw as bs,t.1≤100∧t.2.1≤100∧t.2.2≤100){Q:PV→PS→Prop}{ow:Own}{G:Array GenState}(q:∀ga gp' G',CC X (AR (n0+1)) G ((AK N (AO (Bw as bs) 0 0)).map EN) gp' G'→Q (.raw (.ref ga)) ⟨(ga,Ba G.size)::(gp'++ow),G'⟩):OC X (AR n0) (.ref 226) [] [.raw (.ref x),.int (N:Int)] Q ⟨(s2,.set0)::(s1,.set0)::(d,.dictS kd (A3 bs))::(x,.inst 250 dx)::(dx,.fld 14 (BS as bs d s1 s2))::ow,G⟩:=by
 refine FY (ns:=["self","n"]) (gp:=[(s2,.set0),(s1,.set0),(d,.dictS kd (A3 bs)),(x,.inst 250 dx),(dx,.fld 14 (BS as bs d s1 s2))]) (ow:=ow) (Jy _) rfl ⟨225,_,_,_,rfl,NA _,rfl,rfl⟩ rfl (M5 X _ _ rfl rfl _ _) rfl (by decide) (by decide) rfl rfl rfl rfl rfl rfl (by exact W6 hn) fun env ga he hco hcode=>⟨_,fun o=>?_,fun G' hG=>q ga _ G' hG⟩
 have hcl:(AO (Bw as bs) 0 0).length≤16:=Nat.le_trans (E5 _ _ _) (by have:=Et (as:=as) (bs:=bs) hla;exact Us this);refine BO (pre:=[_,_,_]) rfl Bd.top (fun rc:Addr=>([(env.locals,.ns (m24 N rc [])),(rc,.list ((CT (AO (Bw as bs) 0 0)).map Aw))],G.push .running)) (fun O=>True) (fun K' jn=>?_) (fun rc O=>?_)
 ·show WF _ _ _ _ ⟨(env.locals,_)::(s2,.set0)::(s1,.set0)::(d,.dictS kd (A3 bs))::(x,.inst 250 dx)::(dx,.fld 14 (BS as bs d s1 s2))::o,_⟩
  repeat walk_at"w"
  refine BK rfl trivial (fun O=>rfl) (by rfl) (by rfl) (Jz _) rfl ?_
  repeat walk_at"w"
  refine⟨x,dx,_,_,rfl,by walk_at"m",by walk_at"m",Vn _ _ _ _ _,?_⟩
  repeat walk_at"w"
  refine(OC.past (pre:=[_,_,_,_]) (a:=[_,_]) (get_opcodes (n:=n0+2) (T:=Bw as bs) (R:=[(d,.dictS kd (A3 bs)),(s1,.set0)]) (by exact W5 hn) (Nat.le_trans (Et hla) (by exact W4)) hT (by exact W3) (Vj _ _ _ _ _) (Vo _ _ _ _ _) ?_ ?_ fun ra k' m' hk'=>⟨[_,_,_],_,rfl,?_⟩)).on
  ·intro p hp
   rcases List.mem_cons.mp hp with rfl| hp
   ·exact .tail _ (.tail _ (.tail _ (.head _)))
   ·rw[List.mem_singleton.mp hp];exact .tail _ (.tail _ (.head _))
  ·intro a
   refine M2 (by exact W2 hn) hla hlb ?_ ?_ ?_ ?_ ?_ ?_
   ·exact lk_ne rfl (Vr _ _ _ _ _)
   ·exact lk_ne rfl (Vq _ _ _ _ _)
   ·exact lk_ne rfl (Vm _ _ _ _ _)
   ·exact lk_ne rfl (Vl _ _ _ _ _)
   ·exact lk_ne rfl (Vk _ _ _ _ _)
   ·exact lk_ne rfl (Vp _ _ _ _ _)
  repeat walk_at"w"
  generalize AO (Bw as bs) 0 0=cs at*
  refine BR (.own (by walk_at"m")) (by rw[List.length_map];exact W1 hcl) ?_
  cases cs with
  | nil=>
   refine Ah rfl ?_
   repeat walk_at"w"
   refine GN ?_
   repeat walk_at"w"
   refine⟨As rfl,?_⟩;refine Es_nil ⟨As rfl,_,_,_,rfl,fun rc=>?_⟩
   repeat walk_at"w"
   exact jn rc trivial _ (.nd rfl (.cons_cons _ (List.sublist_append_right [_,_,_,_,_,_] _)))
  | cons c cs=>
   refine Ab rfl ?_
   repeat walk_at"w"
   exact jn ra trivial _ ((Wk.drop (List.sublist_append_right [_,_,_] _ |>.cons_cons _)).trans (.nd rfl (.cons_cons _ (List.sublist_append_right [_,_] _))))
 generalize hcs:AO (Bw as bs) 0 0=cs at*
 have hfl:(CT cs).length≤16∧1≤(CT cs).length:=by
  unfold CT;split
  ·simp
  ·rename_i h
   exact⟨hcl,List.length_pos_iff.mpr h⟩
 have hgr:AK N cs=A2 N (AC N (Bn N (CT cs))) []:=rfl;rw[hgr];clear hgr hcl hcs
 generalize CT cs=cs at*
 obtain⟨c0,cs,rfl⟩:∃c r,cs=c::r:=by
  cases cs with
  | nil=>simp at hfl
  | cons c r=>exact⟨c,r,rfl⟩
 obtain⟨t0,i1,i2,j1,j2⟩:=c0;refine BO (pre:=[_]) rfl Bd.top (fun _:Unit=>([(env.locals,.ns (m24 N rc [])),(rc,.list ((Bn N ((t0,i1,i2,j1,j2)::cs)).map Aw))],G.push .running)) (fun O=>True) (fun K' jn=>?_) (fun O O=>?_)
 ·show WF _ _ _ _ ⟨(env.locals,.ns (m24 N rc []))::(rc,.list (((t0,i1,i2,j1,j2)::cs).map Aw))::o,_⟩
  repeat walk_at"w"
  refine An (x:=Aw (t0,i1,i2,j1,j2)) (.own (by walk_at"m")) (by exact a18) rfl (by exact a5) (fun O O=>rfl) ?_
  repeat walk_at"w"
  refine A4 (j:=0) (x:=.str (B0 t0)) rfl rfl (by exact a55) (by exact a5) (fun O O=>rfl) ?_
  repeat walk_at"w"
  rw[Ew];by_cases c:t0=0
  case neg=>
   refine Ab (decide_eq_false c) ?_
   repeat walk_at"w"
   exact jn () trivial _ (.l1 rfl (congrArg (fun c=>(c::cs).map Aw) (if_neg c).symm))
  refine Ah (decide_eq_true c) ?_;subst c
  repeat walk_at"w"
  refine An (x:=Aw (0,i1,i2,j1,j2)) (.own (by walk_at"m")) (by exact a18) rfl (by exact a5) (fun O O=>rfl) ?_;refine Az rfl rfl rfl ?_;refine TGs_cons (En.store he rfl ?_);refine TGs_cons (En.store he rfl ?_);refine TGs_cons (En.store he rfl ?_);refine TGs_cons (En.store he rfl ?_);refine TGs_cons (En.store he rfl ?_);refine TGs_nil ?_
  repeat walk_at"w"
  refine Jh rfl ?_
  repeat walk_at"w"
  refine Jh rfl ?_
  repeat walk_at"w"
  refine⟨As rfl,?_⟩
  repeat walk_at"w"
  have n1:max (i1:Int) ((i2:Int)-N)=((max i1 (i2-N):Nat):Int):=by exact a61
  have n2:max (j1:Int) ((j2:Int)-N)=((max j1 (j2-N):Nat):Int):=by exact a61
  rw[n1,n2];refine JV (by walk_at"m") (by exact a18) (by simp) (by rw[List.length_map,sizeLine_eq];omega) (by walk_at"u") ?_
  repeat walk_at"w"
  exact jn () trivial _ (.ns rfl)
 have hfl':(Bn N ((t0,i1,i2,j1,j2)::cs)).length≤16:=hfl.1
 obtain⟨ini,⟨t,i1,i2,j1,j2⟩,hsn⟩:∃ini c,Bn N ((t0,i1,i2,j1,j2)::cs)=ini++[c]:=by
  rcases List.eq_nil_or_concat (Bn N ((t0,i1,i2,j1,j2)::cs))with h| ⟨l,c,h⟩
  ·cases h
  ·exact⟨l,c,by rw[h,List.concat_eq_append]⟩
 rw[hsn]at hfl' ⊢;clear hfl hsn;rw[D0];rw[List.length_append,List.length_singleton]at hfl'
 have hix:((-1:Int)+((ini++[(t,i1,i2,j1,j2)]).map Aw).length).toNat=ini.length:=by
  rw[List.length_map,List.length_append,List.length_singleton];omega
 refine BO (pre:=[_]) rfl Bd.top (fun _:Unit=>([(env.locals,.ns (m24 N rc [])),(rc,.list ((ini++[if t=0 then(t,i1,min i2 (i1+N),j1,min j2 (j1+N))else(t,i1,i2,j1,j2)]).map Aw))],G.push .running)) (fun O=>True) (fun K' jn=>?_) (fun O O=>?_)
 ·show WF _ _ _ _ ⟨(env.locals,.ns (m24 N rc []))::(rc,.list ((ini++[(t,i1,i2,j1,j2)]).map Aw))::o,_⟩
  repeat walk_at"w"
  refine C4 (x:=Aw (t,i1,i2,j1,j2)) (.own (by walk_at"m")) (by exact a24) (by simp;exact a52) (by rw[hix];simp) (by exact a37) (fun O O=>rfl) ?_
  repeat walk_at"w"
  refine A4 (j:=0) (x:=.str (B0 t)) rfl rfl (by exact a55) (by exact a5) (fun O O=>rfl) ?_
  repeat walk_at"w"
  rw[Ew];by_cases c:t=0
  case neg=>
   refine Ab (decide_eq_false c) ?_
   repeat walk_at"w"
   exact jn () trivial _ (.l1 rfl (congrArg (fun c=>(ini++[c]).map Aw) (if_neg c).symm))
  refine Ah (decide_eq_true c) ?_;subst c
  repeat walk_at"w"
  refine C4 (x:=Aw (0,i1,i2,j1,j2)) (.own (by walk_at"m")) (by exact a24) (by simp;exact a52) (by rw[hix];simp) (by exact a37) (fun O O=>rfl) ?_;refine Az rfl rfl rfl ?_;refine TGs_cons (En.store he rfl ?_);refine TGs_cons (En.store he rfl ?_);refine TGs_cons (En.store he rfl ?_);refine TGs_cons (En.store he rfl ?_);refine TGs_cons (En.store he rfl ?_);refine TGs_nil ?_
  repeat walk_at"w"
  refine Jg rfl ?_
  repeat walk_at"w"
  refine Jg rfl ?_
  repeat walk_at"w"
  refine⟨As rfl,?_⟩
  repeat walk_at"w"
  have n1:min (i2:Int) ((i1:Int)+N)=((min i2 (i1+N):Nat):Int):=by exact a62
  have n2:min (j2:Int) ((j1:Int)+N)=((min j2 (j1+N):Nat):Int):=by exact a62
  rw[n1,n2];refine KT (by walk_at"m") (by exact a24) (by simp;exact a52) (by rw[List.length_map,List.length_append,sizeLine_eq];show _+1≤_;omega) (by walk_at"u") ?_
  repeat walk_at"w"
  refine jn () trivial _ (.l1 rfl ?_);rw[hix,List.map_append,List.map_append,List.set_append_right _ _ (by simp)];simp only[List.length_map,Nat.sub_self]
  rfl
 have hcl:(ini++[if t=0 then(t,i1,min i2 (i1+N),j1,min j2 (j1+N))else(t,i1,i2,j1,j2)]).length≤16:=by rw[List.length_append];exact hfl'
 generalize ini++[if t=0 then(t,i1,min i2 (i1+N),j1,min j2 (j1+N))else(t,i1,i2,j1,j2)]=cs at*
 clear hix hfl';refine BO (pre:=[_,_]) rfl Bd.top (fun rg:Addr=>([(env.locals,.ns (g24 N rg [("codes",.raw (.ref rc))])),(rg,.list []),(rc,.list (cs.map Aw))],G.push .running)) (fun O=>True) (fun K' jn=>?_) (fun rg0 O=>?_)
 ·show WF _ _ _ _ ⟨(env.locals,.ns (m24 N rc []))::(rc,.list (cs.map Aw))::o,_⟩
  repeat walk_at"w"
  refine AX fun rg=>?_
  repeat walk_at"w"
  exact jn rg trivial _ (.ns rfl)
 refine AE (Ff (Γ:=List Cd×Addr) Bd.top cs Aw (G.push .running) (fun O h=>((env.locals,.ns (g24 N h.2 [])),[(h.2,.list (h.1.map Aw)),(rc,.list (cs.map Aw))])) (fun i h=>(A2 N (cs.drop i) h.1).map EN) (fun i h=>h.1.length+(cs.drop i).length≤17) (fun Q hQ=>?_) (fun i c hi h hgl it ip c' fs' Kb Hb hF hK o=>?_) (fun h hgl o=>?_) (fun O=>rfl))
 ·show WV _ _ _ _ ⟨(env.locals,.ns (g24 N rg0 [("codes",.raw (.ref rc))]))::(rg0,.list [])::(rc,.list (cs.map Aw))::o,_⟩
  repeat walk_at"w"
  exact hQ _ ([],rg0) (fun O O O=>.own (by walk_at"m")) (by simp;omega) rfl _ (.ns rfl)
 ·rw[A0 hi]at hgl ⊢
  rw[List.length_cons]at hgl
  generalize cs.drop (i+1)=todo at*
  show TG _ _ _ _ (.tup [.str (B0 c.1),.int (c.2.1:Int),.int (c.2.2.1:Int),.int (c.2.2.2.1:Int),.int (c.2.2.2.2:Int)]) _ ⟨(env.locals,.ns (g24 N h.2 []))::(it,ip)::(h.2,.list (h.1.map Aw))::(rc,.list (cs.map Aw))::o,_⟩;refine Az rfl rfl rfl ?_;refine TGs_cons (En.store he rfl ?_);refine TGs_cons (En.store he rfl ?_);refine TGs_cons (En.store he rfl ?_);refine TGs_cons (En.store he rfl ?_);refine TGs_cons (En.store he rfl ?_);refine TGs_nil ?_;refine⟨[_,_,_,_],rfl,?_⟩;refine D9 (Γ:=(List Cd×Addr)×Cd) (fun y=>([(env.locals,.ns (g24 N y.1.2 (d24 y.2))),(it,ip),(y.1.2,.list (y.1.1.map Aw)),(rc,.list (cs.map Aw))],G.push .running)) (fun y=>(A2 N todo (y.1.1++[y.2])).map EN) (fun y=>y.1.1.length+(todo.length+1)≤17) (fun K' O jn=>?_) (fun y hy o=>?_)
  ·refine GQ hF (c.1=0∧N+N<c.2.2.1-c.2.1) (fun C hC=>?_) (fun c1=>?_) (fun c1=>?_)
   ·show WT _ _ _ _ _ ⟨(env.locals,_)::(it,ip)::(h.2,.list (h.1.map Aw))::(rc,.list (cs.map Aw))::o,_⟩
    repeat walk_at"w"
    rw[Ew];by_cases c1:c.1=0
    ·refine Ah (decide_eq_true c1) ?_
     repeat walk_at"w"
     by_cases c2:N+N<c.2.2.1-c.2.1
     ·refine Ah (decide_eq_true (by exact Wz c2)) ?_
      exact all_nil (hC _ ⟨fun O=>⟨c1,c2⟩,fun O=>rfl⟩)
     ·exact Ab (decide_eq_false (by exact W0 c2)) (hC _ ⟨nofun,fun h=>absurd h.2 c2⟩)
    ·exact Ab (decide_eq_false c1) (hC _ ⟨nofun,fun h=>absurd h.1 c1⟩)
   ·rw[Nv c1]
    refine BO (pre:=[_]) rfl hF (fun _:Unit=>([(env.locals,.ns (g24 N h.2 (d24 (0,c.2)))),(it,ip),(h.2,.list ((h.1++[(0,c.2.1,min c.2.2.1 (c.2.1+N),c.2.2.2.1,min c.2.2.2.2 (c.2.2.2.1+N))]).map Aw)),(rc,.list (cs.map Aw))],G.push .running)) (fun O=>True) (fun K2 jn2=>?_) (fun O O=>?_)
    ·show WF _ _ _ _ ⟨(env.locals,_)::(it,ip)::(h.2,.list (h.1.map Aw))::(rc,.list (cs.map Aw))::o,_⟩
     repeat walk_at"w"
     refine⟨h.2,_,rfl,by walk_at"m",?_⟩
     repeat walk_at"w"
     refine Jg rfl ?_
     repeat walk_at"w"
     refine Jg rfl ?_
     repeat walk_at"w"
     have n1:min (c.2.2.1:Int) ((c.2.1:Int)+N)=((min c.2.2.1 (c.2.1+N):Nat):Int):=by exact a62
     have n2:min (c.2.2.2.2:Int) ((c.2.2.2.1:Int)+N)=((min c.2.2.2.2 (c.2.2.2.1+N):Nat):Int):=by exact a62
     rw[n1,n2,c1.1];refine⟨As rfl,_,_,_,_,rfl,by walk_at"m",by rw[List.length_map,sizeLine_eq];exact a81 hgl,by walk_at"u",?_⟩
     repeat walk_at"w"
     refine jn2 () trivial _ ?_;rw[List.map_append];exact .ns rfl
    refine AE (B9 hF hco he.inter ?_);show WV _ _ _ _ ⟨(env.locals,.ns (g24 N h.2 (d24 (0,c.2))))::(it,ip)::(h.2,.list ((h.1++[_]).map Aw))::(rc,.list (cs.map Aw))::o,_⟩
    repeat walk_at"w"
    refine Lvs.freeze (a:=h.2) (o':=(env.locals,.ns (g24 N h.2 (d24 (0,c.2))))::(it,ip)::(rc,.list (cs.map Aw))::o) ((List.Perm.cons _ (.swap _ _ _)).trans (.swap _ _ _)) (.drop (.refl _) ⟨_,[_,_,_],_,rfl,rfl,.refl _,fun o'=>?_⟩);refine A6 ?_;refine BO (pre:=[_,_]) rfl hF (fun rg:Addr=>([(env.locals,.ns (g24 N rg (d24 (0,max c.2.1 (c.2.2.1-N),c.2.2.1,max c.2.2.2.1 (c.2.2.2.2-N),c.2.2.2.2)))),(rg,.list []),(it,ip),(rc,.list (cs.map Aw))],G.push .running)) (fun O=>True) (fun K2 jn2=>?_) (fun rg O=>?_)
    ·show WF _ _ _ _ ⟨(env.locals,.ns (g24 N h.2 (d24 (0,c.2))))::(it,ip)::(rc,.list (cs.map Aw))::o',_⟩
     repeat walk_at"w"
     refine AX fun rg2=>?_
     repeat walk_at"w"
     refine Jh rfl ?_
     repeat walk_at"w"
     refine Jh rfl ?_
     repeat walk_at"w"
     have n3:max (c.2.1:Int) ((c.2.2.1:Int)-N)=((max c.2.1 (c.2.2.1-N):Nat):Int):=by exact a61
     have n4:max (c.2.2.2.1:Int) ((c.2.2.2.2:Int)-N)=((max c.2.2.2.1 (c.2.2.2.2-N):Nat):Int):=by exact a61
     rw[n3,n4];exact jn2 rg2 trivial _ (.ns rfl)
    refine A5 ?_;exact jn (([],rg),(0,max c.2.1 (c.2.2.1-N),c.2.2.1,max c.2.2.2.1 (c.2.2.2.2-N),c.2.2.2.2)) (by show 0+_≤_;omega) _ _ _ (.perm ((List.Perm.swap _ _ _).cons _)) rfl
   ·rw[Nu c1]
    exact A5 (jn (h,c) hgl _ _ _ (.ns rfl) rfl)
  ·refine BO (pre:=[_]) rfl hF (fun _:Unit=>([(env.locals,.ns (g24 N y.1.2 [])),(it,ip),(y.1.2,.list ((y.1.1++[y.2]).map Aw)),(rc,.list (cs.map Aw))],G.push .running)) (fun O=>True) (fun K2 jn2=>?_) (fun O O=>?_)
   ·show WF _ _ _ _ ⟨(env.locals,_)::(it,ip)::(y.1.2,.list (y.1.1.map Aw))::(rc,.list (cs.map Aw))::o,_⟩
    repeat walk_at"w"
    refine⟨y.1.2,_,rfl,by walk_at"m",?_⟩
    repeat walk_at"w"
    refine⟨As rfl,_,_,_,_,rfl,by walk_at"m",by rw[List.length_map,sizeLine_eq];exact a81 hy,by walk_at"u",?_⟩
    repeat walk_at"w"
    refine jn2 () trivial _ ?_;rw[List.map_append];exact .ns rfl
   refine A5 (hK (y.1.1++[y.2],y.1.2) ?_ _ _ .refl).1;show List.length _+_≤_;rw[List.length_append];show _+1+_≤_;exact ax5 hy
 ·rw[List.drop_length]at hgl ⊢
  obtain⟨g,rg⟩:=h;refine Ia (gp':=[(env.locals,.ns (g24 N rg [])),(rg,.list (g.map Aw))]) (.drop (((List.sublist_cons_self _ _).cons_cons _).cons_cons _)) ?_;refine AE (ML Bd.top ?_);show WT _ _ _ _ _ ⟨(env.locals,_)::(rg,.list (g.map Aw))::o,_⟩
  repeat walk_at"w"
  refine BR (.own (by walk_at"m")) (by rw[List.length_map];simp at hgl;exact Wy hgl) ?_
  cases g with
  | nil=>
   refine Ab rfl ?_;refine⟨[_,_],_,rfl,?_⟩;refine Ab rfl ?_;refine A5 ?_;refine A6 ?_;refine A5 ?_;exact Fe rfl rfl (.refl _)
  | cons c g=>
   refine Ah rfl ?_
   repeat walk_at"w"
   refine Cl (.own (by walk_at"m")) (by rw[List.length_map];simp at hgl;simp;exact Wx hgl) ?_;rw[List.length_map]
   repeat walk_at"w"
   have hg0:A2 N [] (c::g)=if(c::g).length=1∧c.1=0 then[]else[c::g]:=if_neg (List.cons_ne_nil _ _)
   by_cases c1:(c::g).length=1
   ·refine Ah (by rw[beq_iff_eq];exact Ww c1) ?_
    repeat walk_at"w"
    refine An (x:=Aw c) (.own (by walk_at"m")) (by exact a18) rfl (by exact a5) (fun O O=>rfl) ?_
    repeat walk_at"w"
    refine A4 (j:=0) (x:=.str (B0 c.1)) rfl rfl (by exact a55) (by exact a5) (fun O O=>rfl) ?_
    repeat walk_at"w"
    rw[Ew];by_cases c2:c.1=0
    ·rw[show A2 N [] (c::g)=[]from hg0.trans (if_pos ⟨c1,c2⟩)]
     refine Ah (decide_eq_true c2) ?_
     repeat walk_at"w"
     refine Ab rfl ?_;refine⟨[_,_],_,rfl,?_⟩;refine Ab rfl ?_;refine A5 ?_;refine A6 ?_;refine A5 ?_;exact Fe rfl rfl (.refl _)
    ·rw[show A2 N [] (c::g)=[c::g]from hg0.trans (if_neg fun h=>c2 h.2)]
     refine Ab (decide_eq_false c2) ?_;refine Ah rfl ?_
     repeat walk_at"w"
     refine⟨[_,_],_,rfl,?_⟩;refine Ah rfl ?_;refine AE (B9 Bd.top hco he.inter ?_);show WV _ _ _ _ ⟨(env.locals,_)::(rg,.list ((c::g).map Aw))::o,_⟩
     repeat walk_at"w"
     refine Lvs.freeze (a:=rg) (l:=(c::g).map Aw) (o':=(env.locals,_)::o) (.swap _ _ _) (.drop (.refl _) ⟨[],[_],_,rfl,rfl,.refl _,fun o'=>?_⟩);refine A6 ?_;refine A5 ?_;refine A6 ?_;refine A5 ?_;exact Fe rfl rfl (.refl _)
   ·refine Ab (by rw[beq_eq_false_iff_ne];exact Wv c1) ?_
    rw[show A2 N [] (c::g)=[c::g]from hg0.trans (if_neg fun h=>c1 h.1)]
    ·refine Ah rfl ?_
     repeat walk_at"w"
     refine⟨[_,_],_,rfl,?_⟩;refine Ah rfl ?_;refine AE (B9 Bd.top hco he.inter ?_);show WV _ _ _ _ ⟨(env.locals,_)::(rg,.list ((c::g).map Aw))::o,_⟩
     repeat walk_at"w"
     refine Lvs.freeze (a:=rg) (l:=(c::g).map Aw) (o':=(env.locals,_)::o) (.swap _ _ _) (.drop (.refl _) ⟨[],[_],_,rfl,rfl,.refl _,fun o'=>?_⟩);refine A6 ?_;refine A5 ?_;refine A6 ?_;refine A5 ?_;exact Fe rfl rfl (.refl _)
section
variable {X:Cx}{A B:Around}{G₀:Array GenState}{c:Code}{fs:List Frame}{vs:List PV}{o gp:Own}{G:Array GenState}{env:Env}{K:Flow→Sem PySem.Fin}{H:Value→Sem PySem.Fin}
theorem DT{m:Nat}{ns:List (Str×NameKind)}(x:Bd A c fs (AR m))(he:En env ns [])(hline:ns.lookup ("line":Str)=some .local)(hco:env.scope.isCoroutine=false){iter:Expr}{P:Str}{k1:Nat}{p1 p2 p3 p4 p5 p6 pos:Pos}(hP:P.length≤100)(rows:List Str)(hs:∀s∈rows,s.length≤10000)(vs2:List PV)(hv:vs=Ac (rows.map (P++ ·))++vs2)(mm:List (Str×PV))(hm:∀v,IV mm (Ao mm ("line":Str) v))(rest:Own)(ge:Ap G₀ G)(h:∀Q:PV→PS→Prop,(∀σ',Wk σ' ⟨(env.locals,.ns mm)::rest++o,G⟩→Q (.lst (Ac rows)) σ')→WV X (AR m) (eval iter env) Q ⟨gp++o,G⟩)(fin:∀o,GS X A G₀ c fs (K .next) vs2 o ((env.locals,.ns mm)::rest) G)(hf:∀x,foldedSetIterable iter env x=pure x):GS X A G₀ c fs ((exec (.For (.Name "line" p1) iter [.Expr (.Yield (some (.BinOp (.Constant (.str P) k1 p2) .Add (.Name "line" p3) p4)) p5) p6] [] pos) env).wrap K H id id) vs o gp G:=by
 refine Ff (Γ:=Unit) x rows .str G (fun O O=>((env.locals,.ns mm),rest)) (fun i O=>Ac ((rows.drop i).map (P++ ·))++vs2) (fun O O=>True) (fun Q hQ=>h _ fun σ' w=>hQ _ () (fun O O O=>.frozen) trivial hv σ' w) (fun i s hi O O it ip c' fs' Kb Hb hF hK o=>?_) (fun O O o=>?_) hf
 ·rw[A0 hi]
  refine En.store he hline ?_;refine⟨_::_::rest,rfl,?_⟩;refine AE (B9 hF hco he.inter ?_);refine W_BinOp (W_str (En.name he hline (lk_eq _ _ _) rfl ?_));have hs1:=hs s (List.mem_of_getElem? hi);refine Bm (by rw[sizeLine_eq];exact am0 hP hs1) ?_;exact .drop (.refl _) ⟨_,_::_::rest,_,rfl,rfl,ge,fun o'=>A6 (A5 (hK () trivial o' _ (.ns (hm _))).1)⟩
 ·rw[List.drop_length]
  exact fin o
end
noncomputable def AW(as bs:List Str):Cd→List Str
 | (t,i1,i2,j1,j2)=>if t=0 then((as.take i2).drop i1).map ((" ":Str)++ ·)else
   (if t=1∨t=2 then((as.take i2).drop i1).map (("-":Str)++ ·)else[])++(if t=1∨t=3 then((bs.take j2).drop j1).map (("+":Str)++ ·)else[])
noncomputable def EL(g:List Cd):Str:=Str.ofString "@@ -"++AH (BU (g.headD Ay) (g.getLastD Ay)).2.1 (BU (g.headD Ay) (g.getLastD Ay)).2.2.1++Str.ofString " +"++
 AH (BU (g.headD Ay) (g.getLastD Ay)).2.2.2.1 (BU (g.headD Ay) (g.getLastD Ay)).2.2.2.2++Str.ofString " @@"++Str.ofString "\n"
noncomputable def AJ(as bs:List Str)(g:List Cd):List Str:=EL g::g.flatMap (AW as bs)
noncomputable def ET(as bs:List Str)(gs:List (List Cd)):List Str:=(if gs=[]then[]else(["--- old\n","+++ new\n"]:List Str))++gs.flatMap (AJ as bs)
structure OH (g:List Cd):Prop where
 ne:g≠[]
 i:(g.headD Ay).2.1≤(g.getLastD Ay).2.2.1∧(g.getLastD Ay).2.2.1≤900
 j:(g.headD Ay).2.2.2.1≤(g.getLastD Ay).2.2.2.2∧(g.getLastD Ay).2.2.2.2≤900
 n:g.length≤100
 t:∀c∈g,c.1≤3
theorem OM:∀t:Nat,(B0 t==("replace":Str)||B0 t==("delete":Str))=decide (t=1∨t=2)
 | 0=>by decide+kernel
 | 1=>by decide+kernel
 | 2=>by decide+kernel
 | t+3=>by
  rw[decide_eq_false (by exact al9)];show(("insert":Str)==("replace":Str)||("insert":Str)==("delete":Str))=false
  decide+kernel
theorem OL:∀t:Nat,t≤3→(B0 t==("replace":Str)||B0 t==("insert":Str))=decide (t=1∨t=3)
 | 0,_=>by decide+kernel
 | 1,_=>by decide+kernel
 | 2,_=>by decide+kernel
 | 3,_=>by decide+kernel
noncomputable def m25(as bs:List Str)(N:Nat)(st:Bool)(l:List (Str×PV)):List (Str×PV):=("a",.lst (Ac as))::("b",.lst (Ac bs))::("fromfile",.str "old")::("tofile",.str "new")::("fromfiledate",.str "")::("tofiledate",.str "")::("lineterm",.str "\n")::("started",.bool st)::l
noncomputable def d25(c:Cd):List (Str×PV):=[("tag",.str (B0 c.1)),("i1",.int c.2.1),("i2",.int c.2.2.1),("j1",.int c.2.2.2.1),("j2",.int c.2.2.2.2)]
theorem Cp(a b:List Str):Ac (a++b)=Ac a++Ac b:=List.map_append
theorem M4(X:Cx)(fd:FuncData)(o:Obj)(ho:Iv pw X.w.params=o)(hfd:o.data=.func fd)(a b c d:PV)(N:Nat)(t:Tok):Bg X fd [("n",.int (N:Int) t)] [a,b,c,d] ((["a","b","fromfile","tofile","fromfiledate","tofiledate","n","lineterm"]:List Str).zip ([a,b,c,d]++[.str "",.str "",.int (N:Int),.str "\n"])):=by
 subst ho
 cases hfd
 refine Bg.of (dps:=[.str "",.str "",.int (N:Int),.str "\n"]) (dvs:=[.str "" 619,.str "" 620,.int (N:Int) t,.str "\n" 622]) (fun s vs hk h=>?_) (fun O O=>.cons (.str _ _) (.cons (.str _ _) (.cons (.int _ _) (.cons (.str _ _) .nil)))) rfl
 revert vs
 exact Nm fun a b c d=>BindsTo.of_defaults rfl (hk _ _ (N8 _)) rfl rfl rfl
set_option maxHeartbeats 8000000 in
theorem R8{X:Cx}{n0:Nat}(hn:n0<300){N:Nat}{as bs:List Str}(hla:as.length≤6)(hlb:bs.length≤6)(hsa:∀s∈as,s.length≤10000)(hsb:∀s∈bs,s.length≤10000)(hN:N≤10)(hT:∀t∈Bw as bs,t.1≤100∧t.2.1≤100∧t.2.2≤100)(hG:∀g∈AK N (AO (Bw as bs) 0 0),OH g){t:Tok}{Q:PV→PS→Prop}{ow:Own}{G:Array GenState}(q:∀ga gp' G',CC X (AR (n0+1)) G (Ac (ET as bs (AK N (AO (Bw as bs) 0 0)))) gp' G'→Q (.raw (.ref ga)) ⟨(ga,Ba G.size)::(gp'++ow),G'⟩):OC X (AR n0) (.ref 269) [("n",.int (N:Int) t)] [.lst (Ac as),.lst (Ac bs),.str "old",.str "new"] Q ⟨ow,G⟩:=by
 refine FY (ns:=["a","b","fromfile","tofile","fromfiledate","tofiledate","n","lineterm"]) (gp:=[]) (ow:=ow) (Jx _) rfl ⟨268,_,_,_,rfl,GC _,rfl,rfl⟩ rfl (M4 X _ _ rfl rfl _ _ _ _ _ _) rfl (by decide) (by decide) rfl rfl rfl rfl rfl rfl (by exact am5 hn) fun env ga he hco hcode=>⟨_,fun o=>?_,fun G' hG=>q ga _ G' hG⟩
 refine BO (pre:=[_,_,_]) rfl Bd.top (fun _:Unit=>([(env.locals,.ns (m25 as bs N false [("n",.int N)]))],G.push .running)) (fun O=>True) (fun K' jn=>?_) (fun O O=>?_)
 ·show WF _ _ _ _ ⟨(env.locals,_)::o,_⟩
  repeat walk_at"w"
  refine⟨Kept.fn (Jw _) rfl,(HO (n:=n0+2) (ss:=[]) (by exact am4 hn) (by exact a36 hla) (by exact a36 hlb) ?_).on⟩
  repeat walk_at"w"
  exact jn () trivial _ (.ns rfl)
 generalize hgs:AK N (AO (Bw as bs) 0 0)=gs at*
 refine AE (MM (Γ:=Bool) (by exact am3 hn) Bd.top gs EN (fun O b=>(env.locals,.ns (m25 as bs N b []))) (fun i b=>Ac ((if b then[]else if gs.drop i=[]then[]else(["--- old\n","+++ new\n"]:List Str))++(gs.drop i).flatMap (AJ as bs))) (fun O O=>True) ?_ (fun i g hi b O R G2 c' fs' Kb Hb hF hge hK o=>?_) (fun b O o G2 hge=>?_) (fun O=>rfl))
 ·show WV _ _ _ _ ⟨(env.locals,.ns (m25 as bs N false [("n",.int N)]))::o,_⟩
  refine BK rfl (by first| exact trivial| rfl) (fun O=>rfl) (by rfl) (by rfl) (Jy _) rfl ?_
  repeat walk_at"w"
  refine⟨Kept.cls,(Nk fun x dx=>(OC.past (pre:=[_]) (a:=[_,_]) (Np (n:=n0+3) (by exact am2 hn) (by exact a36 hlb) fun d s1 s2 k' hk'=>⟨[_,_,_,_,_],_,rfl,?_⟩))).on⟩;refine⟨rfl,?_⟩
  repeat walk_at"w"
  refine⟨x,dx,_,_,rfl,by walk_at"m",by walk_at"m",rfl,?_⟩
  repeat walk_at"w"
  refine(OC.past (pre:=[_]) (a:=[_,_,_,_,_]) (H9 (n0:=n0+2) (by exact am1 hn) hla hlb hN hT fun gb gp' G' hg=>⟨(gb,Ba _)::gp',_,rfl,?_⟩)).on;rw[hgs]at hg;exact⟨gb,_,gp',G',false,rfl,.ns rfl,hg,.refl _,trivial,rfl⟩
 ·obtain⟨g1,g2,g3,g4,g5⟩:=hG g (by rw[hgs];exact List.mem_of_getElem? hi)
  rw[A0 hi]
  generalize gs.drop (i+1)=todo at*
  refine En.store he rfl ?_;refine⟨_::R,rfl,?_⟩;refine D9 (fun _:Unit=>((env.locals,.ns (m25 as bs N true [("group",EN g)]))::R,G2)) (fun O=>Ac ((g::todo).flatMap (AJ as bs))) (fun O=>True) (fun K' O jn=>?_) (fun O O o=>?_)
  ·refine ML hF ?_
   show WT _ _ _ _ _ ⟨(env.locals,_)::(R++o),_⟩
   repeat walk_at"w"
   cases b with
   | true=>exact⟨_::R,_,rfl,Ab rfl (A5 (jn () trivial _ _ _ (.ns rfl) rfl))⟩
   | false=>
    refine⟨_::R,_,rfl,Ah rfl ?_⟩;rw[if_neg Bool.false_ne_true,if_neg (List.cons_ne_nil _ _)];refine BO (pre:=[_,_,_]) rfl hF (fun _:Unit=>((env.locals,.ns (m25 as bs N true [("group",EN g),("fromdate",.str ""),("todate",.str "")]))::R,G2)) (fun O=>True) (fun K2 jn2=>?_) (fun O O=>?_)
    ·show WF _ _ _ _ ⟨(env.locals,_)::(R++o),_⟩
     repeat walk_at"w"
     refine truthy_str (by decide+kernel) ?_;refine Ab (by decide+kernel) ?_
     repeat walk_at"w"
     refine truthy_str (by decide+kernel) ?_;refine Ab (by decide+kernel) ?_
     repeat walk_at"w"
     exact jn2 () trivial _ (.ns rfl)
    refine AE (B9 hF hco he.inter ?_);show WV _ _ _ _ ⟨(env.locals,_)::(R++o),_⟩
    repeat walk_at"w"
    refine⟨_,rfl,?_⟩
    repeat walk_at"w"
    refine NO (by decide+kernel) (by decide+kernel) (by decide+kernel) ?_;rw[show(Str.ofString "--- "++("old":Str)++("":Str)++("\n":Str))=("--- old\n":Str)by decide+kernel];refine .drop (.refl _) ⟨_,_::R,_,rfl,rfl,hge,fun o'=>?_⟩;refine A6 ?_;refine AE (B9 hF hco he.inter ?_);show WV _ _ _ _ ⟨(env.locals,_)::(R++o'),_⟩
    repeat walk_at"w"
    refine⟨_,rfl,?_⟩
    repeat walk_at"w"
    refine NP (by decide+kernel) (by decide+kernel) (by decide+kernel) ?_;rw[show(Str.ofString "+++ "++("new":Str)++("":Str)++("\n":Str))=("+++ new\n":Str)by decide+kernel];refine .drop (.refl _) ⟨_,_::R,_,rfl,rfl,hge,fun o''=>?_⟩;exact A6 (A5 (jn () trivial _ _ _ (.ns rfl) rfl))
  obtain⟨c0,gr,rfl⟩:∃c r,g=c::r:=by
   cases g with
   | nil=>exact absurd rfl g1
   | cons c r=>exact⟨c,r,rfl⟩
  have hlast:((c0::gr).map Aw)[((-1:Int)+((c0::gr).map Aw).length).toNat]? =some (Aw ((c0::gr).getLastD Ay)):=by
   rw[List.length_map,show((-1:Int)+((c0::gr).length:Nat)).toNat=(c0::gr).length-1 by simp;exact al8,List.getElem?_map,←List.getLast?_eq_getElem?]
   rfl
  have hhd:EL (c0::gr)=Str.ofString "@@ -"++AH c0.2.1 (((c0::gr).getLastD Ay).2.2.1-c0.2.1)++Str.ofString " +"++AH c0.2.2.2.1 (((c0::gr).getLastD Ay).2.2.2.2-c0.2.2.2.1)++Str.ofString " @@"++Str.ofString "\n":=rfl;have g2':c0.2.1≤((c0::gr).getLastD Ay).2.2.1:=g2.1;have g3':c0.2.2.2.1≤((c0::gr).getLastD Ay).2.2.2.2:=g3.1;have g2'':=g2.2;have g3'':=g3.2
  have hfr:(((c0::gr)::todo).flatMap (AJ as bs))=EL (c0::gr)::((c0::gr).flatMap (AW as bs)++todo.flatMap (AJ as bs)):=by
   rw[List.flatMap_cons];rfl
  rw[hfr,hhd];clear hfr hhd g2 g3
  generalize (c0::gr).getLastD Ay=cl at*
  refine BO (pre:=[_,_,_]) rfl hF (fun _:Unit=>((env.locals,.ns (m25 as bs N true [("group",EN (c0::gr)),("file1_range",.str (AH c0.2.1 (cl.2.2.1-c0.2.1))),("file2_range",.str (AH c0.2.2.2.1 (cl.2.2.2.2-c0.2.2.2.1)))]))::R,G2)) (fun O=>True) (fun K2 jn=>?_) (fun O O=>?_)
  ·show WF _ _ _ _ ⟨(env.locals,_)::(R++o),_⟩
   repeat walk_at"w"
   refine An (x:=Aw c0) .frozen (by exact a18) rfl (by exact a5) (fun O O=>rfl) ?_
   repeat walk_at"w"
   refine C4 (x:=Aw cl) .frozen (by exact a24) (by simp;exact a52) hlast (by exact a37) (fun O O=>rfl) ?_
   repeat walk_at"w"
   refine A4 (j:=1) (x:=.int (c0.2.1:Int)) rfl rfl (by exact UB) (by exact UA) (fun O O=>rfl) ?_
   repeat walk_at"w"
   refine A4 (j:=2) (x:=.int (cl.2.2.1:Int)) rfl rfl (by exact al7) (by exact al6) (fun O O=>rfl) ?_
   repeat walk_at"w"
   refine⟨Kept.fn (GD _) rfl,(Dw (n:=n0+2) (by exact U9 hn) g2' g2'' ?_).on⟩
   repeat walk_at"w"
   refine A4 (j:=3) (x:=.int (c0.2.2.2.1:Int)) rfl rfl (by exact al5) (by exact al4) (fun O O=>rfl) ?_
   repeat walk_at"w"
   refine A4 (j:=4) (x:=.int (cl.2.2.2.2:Int)) rfl rfl (by exact al3) (by exact al2) (fun O O=>rfl) ?_
   repeat walk_at"w"
   refine⟨Kept.fn (GD _) rfl,(Dw (n:=n0+2) (by exact U9 hn) g3' g3'' ?_).on⟩
   repeat walk_at"w"
   exact jn () trivial _ (.ns rfl)
  have l1:=Df (a:=c0.2.1) (c:=cl.2.2.1-c0.2.1) (by exact U8 g2' g2'') (by exact U7 g2'');have l2:=Df (a:=c0.2.2.2.1) (c:=cl.2.2.2.2-c0.2.2.2.1) (by exact U8 g3' g3'') (by exact U7 g3'')
  generalize AH c0.2.1 (cl.2.2.1-c0.2.1)=fr1 at*
  generalize AH c0.2.2.2.1 (cl.2.2.2.2-c0.2.2.2.1)=fr2 at*
  refine AE (B9 hF hco he.inter ?_);show WV _ _ _ _ ⟨(env.locals,_)::(R++o),_⟩
  repeat walk_at"w"
  refine⟨_,rfl,?_⟩
  repeat walk_at"w"
  refine Mn (by exact U6 l1) (by exact U6 l2) (by decide+kernel) ?_;refine .drop (.refl _) ⟨_,_::R,_,rfl,rfl,hge,fun o'=>?_⟩;refine A6 ?_;refine AE (Ff (Γ:=Unit) hF (c0::gr) Aw G2 (fun O O=>((env.locals,.ns (m25 as bs N true [])),R)) (fun i O=>Ac (((c0::gr).drop i).flatMap (AW as bs)++todo.flatMap (AJ as bs))) (fun O O=>True) (fun Q hQ=>?_) (fun i2 cc hi2 O O it ip c2 fs2 Kb2 Hb2 hF2 hK2 o=>?_) (fun O O o=>?_) (fun O=>rfl))
  ·show WV _ _ _ _ ⟨(env.locals,_)::(R++o'),_⟩
   repeat walk_at"w"
   exact hQ _ () (fun O O O=>.frozen) trivial rfl _ (.ns rfl)
  ·have ht3:cc.1≤3:=g5 _ (List.mem_of_getElem? hi2)
   rw[A0 hi2]
   generalize (c0::gr).drop (i2+1)=todo2 at*
   obtain⟨t,i1,i2,j1,j2⟩:=cc;show TG _ _ _ _ (.tup [.str (B0 t),.int (i1:Int),.int (i2:Int),.int (j1:Int),.int (j2:Int)]) _ ⟨(env.locals,.ns (m25 as bs N true []))::(it,ip)::(R++o),_⟩;refine Az rfl rfl rfl ?_;refine TGs_cons (En.store he rfl ?_);refine TGs_cons (En.store he rfl ?_);refine TGs_cons (En.store he rfl ?_);refine TGs_cons (En.store he rfl ?_);refine TGs_cons (En.store he rfl ?_);refine TGs_nil ?_;refine⟨_::_::R,rfl,?_⟩
   have hfa:∀(u v:Nat),((Ac as).take v).drop u=Ac ((as.take v).drop u):=fun u v=>by unfold Ac;rw[List.map_drop,List.map_take]
   have hfb:∀(u v:Nat),((Ac bs).take v).drop u=Ac ((bs.take v).drop u):=fun u v=>by unfold Ac;rw[List.map_drop,List.map_take]
   have hsa':∀(u v:Nat),∀s∈(as.take v).drop u,s.length≤10000:=fun u v s hs=>hsa s (List.mem_of_mem_take (List.mem_of_mem_drop hs));have hsb':∀(u v:Nat),∀s∈(bs.take v).drop u,s.length≤10000:=fun u v s hs=>hsb s (List.mem_of_mem_take (List.mem_of_mem_drop hs));refine D9 (fun _:Unit=>((env.locals,.ns (m25 as bs N true (d25 (t,i1,i2,j1,j2))))::(it,ip)::R,G2)) (fun O=>Ac (if t=1∨t=2 then((as.take i2).drop i1).map (("-":Str)++ ·)else[])++(Ac (if t=1∨t=3 then((bs.take j2).drop j1).map (("+":Str)++ ·)else[])++Ac (todo2.flatMap (AW as bs)++todo.flatMap (AJ as bs)))) (fun O=>True) (fun K' hc jn=>?_) (fun O O o=>?_)
   ·refine GQ hF2 (t=0) (fun C hC=>?_) (fun c1=>?_) (fun c1=>?_)
    ·show WT _ _ _ _ _ ⟨(env.locals,_)::(it,ip)::(R++o),_⟩
     repeat walk_at"w"
     rw[Ew];exact hC _ decide_eq_true_iff
    ·subst c1
     refine AE (DT hF2 he rfl hco (by decide+kernel) _ (hsa' _ _) (Ac (todo2.flatMap (AW as bs)++todo.flatMap (AJ as bs))) (by rw[←Cp,←List.append_assoc];rfl) (m25 as bs N true (d25 (0,i1,i2,j1,j2))) (fun O=>rfl) ((it,ip)::R) hge (fun Q2 hQ2=>?_) (fun o2=>?_) (fun O=>rfl))
     ·show WV _ _ _ _ ⟨(env.locals,.ns (m25 as bs N true (d25 (0,i1,i2,j1,j2))))::(it,ip)::(R++o),_⟩
      repeat walk_at"w"
      refine⟨Ac as,some (i1:Int),some (i2:Int),none,.frozen,by rw[At,sizeLine_eq];exact a19 hla,.int _,.int _,.none,by decide,?_⟩;rw[B2,hfa];exact hQ2 _ .refl
     ·exact A6 (AE (Ib hF2 (W_continue ⟨_::_::R,_,rfl,(congrArg (fun k=>GS X _ _ _ _ k _ _ _ _) hc).mpr (hK2 () trivial _ _ (.ns (by rfl))).2⟩)))
    ·have hrr:Ac (((t,i1,i2,j1,j2)::todo2).flatMap (AW as bs)++todo.flatMap (AJ as bs))=_:=by
      rw[List.flatMap_cons,show AW as bs (t,i1,i2,j1,j2)=_ from if_neg c1,Cp,Cp,Cp,List.append_assoc,List.append_assoc,←Cp (todo2.flatMap _)]
     rw[hrr];exact A5 (jn () trivial _ _ _ .refl rfl)
   refine D9 (fun _:Unit=>((env.locals,.ns (m25 as bs N true (d25 (t,i1,i2,j1,j2))))::(it,ip)::R,G2)) (fun O=>Ac (if t=1∨t=3 then((bs.take j2).drop j1).map (("+":Str)++ ·)else[])++Ac (todo2.flatMap (AW as bs)++todo.flatMap (AJ as bs))) (fun O=>True) (fun K' O jn=>?_) (fun O O o=>?_)
   ·refine GQ hF2 (t=1∨t=2) (fun C hC=>?_) (fun c1=>?_) (fun c1=>?_)
    ·show WT _ _ _ _ _ ⟨(env.locals,_)::(it,ip)::(R++o),_⟩
     refine Gb hcode (GC _) rfl ?_
     repeat walk_at"w"
     refine⟨B0 t,rfl,?_⟩;rw[OM];exact hC _ decide_eq_true_iff
    ·rw[if_pos c1]
     refine AE (DT hF2 he rfl hco (by decide+kernel) _ (hsa' _ _) _ rfl (m25 as bs N true (d25 (t,i1,i2,j1,j2))) (fun O=>rfl) ((it,ip)::R) hge (fun Q2 hQ2=>?_) (fun o2=>?_) (fun O=>rfl))
     ·show WV _ _ _ _ ⟨(env.locals,.ns (m25 as bs N true (d25 (t,i1,i2,j1,j2))))::(it,ip)::(R++o),_⟩
      repeat walk_at"w"
      refine⟨Ac as,some (i1:Int),some (i2:Int),none,.frozen,by rw[At,sizeLine_eq];exact a19 hla,.int _,.int _,.none,by decide,?_⟩;rw[B2,hfa];exact hQ2 _ .refl
     ·exact A6 (A5 (jn () trivial _ _ _ .refl rfl))
    ·rw[if_neg c1]
     exact A5 (jn () trivial _ _ _ .refl rfl)
   refine AE (GQ hF2 (t=1∨t=3) (fun C hC=>?_) (fun c1=>?_) (fun c1=>?_))
   ·show WT _ _ _ _ _ ⟨(env.locals,_)::(it,ip)::(R++o),_⟩
    refine Gb hcode (GC _) rfl ?_
    repeat walk_at"w"
    refine⟨B0 t,rfl,?_⟩;rw[OL t ht3];exact hC _ decide_eq_true_iff
   ·rw[if_pos c1]
    refine AE (DT hF2 he rfl hco (by decide+kernel) _ (hsb' _ _) _ rfl (m25 as bs N true (d25 (t,i1,i2,j1,j2))) (fun O=>rfl) ((it,ip)::R) hge (fun Q2 hQ2=>?_) (fun o2=>?_) (fun O=>rfl))
    ·show WV _ _ _ _ ⟨(env.locals,.ns (m25 as bs N true (d25 (t,i1,i2,j1,j2))))::(it,ip)::(R++o),_⟩
     repeat walk_at"w"
     refine⟨Ac bs,some (j1:Int),some (j2:Int),none,.frozen,by rw[At,sizeLine_eq];exact a19 hlb,.int _,.int _,.none,by decide,?_⟩;rw[B2,hfb];exact hQ2 _ .refl
    ·exact A6 (A5 (A6 (A5 (hK2 () trivial _ _ (.ns (by rfl))).1)))
   ·rw[if_neg c1]
    exact A5 (A6 (A5 (hK2 () trivial _ _ (.ns (by rfl))).1))
  ·rw[List.drop_length]
   exact A6 (A5 (hK true trivial _ _ (.ns rfl)))
 ·rw[List.drop_length]
  exact A6 (A5 (Fe (by cases b<;>rfl) rfl hge))
noncomputable def OkP(k:Nat)(p:Pr):Prop:=0≤p.1∧p.1≤k∧p.2∈BP
noncomputable def EJ(ps qs:List Pr):List ISt:=BC 1 2 0 ps qs (kept ps qs++[(ps.length,qs.length)]) 0 0
structure Oh:Prop where
 told:∀(N:Nat) (ps qs:List Pr),N≤2→ps.length≤6→qs.length≤6→(∀p∈ps,OkP 10 p)→(∀p∈qs,OkP 10 p)→
  (∀t∈Bw (ps.map ln) (qs.map ln),t.1≤100∧t.2.1≤100∧t.2.2≤100)∧(∀g∈AK N (AO (Bw (ps.map ln) (qs.map ln)) 0 0),OH g)∧
  ET (ps.map ln) (qs.map ln) (AK N (AO (Bw (ps.map ln) (qs.map ln)) 0 0))=Cv N (EJ ps qs)∧(EJ ps qs).length≤100∧∀x∈EJ ps qs,Good x.2∧x.1≤2
 lines:∀ps:List Pr,ps.length≤6→(∀p∈ps,OkP 10 p)→Am (Txt.join "" (ps.map ln))=ps.map ln
 quoted:∀(mode:Nat) (ps:List Pr),mode<3→ps.length≤6→(∀p∈ps,OkP 10 p)→Am (Txt.join "" ((ps.map ln).flatMap (A7 (Dp mode))))=(ps.map (quo mode)).map ln
theorem JN{w:Str}(h:w∈BP):w.length≤1:=by
 unfold BP at h;simp only[List.mem_cons,List.not_mem_nil,or_false]at h
 rcases h with rfl| rfl| rfl| rfl<;>decide+kernel
theorem OkP.good{k:Nat}(hk:k≤100){p:Pr}(h:OkP k p):Good p:=⟨h.1,by have:=h.2.1;exact ac1 hk this,Nat.le_trans (JN h.2.2) (by decide)⟩
theorem OkP.mono{k k':Nat}(hk:k≤k'){p:Pr}(h:OkP k p):OkP k' p:=⟨h.1,by have:=h.2.1;exact ac0 hk this,h.2.2⟩
theorem OkP.quo{k mode:Nat}{p:Pr}(h:OkP k p):OkP (k+1) (quo mode p):=by
 have h1:=h.1;have h2:=h.2.1;refine⟨?_,?_,h.2.2⟩
 ·unfold Mine.quo;simp only;split<;>(first| exact Up h1| exact Uo h1)
 ·unfold Mine.quo;simp only;split<;>(first| exact ab9 h2| exact ab8 h2)
theorem KD(x:Int):OkP 1 (typed x):=by
 have h1:=Bb (x.fdiv 4) (b:=2) (by decide);have h2:=Bb (x.fdiv 8) (b:=4) (by decide);refine⟨h1.1,?_,?_⟩
 ·show(x.fdiv 4).fmod 2≤1;exact ab7 h1
 ·show BP.getD ((x.fdiv 8).fmod 4).toNat ""∈BP
  have:((x.fdiv 8).fmod 4).toNat<4:=by exact a73 h2
  match((x.fdiv 8).fmod 4).toNat,this with
  | 0,_=>exact .head _
  | 1,_=>exact .tail _ (.head _)
  | 2,_=>exact .tail _ (.tail _ (.head _))
  | 3,_=>exact .tail _ (.tail _ (.tail _ (.head _)))
theorem K9{k:Nat}(hk:1≤k){ps:List Pr}{x:Int}(h:∀p∈ps,OkP k p):∀p∈Dj ps x,OkP k p:=by
 intro p hp;unfold Dj at hp
 rcases List.mem_append.mp hp with hp| hp
 ·rcases List.mem_append.mp hp with hp| hp
  ·exact h p (List.mem_of_mem_take hp)
  ·unfold fresh at hp
   split at hp
   ·cases hp
   ·rw[List.mem_singleton.mp hp];exact(KD x).mono hk
 ·exact h p (List.mem_of_mem_drop hp)
theorem Oo{k:Nat}(hk:1≤k):∀(xs:List Int) {ps:List Pr},(∀p∈ps,OkP k p)→∀p∈wr ps xs,OkP k p
 | [],ps,h=>h
 | x::xs,ps,h=>Oo hk xs (K9 (x:=x) hk h)
noncomputable def elp(ps:List Pr):PV×PV:=(.lst (ps.map pr),.lst (Ac (ps.map ln)))
noncomputable def el(ps:List Pr):PV:=.tup [.lst (ps.map pr),.lst (Ac (ps.map ln))]
noncomputable def Ltr(k:Nat)(ps:List Pr):Prop:=ps.length≤6∧∀p∈ps,OkP k p
theorem Ltr.wr{k:Nat}(hk:1≤k){ps:List Pr}(h:∀p∈ps,OkP k p)(xs:List Int):Ltr k ((wr ps xs).take 6):=
 ⟨List.length_take_le _ _,fun p hp=>Oo hk xs h p (List.mem_of_mem_take hp)⟩
theorem Ltr.quo{k mode:Nat}{ps:List Pr}(h:Ltr k ps):Ltr (k+1) (ps.map (quo mode)):=
 ⟨by rw[List.length_map];exact h.1,fun p hp=>by obtain⟨q,hq,rfl⟩:=List.mem_map.mp hp;exact(h.2 q hq).quo⟩
theorem OCK.int{X:Cx}{A:Around}{f:Value}{k:Str}{i:Int}{args:List PV}{Q:PV→PS→Prop}{σ:PS}(h:∀t,OC X A f [(k,.int i t)] args Q σ):OCK X A f k (.int i) args Q σ:=fun s vs u hs is iu=>by
 cases iu
 exact h _ s vs hs is
theorem OC.le{X:Cx}{A B:Around}(le:Around.Le A B){f:Value}{kw:List (Str×Value)}{args:List PV}{Q:PV→PS→Prop}{σ:PS}(h:OC X B f kw args Q σ):OC X A f kw args Q σ:=fun s vs hs i=>EV le (h s vs hs i)
noncomputable def GW:PV→List Pr
 | .tup [.lst l,_]=>l.map Ii
 | _=>[]
theorem GV(ps:List Pr):GW (el ps)=ps:=by
 show(ps.map pr).map Ii=ps;rw[List.map_map];exact List.map_id' ps
theorem F5:∀l:List Str,(Str.join (Str.ofString "") l).length=(l.map (·.length)).sum
 | []=>rfl
 | [x]=>by simp[Str.join]
 | x::y::r=>by
  have ih:=F5 (y::r);rw[show Str.join (Str.ofString "") (x::y::r)=x++Str.ofString ""++Str.join (Str.ofString "") (y::r)from rfl,Str.length_append,Str.length_append,ih,List.map_cons (a:=x),List.sum_cons]
  have z:(Str.ofString "").length=0:=by decide+kernel
  show x.length+(Str.ofString "").length+_=x.length+_;rw[z,Nat.add_zero]
theorem Jn(l:List Str):Txt.join "" l=Str.join (Str.ofString "") l:=by
 show Builtin.Str.glued (Str.ofString "") l=_;rw[StrLaws.glued_eq_join]
theorem H6(l:List Str):(Txt.join "" l).length=(l.map (·.length)).sum:=by rw[Jn,F5]
theorem KO:∀(l:List Str) (b:Nat),(∀s∈l,s.length≤b)→(l.map (·.length)).sum≤b*l.length
 | [],_,_=>by simp
 | s::l,b,h=>by
  have h1:=h s (.head _);have h2:=KO l b fun s hs=>h s (.tail _ hs);rw[List.map_cons,List.sum_cons,List.length_cons,Nat.mul_succ];exact ab6 h1 h2
theorem LX{ps:List Pr}(hl:ps.length≤6)(h:∀p∈ps,Good p):((ps.map ln).map (·.length)).sum≤10000∧(Txt.join "" (ps.map ln)).length≤100000∧∀M,(Txt.join "" ((ps.map ln).flatMap (A7 (Dp M)))).length≤100000:=by
 have h1:((ps.map ln).map (·.length)).sum≤220*(ps.map ln).length:=KO _ _ fun s hs=>by
  obtain⟨p,hp,rfl⟩:=List.mem_map.mp hs;exact(h p hp).ln_len
 rw[List.length_map (as:=ps)]at h1;refine⟨by exact ab5 hl h1,by rw[H6];exact ab4 hl h1,fun M=>?_⟩;have:=CX (Dp M) (ps.map ln);rw[H6];rw[List.length_map]at this;exact ab3 hl h1 this
theorem Iq(N:Nat)(its:List ISt):(Cv N its).length≤2+2*its.length:=by
 have h1:=Cq (Av N (Ak its));have h2:=Ca its (Av N (Ak its)) (Av N (Ak its))
 have h3:(Av N (Ak its)).length≤its.length:=by
  unfold Av;refine Nat.le_trans (List.length_filter_le _ _) ?_;rw[List.length_range];unfold Ak;rw[List.length_map];exact Nat.le_refl _
 unfold Cv;rw[List.length_append];exact ab2 h1 h2 h3
noncomputable def m26(nums:List Int)(N:Nat)(ns:List Int)(E:List (List Pr))(l:List (Str×PV)):List (Str×PV):=("numbers",.lst (Aj nums))::("around",.int N)::("script",.lst (Aj ns))::("elder",.lst (E.map el))::l
set_option maxHeartbeats 8000000 in
theorem SP{X:Cx}(hP:Oh){n0:Nat}(hn:n0<100){ns:List Int}(hlen:ns.length≤63){G0:Array GenState}:OC X (AR n0) (.ref 327) [] [.lst (Aj ns)] (fun v σ'=>v=.bool true∧Ap G0 σ'.gens∧σ'.own=Fi) ⟨Fi,G0⟩:=by
 refine B5 (ns:=["script"]) (Nx _) rfl ⟨326,_,_,_,rfl,Ny _,rfl,rfl⟩ rfl (.plain (by exact Fq fun a=>rfl) rfl) rfl rfl rfl rfl rfl rfl (by exact ab1 hn) fun env rs hrs he=>?_;obtain⟨cm,rfl⟩:=E6 (a:="mode") (hrs.trans (by rfl));show TBs X _ env _ _ _ ⟨(env.locals,.ns [])::(cm,.cell none)::Fi,G0⟩;refine AP (En.storeN he rfl ?_);refine D6 ?_;refine W_seq ?_
 repeat walk_at"w"
 refine AN ?_
 repeat walk_at"w"
 refine⟨As rfl,?_⟩
 repeat walk_at"w"
 refine⟨Aj ns,none,some 24,none,.frozen,by unfold Aj;rw[List.length_map,sizeLine_eq];exact ab0 hlen,.none,.int _,.none,by decide,?_⟩;rw[show(some (24:Int))=some ((24:Nat):Int)from rfl,CG,show(Aj ns).take 24=Aj (ns.take 24)by unfold Aj;rw[List.map_take]];have htk:(ns.take 24).length≤24:=List.length_take_le _ _;refine Cg (l:=Aj [0,4,2,48,48,104,59,2]) (l':=Aj (ns.take 24)) .frozen .frozen (by unfold Aj;rw[List.length_map,List.length_map,sizeLine_eq];show 8+_≤_;exact aa9 htk) ?_;rw[show Aj [0,4,2,48,48,104,59,2]++Aj (ns.take 24)=Aj ([0,4,2,48,48,104,59,2]++ns.take 24)by unfold Aj;rw[List.map_append]]
 have hnl:([0,4,2,48,48,104,59,2]++ns.take 24).length≤40:=by rw[List.length_append];show 8+_≤_;exact aa8 htk
 generalize [0,4,2,48,48,104,59,2]++ns.take 24=nums at*
 have hnz:(Aj nums).length≤sizeLine:=by unfold Aj;rw[List.length_map,sizeLine_eq];exact aa7 hnl
 repeat walk_at"w"
 refine Op rfl .frozen ?_
 repeat walk_at"w"
 refine BE (by decide) (by decide) ?_
 repeat walk_at"w"
 refine Da (by decide) ?_
 repeat walk_at"w"
 obtain⟨N,hN,hN2⟩:∃N:Nat,(ns.sum.fdiv 3+1).fmod 3=(N:Int)∧N≤2:=by
  have:=Bb (ns.sum.fdiv 3+1) (b:=3) (by decide);exact⟨((ns.sum.fdiv 3+1).fmod 3).toNat,by exact Un this,by exact aa6 this⟩
 rw[hN];refine AN (Es_nil ⟨Nat.zero_le _,?_⟩)
 repeat walk_at"w"
 refine AN (Es_nil ⟨Nat.zero_le _,?_⟩)
 repeat walk_at"w"
 obtain⟨xs,hxe,hxl⟩:=F9 nums 0 (by exact aa5) hnl;refine⟨Aj nums,some 0,none,some 4,.frozen,hnz,.int _,.none,.int _,by decide,?_⟩;rw[show pick (Aj nums) (some 0) none (some 4)=Aj xs from hxe]
 repeat walk_at"w"
 refine⟨Kept.fn (G8 _) rfl,(DZ (n:=n0+1) (ps:=[]) (by exact a27 hn) (by simp) hxl ?_).on⟩;have hL0:Ltr 1 ((wr [] xs).take 6):=Ltr.wr (by exact a74) (fun p hp=>by cases hp) xs
 generalize (wr [] xs).take 6=L0 at*
 clear hxe hxl;refine Az rfl rfl rfl ?_;refine TGs_cons (En.store he rfl ?_);refine TGs_cons (En.store he rfl ?_);refine TGs_nil ?_
 repeat walk_at"w"
 refine AN ?_
 repeat walk_at"w"
 refine⟨As rfl,?_⟩;refine Es_nil ⟨As rfl,?_⟩
 repeat walk_at"w"
 refine Em rfl (G:=List (List Pr)×List Pr×Option PV×Array GenState) 1 4 (by decide) (by decide) (fun O g=>⟨(env.locals,.ns (m26 nums N ns g.1 []))::(cm,.cell g.2.2.1)::Fi,g.2.2.2⟩)
  (fun j g=>g.1.length≤4∧g.1.length≤j∧(∀e∈g.1,Ltr j e)∧(∃ini,g.1=ini++[g.2.1])∧Ap G0 g.2.2.2) (fun Q hQ=>?_) (fun j hj1 hj4 g hg K nx br rt=>?_) (fun g hg=>?_) (fun O=>rfl)
 ·repeat walk_at"w"
  refine BI ?_;exact hQ ([L0],L0,none,G0) ⟨by simp,by simp,fun e he=>by rw[List.mem_singleton.mp he];exact hL0,⟨[],rfl⟩,.refl _⟩ _ (.ns rfl)
 ·have hj3:j≤3:=Nat.le_of_lt_succ hj4
  obtain⟨hEl,hEj,hE,⟨ini,hini⟩,hge⟩:=hg
  generalize hps_:g.2.1=ps at*
  generalize hE_:g.1=E at*
  obtain⟨M,hM,hM3⟩:∃M:Nat,(ns.sum+(j:Int)).fmod 3=(M:Int)∧M<3:=by
   have:=Bb (ns.sum+(j:Int)) (b:=3) (by decide);exact⟨((ns.sum+(j:Int)).fmod 3).toNat,by exact Un this,by exact aa4 this⟩
  have hps:Ltr j ps:=hE ps (by rw[hini];simp)
  repeat walk_at"w"
  refine W_Assign1 rfl ?_ (by rfl) (by exact swE (by assumption) rfl)
  repeat walk_at"w"
  refine Op rfl .frozen ?_
  repeat walk_at"w"
  refine Da (by decide) ?_;rw[hM]
  repeat walk_at"w"
  refine⟨E.map el,some (-(1:Nat)),none,none,.frozen,by rw[List.length_map,sizeLine_eq];exact Um hEl,.int _,.none,.none,by decide,?_⟩;rw[Kc _ 1 (by exact a74),show(E.map el).drop ((E.map el).length-1)=[el ps]by rw[hini];simp]
  repeat walk_at"w"
  refine⟨As rfl,?_⟩;refine Az rfl rfl rfl ?_;refine TGs_cons (En.storeC he rfl rfl (by walk_at"m") (by walk_at"u") ?_);refine TGs_cons (En.store he rfl ?_);refine TGs_nil ?_;walk_at"w";walk_at"w";refine Fx (x:="old") (y:="rows") (f:=fun v=>el ((GW v).map (quo M))) rfl he (by exact he.swap_yes (by rfl) (by rfl)) (by rfl) (by decide) rfl (by decide) (by decide) (by rfl) (by rfl) ?_ (fun O=>rfl)
  repeat walk_at"w"
  refine⟨E.map elp,_,_,rfl,?_,by rw[List.length_map,sizeLine_eq];exact Um hEl,?_,?_⟩
  ·rw[List.map_map]
   exact .list (fun g=>.frozen)
  ·intro e' hen D ys v hv
   obtain⟨qs,hqs,rfl⟩:=List.mem_map.mp hv;have hq:=hE qs hqs;have hok:∀p∈qs,OkP 10 p:=fun p hp=>(hq.2 p hp).mono (by exact aa3 hj3)
   have hql:(qs.map ln).length≤6:=by rw[List.length_map];exact hq.1
   have hsz:=LX (hq.1) fun p hp=>(hok p hp).good (by exact a26)
   have hok':∀p∈qs.map (quo M),OkP 11 p:=fun p hp=>by obtain⟨r,hr,rfl⟩:=List.mem_map.mp hp;exact(hok r hr).quo
   repeat walk_at"w"
   refine⟨Kept.fn (Jv _) rfl,(IE (n:=n0+1) (ps:=qs) (mode:=M) (by exact a27 hn) hM3 (by have:=hq.1;exact a54 this) ?_).on⟩
   repeat walk_at"w"
   refine⟨Kept.fn (Ju _) rfl,(Gy (n:=n0+1) (rows:=qs.map ln) (rows':=(qs.map (quo M)).map ln) (mode:=M) (by exact aa2 hn) hM3 (by exact Ul hql) (by rw[List.length_map,List.length_map];have:=hq.1;exact Ul this) hsz.1 (hP.lines qs hq.1 hok) hsz.2.1 (hP.quoted M qs hM3 hq.1 hok) (hsz.2.2 M) (by walk_at"m") (by walk_at"m") ?_).on⟩;refine Es_nil ⟨As rfl,?_⟩;refine⟨?_,rfl⟩;show _=el ((GW (el qs)).map (quo M));rw[GV];rfl
  have hE':((E.map elp).map fun v=>PV.tup [v.1,v.2]).map (fun v=>el ((GW v).map (quo M)))=(E.map fun e=>e.map (quo M)).map el:=by
   rw[List.map_map,List.map_map,List.map_map];refine List.map_congr_left fun e O=>?_;show el ((GW (el e)).map (quo M))=_;rw[GV];rfl
  rw[hE'];clear hE';refine En.store he rfl ?_
  have hini':(E.map fun e=>e.map (quo M))=(ini.map fun e=>e.map (quo M))++[ps.map (quo M)]:=by rw[hini,List.map_append];rfl
  have hE2:∀e∈E.map fun e=>e.map (quo M),Ltr (j+1) e:=fun e he=>by obtain⟨z,hz,rfl⟩:=List.mem_map.mp he;exact(hE z hz).quo
  have hEl2:(E.map fun e=>e.map (quo M)).length=E.length:=List.length_map _
  generalize E.map (fun e=>e.map (quo M))=E2 at*
  generalize ini.map (fun e=>e.map (quo M))=ini2 at*
  have hqs:Ltr (j+1) (ps.map (quo M)):=hps.quo
  generalize ps.map (quo M)=qs at*
  have hix:((-1:Int)+(E2.map el).length).toNat=ini2.length:=by
   rw[hini',List.length_map,List.length_append,List.length_singleton];exact aa1
  have hix2:(E2.map el)[((-1:Int)+(E2.map el).length).toNat]? =some (el qs):=by
   rw[hix,hini'];simp
  have hpos:1≤(E2.map el).length:=by rw[hini'];simp
  repeat walk_at"w"
  refine C4 (x:=el qs) .frozen (by exact a24) (by exact Uk hpos) hix2 (by exact a37) (fun O O=>rfl) ?_
  repeat walk_at"w"
  refine A4 (j:=0) (x:=.lst (qs.map pr)) rfl rfl (by exact a55) (by exact a5) (fun O O=>rfl) ?_
  repeat walk_at"w"
  refine C4 (x:=el qs) .frozen (by exact a24) (by exact Uk hpos) hix2 (by exact a37) (fun O O=>rfl) ?_
  repeat walk_at"w"
  refine A4 (j:=1) (x:=.lst (Ac (qs.map ln))) rfl rfl (by exact UB) (by exact UA) (fun O O=>rfl) ?_
  repeat walk_at"w"
  obtain⟨xs,hxe,hxl⟩:=F9 nums j hj3 hnl;refine⟨Aj nums,some (j:Int),none,some 4,.frozen,hnz,.int _,.none,.int _,by decide,?_⟩;rw[hxe];refine Es_nil ⟨Kept.fn (G8 _) rfl,(DZ (n:=n0+1) (ps:=qs) (by exact a27 hn) (by have:=hqs.1;exact a54 this) hxl ?_).on⟩;have hL:Ltr (j+1) ((wr qs xs).take 6):=Ltr.wr (by exact ax7) hqs.2 xs
  generalize (wr qs xs).take 6=L at*
  clear hxe hxl hix hix2 hpos;refine Az rfl rfl rfl ?_;refine TGs_cons (En.store he rfl ?_);refine TGs_cons (En.store he rfl ?_);refine TGs_nil ?_;walk_at"w";walk_at"w"
  have hE3:∀e∈ps::E2,Ltr (j+1) e:=fun e he=>by
   rcases List.mem_cons.mp he with rfl| he
   ·exact⟨hps.1,fun p hp=>(hps.2 p hp).mono (by exact UM)⟩
   ·exact hE2 e he
  refine CO rfl (ps::E2) el (fun O G'=>⟨(env.locals,.ns (m26 nums N ns E2 [("pairs",.lst (L.map pr)),("lines",.lst (Ac (L.map ln)))]))::(cm,.cell (some (.int (M:Int))))::Fi,G'⟩) (fun O G'=>Ap G0 G') (fun Q hQ=>?_) (fun i os hi G' hge K2 nx2 br2 rt2=>?_) (fun G' hge'=>?_) (fun O=>rfl)
  ·repeat walk_at"w"
   refine Cg (l:=[el ps]) (l':=E2.map el) .frozen .frozen (by rw[List.length_map,sizeLine_eq];show 1+_≤_;exact aa0 hEl hEl2) ?_;exact hQ _ _ (fun O O=>.frozen) hge _ (.ns rfl)
  ·have hos:=hE3 os (List.mem_of_getElem? hi)
   have hok1:∀p∈os,OkP 10 p:=fun p hp=>(hos.2 p hp).mono (by exact Uj hj3);have hok2:∀p∈L,OkP 10 p:=fun p hp=>(hL.2 p hp).mono (by exact Uj hj3);obtain⟨p1,p2,p3,p4,p5⟩:=hP.told N os L hN2 hos.1 hL.1 hok1 hok2
   have hlen1:∀s∈os.map ln,s.length≤10000:=fun s hs=>by
    obtain⟨p,hp,rfl⟩:=List.mem_map.mp hs;exact Nat.le_trans ((hok1 p hp).good (by exact a26)).ln_len (by exact Ui)
   have hlen2:∀s∈L.map ln,s.length≤10000:=fun s hs=>by
    obtain⟨p,hp,rfl⟩:=List.mem_map.mp hs;exact Nat.le_trans ((hok2 p hp).good (by exact a26)).ln_len (by exact Ui)
   refine Az rfl rfl rfl ?_;refine TGs_cons (En.store he rfl ?_);refine TGs_cons (En.store he rfl ?_);refine TGs_nil ?_
   repeat walk_at"w"
   refine MI (fa:=269) (by first| exact trivial| rfl) (fun O=>rfl) rfl ?_
   repeat walk_at"w"
   refine⟨rfl,?_⟩
   repeat walk_at"w"
   refine⟨Kept.fn (Jx _) rfl,OCK.int fun t=>OC.past (pre:=[_]) (a:=[]) (OC.le (AR.le (by exact ZZ:n0+1≤n0+5)) (R8 (n0:=n0+5) (as:=os.map ln) (bs:=L.map ln) (N:=N) (ow:=(env.locals,_)::(cm,.cell (some (.int (M:Int))))::Fi) (by exact ZY hn) (by rw[List.length_map];exact hos.1) (by rw[List.length_map];exact hL.1) hlen1 hlen2 (by exact Uh hN2) p1 p2 fun ga gp' G2 hg=>⟨(ga,Ba _)::gp',_,rfl,?_⟩))⟩
   repeat walk_at"w"
   rw[p3]at hg
   have hdl:(Ac (Cv N (EJ os L))).length≤sizeLine:=by
    rw[At,sizeLine_eq];have:=Iq N (EJ os L);exact ZX p4 this
   refine ON.view (Cn.perm (o':=gp'++((env.locals,_)::(ga,Ba _)::(cm,_)::Fi)) (List.perm_append_comm_assoc [_,_] _ _)) (HR (n:=n0+1) (by exact a27 hn) (a:=ga) (.tail _ (.head _)) hg hdl fun G3 ge3=>?_);have hge3:Ap G0 G3:=hge.trans ge3;clear hg
   repeat walk_at"w"
   have hcp:((os.map pr).filter fun O=>true).map (fun v=>PV.str (ln (Ii v)))=Ac (os.map ln):=by
    rw[List.filter_eq_self.mpr (fun O O=>rfl),List.map_map];unfold Ac;rw[List.map_map]
    rfl
   have hol:=hos.1;refine Bo (x:="pair") rfl he (fun O=>true) (fun v=>.str (ln (Ii v))) (by rfl) (by decide) rfl (by decide) (by rfl) ?_ (fun O=>rfl)
   repeat walk_at"w"
   refine⟨os.map pr,_,_,rfl,.list (fun g=>.frozen),by rw[List.length_map,sizeLine_eq];exact a19 hol,fun O O O O O O=>Dh ⟨rfl,rfl⟩,?_,?_⟩
   ·intro e' hen D ys v hv hp
    obtain⟨p,hp',rfl⟩:=List.mem_map.mp hv
    repeat walk_at"w"
    exact⟨Kept.fn (Ek _) rfl,(EI (n:=n0+1) (by exact ZW hn) ((hok1 p hp').good (by exact a26)) ⟨rfl,rfl⟩).on⟩
   rw[hcp];refine Jd (ys:=os.map ln) (zs:=os.map ln) (by show 100+20*(n0+1)<9900;exact Ug hn) .frozen .frozen ?_
   repeat walk_at"w"
   refine Ab (by simp) ?_
   repeat walk_at"w"
   refine⟨Kept.fn (Js _) rfl,(Kn (n:=n0+1) (one:=os) (two:=L) (by exact a27 hn) (by exact a54 hol) (by have:=hL.1;exact a54 this) (LZ (by exact ZV hn) hos.1 hL.1) (by have:=Du (A:=os) (B:=L);exact ZU hol this) ?_).on⟩
   repeat walk_at"w"
   refine⟨Kept.fn (Jr _) rfl,(ID (n:=n0+1) (its:=EJ os L) (c:=N) (by exact a27 hn) (by exact Uh hN2) p4 p5 ?_).on⟩;refine Jd (by show 100+20*(n0+1)<9900;exact Ug hn) .frozen .frozen ?_
   repeat walk_at"w"
   refine Ab (by simp) ?_
   repeat walk_at"w"
   exact nx2 .next rfl G3 hge3 _ (.nd rfl (List.sublist_cons_self _ _))
  repeat walk_at"w"
  refine AN ?_
  repeat walk_at"w"
  refine⟨As rfl,?_⟩;refine Es_nil ⟨As rfl,?_⟩;refine Cg (l:=E2.map el) (l':=[el L]) .frozen .frozen (by rw[List.length_map,sizeLine_eq];show _+1≤_;exact ZT hEl hEl2) ?_;rw[show E2.map el++[el L]=(E2++[L]).map el by rw[List.map_append];rfl]
  repeat walk_at"w"
  refine nx .next rfl (E2++[L],L,_,_) ⟨by rw[List.length_append];show _+1≤4;exact ZS hEj hj3 hEl2,by rw[List.length_append];show _+1≤_;exact ZR hEj hEl2,fun e he=>?_,⟨E2,rfl⟩,hge'⟩ _ (.ns rfl)
  rcases List.mem_append.mp he with he| he
  ·exact hE2 e he
  ·rw[List.mem_singleton.mp he];exact hL
 ·repeat walk_at"w"
  exact .drop ((List.sublist_cons_self _ _).trans (List.sublist_cons_self _ _)) ⟨rfl,hg.2.2.2.2,rfl⟩
theorem Im(P:Params):(hz P).get? 24=some (tabObj #[]):=Ge P 24 _ (by decide) (by kernel_rfl) rfl
theorem Gg(P:Params):(hz P).get? 292=some (tabObj #[]):=Ge P 292 _ (by decide) (by kernel_rfl) rfl
theorem Nn(hP:Oh){w:World}{s₁:Shared}{mg:Str→Option Value}(hns:s₁.heap.Ns 3 mg)(Y:∀b o,(hz w.params).get? b=some o→s₁.heap.get? b=some o){fa:Addr}(hmg:mg ("law":Str)=some (.ref fa))(hg:s₁.gens= #[]){la:Addr}{vs:List Value}{ns:List Int}(hL:s₁.heap.get? la=some {cls:=.type "list",data:=.seq vs.toArray})(hI:IsAll [24,292] s₁.heap (Aj ns) vs)(hc:ns.length≤63):wpAny (model pw w) callerA (call (.ref fa) [.ref la]) (fun v s'=>v=.bool true∧OldK s₁.heap s'.heap∧s'.os=s₁.os∧AllBare s'.gens) (fun O O=>False) s₁:=by
 have hq1:∀b o,(Mine.hq w.params).get? b=some o→s₁.heap.get? b=some o:=fun b o e=>Y b o (of_hideAll _ e)
 have hfa:fa=327:=by
  have h1:lookIn "law" (Gj pw w.params)=some (mg ("law":Str)):=Ns.lookIn hns (Y 3 _ (of_hideAll _ (Jq w.params))) _
  have h2:lookIn "law" (Gj pw w.params)=some (some (.ref 327)):=by kernel_rfl
  rw[h2,hmg]at h1
  cases h1;rfl
 subst hfa
 have hs:St ⟨w,s₁.os⟩ ⟨Fi,#[]⟩ s₁:=by
  refine⟨fun b o e=>⟨hq1 b o e,fun hm=>?_⟩,by decide,fun a p hm=>?_,hg,rfl⟩
  ·have:=hideAll_none [24,292] (h:=hz w.params) (b:=b) hm
   rw[show Mine.hq w.params=hideAll (hz w.params) [24,292]from rfl,this]at e
   cases e
  ·have tb:∀q,s₁.heap.get? a=some (tabObj #[])→IsO ⟨w,s₁.os⟩ (ads Fi) s₁.heap a (.tab q):=fun q e=>⟨#[],e,trivial,fun pos cv h=>by cases h⟩
   rcases List.mem_cons.mp hm with e| hm
   ·cases e;exact tb _ (Y _ _ (Im _))
   ·rcases List.mem_cons.mp hm with e| hm
    ·cases e;exact tb _ (Y _ _ (Gg _))
    ·cases hm
 have hla:la∉([24,292]:List Addr):=fun hm=>by
  rcases List.mem_cons.mp hm with rfl| hm
  ·rw[Y _ _ (Im _)]at hL;cases hL
  ·obtain rfl:=List.mem_singleton.mp hm
   rw[Y _ _ (Gg _)]at hL;cases hL
 have il:Is (ads Fi) s₁.heap (.lst (Aj ns)) (.ref la):=.lst hL rfl rfl rfl hla hI
 have le:Around.Le callerA (AR 0):=⟨rfl,by decide,rfl,rfl,by decide⟩
 refine Aq le (wpAny_mono ((SP (X:=⟨w,s₁.os⟩) hP (n0:=0) (by exact Y6) hc (G0:= #[])).on s₁ [.ref la] hs (.cons il .nil)) (fun v s' z=>?_) fun O O z=>z.elim);obtain⟨pv,σ',iv,t,k,rfl,ge,ho⟩:=z
 cases iv
 have tabs':∀b,b∈([24,292]:List Addr)→(isCodeTable s₁.heap b∧s₁.heap.get? b=some (tabObj #[]))∧∃ps,s'.heap.get? b=some (tabObj ps):=fun b hb=>by
  rcases List.mem_cons.mp hb with rfl| hb
  ·obtain⟨ps,h1,_⟩:=t.own 24 (.tab ("indent"++".<locals>."++"<lambda>")) (by rw[ho];exact .head _)
   exact⟨⟨⟨28,_,_,hq1 _ _ (IH _),rfl,rfl,rfl⟩,Y _ _ (Im _)⟩,ps,h1⟩
  ·obtain rfl:=List.mem_singleton.mp hb
   obtain⟨ps,h1,_⟩:=t.own 292 (.tab ("_law_indented"++".<locals>."++"<lambda>")) (by rw[ho];exact .tail _ (.head _));exact⟨⟨⟨296,_,_,hq1 _ _ (G9 _),rfl,rfl,rfl⟩,Y _ _ (Gg _)⟩,ps,h1⟩
 refine⟨rfl,⟨fun b o e=>?_,fun b o e=>?_⟩,t.os,?_⟩
 ·by_cases hb:b∈([24,292]:List Addr)
  ·obtain⟨⟨ct,h0⟩,ps,h1⟩:=tabs' b hb
   rw[e]at h0
   cases h0
   exact .inr (.inl ⟨ct,rfl,#[],ps,rfl,by rw[h1,Array.empty_append]⟩)
  ·exact .inl (k b o e hb).1
 ·by_cases hb:b∈([24,292]:List Addr)
  ·obtain⟨_,ps,h1⟩:=tabs' b hb
   exact⟨_,h1⟩
  ·exact⟨o,(k b o e hb).1⟩
 ·rw[t.gens];exact ge.bare .empty
open StrLaws in
theorem Dk{a b:Str}(h:a.cps.toList=b.cps.toList):a=b:=by
 cases a;cases b
 exact congrArg Str.mk (Array.ext' h)
theorem AY(a b:Str):(a++b).cps.toList=a.cps.toList++b.cps.toList:=by rw[Str.cps_append,Array.toList_append]
noncomputable def okc(c:Nat):Prop:=c=62∨c=32∨c=97∨c=98
theorem OX{c:Nat}(h:okc c):Unicode.isLineBreak c=false:=by
 rcases h with rfl| rfl| rfl| rfl<;>decide+kernel
noncomputable def MK(r:Str):Prop:=∃b,r.cps.toList=b++[10]∧∀c∈b,okc c
theorem HA{s:Str}{i c:Nat}{t:List Nat}(h:s.cps.toList.drop i=c::t):s.cps.getD i 0=c∧i<s.length∧s.cps.toList.drop (i+1)=t:=by
 have h1:s.cps.toList[i]? =some c:=by
  have:=congrArg List.head? h;rw[List.head?_drop]at this;exact this
 have h2:i<s.cps.toList.length:=(List.getElem?_eq_some_iff.mp h1).1;refine⟨?_,by simpa [Str.length] using h2,?_⟩
 ·rw[Array.getElem?_toList]at h1
  rw[Array.getD_eq_getD_getElem?,h1];rfl
 ·rw[←List.tail_drop,h];rfl
open StrLaws Builtin.Str in
theorem H1(s:Str)(rest:List Nat):∀(b:List Nat) (i start:Nat) (lines:Array (Nat×Nat×Nat)),s.cps.toList.drop i=b++10::rest→(∀c∈b,okc c)→start≤i→Id.run (forIn (m:=Id) (List.range' i (b.length+1+rest.length)) ((lines,start):LsSt) (lsBody s))=Id.run (forIn (m:=Id) (List.range' (i+b.length+1) rest.length) ((lines.push (start,i+b.length,i+b.length+1),i+b.length+1):LsSt) (lsBody s))
 | [],i,start,lines,hd,_,hs=>by
  obtain⟨hc,hi,hd'⟩:=HA hd;rw[show([]:List Nat).length+1+rest.length=rest.length+1 by simp;exact Ut,List.range'_succ,List.forIn_cons]
  have hb:lsBody s i (lines,start)=pure (ForInStep.yield (lines.push (start,i,i+1),i+1)):=by
   unfold lsBody;rw[hc,if_pos (by rw[Bool.and_eq_true,decide_eq_true_eq];exact⟨hs,by decide+kernel⟩)]
   have:lsNext s i=i+1:=by
    unfold lsNext;rw[hc,if_neg (by simp)]
   rw[this]
  rw[hb]
  rfl
 | c::b,i,start,lines,hd,hok,hs=>by
  obtain⟨hc,hi,hd'⟩:=HA hd;rw[show(c::b).length+1+rest.length=(b.length+1+rest.length)+1 by simp;exact Y5,List.range'_succ,List.forIn_cons]
  have hb:lsBody s i (lines,start)=pure (ForInStep.yield (lines,start)):=by
   unfold lsBody;rw[hc,if_neg (by rw[OX (hok c (.head _)),Bool.and_false];exact Bool.false_ne_true)]
  rw[hb];have ih:=H1 s rest b (i+1) start lines hd' (fun c hc=>hok c (.tail _ hc)) (by exact a53 hs);rw[show i+(c::b).length=i+1+b.length by simp;exact a96];exact ih
noncomputable def CD:Nat→List (List Nat)→List (Nat×Nat×Nat)
 | _,[]=>[]
 | i,b::bs=>(i,i+b.length,i+b.length+1)::CD (i+b.length+1) bs
open StrLaws Builtin.Str in
theorem Ji(s:Str):∀(bs:List (List Nat)) (i:Nat) (lines:Array (Nat×Nat×Nat)),s.cps.toList.drop i=bs.flatMap (· ++[10])→(∀b∈bs,∀c∈b,okc c)→i≤s.length→Id.run (forIn (m:=Id) (List.range' i (bs.flatMap (· ++[10])).length) ((lines,i):LsSt) (lsBody s))=(lines++(CD i bs).toArray,s.length)
 | [],i,lines,hd,_,hi=>by
  have:s.cps.toList.length≤i:=by
   have:=congrArg List.length hd;simp only[List.length_drop,List.flatMap_nil,List.length_nil]at this;exact a71 this
  have e:i=s.length:=by
   have e2:s.length=s.cps.toList.length:=by simp[Str.length]
   exact Y4 hi this e2
  subst e;show((lines,s.length):LsSt)=_;simp[CD]
 | b::bs,i,lines,hd,hok,hi=>by
  rw[List.flatMap_cons,List.append_assoc]at hd;have h1:=H1 s (bs.flatMap (· ++[10])) b i i lines hd (hok b (.head _)) (Nat.le_refl _)
  have e1:(List.flatMap (· ++[10]) (b::bs)).length=b.length+1+(bs.flatMap (· ++[10])).length:=by
   rw[List.flatMap_cons,List.length_append,List.length_append];rfl
  rw[e1,h1]
  have hd2:s.cps.toList.drop (i+b.length+1)=bs.flatMap (· ++[10]):=by
   rw[show i+b.length+1=i+(b++[10]).length by simp;exact T9,←List.drop_drop,hd]
   have:b++([10]++bs.flatMap (· ++[10]))=(b++[10])++bs.flatMap (· ++[10]):=by simp
   rw[this,List.drop_left]
  have hlen:i+b.length+1≤s.length:=by
   have:=congrArg List.length hd;simp only[List.length_drop,List.length_append,List.length_cons,List.length_nil]at this
   have e2:s.length=s.cps.toList.length:=by simp[Str.length]
   exact Y3 this e2
  rw[Ji s bs (i+b.length+1) _ hd2 (fun x hx=>hok x (.tail _ hx)) hlen];simp[CD]
theorem F1(s:Str):∀(bs:List (List Nat)) (i:Nat),s.cps.toList.drop i=bs.flatMap (· ++[10])→((CD i bs).map fun(x:Nat×Nat×Nat)=>Builtin.Str.strSub s x.1 x.2.2)=bs.map fun b=>(⟨(b++[10]).toArray⟩:Str)
 | [],_,_=>rfl
 | b::bs,i,hd=>by
  have hd0:=hd;rw[List.flatMap_cons]at hd
  have hd2:s.cps.toList.drop (i+b.length+1)=bs.flatMap (· ++[10]):=by
   rw[show i+b.length+1=i+(b++[10]).length by simp;exact T9,←List.drop_drop,hd,List.drop_left]
  show _::_=_::_;rw[F1 s bs _ hd2]
  congr 1
  refine Dk ?_
  show(s.cps.extract i (i+b.length+1)).toList=b++[10]
  rw[Array.toList_extract,List.extract_eq_take_drop,hd,show i+b.length+1-i=(b++[10]).length by simp;exact Y2,List.take_left]
open StrLaws Builtin.Str in
theorem Mb(s:Str)(bs:List (List Nat))(h:s.cps.toList=bs.flatMap (· ++[10]))(hok:∀b∈bs,∀c∈b,okc c):Am s=bs.map fun b=>(⟨(b++[10]).toArray⟩:Str):=by
 have e0:s.length=(bs.flatMap (· ++[10])).length:=by rw[←h];simp[Str.length]
 have hl:Builtin.Str.lineSpans s=CD 0 bs:=by
  rw[ls_eq,e0,Ji s bs 0 #[] (by rw[List.drop_zero];exact h) hok (Nat.zero_le _)];unfold lsEnd;rw[if_neg (Nat.lt_irrefl _)];simp
 have:=F1 s bs 0 (by rw[List.drop_zero];exact h);rw[←this];unfold Am Bk;rw[hl,List.map_map]
 rfl
theorem Dm:∀l:List Str,(Str.join (Str.ofString "") l).cps.toList=l.flatMap (·.cps.toList)
 | []=>rfl
 | [x]=>by simp[Str.join]
 | x::y::r=>by
  rw[show Str.join (Str.ofString "") (x::y::r)=x++Str.ofString ""++Str.join (Str.ofString "") (y::r)from rfl,AY,AY,Dm (y::r),List.flatMap_cons (x:=x)]
  have z:(Str.ofString "").cps.toList=[]:=by decide+kernel
  rw[z,List.append_nil]
theorem Ea(l:List Str):(Txt.join "" l).cps.toList=l.flatMap (·.cps.toList):=by rw[Jn,Dm]
theorem DW:∀{rows:List Str},(∀r∈rows,MK r)→∃bs:List (List Nat),rows=bs.map (fun b=>(⟨(b++[10]).toArray⟩:Str))∧∀b∈bs,∀c∈b,okc c
 | [],_=>⟨[],rfl,fun b hb=>by cases hb⟩
 | r::rows,h=>by
  obtain⟨bs,e,hok⟩:=DW (rows:=rows) fun x hx=>h x (.tail _ hx);obtain⟨b,hb,hc⟩:=h r (.head _);refine⟨b::bs,?_,fun x hx=>?_⟩
  ·rw[List.map_cons,←e]
   congr 1
   exact Dk hb
  ·rcases List.mem_cons.mp hx with rfl| hx
   ·exact hc
   ·exact hok x hx
theorem FI{rows:List Str}(h:∀r∈rows,MK r){s:Str}(hs:s.cps.toList=rows.flatMap (·.cps.toList)):Am s=rows:=by
 obtain⟨bs,e,hok⟩:=DW h
 have h1:s.cps.toList=bs.flatMap (· ++[10]):=by
  rw[hs,e,List.flatMap_map]
 rw[Mb s bs h1 hok,←e]
theorem I4(n:Int)(hn:0≤n):(Txt.mul "> " n).cps.toList=(List.replicate n.toNat [62,32]).flatten:=by
 have two:(Str.ofString "> ").cps.toList=[62,32]:=by decide+kernel
 unfold Txt.mul;by_cases h1:n<1
 ·rw[if_pos h1,show n.toNat=0 by exact ZQ h1];rfl
 ·rw[if_neg h1]
  by_cases h2:n=1
  ·subst h2
   rw[if_pos (show((1:Int)==1||(Str.ofString "> ").length==0)=true from by decide+kernel),two];rfl
  ·rw[if_neg (by rw[Bool.or_eq_true,beq_iff_eq,beq_iff_eq];intro h;rcases h with h| h;exact h2 h;exact absurd h (by decide+kernel))]
   generalize n.toNat=k
   show(List.foldl (· ++ ·) #[] (List.replicate k (Str.ofString "> ").cps)).toList=_
   have gen:∀(k:Nat) (acc:Array Nat),(List.foldl (· ++ ·) acc (List.replicate k (Str.ofString "> ").cps)).toList=acc.toList++(List.replicate k [62,32]).flatten:=by
    intro k
    induction k with
    | zero=>intro acc;simp
    | succ k ih=>
     intro acc;rw[List.replicate_succ,List.foldl_cons,ih,List.replicate_succ,List.flatten_cons,Array.toList_append,two,List.append_assoc]
   rw[gen];rfl
theorem Kf:(Str.ofString "\n").cps.toList=[10]:=by decide+kernel
theorem Bz{p:Pr}(h:0≤p.1):(ln p).cps.toList=(List.replicate p.1.toNat [62,32]).flatten++p.2.cps.toList++[10]:=by
 unfold ln;rw[AY,AY,I4 _ h];rw[show("\n":Str).cps.toList=[10]from Kf]
theorem MO{w:Str}(h:w∈BP):∀c∈w.cps.toList,okc c:=by
 unfold BP at h;simp only[List.mem_cons,List.not_mem_nil,or_false]at h
 rcases h with rfl| rfl| rfl| rfl
 ·rw[show("a":Str).cps.toList=[97]by decide+kernel];intro c hc;rw[List.mem_singleton.mp hc];exact .inr (.inr (.inl rfl))
 ·rw[show("b":Str).cps.toList=[98]by decide+kernel];intro c hc;rw[List.mem_singleton.mp hc];exact .inr (.inr (.inr rfl))
 ·rw[show("":Str).cps.toList=[]by decide+kernel];intro c hc;cases hc
 ·rw[show(" ":Str).cps.toList=[32]by decide+kernel];intro c hc;rw[List.mem_singleton.mp hc];exact .inr (.inl rfl)
theorem LU(k:Nat):∀c∈(List.replicate k [62,32]).flatten,okc c:=by
 intro c hc;obtain⟨l,hl,hc⟩:=List.mem_flatten.mp hc;rw[List.eq_of_mem_replicate hl]at hc
 rcases List.mem_cons.mp hc with rfl| hc
 ·exact .inl rfl
 ·rw[List.mem_singleton.mp hc];exact .inr (.inl rfl)
theorem O4{k:Nat}{p:Pr}(h:OkP k p):MK (ln p):=by
 refine⟨(List.replicate p.1.toNat [62,32]).flatten++p.2.cps.toList,Bz h.1,fun c hc=>?_⟩
 rcases List.mem_append.mp hc with hc| hc
 ·exact LU _ c hc
 ·exact MO h.2.2 c hc
theorem It(ps:List Pr)(h:∀p∈ps,OkP 10 p):Am (Txt.join "" (ps.map ln))=ps.map ln:=
 FI (fun r hr=>by obtain⟨p,hp,rfl⟩:=List.mem_map.mp hr;exact O4 (h p hp)) (Ea _)
theorem Kl{m:Int}{w:Str}(h:0≤m):ln (m+1,w)=("> ":Str)++ln (m,w):=by
 refine Dk ?_;rw[AY,Bz (p:=(m+1,w)) (by show 0≤m+1;exact Up h),Bz (p:=(m,w)) h,show("> ":Str).cps.toList=[62,32]by decide+kernel];simp only;rw[show(m+1).toNat=m.toNat+1 by exact ZP h,List.replicate_succ,List.flatten_cons];simp only[List.append_assoc]
theorem EQ{p:Pr}(h:1≤p.1):∃t,(ln p).cps.toList=62::t:=by
 rw[Bz (by exact ZO h)]
 obtain⟨k,hk⟩:∃k,p.1.toNat=k+1:=⟨p.1.toNat-1,by exact ZN h⟩
 rw[hk,List.replicate_succ,List.flatten_cons];exact⟨_,rfl⟩
theorem Io{p:Pr}(h:1≤p.1):Txt.isspace (ln p)=false:=by
 obtain⟨t,ht⟩:=EQ h;unfold Txt.isspace;rw[←Array.all_toList,ht,List.all_cons,show Unicode.isSpace 62=false by decide+kernel];simp
theorem He{p:Pr}(h:1≤p.1):Txt.startswith (ln p) ">"=true:=by
 obtain⟨t,ht⟩:=EQ h
 have hl:(ln p).length=(62::t).length:=by rw[←ht];simp[Str.length]
 have one:(Str.ofString ">").length=1:=by decide+kernel
 unfold Txt.startswith;rw[Bool.and_eq_true,decide_eq_true_eq];refine⟨by rw[hl];show 0+(Str.ofString ">").length≤_;rw[one];simp,?_⟩;unfold Builtin.Str.subAt;rw[beq_iff_eq];refine Array.ext' ?_;rw[Array.toList_extract,List.extract_eq_take_drop,ht];show((62::t).drop 0).take (0+(Str.ofString ">").length-0)=_;rw[one];show[62]=_
 decide+kernel
theorem JZ{mode:Nat}(hm:mode<3){k:Nat}{p:Pr}(h:OkP k p):Dp mode (ln p)=more mode p:=by
 obtain⟨m,w⟩:=p;obtain⟨h0,h1,hw⟩:=h;simp only at h0 h1 hw;by_cases hm0:m=0
 ·subst hm0
  unfold BP at hw;simp only[List.mem_cons,List.not_mem_nil,or_false]at hw
  match mode,hm with
  | 0,_=>rcases hw with rfl| rfl| rfl| rfl<;>decide+kernel
  | 1,_=>rfl
  | 2,_=>rcases hw with rfl| rfl| rfl| rfl<;>decide+kernel
 ·have hb:(m==0)=false:=beq_eq_false_iff_ne.mpr hm0
  match mode,hm with
  | 0,_=>
   show(!Txt.isspace (ln (m,w)))= !white (m,w);rw[Io (by show 1≤m;exact Uf h0 hm0)];unfold white;simp only[hb,Bool.false_and]
  | 1,_=>rfl
  | 2,_=>
   show(!Txt.startswith (ln (m,w)) ">")=(m==0)
   rw[He (by show 1≤m;exact Uf h0 hm0),hb];rfl
theorem Hr(mode:Nat)(ps:List Pr)(hm:mode<3)(h:∀p∈ps,OkP 10 p):Am (Txt.join "" ((ps.map ln).flatMap (A7 (Dp mode))))=(ps.map (quo mode)).map ln:=by
 refine FI (fun r hr=>?_) ?_
 ·obtain⟨q,hq,rfl⟩:=List.mem_map.mp hr
  obtain⟨p,hp,rfl⟩:=List.mem_map.mp hq;exact O4 (h p hp).quo
 ·rw[Ea]
  induction ps with
  | nil=>rfl
  | cons p ps ih=>
   rw[List.map_cons,List.flatMap_cons,List.flatMap_append,ih fun q hq=>h q (.tail _ hq),List.map_cons,List.map_cons,List.flatMap_cons]
   congr 1
   have hp:=h p (.head _);unfold A7;rw[JZ hm hp];unfold quo;by_cases hmo:more mode p=true
   ·rw[if_pos hmo,if_pos hmo,Kl hp.1,AY]
    simp
   ·rw[if_neg hmo,if_neg hmo]
    simp
end
section
section
variable {α β:Type}[DecidableEq α][DecidableEq β]
theorem Jl(f:α→β):∀(xs ys:List α),(∀x∈xs,∀y∈ys,f x=f y→x=y)→lcp (xs.map f) (ys.map f)=lcp xs ys
 | [],ys,_=>by cases ys<;>rfl
 | x::xs,[],_=>rfl
 | x::xs,y::ys,h=>by
  have ih:=Jl f xs ys fun a ha b hb=>h a (.tail _ ha) b (.tail _ hb)
  show(if f x=f y then lcp (xs.map f) (ys.map f)+1 else 0)=(if x=y then lcp xs ys+1 else 0)
  by_cases e:x=y
  ·subst e;rw[if_pos rfl,if_pos rfl,ih]
  ·rw[if_neg e,if_neg fun e'=>e (h x (.head _) y (.head _) e')]
theorem LN(f:α→β){A B:List α}(h:∀x∈A,∀y∈B,f x=f y→x=y)(ahi bhi i j:Nat):CP (A.map f) (B.map f) ahi bhi i j=CP A B ahi bhi i j:=by
 unfold CP;rw[←List.map_take,←List.map_drop,←List.map_take,←List.map_drop];exact Jl f _ _ fun x hx y hy=>h x (List.mem_of_mem_take (List.mem_of_mem_drop hx)) y (List.mem_of_mem_take (List.mem_of_mem_drop hy))
theorem M8(f:α→β){A B:List α}(h:∀x∈A,∀y∈B,f x=f y→x=y)(alo ahi blo bhi:Nat):Bc (A.map f) (B.map f) alo ahi blo bhi=Bc A B alo ahi blo bhi:=by
 unfold Bc
 have e:CB (A.map f) (B.map f) ahi blo bhi=CB A B ahi blo bhi:=by
  funext b i
  unfold CB
  have e2:HS (A.map f) (B.map f) ahi bhi i=HS A B ahi bhi i:=by
   funext b j
   unfold HS;rw[LN f h]
  rw[e2]
 rw[e]
theorem Ho(f:α→β){A B:List α}(h:∀x∈A,∀y∈B,f x=f y→x=y):∀(n alo ahi blo bhi:Nat),Fl (A.map f) (B.map f) n alo ahi blo bhi=Fl A B n alo ahi blo bhi
 | 0,_,_,_,_=>rfl
 | n+1,alo,ahi,blo,bhi=>by
  unfold Fl;rw[M8 f h];simp only[Ho f h n]
theorem IM(f:α→β){A B:List α}(h:∀x∈A,∀y∈B,f x=f y→x=y):Ar (A.map f) (B.map f)=Ar A B:=by
 unfold Ar Ck;rw[List.length_map,List.length_map,Ho f h]
end
noncomputable def Ai:Cd→List (Nat×Nat)
 | (t,i1,i2,j1,j2)=>if t=0 then(List.range' i1 (i2-i1)).map (fun x=>(0,x))else(List.range' i1 (i2-i1)).map (fun x=>(1,x))++(List.range' j1 (j2-j1)).map (fun x=>(2,x))
noncomputable def Fb(t i i2 j j2:Nat):Prop:=(t=1∧i<i2∧j<j2)∨(t=2∧i<i2∧j=j2)∨(t=3∧i=i2∧j<j2)
noncomputable def Alt:Nat→Nat→Nat→List Cd→Prop
 | _,_,_,[]=>True
 | f,i,j,(t,i1,i2,j1,j2)::r=>i1=i∧j1=j∧((t=0∧f≠1∧i<i2∧j2=j+(i2-i)∧Alt 1 i2 j2 r)∨(t≠0∧f≠2∧Fb t i i2 j j2∧Alt 2 i2 j2 r))
noncomputable def u3(x:Nat×Nat):Tri:=(x.1,x.2,1)
noncomputable def AB(i p j q:Nat):List (Nat×Nat):=(List.range' i (p-i)).map (fun x=>(1,x))++(List.range' j (q-j)).map (fun x=>(2,x))
noncomputable def AS(la lb:Nat):List (Nat×Nat)→Nat→Nat→List (Nat×Nat)
 | [],a,b=>AB a la b lb
 | (x,y)::r,a,b=>AB a x b y++(0,x)::AS la lb r (x+1) (y+1)
noncomputable def CS(i ai j bj:Nat):List Cd:=if i<ai∧j<bj then[(1,i,ai,j,bj)]else if i<ai then[(2,i,ai,j,bj)]else if j<bj then[(3,i,ai,j,bj)]else[]
theorem CZ(t:Tri)(T:List Tri)(i j:Nat):AO (t::T) i j=CS i t.1 j t.2.1++(if t.2.2=0 then[]else[(0,t.1,t.1+t.2.2,t.2.1,t.2.1+t.2.2)])++AO T (t.1+t.2.2) (t.2.1+t.2.2):=rfl
theorem CL{i p j q:Nat}(hi:i≤p)(hj:j≤q):(CS i p j q).flatMap Ai=AB i p j q:=by
 unfold CS AB;by_cases h1:i<p
 ·by_cases h2:j<q
  ·rw[if_pos ⟨h1,h2⟩,List.flatMap_singleton];rfl
  ·rw[if_neg fun h=>h2 h.2,if_pos h1,List.flatMap_singleton];rfl
 ·by_cases h2:j<q
  ·rw[if_neg fun h=>h1 h.1,if_neg h1,if_pos h2,List.flatMap_singleton];rfl
  ·rw[if_neg fun h=>h1 h.1,if_neg h1,if_neg h2,show p-i=0 by exact TW h1,show q-j=0 by exact TW h2];rfl
theorem El{f i p j q:Nat}{Y:List Cd}(hf:f≠2)(hi:i≤p)(hj:j≤q)(h0:i=p→j=q→Alt f p q Y)(h2:(i<p∨j<q)→Alt 2 p q Y):Alt f i j (CS i p j q++Y):=by
 unfold CS;by_cases h1:i<p
 ·by_cases h3:j<q
  ·rw[if_pos ⟨h1,h3⟩];exact⟨rfl,rfl,.inr ⟨by decide,hf,.inl ⟨rfl,h1,h3⟩,h2 (.inl h1)⟩⟩
  ·rw[if_neg fun h=>h3 h.2,if_pos h1];exact⟨rfl,rfl,.inr ⟨by decide,hf,.inr (.inl ⟨rfl,h1,by exact a56 hj h3⟩),h2 (.inl h1)⟩⟩
 ·by_cases h3:j<q
  ·rw[if_neg fun h=>h1 h.1,if_neg h1,if_pos h3];exact⟨rfl,rfl,.inr ⟨by decide,hf,.inr (.inr ⟨rfl,by exact a56 hi h1,h3⟩),h2 (.inr h3)⟩⟩
  ·rw[if_neg fun h=>h1 h.1,if_neg h1,if_neg h3]
   obtain rfl:i=p:=by exact a56 hi h1
   obtain rfl:j=q:=by exact a56 hj h3
   exact h0 rfl rfl
theorem Je(t:Tri)(T:List Tri)(i j:Nat)(h:t.2.2≠0):AO (t::T) i j=CS i t.1 j t.2.1++((0,t.1,t.1+t.2.2,t.2.1,t.2.1+t.2.2)::AO T (t.1+t.2.2) (t.2.1+t.2.2)):=by
 rw[CZ,if_neg h,List.append_assoc];rfl
theorem KX(la lb i j:Nat):AO [(la,lb,0)] i j=CS i la j lb:=by
 rw[CZ,if_pos rfl,List.append_nil];show CS i la j lb++[]=_;rw[List.append_nil]
theorem HG(p k q:Nat):Ai (0,p,p+k,q,q+k)=(List.range' p k).map (fun x=>(0,x)):=by
 unfold Ai;simp only[if_true,Nat.add_sub_cancel_left]
theorem BH(la lb:Nat):∀(L:List (Nat×Nat)) (p q k i j f:Nat),f≠2→i≤p→j≤q→p+k≤la→q+k≤lb→(k=0→i=p∧j=q)→(f=1→0<k→i<p∨j<q)→(k=0→f=0)→L.Pairwise ch→(∀x∈L,p+k≤x.1∧q+k≤x.2∧x.1<la∧x.2<lb)→(AO (Af (L.map u3) (p,q,k)++[(la,lb,0)]) i j).flatMap Ai=AB i p j q++(List.range' p k).map (fun x=>(0,x))++AS la lb L (p+k) (q+k)∧Alt f i j (AO (Af (L.map u3) (p,q,k)++[(la,lb,0)]) i j)
 | [],p,q,k,i,j,f,hf,hi,hj,hp,hq,hk,hg,hk0,_,_=>by
  show(AO ((if k=0 then[]else[(p,q,k)])++[(la,lb,0)]) i j).flatMap Ai=_∧Alt f i j (AO ((if k=0 then[]else[(p,q,k)])++[(la,lb,0)]) i j);by_cases h:k=0
  ·subst h
   obtain⟨rfl,rfl⟩:=hk rfl;rw[if_pos rfl,List.nil_append,KX];refine⟨?_,?_⟩
   ·rw[CL (by exact a28 hp) (by exact a28 hq)]
    show _=AB i i j j++[]++AB (i+0) la (j+0) lb;unfold AB;simp
   ·have:=El (Y:=[]) hf (show i≤la by exact a28 hp) (show j≤lb by exact a28 hq) (fun O O=>trivial) (fun O=>trivial)
    rwa [List.append_nil]at this
  ·rw[if_neg h]
   show(AO ((p,q,k)::[(la,lb,0)]) i j).flatMap Ai=_∧Alt f i j (AO ((p,q,k)::[(la,lb,0)]) i j);rw[Je _ _ _ _ h,KX];refine⟨?_,?_⟩
   ·rw[List.flatMap_append,List.flatMap_cons,CL hi hj,CL (by simp only;exact a7 hp) (by simp only;exact a7 hq),HG,List.append_assoc]
    rfl
   ·have hin:∀f',f'≠1→Alt f' p q ((0,p,p+k,q,q+k)::CS (p+k) la (q+k) lb):=fun f' hf'=>
     ⟨rfl,rfl,.inl ⟨rfl,hf',by exact TV h,by exact TU,by
      have:=El (f:=1) (Y:=[]) (by decide) (show p+k≤la by exact a7 hp) (show q+k≤lb by exact a7 hq) (fun O O=>trivial) (fun O=>trivial)
      rwa [List.append_nil]at this⟩⟩
    refine El hf hi hj (fun e1 e2=>hin f fun e=>?_) (fun O=>hin 2 (by decide));simp only at e1 e2;have:=hg e (by exact a16 h);exact TS e1 e2 this
 | (x,y)::r,p,q,k,i,j,f,hf,hi,hj,hp,hq,hk,hg,hk0,hpw,hb=>by
  obtain⟨b1,b2,b3,b4⟩:=hb (x,y) (.head _);simp only at b1 b2 b3 b4;rw[List.pairwise_cons]at hpw
  have hr:∀z∈r,x+1≤z.1∧y+1≤z.2∧z.1<la∧z.2<lb:=fun z hz=>by
   have h1:=hpw.1 z hz;have h2:=hb z (.tail _ hz);obtain⟨c1,c2⟩:=h1;simp only at c1 c2;exact⟨by exact a4 c1,by exact a4 c2,h2.2.2.1,h2.2.2.2⟩
  rw[List.map_cons,show u3 (x,y)=(x,y,1)from rfl];by_cases hadj:p+k=x∧q+k=y
  ·obtain⟨rfl,rfl⟩:=hadj
   rw[AT (t:=(p+k,q+k,1)) ⟨rfl,rfl⟩]
   have f1:f=1→i<p∨j<q:=fun e=>by
    by_cases h:k=0
    ·have:=hk0 h;exact TR e this
    ·exact hg e (by exact a16 h)
   obtain⟨h1,h2⟩:=BH la lb r p q (k+1) i j f hf hi hj (by exact a13 b3) (by exact a13 b4) (by exact Zi) (fun e O=>f1 e) (by exact Zh) hpw.2 (fun z hz=>by have:=hr z hz;exact Zg this);refine⟨?_,h2⟩;rw[h1]
   show _=AB i p j q++(List.range' p k).map (fun x=>(0,x))++(AB (p+k) (p+k) (q+k) (q+k)++(0,p+k)::AS la lb r (p+k+1) (q+k+1))
   have hz:AB (p+k) (p+k) (q+k) (q+k)=[]:=by unfold AB;simp
   rw[hz,List.range'_concat,List.map_append];simp[Nat.add_assoc]
  ·rw[Bj (t:=(x,y,1)) hadj]
   by_cases h:k=0
   ·subst h
    obtain⟨rfl,rfl⟩:=hk rfl;rw[if_pos rfl,List.nil_append];obtain⟨h1,h2⟩:=BH la lb r x y 1 i j f hf (by exact a28 b1) (by exact a28 b2) (by exact a4 b3) (by exact a4 b4) (by exact Tm) (fun e O=>by have:=hk0 rfl;exact TR e this) (by exact Zf) hpw.2 (fun z hz=>by have:=hr z hz;exact TQ this);refine⟨?_,h2⟩;rw[h1]
    show AB i x j y++[(0,x)]++AS la lb r (x+1) (y+1)=AB i i j j++[]++(AB (i+0) x (j+0) y++(0,x)::AS la lb r (x+1) (y+1))
    have hz:AB i i j j=[]:=by unfold AB;simp
    rw[hz];simp
   ·rw[if_neg h]
    show(AO ((p,q,k)::(Af (r.map u3) (x,y,1)++[(la,lb,0)])) i j).flatMap Ai=_∧Alt f i j (AO ((p,q,k)::(Af (r.map u3) (x,y,1)++[(la,lb,0)])) i j);rw[Je _ _ _ _ h];obtain⟨h1,h2⟩:=BH la lb r x y 1 (p+k) (q+k) 1 (by decide) (by exact a7 b1) (by exact a7 b2) (by exact a4 b3) (by exact a4 b4) (by exact Tm) (fun O O=>by exact Ze b1 b2 hadj) (by exact Zd) hpw.2 (fun z hz=>by have:=hr z hz;exact TQ this);refine⟨?_,?_⟩
    ·rw[List.flatMap_append,List.flatMap_cons,CL hi hj,HG,h1]
     show _=AB i p j q++(List.range' p k).map (fun x=>(0,x))++(AB (p+k) x (q+k) y++(0,x)::AS la lb r (x+1) (y+1))
     simp
    ·have hin:∀f',f'≠1→Alt f' p q ((0,p,p+k,q,q+k)::AO (Af (r.map u3) (x,y,1)++[(la,lb,0)]) (p+k) (q+k)):=fun f' hf'=>
      ⟨rfl,rfl,.inl ⟨rfl,hf',by exact TV h,by exact TU,h2⟩⟩
     refine El hf hi hj (fun e1 e2=>hin f fun e=>?_) (fun O=>hin 2 (by decide));simp only at e1 e2;have:=hg e (by exact a16 h);exact TS e1 e2 this
section
variable {α:Type}
theorem A8(l:List α)(d:α){i p:Nat}(hp:p≤l.length):(l.take p).drop i=(List.range' i (p-i)).map fun x=>l.getD x d:=by
 apply List.ext_getElem
 ·simp;exact ai2 hp
 ·intro k h1 h2
  simp only[List.length_drop,List.length_take]at h1;rw[List.getElem_drop,List.getElem_take,List.getElem_map,List.getElem_range',List.getD_eq_getElem?_getD,List.getElem?_eq_getElem (by exact ai1 h1)];simp
noncomputable def val(ps qs:List α)(d:α)(x:Nat×Nat):Nat×α:=(x.1,if x.1=2 then qs.getD x.2 d else ps.getD x.2 d)
theorem J8(ps qs:List α)(d:α){i p j q:Nat}(hp:p≤ps.length)(hq:q≤qs.length):((ps.take p).drop i).map (fun x=>(1,x))++((qs.take q).drop j).map (fun x=>(2,x))=(AB i p j q).map (val ps qs d):=by
 rw[A8 ps d hp,A8 qs d hq];unfold AB;rw[List.map_append,List.map_map,List.map_map,List.map_map,List.map_map]
 rfl
theorem F2(ps qs:List α)(d:α):∀(K:List (Nat×Nat)) (a b:Nat),(∀x∈K,x.1<ps.length∧x.2<qs.length)→BC 1 2 0 ps qs (K++[(ps.length,qs.length)]) a b=(AS ps.length qs.length K a b).map (val ps qs d)
 | [],a,b,_=>by
  show((ps.take ps.length).drop a).map (fun x=>(1,x))++((qs.take qs.length).drop b).map (fun x=>(2,x))++((ps.take (ps.length+1)).drop ps.length).map (fun x=>(0,x))++[]=_;rw[J8 ps qs d (Nat.le_refl _) (Nat.le_refl _),List.drop_of_length_le (by rw[List.length_take];exact ai3)];simp[AS]
 | (x,y)::r,a,b,h=>by
  obtain⟨h1,h2⟩:=h (x,y) (.head _);simp only at h1 h2;show((ps.take x).drop a).map (fun x=>(1,x))++((qs.take y).drop b).map (fun x=>(2,x))++((ps.take (x+1)).drop x).map (fun x=>(0,x))++BC 1 2 0 ps qs (r++[(ps.length,qs.length)]) (x+1) (y+1)=_;rw[J8 ps qs d (by exact a6 h1) (by exact a6 h2),A8 ps d (by exact a4 h1:x+1≤ps.length),F2 ps qs d r _ _ fun z hz=>h z (.tail _ hz)];show _=(AB a x b y++(0,x)::AS ps.length qs.length r (x+1) (y+1)).map (val ps qs d);rw[List.map_append,List.map_cons,show x+1-x=1 by exact ai0];simp[val]
end
noncomputable def BF(ivs:List (Nat×Nat)):List Nat:=ivs.flatMap fun x=>List.range' x.1 (x.2-x.1)
structure Sep (ivs:List (Nat×Nat)):Prop where
 ne:∀x∈ivs,x.1<x.2
 pw:ivs.Pairwise fun x y=>x.2<y.1
theorem By{ivs:List (Nat×Nat)}{z:Nat}:z∈BF ivs↔∃x∈ivs,x.1≤z∧z<x.2:=by
 unfold BF;rw[List.mem_flatMap];constructor
 ·rintro⟨x,hx,hz⟩
  rw[List.mem_range'_1]at hz;exact⟨x,hx,by exact ah9 hz,by exact ah8 hz⟩
 ·rintro⟨x,hx,h1,h2⟩
  exact⟨x,hx,by rw[List.mem_range'_1];exact ah7 h1 h2⟩
theorem KG{α:Type}{R:α→α→Prop}:∀{l:List α},l.Pairwise R→∀x∈l,∀y∈l,x=y∨R x y∨R y x
 | [],_,x,hx,_,_=>by cases hx
 | a::l,h,x,hx,y,hy=>by
  rw[List.pairwise_cons]at h
  rcases List.mem_cons.mp hx with e| hx'
  ·rcases List.mem_cons.mp hy with e'| hy'
   ·exact .inl (e.trans e'.symm)
   ·exact .inr (.inl (e▸h.1 y hy'))
  ·rcases List.mem_cons.mp hy with e'| hy'
   ·exact .inr (.inr (e'▸h.1 x hx'))
   ·exact KG h.2 x hx' y hy'
theorem Bl{α β:Type}{f g:α→List β}:∀{l:List α},(∀x∈l,f x=g x)→l.flatMap f=l.flatMap g
 | [],_=>rfl
 | x::l,h=>by rw[List.flatMap_cons,List.flatMap_cons,h x (.head _),Bl fun y hy=>h y (.tail _ hy)]
theorem Sep.end_out{ivs:List (Nat×Nat)}(h:Sep ivs){x:Nat×Nat}(hx:x∈ivs):x.2∉BF ivs:=fun hm=>by
 obtain⟨y,hy,h1,h2⟩:=By.mp hm;have a:=h.ne x hx;have b:=h.ne y hy
 rcases KG h.pw x hx y hy with rfl| r| r<;>(first| exact ah2 h2| exact ah1 h1 r| exact ah0 h2 a r)
theorem Sep.start_out{ivs:List (Nat×Nat)}(h:Sep ivs){x:Nat×Nat}(hx:x∈ivs)(h0:0<x.1):x.1-1∉BF ivs:=fun hm=>by
 obtain⟨y,hy,h1,h2⟩:=By.mp hm;have a:=h.ne x hx;have b:=h.ne y hy
 rcases KG h.pw x hx y hy with rfl| r| r<;>(first| exact ah5 h0 h1| exact ah4 h1 a r| exact ah3 h2 r)
theorem Dv{l:List Nat}{s:Nat}:Eg l s=true↔s∈l:=by
 unfold Eg;rw[List.any_eq_true];constructor
 ·rintro⟨x,hx,h⟩
  rw[Nat.eq_of_beq_eq_true h];exact hx
 ·intro h
  exact⟨s,h,Nat.beq_refl s⟩
theorem KU{l:List Nat}{b:Nat}(hb:b∉l):∀(f e:Nat),e≤b→b-e<f→(∀z,e≤z→z<b→z∈l)→Bi l f e=b
 | 0,e,_,h,_=>by exact ah6 h
 | f+1,e,h1,h2,h3=>by
  show(if Eg l e then Bi l f (e+1)else e)=b;by_cases h:e=b
  ·subst h
   rw[if_neg fun hh=>hb (Dv.mp hh)]
  ·rw[if_pos (Dv.mpr (h3 e (Nat.le_refl _) (by exact ag9 h1 h)))]
   exact KU hb f (e+1) (by exact ag7 h1 h) (by exact ag4 h1 h2 h) fun z z1 z2=>h3 z (by exact ag3 z1) z2
theorem Ka{n:Nat}{st:List (Nat×Nat)}{ivs:List (Nat×Nat)}(hs:Sep ivs)(hsh:Av n (st.map (·.1))=BF ivs)(hb:∀x∈ivs,x.2≤st.length):B1 n st=ivs.flatMap fun x=>Bx (st.map (·.1)) x.1 x.2::(List.range' x.1 (x.2-x.1)).map fun s=>(1,(st.getD s (0,0)).1,(st.getD s (0,0)).2,0,0):=by
 unfold B1;rw[hsh];have h0:BF ivs=ivs.flatMap fun x=>List.range' x.1 (x.2-x.1):=rfl
 conv=>lhs;rw[h0]
 rw[List.flatMap_assoc];rw[←h0];refine Bl ?_;intro x hx;have hx1:=hs.ne x hx;have hx2:=hb x hx;have hin:∀z,x.1≤z→z<x.2→z∈BF ivs:=fun z h1 h2=>By.mpr ⟨x,hx,h1,h2⟩;rw[show x.2-x.1=(x.2-x.1-1)+1 by exact ag5 hx1,List.range'_succ,List.flatMap_cons,List.map_cons]
 have hf:AQ (BF ivs) x.1=true:=by
  unfold AQ;by_cases h:x.1=0
  ·rw[h];rfl
  ·rw[Bool.or_eq_true]
   right
   rw[Bool.not_eq_true',←Bool.not_eq_true];exact fun hh=>hs.start_out hx (by exact a16 h) (Dv.mp hh)
 rw[if_pos hf,KU (hs.end_out hx) _ _ (by exact a6 hx1) (by exact ag2 hx2) hin]
 have hrest:∀(k s:Nat),x.1<s→s+k≤x.2→(List.range' s k).flatMap (fun s=>(if AQ (BF ivs) s=true then[Bx (st.map (·.1)) s (Bi (BF ivs) (st.length+1) s)]else[])++[(1,(st.getD s (0,0)).1,(st.getD s (0,0)).2,0,0)])=
   (List.range' s k).map fun s=>(1,(st.getD s (0,0)).1,(st.getD s (0,0)).2,0,0):=by
  intro k
  induction k with
  | zero=>intro s _ _;rfl
  | succ k ih=>
   intro s h1 h2;rw[List.range'_succ,List.flatMap_cons,List.map_cons,ih (s+1) (by exact a66 h1) (by exact a43 h2)]
   have hff:AQ (BF ivs) s=false:=by
    unfold AQ;rw[Bool.or_eq_false_iff];refine⟨?_,?_⟩
    ·rw[←Bool.not_eq_true]
     intro h;have:=Nat.eq_of_beq_eq_true h;exact ag1 h1 this
    ·rw[Dv.mpr (hin (s-1) (by exact a68 h1) (by exact ag0 h2))];rfl
   rw[if_neg (by rw[hff];exact Bool.false_ne_true)]
   rfl
 rw[hrest _ _ (by exact a20) (by exact af9 hx1)]
 rfl
theorem F3:∀{l l':List Nat},l.Pairwise (· < ·)→l'.Pairwise (· < ·)→(∀z,z∈l↔z∈l')→l=l'
 | [],[],_,_,_=>rfl
 | [],b::l',_,_,h=>by have:=(h b).mpr (.head _);cases this
 | a::l,[],_,_,h=>by have:=(h a).mp (.head _);cases this
 | a::l,b::l',p,p',h=>by
  rw[List.pairwise_cons]at p p'
  have hab:a=b:=by
   rcases List.mem_cons.mp ((h a).mp (.head _))with e| e
   ·exact e
   ·rcases List.mem_cons.mp ((h b).mpr (.head _))with e'| e'
    ·exact e'.symm
    ·have h1:=p.1 b e'
     have h2:=p'.1 a e;exact ag6 h1 h2
  subst hab
  congr 1
  refine F3 p.2 p'.2 fun z=>⟨fun hz=>?_,fun hz=>?_⟩
  ·rcases List.mem_cons.mp ((h z).mp (.tail _ hz))with e| e
   ·subst e;exact absurd (p.1 z hz) (Nat.lt_irrefl _)
   ·exact e
  ·rcases List.mem_cons.mp ((h z).mpr (.tail _ hz))with e| e
   ·subst e;exact absurd (p'.1 z hz) (Nat.lt_irrefl _)
   ·exact e
theorem Dx:∀{ivs:List (Nat×Nat)},Sep ivs→(BF ivs).Pairwise (· < ·)
 | [],_=>.nil
 | x::r,h=>by
  have hp:=List.pairwise_cons.mp h.pw
  have hr:Sep r:=⟨fun y hy=>h.ne y (.tail _ hy),hp.2⟩
  unfold BF;rw[List.flatMap_cons];refine List.pairwise_append.mpr ⟨List.pairwise_lt_range',Dx hr,fun a ha b hb=>?_⟩;rw[List.mem_range'_1]at ha;obtain⟨y,hy,h1,h2⟩:=By.mp hb;have:=hp.1 y hy;exact ag8 ha h1 this
noncomputable def Sh(n:Nat)(tags:List Nat)(z:Nat):Prop:=∃c,c<tags.length∧tags.getD c 0≠0∧z≤c+n∧c≤z+n
theorem FF{n:Nat}{tags:List Nat}{z:Nat}:z∈Av n tags↔z<tags.length∧Sh n tags z:=by
 unfold Av;rw[List.mem_filter,List.mem_range,List.any_eq_true];unfold Sh Cz AL;constructor
 ·rintro⟨h1,c,hc,h2⟩
  rw[List.mem_filter,List.mem_range]at hc;rw[Bool.and_eq_true,Nat.ble_eq,Nat.ble_eq]at h2;refine⟨h1,c,hc.1,fun e=>?_,h2.1,h2.2⟩;have:=hc.2;rw[e]at this
  cases this
 ·rintro⟨h1,c,hc,hne,h2,h3⟩
  refine⟨h1,c,?_,by rw[Bool.and_eq_true,Nat.ble_eq,Nat.ble_eq];exact⟨h2,h3⟩⟩;rw[List.mem_filter,List.mem_range];refine⟨hc,?_⟩;rw[Bool.not_eq_true',←Bool.not_eq_true];exact fun e=>hne (Nat.eq_of_beq_eq_true e)
theorem JS{n:Nat}{tags:List Nat}{ivs:List (Nat×Nat)}(hs:Sep ivs)(hb:∀x∈ivs,x.2≤tags.length)(h:∀z,z<tags.length→(Sh n tags z↔∃x∈ivs,x.1≤z∧z<x.2)):Av n tags=BF ivs:=by
 refine F3 (List.Pairwise.filter _ List.pairwise_lt_range) (Dx hs) fun z=>?_;rw[FF,By];constructor
 ·rintro⟨h1,h2⟩;exact(h z h1).mp h2
 ·rintro⟨x,hx,h1,h2⟩
  have hl:z<tags.length:=Nat.lt_of_lt_of_le h2 (hb x hx);exact⟨hl,(h z hl).mpr ⟨x,hx,h1,h2⟩⟩
noncomputable def tg(st:List (Nat×Nat)):List Nat:=st.map (·.1)
noncomputable def C2(st:List (Nat×Nat))(s:Nat):Nat:=Ae 2 ((tg st).take s)
noncomputable def C1(st:List (Nat×Nat))(s:Nat):Nat:=Ae 1 ((tg st).take s)
theorem GH(o:Nat)(a b:List Nat):Ae o (a++b)=Ae o a+Ae o b:=by
 unfold Ae;rw[List.filter_append,List.length_append]
theorem DM(o t k:Nat):Ae o (List.replicate k t)=if t=o then 0 else k:=by
 unfold Ae;by_cases h:t=o
 ·subst h
  rw[if_pos rfl,List.filter_eq_nil_iff.mpr (by intro a ha;rw[List.eq_of_mem_replicate ha];simp),List.length_nil]
 ·have hb:Nat.beq t o=false:=by
   rw[←Bool.not_eq_true];exact fun e=>h (Nat.eq_of_beq_eq_true e)
  rw[if_neg h,List.filter_eq_self.mpr (by intro a ha;rw[List.eq_of_mem_replicate ha,hb];rfl),List.length_replicate]
theorem DB(t:Nat)(l:List Nat):tg (l.map fun x=>(t,x))=List.replicate l.length t:=by
 unfold tg;rw[List.map_map];exact List.map_const' ..
structure Ps (st:List (Nat×Nat))(p i j:Nat)(r:List Cd):Prop where
 le:p≤st.length
 dr:st.drop p=r.flatMap Ai
 i:C2 st p=i
 j:C1 st p=j
theorem Hy{α:Type}(l:List α)(p a b:Nat):(l.take (p+b)).drop (p+a)=((l.drop p).take b).drop a:=by
 rw[←List.drop_drop,List.drop_take,Nat.add_sub_cancel_left]
theorem NU{st:List (Nat×Nat)}{p b:Nat}(o:Nat):Ae o ((tg st).take (p+b))=Ae o ((tg st).take p)+Ae o (tg ((st.drop p).take b)):=by
 rw[List.take_add,GH]
 congr 1
 unfold tg;rw[List.map_take,List.map_drop]
noncomputable def len(c:Cd):Nat:=(Ai c).length
theorem Ps.seg{st:List (Nat×Nat)}{p i j:Nat}{c:Cd}{r:List Cd}(h:Ps st p i j (c::r)):(st.take (p+len c)).drop p=Ai c∧p+len c≤st.length∧st.drop (p+len c)=r.flatMap Ai∧(st.drop p).take (len c)=Ai c:=by
 have hd:=h.dr;rw[List.flatMap_cons]at hd
 have h4:(st.drop p).take (len c)=Ai c:=by rw[hd];exact List.take_left
 refine⟨?_,?_,?_,h4⟩
 ·have:=Hy st p 0 (len c)
  rw[Nat.add_zero,h4,List.drop_zero]at this;exact this
 ·have:=congrArg List.length hd
  rw[List.length_drop,List.length_append]at this;have:=h.le;unfold len;exact af2 (by assumption) this
 ·rw[←List.drop_drop,hd];exact List.drop_left
theorem IB{i i2 j j2:Nat}:len (0,i,i2,j,j2)=i2-i:=by
 unfold len Ai;simp only[if_true];rw[List.length_map,List.length_range']
theorem GI{t i i2 j j2:Nat}(ht:t≠0):Ai (t,i,i2,j,j2)=(List.range' i (i2-i)).map (fun x=>(1,x))++(List.range' j (j2-j)).map (fun x=>(2,x)):=if_neg ht
theorem QU{t i i2 j j2:Nat}(ht:t≠0):len (t,i,i2,j,j2)=(i2-i)+(j2-j):=by
 unfold len;rw[GI ht,List.length_append,List.length_map,List.length_map,List.length_range',List.length_range']
theorem Ps.part{st:List (Nat×Nat)}{p i i2 j j2:Nat}{r:List Cd}(h:Ps st p i j ((0,i,i2,j,j2)::r)){a b:Nat}(hab:a≤b)(hb:b≤i2-i):(st.take (p+b)).drop (p+a)=(List.range' (i+a) (b-a)).map (fun x=>(0,x))∧C2 st (p+b)=i+b∧C1 st (p+b)=j+b:=by
 obtain⟨_,_,_,h4⟩:=h.seg
 have hs:Ai (0,i,i2,j,j2)=(List.range' i (i2-i)).map (fun x=>(0,x)):=by unfold Ai;simp
 rw[IB,hs]at h4
 have hbt:(st.drop p).take b=(List.range' i b).map (fun x=>(0,x)):=by
  have:(st.drop p).take b=((st.drop p).take (i2-i)).take b:=by rw[List.take_take,Nat.min_eq_left hb]
  rw[this,h4,←List.map_take]
  congr 1
  apply List.ext_getElem
  ·simp;exact ae8 hb
  ·intro k h1 h2;simp
 refine⟨?_,?_,?_⟩
 ·rw[Hy,hbt,←List.map_drop]
  congr 1
  apply List.ext_getElem
  ·simp
  ·intro k h1 h2;simp;first| done| omega
 ·unfold C2
  rw[NU,hbt,DB,DM,if_neg (by decide),List.length_range'];have:=h.i;unfold C2 at this;exact Ux this
 ·unfold C1
  rw[NU,hbt,DB,DM,if_neg (by decide),List.length_range'];have:=h.j;unfold C1 at this;exact Ux this
theorem Ps.eqn{st:List (Nat×Nat)}{p i i2 j j2:Nat}{r:List Cd}(h:Ps st p i j ((0,i,i2,j,j2)::r))(hi:i≤i2)(hj:j2=j+(i2-i)):Ps st (p+(i2-i)) i2 j2 r:=by
 obtain⟨_,h2,h3,_⟩:=h.seg;rw[IB]at h2 h3;obtain⟨_,h5,h6⟩:=h.part (a:=0) (b:=i2-i) (by exact ay0) (by exact a72);exact⟨h2,h3,by exact af1 hi h5,by exact ae9 hj h6⟩
theorem Ps.chg{st:List (Nat×Nat)}{p t i i2 j j2:Nat}{r:List Cd}(h:Ps st p i j ((t,i,i2,j,j2)::r))(ht:t≠0)(hi:i≤i2)(hj:j≤j2):Ps st (p+len (t,i,i2,j,j2)) i2 j2 r:=by
 obtain⟨_,h2,h3,h4⟩:=h.seg;have hs:Ai (t,i,i2,j,j2)=(List.range' i (i2-i)).map (fun x=>(1,x))++(List.range' j (j2-j)).map (fun x=>(2,x)):=GI ht;have ht':∀a b:List (Nat×Nat),tg (a++b)=tg a++tg b:=fun a b=>List.map_append;refine⟨h2,h3,?_,?_⟩
 ·unfold C2
  rw[NU,h4,hs,ht',GH,DB,DB,DM,DM,if_neg (by decide),if_pos rfl,List.length_range'];have:=h.i;unfold C2 at this;exact ae7 hi this
 ·unfold C1
  rw[NU,h4,hs,ht',GH,DB,DB,DM,DM,if_pos rfl,if_neg (by decide),List.length_range'];have:=h.j;unfold C1 at this;exact ae5 hj this
theorem Ps.tag{st:List (Nat×Nat)}{p i j:Nat}{c:Cd}{r:List Cd}(h:Ps st p i j (c::r)){z:Nat}(h1:p≤z)(h2:z<p+len c):∃x∈Ai c,(tg st).getD z 0=x.1:=by
 obtain⟨_,_,_,h4⟩:=h.seg
 have hz:z-p<(Ai c).length:=by unfold len at h2;exact af0 h1 h2
 refine⟨(Ai c)[z-p],List.getElem_mem _,?_⟩
 have e:st[z]? =some (Ai c)[z-p]:=by
  have:((st.drop p).take (len c))[z-p]? =some (Ai c)[z-p]:=by rw[h4];exact List.getElem?_eq_getElem hz
  rw[List.getElem?_take,if_pos (by unfold len;exact Rv hz),List.getElem?_drop,show p+(z-p)=z by exact ae6 h1]at this;exact this
 unfold tg;rw[List.getD_eq_getElem?_getD,List.getElem?_map,e];rfl
theorem Ps.tag0{st:List (Nat×Nat)}{p i i2 j j2:Nat}{r:List Cd}(h:Ps st p i j ((0,i,i2,j,j2)::r)){z:Nat}(h1:p≤z)(h2:z<p+(i2-i)):(tg st).getD z 0=0:=by
 obtain⟨x,hx,e⟩:=h.tag h1 (by rw[IB];exact h2);rw[e];unfold Ai at hx;simp only[if_true]at hx;obtain⟨y,_,rfl⟩:=List.mem_map.mp hx
 rfl
theorem Ps.tagc{st:List (Nat×Nat)}{p t i i2 j j2:Nat}{r:List Cd}(h:Ps st p i j ((t,i,i2,j,j2)::r))(ht:t≠0){z:Nat}(h1:p≤z)(h2:z<p+len (t,i,i2,j,j2)):(tg st).getD z 0≠0:=by
 obtain⟨x,hx,e⟩:=h.tag h1 h2;rw[e];rw[GI ht]at hx
 rcases List.mem_append.mp hx with hx| hx
 ·obtain⟨y,_,rfl⟩:=List.mem_map.mp hx;show(1:Nat)≠0;decide
 ·obtain⟨y,_,rfl⟩:=List.mem_map.mp hx;show(2:Nat)≠0;decide
structure Cov (st:List (Nat×Nat))(s e:Nat)(g:List Cd):Prop where
 ne:g≠[]
 le:s≤e
 len:e≤st.length
 rows:g.flatMap Ai=(st.take e).drop s
 hi:(g.headD Ay).2.1=C2 st s
 hj:(g.headD Ay).2.2.2.1=C1 st s
 li:(g.getLastD Ay).2.2.1=C2 st e
 lj:(g.getLastD Ay).2.2.2.2=C1 st e
theorem Cov.one{st:List (Nat×Nat)}{s e:Nat}{c:Cd}(h1:s≤e)(h2:e≤st.length)(h3:Ai c=(st.take e).drop s)(h4:c.2.1=C2 st s)(h5:c.2.2.2.1=C1 st s)(h6:c.2.2.1=C2 st e)(h7:c.2.2.2.2=C1 st e):Cov st s e [c]:=
 ⟨by simp,h1,h2,by rw[List.flatMap_singleton];exact h3,h4,h5,h6,h7⟩
theorem Cov.snoc{st:List (Nat×Nat)}{s e e':Nat}{g:List Cd}{c:Cd}(h:Cov st s e g)(h1:e≤e')(h2:e'≤st.length)(h3:Ai c=(st.take e').drop e)(h6:c.2.2.1=C2 st e')(h7:c.2.2.2.2=C1 st e'):Cov st s e' (g++[c]):=by
 refine⟨by simp,Nat.le_trans h.le h1,h2,?_,?_,?_,?_,?_⟩
 ·rw[List.flatMap_append,List.flatMap_singleton,h.rows,h3]
  have e1:st.take e'=st.take e++(st.take e').drop e:=by
   have:=(List.take_append_drop e (st.take e')).symm
   rwa [List.take_take,Nat.min_eq_left h1]at this
  conv=>rhs;rw[e1]
  rw[List.drop_append_of_le_length];rw[List.length_take];have:=h.le;have:=h.len;exact ae4 (by assumption) this
 ·rw[←h.hi]
  cases g with
  | nil=>exact absurd rfl h.ne
  | cons a g=>rfl
 ·rw[←h.hj]
  cases g with
  | nil=>exact absurd rfl h.ne
  | cons a g=>rfl
 ·rw[←h6];simp[List.getLastD_eq_getLast?]
 ·rw[←h7];simp[List.getLastD_eq_getLast?]
noncomputable def On{α β:Type}(R:α→β→Prop):List α→List β→Prop
 | [],[]=>True
 | a::l,b::m=>R a b∧On R l m
 | _,_=>False
theorem OR{N:Nat}{T:List Nat}{p k z:Nat}(h0:0<p)(hp:T.getD (p-1) 0≠0)(hz:∀x,p≤x→x<p+k→T.getD x 0=0)(hn:T.getD (p+k) 0≠0)(hl:p+k<T.length)(z1:p≤z)(z2:z<p+k):Sh N T z↔z<p+N∨p+k≤z+N:=by
 constructor
 ·rintro⟨c,hc,hne,h1,h2⟩
  by_cases a:c<p
  ·left;exact Uw h1 a
  ·by_cases b:c<p+k
   ·exact absurd (hz c (by exact a12 a) b) hne
   ·right;exact To h2 b
 ·rintro(h| h)
  ·exact⟨p-1,by exact ae2 hl,hp,by exact Uv h,by exact Uu z1⟩
  ·exact⟨p+k,hl,hn,by exact Ru z2,h⟩
theorem OS{N:Nat}{T:List Nat}{p k z:Nat}(h0:0<p)(hp:T.getD (p-1) 0≠0)(hz:∀x,p≤x→x<p+k→T.getD x 0=0)(hl:p+k=T.length)(z1:p≤z)(z2:z<p+k):Sh N T z↔z<p+N:=by
 constructor
 ·rintro⟨c,hc,hne,h1,h2⟩
  by_cases a:c<p
  ·exact Uw h1 a
  ·exact absurd (hz c (by exact a12 a) (by exact Tq hl hc)) hne
 ·intro h
  exact⟨p-1,by exact ae3 h0 hl,hp,by exact Uv h,by exact Uu z1⟩
theorem KR{N:Nat}{T:List Nat}{k z:Nat}(hz:∀x,x<k→T.getD x 0=0)(hn:T.getD k 0≠0)(hl:k<T.length)(z2:z<k):Sh N T z↔k≤z+N:=by
 constructor
 ·rintro⟨c,hc,hne,h1,h2⟩
  by_cases b:c<k
  ·exact absurd (hz c b) hne
  ·exact To h2 b
 ·intro h
  exact⟨k,hl,hn,by exact Ru z2,h⟩
theorem Oq{N:Nat}{T:List Nat}{z:Nat}(h:T.getD z 0≠0)(hl:z<T.length):Sh N T z:=⟨z,hl,h,by exact a47,by exact a47⟩
theorem EU(N t i i2 j j2:Nat)(r:List Cd)(ht:t≠0):AC N ((t,i,i2,j,j2)::r)=(t,i,i2,j,j2)::AC N r:=by
 cases r with
 | nil=>show[if t=0 then _ else _]=_;rw[if_neg ht];rfl
 | cons d r=>rfl
theorem Mi(N t i i2 j j2:Nat)(r g:List Cd)(ht:t≠0):A2 N ((t,i,i2,j,j2)::r) g=A2 N r (g++[(t,i,i2,j,j2)]):=by
 show(if t=0∧_ then _ else _:List (List Cd))=_;rw[if_neg fun h=>ht h.1]
theorem CK(N i i2 j j2:Nat)(r g:List Cd)(h:¬N+N<i2-i):A2 N ((0,i,i2,j,j2)::r) g=A2 N r (g++[(0,i,i2,j,j2)]):=by
 show(if(0:Nat)=0∧_ then _ else _:List (List Cd))=_;rw[if_neg fun h'=>h h'.2]
theorem EM(N i i2 j j2:Nat)(r g:List Cd)(h:N+N<i2-i):A2 N ((0,i,i2,j,j2)::r) g=(g++[(0,i,min i2 (i+N),j,min j2 (j+N))])::A2 N r [(0,max i (i2-N),i2,max j (j2-N),j2)]:=by
 show(if(0:Nat)=0∧_ then _ else _:List (List Cd))=_;rw[if_pos ⟨rfl,h⟩]
theorem Jp(N:Nat)(g:List Cd)(h0:g≠[])(h:¬(g.length=1∧(g.map (·.1)).headD 1=0)):A2 N [] g=[g]:=by
 show(if g=[]then[]else if _ then[]else[g]:List (List Cd))=_;rw[if_neg h0,if_neg h]
theorem BY(st:List (Nat×Nat)):(tg st).length=st.length:=List.length_map _
theorem Fb.le{t i i2 j j2:Nat}(h:Fb t i i2 j j2):i≤i2∧j≤j2∧0<(i2-i)+(j2-j):=by
 rcases h with⟨_,a,b⟩| ⟨_,a,b⟩| ⟨_,a,b⟩<;>(first| exact aq3 a b| exact aq2 a b| exact aq1 a b)
theorem Fb.len{t i i2 j j2:Nat}(h:Fb t i i2 j j2)(ht:t≠0):0<len (t,i,i2,j,j2):=QU ht▸h.le.2.2
noncomputable def ay3(ivs:List (Nat×Nat))(z:Nat):Prop:=∃x∈ivs,x.1≤z∧z<x.2
structure GA (N:Nat)(st:List (Nat×Nat))(p:Nat)(ivs:List (Nat×Nat))(gs:List (List Cd)):Prop where
 cov:On (fun(x:Nat×Nat) g=>Cov st x.1 x.2 g) ivs gs
 sep:Sep ivs
 len:∀x∈ivs,x.2≤st.length
 sh:∀z,p≤z→z<st.length→(Sh N (tg st) z↔ay3 ivs z)
inductive GB (N:Nat)(st:List (Nat×Nat))(s p:Nat)(gs:List (List Cd)):Prop
 | mk (e:Nat) (m:List (Nat×Nat)) (h:p≤e) (h':s≤p) (a:GA N st p ((s,e)::m) gs)
theorem GB.from{N:Nat}{st:List (Nat×Nat)}{s p q:Nat}{gs:List (List Cd)}(hs:s≤p)(hp:p≤q)(h:∀z,p≤z→z<q→z<st.length→Sh N (tg st) z):GB N st s q gs→GB N st s p gs
 | ⟨e,m,h1,_,a⟩=>⟨e,m,Nat.le_trans hp h1,hs,a.cov,a.sep,a.len,fun z z1 z2=>(Nat.lt_or_ge z q).elim
   (fun c=>iff_of_true (h z z1 c z2) ⟨_,.head _,Nat.le_trans hs z1,Nat.lt_of_lt_of_le c h1⟩) fun c=>a.sh z c z2⟩
theorem GB.nil{N:Nat}{st:List (Nat×Nat)}{s p q:Nat}{g:List Cd}(hq:s<q)(hsp:s≤p)(hc:Cov st s q g)(h:∀z,p≤z→z<st.length→(Sh N (tg st) z↔z<q))(hp:p≤q):GB N st s p [g]:=
 ⟨q,[],hp,hsp,⟨hc,trivial⟩,⟨fun x hx=>by rw[List.mem_singleton.mp hx];exact hq,List.pairwise_singleton _ _⟩,fun x hx=>by rw[List.mem_singleton.mp hx];exact hc.len,
  fun z z1 z2=>(h z z1 z2).trans ⟨fun h=>⟨_,.head _,Nat.le_trans hsp z1,h⟩,fun⟨x,hx,h⟩=>by rw[List.mem_singleton.mp hx]at h;exact h.2⟩⟩
theorem GB.long{N:Nat}{st:List (Nat×Nat)}{s p k:Nat}{g:List Cd}{gs:List (List Cd)}(hk:N+N<k)(hs:s<p)(hc:Cov st s (p+N) g)(hsh:∀z,p≤z→z<p+k→(Sh N (tg st) z↔z<p+N∨p+k≤z+N)):GB N st (p+(k-N)) (p+k) gs→GB N st s p (g::gs)
 | ⟨e,m,h1,h2,a⟩=>⟨p+N,(p+(k-N),e)::m,Nat.le_add_right _ _,Nat.le_of_lt hs,⟨hc,a.cov⟩,
  ⟨List.forall_mem_cons.mpr ⟨by show s<p+N;exact Tj hs,a.sep.1⟩,List.pairwise_cons.mpr ⟨List.forall_mem_cons.mpr ⟨by show p+N<p+(k-N);exact ao8 hk,fun y hy=>Nat.lt_trans (by show p+N<e;exact VK hk h1) ((List.pairwise_cons.mp a.sep.2).1 y hy)⟩,a.sep.2⟩⟩,
  List.forall_mem_cons.mpr ⟨hc.len,a.len⟩,fun z z1 z2=>(Nat.lt_or_ge z (p+k)).elim
   (fun c=>(hsh z z1 c).trans ⟨fun h=>h.elim (fun h=>⟨_,.head _,by show s≤z;exact VL hs z1,h⟩) fun h=>⟨_,.tail _ (.head _),by show p+(k-N)≤z;exact ao7 z1 h,by show z<e;exact a1 h1 c⟩,
    fun⟨x,hx,y1,y2⟩=>(List.mem_cons.mp hx).elim (fun h=>.inl (by rw[h]at y2;exact y2)) fun hx=>.inr ((List.mem_cons.mp hx).elim (fun h=>by rw[h]at y1;exact(show p+(k-N)≤z→p+k≤z+N from by clear y1 y2;intro y;exact ao6 y) y1)
     fun hx=>absurd ((List.pairwise_cons.mp a.sep.2).1 x hx) (by show¬e<_;exact Ti h1 c y1))⟩)
   fun c=>(a.sh z c z2).trans ⟨fun⟨x,hx,h⟩=>⟨x,.tail _ hx,h⟩,fun⟨x,hx,h⟩=>(List.mem_cons.mp hx).elim (fun e=>by rw[e]at h;exact absurd h.2 (by show¬z<p+N;exact VM hk c)) fun hx=>⟨x,hx,h⟩⟩⟩
theorem Ps.next{st:List (Nat×Nat)}{p i j:Nat}{c:Cd}{r:List Cd}(h:Ps st p i j (c::r))(ha:Alt 1 i j (c::r)):(tg st).getD p 0≠0∧p<st.length:=by
 obtain⟨t,i1,i2,j1,j2⟩:=c;obtain⟨rfl,rfl,⟨_,h1,_⟩| ⟨ht,_,hok,_⟩⟩:=ha
 ·exact absurd rfl h1
 ·have hl:=hok.len ht
  exact⟨h.tagc ht (Nat.le_refl _) (by exact VN hl),by have:=h.seg.2.1;exact VO hl this⟩
theorem Ps.last{st:List (Nat×Nat)}{p i j:Nat}(h:Ps st p i j []):p=st.length:=by
 have:=congrArg List.length h.dr;rw[List.length_drop]at this;exact Nat.le_antisymm h.le (Nat.le_of_sub_eq_zero this)
theorem Ps.row{st:List (Nat×Nat)}{p i i2 j j2:Nat}{r:List Cd}(h:Ps st p i j ((0,i,i2,j,j2)::r)){a b i' i3 j' j3:Nat}(hab:a≤b)(hb:b≤i2-i)(e1:i'=i+a)(e2:i3=i+b)(e3:j'=j+a)(e4:j3=j+b):Ai (0,i',i3,j',j3)=(st.take (p+b)).drop (p+a)∧i3=C2 st (p+b)∧j3=C1 st (p+b)∧i'=C2 st (p+a)∧j'=C1 st (p+a):=by
 subst e1 e2 e3 e4;obtain⟨h1,h2,h3⟩:=h.part hab hb;obtain⟨_,h4,h5⟩:=h.part (Nat.zero_le a) (Nat.le_trans hab hb);refine⟨h1▸?_,h2.symm,h3.symm,h4.symm,h5.symm⟩;show(List.range' (i+a) (i+b-(i+a))).map _=_;rw[Nat.add_sub_add_left]
theorem Ps.rowAt{st:List (Nat×Nat)}{p i i2 j j2:Nat}{r:List Cd}(h:Ps st p i j ((0,i,i2,j,j2)::r)){s:Nat}{g:List Cd}(hc:Cov st s p g){b i3 j3:Nat}(hb:b≤i2-i)(e2:i3=i+b)(e4:j3=j+b)(hl:p+b≤st.length):Cov st s (p+b) (g++[(0,i,i3,j,j3)]):=by
 obtain⟨h1,h2,h3,_⟩:=h.row (Nat.zero_le b) hb rfl e2 rfl e4;exact hc.snoc (Nat.le_add_right _ _) hl h1 h2 h3
theorem Ps.rowTo{st:List (Nat×Nat)}{p i i2 j j2:Nat}{r:List Cd}(h:Ps st p i j ((0,i,i2,j,j2)::r)){a k i' j':Nat}(hk:k=i2-i)(hi:i≤i2)(hj:j2=j+(i2-i))(ha:a≤k)(e1:i'=i+a)(e3:j'=j+a)(hl:p+k≤st.length):Cov st (p+a) (p+k) [(0,i',i2,j',j2)]:=by
 subst hk;obtain⟨h1,h2,h3,h4,h5⟩:=h.row ha (Nat.le_refl _) e1 (Nat.add_sub_of_le hi).symm e3 hj;exact Cov.one (Nat.add_le_add_left ha _) hl h1 h4 h5 h2 h3
theorem Hg{g:List Cd}(h:g≠[])(c:Cd):¬((g++[c]).length=1∧((g++[c]).map (·.1)).headD 1=0):=fun q=>by
 have:=q.1;rw[List.length_append]at this;exact h (List.length_eq_zero_iff.mp (Nat.succ.inj this))
theorem C6(N:Nat)(st:List (Nat×Nat)):∀(r:List Cd) (f s p i j:Nat) (g:List Cd),Alt f i j r→Ps st p i j r→(f≠1→0<p∧(tg st).getD (p-1) 0≠0∧s<p)→s≤p→Cov st s p g→(r=[]→s<p∧¬(g.length=1∧(g.map (·.1)).headD 1=0))→GB N st s p (A2 N (AC N r) g)
 | [],f,s,p,i,j,g,ha,hp,ht,hs,hc,hz=>by
  refine(congrArg (GB N st s p) (Jp N g hc.ne (hz rfl).2)).mpr (GB.nil (hz rfl).1 hs hc (fun z z1 z2=>?_) (Nat.le_refl _));have e:=hp.last;exact absurd z2 (by exact VP z1 e)
 | (t,i1,i2,j1,j2)::r,f,s,p,i,j,g,ha,hp,ht,hs,hc,hz=>by
  obtain⟨rfl,rfl,⟨rfl,hf,hi,hj,ha⟩| ⟨h0,hf,hok,ha⟩⟩:=ha
  ·obtain⟨t1,t2,t3⟩:=ht hf
   have hp2:=hp.eqn (Nat.le_of_lt hi) hj;have ht0:∀z,p≤z→z<p+(i2-i1)→(tg st).getD z 0=0:=fun z z1 z2=>hp.tag0 z1 z2;have hle:=hp2.le
   match r,ha,hp,hp2 with
   | [],_,hp,hp2=>
    have hl:=hp2.last;refine(congrArg (GB N st s p) ((CK _ _ _ _ _ _ _ (by exact VQ)).trans (Jp N _ (by simp) (Hg hc.ne _)))).mpr (GB.nil (q:=p+min (i2-i1) N) (by exact Tj t3) hs (hp.rowAt hc (Nat.min_le_left _ _) (by exact ap9 hi) (by exact ap8 hj) (by exact ap6 hl)) (fun z z1 z2=>?_) (by exact ap7));rw[OS t1 t2 ht0 (by rw[BY];exact hl) z1 (by exact Tq hl z2)];exact ap5 hl z2
   | c::r,ha,hp,hp2=>
    obtain⟨n1,n2⟩:=hp2.next ha
    have hsh:∀z,p≤z→z<p+(i2-i1)→(Sh N (tg st) z↔z<p+N∨p+(i2-i1)≤z+N):=fun z z1 z2=>OR t1 t2 ht0 n1 (by rw[BY];exact n2) z1 z2;by_cases hk:N+N<i2-i1
    ·refine(congrArg (GB N st s p) (EM N _ _ _ _ (AC N (c::r)) _ hk)).mpr (GB.long hk t3 (hp.rowAt hc (by exact ap4 hk) (by exact ap3 hk) (by exact ap2 hj hk) (by exact VR n2 hk)) hsh ?_)
     exact C6 N st (c::r) 1 _ _ _ _ _ ha hp2 (fun h=>absurd rfl h) (by exact ao9) (hp.rowTo rfl (Nat.le_of_lt hi) hj (by exact ay2) (by exact ap1) (by exact ap0 hj) hle) nofun
    ·refine(congrArg (GB N st s p) (CK N _ _ _ _ (AC N (c::r)) _ hk)).mpr (GB.from hs (Nat.le_add_right _ _) (fun z z1 z2 O=>(hsh z z1 z2).mpr (by exact ao4 hk)) ?_)
     exact C6 N st (c::r) 1 _ _ _ _ _ ha hp2 (fun h=>absurd rfl h) (by exact Ru t3) (hp.rowAt hc (Nat.le_refl _) (by exact ao5 hi) hj hle) nofun
  ·have hl:=hok.len h0
   have hp2:=hp.chg h0 hok.le.1 hok.le.2.1;obtain⟨sg1,sg2,_⟩:=hp.seg;refine(congrArg (GB N st s p) ((congrArg (fun l=>A2 N l g) (EU N _ _ _ _ _ _ h0)).trans (Mi _ _ _ _ _ _ _ _ h0))).mpr (GB.from hs (Nat.le_add_right _ _) (fun z z1 z2 z3=>Oq (hp.tagc h0 z1 z2) (by rw[BY];exact z3)) ?_)
   exact C6 N st r 2 _ _ _ _ _ ha hp2 (fun O=>⟨by exact VS hl,hp.tagc h0 (by exact VT hl) (by exact VU hl),by exact Tk hs hl⟩) (by exact Rw hs) (hc.snoc (Nat.le_add_right _ _) sg2 sg1.symm hp2.i.symm hp2.j.symm) fun O=>⟨by exact Tk hs hl,Hg hc.ne _⟩
theorem G5(N i1 i2 j1 j2:Nat):A2 N (AC N (Bn N [(0,i1,i2,j1,j2)])) []=[]:=CK N _ _ _ _ [] [] (by exact ax1)
theorem IK(N t i i2 j j2:Nat)(r:List Cd)(ht:t≠0):Bn N ((t,i,i2,j,j2)::r)=(t,i,i2,j,j2)::r:=congrArg (· ::r) (if_neg ht)
theorem GB.all{N:Nat}{st:List (Nat×Nat)}{s p q:Nat}{gs:List (List Cd)}(h:∀z,p≤z→z<q→z<st.length→(Sh N (tg st) z↔s≤z)):GB N st s q gs→∃ivs,GA N st p ivs gs
 | ⟨e,m,h1,h2,a⟩=>⟨(s,e)::m,a.cov,a.sep,a.len,fun z z1 z2=>(Nat.lt_or_ge z q).elim
   (fun c=>(h z z1 c z2).trans ⟨fun h=>⟨_,.head _,h,Nat.lt_of_lt_of_le c h1⟩,fun⟨x,hx,y1,y2⟩=>(List.mem_cons.mp hx).elim (fun h=>by rw[h]at y1;exact y1) fun hx=>absurd ((List.pairwise_cons.mp a.sep.2).1 x hx) (by show¬e<_;exact Ti h1 c y1)⟩)
   fun c=>a.sh z c z2⟩
theorem GA.nil{N:Nat}{st:List (Nat×Nat)}{gs:List (List Cd)}(hg:gs=[])(h:∀z,z<st.length→(tg st).getD z 0=0):∃ivs,GA N st 0 ivs gs:=
 ⟨[],hg▸trivial,⟨nofun,.nil⟩,nofun,fun z O O=>⟨fun⟨c,hc,hne,_⟩=>absurd (h c (by rw[BY]at hc;exact hc)) hne,fun⟨_,hx,_⟩=>nomatch hx⟩⟩
theorem QZ(N:Nat)(st:List (Nat×Nat)):∀X:List Cd,Alt 0 0 0 X→Ps st 0 0 0 X→∃ivs,GA N st 0 ivs (AK N X)
 | [],_,hp=>GA.nil (G5 N 0 1 0 1) fun z hz=>absurd hp.last (by exact VG hz)
 | (t,i1,i2,j1,j2)::r,ha,hp=>by
  obtain⟨rfl,rfl,⟨rfl,hf,hi,hj,ha⟩| ⟨h0,hf,hok,ha⟩⟩:=ha
  ·have hp2:=hp.eqn (Nat.le_of_lt hi) hj
   have ht0:∀z,z<0+(i2-0)→(tg st).getD z 0=0:=fun z z2=>hp.tag0 (Nat.zero_le _) z2
   match r,ha,hp,hp2 with
   | [],_,hp,hp2=>
    exact GA.nil (G5 N _ _ _ _) fun z hz=>ht0 z (hp2.last▸hz)
   | c::r,ha,hp,hp2=>
    obtain⟨n1,n2⟩:=hp2.next ha
    have hb:=C6 N st (c::r) 1 (0+(i2-0-N)) _ _ _ _ ha hp2 (fun h=>absurd rfl h) (by exact aw8) (hp.rowTo (i':=max 0 (i2-N)) (j':=max 0 (j2-N)) rfl (Nat.le_of_lt hi) hj (by exact a91) (by exact ax0) (by exact aw9 hj) hp2.le) nofun
    obtain⟨ivs,h⟩:=hb.all fun z O z2 z3=>(KR (k:=0+(i2-0)) ht0 n1 (by rw[BY];exact n2) z2).trans (by exact VH);exact⟨ivs,(congrArg (GA N st 0 ivs) (CK N _ _ _ _ (AC N (c::r)) [] (by exact aw7))).mpr h⟩
  ·have hl:=hok.len h0
   have hp2:=hp.chg h0 hok.le.1 hok.le.2.1;obtain⟨sg1,sg2,_⟩:=hp.seg
   have hb:=C6 N st r 2 0 _ _ _ _ ha hp2 (fun O=>⟨by exact Rt hl,hp.tagc h0 (by exact VI) (by exact VJ hl),by exact Rt hl⟩) (by exact a86) (Cov.one (by exact a86) sg2 sg1.symm rfl rfl hp2.i.symm hp2.j.symm) fun O=>⟨by exact Rt hl,fun h=>h0 h.2⟩
   obtain⟨ivs,h⟩:=hb.all fun z z1 z2 z3=>iff_of_true (Oq (N:=N) (hp.tagc h0 z1 z2) (by rw[BY];exact z3)) z1;exact⟨ivs,(congrArg (GA N st 0 ivs) ((congrArg (fun l=>A2 N (AC N l) []) (IK _ _ _ _ _ _ _ h0)).trans ((congrArg (fun l=>A2 N l []) (EU N _ _ _ _ _ _ h0)).trans (Mi _ _ _ _ _ _ _ _ h0)))).mpr h⟩
theorem Nw(N:Nat)(X:List Cd)(ha:Alt 0 0 0 X):∃ivs,GA N (X.flatMap Ai) 0 ivs (AK N X):=QZ N _ X ha ⟨Nat.zero_le _,List.drop_zero,rfl,rfl⟩
structure Ic (N:Nat)(P:Cd→Prop):Prop where
 head:∀i1 i2 j1 j2,P (0,i1,i2,j1,j2)→P (0,max i1 (i2-N),i2,max j1 (j2-N),j2)
 last:∀i1 i2 j1 j2,P (0,i1,i2,j1,j2)→P (0,i1,min i2 (i1+N),j1,min j2 (j1+N))
theorem Ku{N:Nat}{P:Cd→Prop}(hP:Ic N P):∀{l:List Cd},(∀c∈l,P c)→∀c∈Bn N l,P c
 | [],h=>h
 | (t,i1,i2,j1,j2)::r,h=>by
  intro c hc;have h0:=h (t,i1,i2,j1,j2) (.head _);have hc':c∈(if t=0 then(t,max i1 (i2-N),i2,max j1 (j2-N),j2)else(t,i1,i2,j1,j2))::r:=hc
  rcases List.mem_cons.mp hc' with e| hc
  ·subst e
   by_cases ht:t=0
   ·subst ht;rw[if_pos rfl];exact hP.head _ _ _ _ h0
   ·rw[if_neg ht];exact h0
  ·exact h c (.tail _ hc)
theorem FX{N:Nat}{P:Cd→Prop}(hP:Ic N P):∀{l:List Cd},(∀c∈l,P c)→∀c∈AC N l,P c
 | [],h=>h
 | [(t,i1,i2,j1,j2)],h=>by
  intro c hc;have h0:=h (t,i1,i2,j1,j2) (.head _);have hc':c∈[if t=0 then(t,i1,min i2 (i1+N),j1,min j2 (j1+N))else(t,i1,i2,j1,j2)]:=hc;rw[List.mem_singleton.mp hc'];by_cases ht:t=0
  ·subst ht;rw[if_pos rfl];exact hP.last _ _ _ _ h0
  ·rw[if_neg ht];exact h0
 | c::d::r,h=>by
  intro x hx;have hx':x∈c::AC N (d::r):=hx
  rcases List.mem_cons.mp hx' with e| hx'
  ·subst e;exact h _ (.head _)
  ·exact FX hP (fun y hy=>h y (.tail _ hy)) x hx'
theorem G6{N:Nat}{P:Cd→Prop}(hP:Ic N P):∀{l g:List Cd},(∀c∈l,P c)→(∀c∈g,P c)→∀x∈A2 N l g,∀c∈x,P c
 | [],g,h,hg=>by
  intro x hx;have hx':x∈(if g=[]then[]else if g.length=1∧(g.map (·.1)).headD 1=0 then[]else[g]:List (List Cd)):=hx
  by_cases h0:g=[]
  ·rw[if_pos h0]at hx';cases hx'
  ·rw[if_neg h0]at hx'
   by_cases h1:g.length=1∧(g.map (·.1)).headD 1=0
   ·rw[if_pos h1]at hx';cases hx'
   ·rw[if_neg h1]at hx';rw[List.mem_singleton.mp hx'];exact hg
 | (t,i1,i2,j1,j2)::r,g,h,hg=>by
  have h0:=h (t,i1,i2,j1,j2) (.head _);have hr:∀c∈r,P c:=fun c hc=>h c (.tail _ hc);intro x hx;by_cases hl:t=0∧N+N<i2-i1
  ·obtain⟨rfl,hl⟩:=hl
   rw[EM _ _ _ _ _ _ _ hl]at hx
   rcases List.mem_cons.mp hx with e| hx
   ·subst e
    intro c hc
    rcases List.mem_append.mp hc with hc| hc
    ·exact hg c hc
    ·rw[List.mem_singleton.mp hc];exact hP.last _ _ _ _ h0
   ·exact G6 hP hr (fun c hc=>by rw[List.mem_singleton.mp hc];exact hP.head _ _ _ _ h0) x hx
  ·have e:A2 N ((t,i1,i2,j1,j2)::r) g=A2 N r (g++[(t,i1,i2,j1,j2)]):=if_neg hl
   rw[e]at hx;refine G6 hP hr (fun c hc=>?_) x hx
   rcases List.mem_append.mp hc with hc| hc
   ·exact hg c hc
   ·rw[List.mem_singleton.mp hc];exact h0
theorem H8{N:Nat}{P:Cd→Prop}(hP:Ic N P){X:List Cd}(h:∀c∈X,P c):∀x∈AK N X,∀c∈x,P c:=by
 by_cases h0:X=[]
 ·subst h0
  have:AK N []=[]:=G5 N 0 1 0 1;rw[this];intro x hx;cases hx
 ·have hf:CT X=X:=if_neg h0
  unfold AK;rw[hf];exact G6 hP (FX hP (Ku hP h)) fun c hc=>nomatch hc
theorem HM(N:Nat):∀l:List Cd,(Bn N l).length=l.length
 | []=>rfl
 | (t,i1,i2,j1,j2)::r=>rfl
theorem Ec(N:Nat):∀l:List Cd,(AC N l).length=l.length
 | []=>rfl
 | [(t,i1,i2,j1,j2)]=>rfl
 | c::d::r=>by
  show(AC N (d::r)).length+1=_;rw[Ec N (d::r)];rfl
theorem DJ(N:Nat):∀(l g:List Cd),∀x∈A2 N l g,x.length≤g.length+l.length+1
 | [],g=>by
  intro x hx;have hx':x∈(if g=[]then[]else if g.length=1∧(g.map (·.1)).headD 1=0 then[]else[g]:List (List Cd)):=hx
  by_cases h0:g=[]
  ·rw[if_pos h0]at hx';cases hx'
  ·rw[if_neg h0]at hx'
   by_cases h1:g.length=1∧(g.map (·.1)).headD 1=0
   ·rw[if_pos h1]at hx';cases hx'
   ·rw[if_neg h1]at hx';rw[List.mem_singleton.mp hx'];exact WK
 | (t,i1,i2,j1,j2)::r,g=>by
  intro x hx;by_cases hl:t=0∧N+N<i2-i1
  ·obtain⟨rfl,hl⟩:=hl
   rw[EM _ _ _ _ _ _ _ hl]at hx
   rcases List.mem_cons.mp hx with e| hx
   ·subst e;rw[List.length_append,List.length_cons];simp
   ·have:=DJ N r _ x hx
    simp at this ⊢;exact WI this
  ·have e:A2 N ((t,i1,i2,j1,j2)::r) g=A2 N r (g++[(t,i1,i2,j1,j2)]):=if_neg hl
   rw[e]at hx;have:=DJ N r _ x hx;simp at this ⊢;exact WG this
theorem IG{N:Nat}{X:List Cd}:∀x∈AK N X,x.length≤X.length+2:=by
 intro x hx;have:=DJ N _ _ x hx;rw[Ec,HM]at this
 have hf:(CT X).length≤X.length+1:=by unfold CT;split<;>simp
 simp at this;exact WM hf this
noncomputable def IW(la lb:Nat)(c:Cd):Prop:=(c.1=0∨(c.1≠0∧Fb c.1 c.2.1 c.2.2.1 c.2.2.2.1 c.2.2.2.2))∧c.2.2.1≤la∧c.2.2.2.2≤lb
theorem HP(N la lb:Nat):Ic N (IW la lb):=
 ⟨fun i1 i2 j1 j2 h=>⟨.inl rfl,h.2.1,h.2.2⟩,fun i1 i2 j1 j2 h=>⟨.inl rfl,by have:=h.2.1;simp only at this ⊢;exact Tu this,by have:=h.2.2;simp only at this ⊢;exact Tu this⟩⟩
theorem GJ:∀{X:List Cd} {f i j:Nat},Alt f i j X→∀c∈X,c.1=0∨(c.1≠0∧Fb c.1 c.2.1 c.2.2.1 c.2.2.2.1 c.2.2.2.2)
 | [],_,_,_,_=>fun c hc=>nomatch hc
 | (t,i1,i2,j1,j2)::r,f,i,j,h=>by
  obtain⟨rfl,rfl,h⟩:=h;intro c hc
  rcases h with⟨rfl,_,_,_,h⟩| ⟨ht,_,hok,h⟩
  ·rcases List.mem_cons.mp hc with e| hc
   ·subst e;exact .inl rfl
   ·exact GJ h c hc
  ·rcases List.mem_cons.mp hc with e| hc
   ·subst e;exact .inr ⟨ht,hok⟩
   ·exact GJ h c hc
theorem Hv{la lb:Nat}:∀{T:List Tri} {i j:Nat},(∀t∈T,t.1+t.2.2≤la∧t.2.1+t.2.2≤lb)→∀c∈AO T i j,c.2.2.1≤la∧c.2.2.2.2≤lb
 | [],_,_,_=>fun c hc=>nomatch hc
 | t::T,i,j,h=>by
  obtain⟨h1,h2⟩:=h t (.head _);intro c hc;rw[CZ]at hc
  rcases List.mem_append.mp hc with hc| hc
  ·rcases List.mem_append.mp hc with hc| hc
   ·have:c.2.2.1=t.1∧c.2.2.2.2=t.2.1:=by
     unfold CS at hc;split at hc
     ·rw[List.mem_singleton.mp hc];exact⟨rfl,rfl⟩
     ·split at hc
      ·rw[List.mem_singleton.mp hc];exact⟨rfl,rfl⟩
      ·split at hc
       ·rw[List.mem_singleton.mp hc];exact⟨rfl,rfl⟩
       ·cases hc
    exact WE h1 h2 this
   ·split at hc
    ·cases hc
    ·rw[List.mem_singleton.mp hc];exact⟨h1,h2⟩
  ·exact Hv (fun t ht=>h t (.tail _ ht)) c hc
theorem DG{la lb:Nat}:∀{L:List Tri} {s:Tri},(∀t∈L,t.1+t.2.2≤la∧t.2.1+t.2.2≤lb)→(s.1+s.2.2≤la∧s.2.1+s.2.2≤lb)→∀t∈Af L s,t.1+t.2.2≤la∧t.2.1+t.2.2≤lb
 | [],s,_,hs=>by
  intro t ht;have ht':t∈(if s.2.2=0 then[]else[s]:List Tri):=ht;split at ht'
  ·cases ht'
  ·rw[List.mem_singleton.mp ht'];exact hs
 | t::L,s,h,hs=>by
  have h0:=h t (.head _);have hr:∀t∈L,t.1+t.2.2≤la∧t.2.1+t.2.2≤lb:=fun x hx=>h x (.tail _ hx);intro x hx;by_cases ha:s.1+s.2.2=t.1∧s.2.1+s.2.2=t.2.1
  ·rw[AT ha]at hx
   exact DG hr ⟨by simp only;exact WJ h0 ha,by simp only;exact WH h0 ha⟩ x hx
  ·rw[Bj ha]at hx
   rcases List.mem_append.mp hx with hx| hx
   ·split at hx
    ·cases hx
    ·rw[List.mem_singleton.mp hx];exact hs
   ·exact DG hr h0 x hx
noncomputable def SL(x:Nat×Nat):HZ:=(1,x.1,x.2,0,0)
theorem JY{la lb:Nat}{c:Cd}(h:IW la lb c):Ct c=(Ai c).map SL:=by
 obtain⟨t,i1,i2,j1,j2⟩:=c;obtain⟨h,_,_⟩:=h;simp only at h
 rcases h with rfl| ⟨ht,h⟩
 ·unfold Ct Ai
  simp only[if_true];rw[List.map_map];rfl
 ·rw[GI ht,List.map_append,List.map_map,List.map_map]
  show(if t=0 then _ else _)=_;rw[if_neg ht]
  rcases h with⟨rfl,_,_⟩| ⟨rfl,_,rfl⟩| ⟨rfl,rfl,_⟩
  ·rfl
  ·rw[Nat.sub_self];rfl
  ·rw[Nat.sub_self];rfl
theorem GR{st:List (Nat×Nat)}(o:Nat){s e:Nat}(h:s≤e):Ae o ((tg st).take e)=Ae o ((tg st).take s)+Ae o (((tg st).take e).drop s):=by
 have:(tg st).take e=(tg st).take s++((tg st).take e).drop s:=by
  have:=(List.take_append_drop s ((tg st).take e)).symm
  rwa [List.take_take,Nat.min_eq_left h]at this
 conv=>lhs;rw[this]
 rw[GH]
theorem Kv{la lb:Nat}{st:List (Nat×Nat)}{s e:Nat}{g:List Cd}(h:Cov st s e g)(hg:∀c∈g,IW la lb c):Bx (st.map (·.1)) s e::(List.range' s (e-s)).map (fun z=>((1,(st.getD z (0,0)).1,(st.getD z (0,0)).2,0,0):HZ))=BV g:=by
 unfold BV
 congr 1
 ·unfold Bx BU
  rw[h.hi,h.hj,h.li,h.lj];have h2:=GR (st:=st) 2 h.le;have h1:=GR (st:=st) 1 h.le;show(0,C2 st s,Ae 2 (((tg st).take e).drop s),C1 st s,Ae 1 (((tg st).take e).drop s))=_;rw[show Ae 2 (((tg st).take e).drop s)=C2 st e-C2 st s by unfold C2;exact Tt h2,show Ae 1 (((tg st).take e).drop s)=C1 st e-C1 st s by unfold C1;exact Tt h1]
 ·rw[Bl (g:=fun c=>(Ai c).map SL) fun c hc=>JY (hg c hc),←List.map_flatMap,h.rows,A8 st (0,0) h.len,List.map_map]
  rfl
theorem Ga{α β γ:Type}{R:α→β→Prop}{f:α→List γ}{g:β→List γ}:∀{l:List α} {m:List β},On R l m→(∀a b,b∈m→R a b→f a=g b)→l.flatMap f=m.flatMap g
 | [],[],_,_=>rfl
 | a::l,b::m,h,hf=>by
  rw[List.flatMap_cons,List.flatMap_cons,hf a b (.head _) h.1,Ga h.2 fun a b hb=>hf a b (.tail _ hb)]
 | [],_::_,h,_=>h.elim
 | _::_,[],h,_=>h.elim
theorem HT{α β:Type}{R:α→β→Prop}:∀{l:List α} {m:List β},On R l m→∀b∈m,∃a,R a b
 | [],[],_,b,hb=>nomatch hb
 | a::l,b'::m,h,b,hb=>by
  rcases List.mem_cons.mp hb with e| hb
  ·subst e;exact⟨a,h.1⟩
  ·exact HT h.2 b hb
 | [],_::_,h,_,_=>h.elim
 | _::_,[],h,_,_=>h.elim
theorem Hp{N la lb:Nat}{X:List Cd}(ha:Alt 0 0 0 X)(hX:∀c∈X,IW la lb c):(AK N X).flatMap BV=B1 N (X.flatMap Ai)∧(AK N X=[]↔Av N ((X.flatMap Ai).map (·.1))=[])∧∀g∈AK N X,∃s e,Cov (X.flatMap Ai) s e g:=by
 obtain⟨ivs,h2,hs,hb,hsh⟩:=Nw N X ha;have hgo:=H8 (HP N la lb) hX;have hso:=JS (n:=N) (tags:=tg (X.flatMap Ai)) hs (fun x hx=>by rw[BY];exact hb x hx) (fun z hz=>hsh z (Nat.zero_le z) (by rw[BY]at hz;exact hz));refine⟨?_,?_,fun g hg=>?_⟩
 ·rw[Ka hs hso hb]
  exact(Ga h2 fun x g hg hc=>Kv hc (hgo g hg)).symm
 ·show _↔Av N (tg (X.flatMap Ai))=[]
  rw[hso]
  generalize AK N X=G at*
  cases ivs with
  | nil=>
   cases G with
   | nil=>exact⟨fun O=>rfl,fun O=>rfl⟩
   | cons _ _=>exact h2.elim
  | cons x ivs=>
   cases G with
   | nil=>exact h2.elim
   | cons g G=>
    refine⟨fun h=>(nomatch h),fun h=>?_⟩;have:=By.mpr ⟨x,List.mem_cons_self (l:=ivs),Nat.le_refl _,hs.ne x (.head _)⟩;rw[h]at this;cases this
 ·obtain⟨a,h⟩:=HT h2 g hg
  exact⟨a.1,a.2,h⟩
theorem FM(i p j q:Nat):(AB i p j q).length=(p-i)+(q-j):=by
 unfold AB;rw[List.length_append,List.length_map,List.length_map,List.length_range',List.length_range']
theorem Ey{la lb:Nat}:∀{L:List (Nat×Nat)} {a b:Nat},L.Pairwise ch→(∀x∈L,a≤x.1∧b≤x.2∧x.1<la∧x.2<lb)→(AS la lb L a b).length≤(la-a)+(lb-b)
 | [],a,b,_,_=>by
  show(AB a la b lb).length≤_;rw[FM];exact WD
 | (x,y)::r,a,b,hp,h=>by
  obtain⟨h1,h2,h3,h4⟩:=h (x,y) (.head _);simp only at h1 h2 h3 h4;rw[List.pairwise_cons]at hp
  have ih:=Ey (la:=la) (lb:=lb) (a:=x+1) (b:=y+1) hp.2 fun z hz=>by
   obtain⟨c1,c2⟩:=hp.1 z hz;simp only at c1 c2;have:=h z (.tail _ hz);exact⟨by exact a4 c1,by exact a4 c2,this.2.2.1,this.2.2.2⟩
  show(AB a x b y++(0,x)::AS la lb r (x+1) (y+1)).length≤_;rw[List.length_append,FM,List.length_cons];exact W9 h1 h2 h3 h4 ih
theorem HD(i p j q:Nat):∀x∈AB i p j q,x.1≤2:=by
 intro x hx;unfold AB at hx
 rcases List.mem_append.mp hx with hx| hx
 ·obtain⟨y,_,rfl⟩:=List.mem_map.mp hx;show 1≤2;exact WC
 ·obtain⟨y,_,rfl⟩:=List.mem_map.mp hx;show 2≤2;exact WA
theorem Ex{la lb:Nat}:∀{L:List (Nat×Nat)} {a b:Nat},∀x∈AS la lb L a b,x.1≤2
 | [],a,b=>HD a la b lb
 | (x,y)::r,a,b=>by
  intro z hz;have hz':z∈AB a x b y++(0,x)::AS la lb r (x+1) (y+1):=hz
  rcases List.mem_append.mp hz' with hz| hz
  ·exact HD a x b y z hz
  ·rcases List.mem_cons.mp hz with e| hz
   ·subst e;exact Nat.zero_le _
   ·exact Ex z hz
end
section
open PySem PySem.W PyProof.Rows PySem.Calls PySem.SeqAt PySem.MeetsSeq Builtin Builtin.ObjectAttr
theorem C3:∀k:Nat,(List.replicate k [62,32]).flatten.count 62=k
 | 0=>rfl
 | k+1=>by
  rw[List.replicate_succ,List.flatten_cons,List.count_append,C3 k,show List.count 62 [62,32]=1 by decide];exact Ut
theorem Eo{w:Str}(h:w∈BP):w.cps.toList.count 62=0:=by
 unfold BP at h;simp only[List.mem_cons,List.not_mem_nil,or_false]at h
 rcases h with rfl| rfl| rfl| rfl<;>decide+kernel
theorem QR{k:Nat}{p q:Pr}(hp:OkP k p)(hq:OkP k q)(h:ln p=ln q):p=q:=by
 have h1:(ln p).cps.toList=(ln q).cps.toList:=by rw[h]
 rw[Bz hp.1,Bz hq.1]at h1;have hc:=congrArg (List.count 62) h1;rw[List.count_append,List.count_append,List.count_append,List.count_append,C3,C3,Eo hp.2.2,Eo hq.2.2]at hc
 have hn:p.1.toNat=q.1.toNat:=by exact ae1 hc
 rw[hn,List.append_assoc,List.append_assoc]at h1;have h2:=List.append_cancel_right (List.append_cancel_left h1)
 have e1:p.1=q.1:=by
  have:=hp.1;have:=hq.1;exact ae0 hc (by assumption) this
 exact Prod.ext e1 (Dk h2)
noncomputable def Hn(ps qs:List Pr):HZ→Str
 | (0,s,c,s',c')=>Str.ofString "@@ -"++AH s c++Str.ofString " +"++AH s' c'++Str.ofString " @@"++Str.ofString "\n"
 | (_+1,t,i,_,_)=>BZ t++ln (if t=2 then qs.getD i (0,"")else ps.getD i (0,""))
theorem JX{ps qs:List Pr}{c:Cd}(h:IW ps.length qs.length c):AW (ps.map ln) (qs.map ln) c=(Ct c).map (Hn ps qs):=by
 obtain⟨t,i1,i2,j1,j2⟩:=c;obtain⟨h,h1,h2⟩:=h;simp only at h h1 h2
 have ea:((ps.map ln).take i2).drop i1=(List.range' i1 (i2-i1)).map fun x=>ln (ps.getD x (0,"")):=by
  rw[←List.map_take,←List.map_drop,A8 ps (0,"") h1,List.map_map];rfl
 have eb:((qs.map ln).take j2).drop j1=(List.range' j1 (j2-j1)).map fun x=>ln (qs.getD x (0,"")):=by
  rw[←List.map_take,←List.map_drop,A8 qs (0,"") h2,List.map_map];rfl
 unfold AW Ct;simp only;rw[ea,eb];by_cases ht:t=0
 ·rw[if_pos ht,if_pos ht,List.map_map,List.map_map];rfl
 ·rw[if_neg ht,if_neg ht,List.map_append]
  congr 1
  ·by_cases h3:t=1∨t=2
   ·rw[if_pos h3,if_pos h3,List.map_map,List.map_map];rfl
   ·rw[if_neg h3,if_neg h3];rfl
  ·by_cases h3:t=1∨t=3
   ·rw[if_pos h3,if_pos h3,List.map_map,List.map_map];rfl
   ·rw[if_neg h3,if_neg h3];rfl
theorem Kq{ps qs:List Pr}{g:List Cd}(h:∀c∈g,IW ps.length qs.length c):AJ (ps.map ln) (qs.map ln) g=(BV g).map (Hn ps qs):=by
 unfold AJ BV;rw[List.map_cons,List.map_flatMap]
 congr 1
 exact Bl fun c hc=>JX (h c hc)
theorem Kr{its:List ISt}{ps qs:List Pr}{tags:List Nat}(ht:Ak its=tags)(s e:Nat):Ej its s e=Hn ps qs (Bx tags s e):=by
 subst ht
 have key:∀f1 f2:Str,("@@ ":Str)++("-"++f1++" +"++f2)++" @@\n"=Str.ofString "@@ -"++f1++Str.ofString " +"++f2++Str.ofString " @@"++Str.ofString "\n":=fun f1 f2=>by
  refine Dk ?_;simp only[AY]
  rw[show("@@ ":Str).cps.toList=[64,64,32]by decide+kernel,show("-":Str).cps.toList=[45]by decide+kernel,show(" +":Str).cps.toList=[32,43]by decide+kernel,show(" @@\n":Str).cps.toList=[32,64,64,10]by decide+kernel,
   show(Str.ofString "@@ -").cps.toList=[64,64,32,45]by decide+kernel,show(Str.ofString " @@").cps.toList=[32,64,64]by decide+kernel,show(Str.ofString "\n").cps.toList=[10]by decide+kernel]
  simp only[List.append_assoc,List.cons_append,List.nil_append]
 exact key _ _
theorem Hm(N:Nat)(ps qs:List Pr)(st:List (Nat×Nat)):Cv N (st.map (val ps qs (0,"")))=Bv (Av N (st.map (·.1)))++(B1 N st).map (Hn ps qs):=by
 have ht:Ak (st.map (val ps qs (0,"")))=st.map (·.1):=by
  unfold Ak;rw[List.map_map];rfl
 unfold Cv B1;rw[ht,List.map_flatMap]
 congr 1
 refine Bl fun s hs=>?_
 have hl:s<st.length:=by
  have:=(FF.mp hs).1
  rwa [List.length_map]at this
 have hg:(st.map (val ps qs (0,""))).getD s dfl=val ps qs (0,"") (st.getD s (0,0)):=by
  rw[List.getD_eq_getElem?_getD,List.getD_eq_getElem?_getD,List.getElem?_map,List.getElem?_eq_getElem hl];rfl
 unfold Cs;rw[List.map_append,hg]
 congr 1
 rw[List.length_map];by_cases hf:AQ (Av N (st.map (·.1))) s=true
 ·rw[if_pos hf,if_pos hf,Kr (ps:=ps) (qs:=qs) ht];rfl
 ·rw[if_neg hf,if_neg hf];rfl
theorem Vf(o:Nat)(l:List Nat):Ae o l≤l.length:=List.length_filter_le _ _
theorem HC{α:Type}{P:α→Prop}{l:List α}{d:α}(hd:P d)(h:∀x∈l,P x)(i:Nat):P (l.getD i d):=by
 rw[List.getD_eq_getElem?_getD]
 cases e:l[i]? with
 | none=>exact hd
 | some x=>exact h x (List.mem_of_getElem? e)
theorem pure:Oh:=by
 refine⟨fun N ps qs hN hp hq okp okq=>?_,fun ps O h=>It ps h,fun mode ps hm O h=>Hr mode ps hm h⟩;have hbl:Ar (ps.map ln) (qs.map ln)=Ar ps qs:=IM ln fun x hx y hy e=>QR (okp x hx) (okq y hy) e;have hu:((Ar ps qs).flatMap units).map (fun x=>((x.1,x.2,1):Tri))=(kept ps qs).map u3:=rfl
 have hT:Bw (ps.map ln) (qs.map ln)=Af ((kept ps qs).map u3) (0,0,0)++[(ps.length,qs.length,0)]:=by
  unfold Bw;rw[hbl,List.length_map,List.length_map,EA _ _ fun x hx=>(B6 x hx).2.2.2.2,hu]
 have hkb:=fun x hx=>H5 (A:=ps) (B:=qs) x hx;obtain⟨hst,halt⟩:=BH ps.length qs.length (kept ps qs) 0 0 0 0 0 0 (by decide) (Nat.le_refl _) (Nat.le_refl _) (by exact a25) (by exact a25) (fun O=>⟨rfl,rfl⟩) (fun h=>by exact ad9) (fun O=>rfl) Ei (fun x hx=>⟨by exact a25,by exact a25,(hkb x hx).1,(hkb x hx).2⟩)
 have hTbox:∀t∈Bw (ps.map ln) (qs.map ln),t.1+t.2.2≤ps.length∧t.2.1+t.2.2≤qs.length:=by
  rw[hT];intro t ht
  rcases List.mem_append.mp ht with ht| ht
  ·refine DG (fun t ht=>?_) ⟨by simp only;exact a25,by simp only;exact a25⟩ t ht
   obtain⟨x,hx,rfl⟩:=List.mem_map.mp ht;have:=hkb x hx;exact⟨by show x.1+1≤_;exact ad8 this,by show x.2+1≤_;exact ad7 this⟩
  ·rw[List.mem_singleton.mp ht];exact⟨Nat.le_refl _,Nat.le_refl _⟩
 rw[←hT]at hst halt
 have hst':(AO (Bw (ps.map ln) (qs.map ln)) 0 0).flatMap Ai=AS ps.length qs.length (kept ps qs) 0 0:=by
  rw[hst];rfl
 have hlen:(AS ps.length qs.length (kept ps qs) 0 0).length≤12:=by
  have:=Ey (la:=ps.length) (lb:=qs.length) (L:=kept ps qs) (a:=0) (b:=0) Ei fun x hx=>⟨Nat.zero_le _,Nat.zero_le _,(hkb x hx).1,(hkb x hx).2⟩
  exact ad6 hp hq this
 have hcd:∀c∈AO (Bw (ps.map ln) (qs.map ln)) 0 0,IW ps.length qs.length c:=fun c hc=>⟨GJ halt c hc,Hv hTbox c hc⟩
 have hits:EJ ps qs=(AS ps.length qs.length (kept ps qs) 0 0).map (val ps qs (0,"")):=F2 ps qs (0,"") (kept ps qs) 0 0 hkb;have hol:(AO (Bw (ps.map ln) (qs.map ln)) 0 0).length≤16:=Nat.le_trans (E5 _ _ _) (by have:=Et (as:=ps.map ln) (bs:=qs.map ln) (by rw[List.length_map];exact hp);exact Us this);obtain⟨q1,q2,q3⟩:=Hp (N:=N) halt hcd;rw[hst']at q1 q2 q3;have hgo:=H8 (HP N ps.length qs.length) hcd;have hgl:=IG (N:=N) (X:=AO (Bw (ps.map ln) (qs.map ln)) 0 0)
 generalize AO (Bw (ps.map ln) (qs.map ln)) 0 0=X at*
 generalize hS:AS ps.length qs.length (kept ps qs) 0 0=st at*
 refine⟨fun t ht=>?_,fun g hg=>?_,?_,?_,?_⟩
 ·have:=hTbox t ht;exact ad5 hp hq this
 ·obtain⟨s,e,hc⟩:=q3 g hg
  have m2:=GR (st:=st) 2 hc.le;have m1:=GR (st:=st) 1 hc.le;have l2:=Vf 2 ((tg st).take e);have l1:=Vf 1 ((tg st).take e);rw[List.length_take,BY]at l1 l2;refine⟨hc.ne,⟨?_,?_⟩,⟨?_,?_⟩,?_,fun c hcg=>?_⟩
  ·rw[hc.hi,hc.li];unfold C2;exact Ur m2
  ·rw[hc.li];unfold C2;exact Uq hlen l2
  ·rw[hc.hj,hc.lj];unfold C1;exact Ur m1
  ·rw[hc.lj];unfold C1;exact Uq hlen l1
  ·have:=hgl g hg;exact ad4 hol this
  ·rcases(hgo g hg c hcg).1 with h| ⟨_,h⟩
   ·exact ad3 h
   ·rcases h with⟨h,_⟩| ⟨h,_⟩| ⟨h,_⟩<;>(first| exact ad2 h| exact ad1 h| exact ad0 h)
 ·rw[hits,Hm,←q1]
  unfold ET
  have e1:(AK N X).flatMap (AJ (ps.map ln) (qs.map ln))=((AK N X).flatMap BV).map (Hn ps qs):=by
   rw[List.map_flatMap];exact Bl fun g hg=>Kq (hgo g hg)
  rw[e1]
  congr 1
  unfold Bv
  by_cases h:AK N X=[]
  ·rw[if_pos h,if_pos (q2.mp h)]
  ·rw[if_neg h,if_neg fun h'=>h (q2.mpr h')]
 ·rw[hits,List.length_map];exact ac9 hlen
 ·intro x hx
  rw[hits]at hx;obtain⟨y,hy,rfl⟩:=List.mem_map.mp hx
  have d0:Good ((0,""):Pr):=⟨Int.le_refl _,by decide,by decide+kernel⟩
  refine⟨?_,?_⟩
  ·show Good (if y.1=2 then qs.getD y.2 (0,"")else ps.getD y.2 (0,""))
   split
   ·exact HC d0 (fun p hp=>(okq p hp).good (by exact a26)) _
   ·exact HC d0 (fun p hp=>(okp p hp).good (by exact a26)) _
  ·rw[←hS]at hy
   exact Ex y hy
end
end
section
open PySem PySem.W PySem.W.X PyProof.Rows PySem.Spec PySem.Calls
section
set_option maxHeartbeats 4000000
theorem Mh(w:World)(h h':Heap)(x:∀b o,(hz w.params).get? b=some o→h.get? b=some o)(k:∀b o,h.get? b=some o→h'.get? b=some o):∀b o,(hz w.params).get? b=some o→h'.get? b=some o:=
 fun b o e=>k _ _ (x _ _ e)
theorem LW{α:Type}{f:Look→α→Bool}{b:α}{c:Look}(d:Look)(e:c=d)(h:f d b=true):f c b=true:=e▸h
theorem RD:OpenLaw.wellSaid PySem.Challenge.rw_kl0400_01=true:=by
 rw[PySem.W.Fast.te9446332074065402090]
 delta PySem.W.Fast.tw9446332074065402090
 iterate 18 refine look_both ?_ (by as_aux_lemma=>kernel_rfl)
 delta PySem.W.Fast.tw17960256430627541270
 iterate 2 refine look_both ?_ (by as_aux_lemma=>kernel_rfl)
 delta PySem.W.Fast.tw2436336058641802641
 iterate 13 refine look_both ?_ (by as_aux_lemma=>kernel_rfl)
 delta PySem.W.Fast.tw12908688711261696721
 refine look_both ?_ (by as_aux_lemma=>kernel_rfl);refine look_both ?_ (LW {strict:=false,foot:=none,bare:=[]} (by as_aux_lemma=>kernel_rfl) (by as_aux_lemma=>kernel_rfl))
 iterate 3 refine look_both ?_ (by as_aux_lemma=>kernel_rfl)
 kernel_rfl
theorem top(hP:Oh):PySem.Challenge.rw_kl0400_01.Holds:=by
 refine holds_law RD fun said=>?_
 refine PySem.W.holds_open (q:=qv) (loose:=lz) (Xt:=fun O=>true) (XP:=fun O O=>True) (Yf:=fun s=>s.heap) (Ya:=fun w=>hz w.params) (YP:=fun w h=>∀b o,(hz w.params).get? b=some o→h.get? b=some o) (N:=5000)
  SO (fun w s e b o h=>by rw[e];exact h) Mh (fun O O=>trivial) (fun O O O O O=>trivial) (by rfl) (by rfl) (by rfl) (fun s O=>recFacts_nil rfl) (by rfl) (by assumption) (by decide+kernel) ⟨rfl,rfl,rfl,rfl,rfl,by decide+kernel⟩ ?hw ?hc
 case hw=>w_witness2
 intro w s₀ s₁ mg mb G Y fa o pm cd doc dV kV ho hd hcd hD hmg hg args vals as hpre hlay hrd hwl hlo
 wrow_args hpre hlay hrd hwl hlo
 rename_i ns hs0 hlay0 hL1 hr1 hl2 u4 u3 la vs u0 hL ra w1 r0 hI hr hc1 hc2
 obtain⟨vs',hL',hv⟩:∃vs':List Value,s₁.heap.get? la=some {cls:=.type "list",data:=.seq vs'.toArray}∧vs'=vs:=by
  have w1':Well w.params s₁.heap (.ref la) (.list (ofPys (ns.map PyData.int))):=w1
  cases w1' with
  | list h1 h2=>
   obtain⟨o2,e2,_,n2,d2⟩:=hL;rw[h1]at e2
   cases e2
   refine⟨_,h1,?_⟩;have d3:=congrArg (fun d=>match d with | Data.seq a _=>a.toList| _=>[]) d2;exact d3
 subst hv
 have hiA:∀{ns:List Int} {vs:List Value},IntsAre vs ns→IsAll [24,292] s₁.heap (Aj ns) vs:=fun{ns vs} h=>by
  induction h with
  | nil=>exact .nil
  | cons n t _ ih=>exact .cons (.int n t) ih
 refine wpAny_mono (Nn hP G.T.g Y hmg hg hL' (hiA hI) (by omega)) (fun v s' z=>?_) (fun O O z=>z.elim);obtain⟨e,hO,hos,hb⟩:=z;subst e;refine⟨.inl ⟨_,_,[],rfl,fun O=>rfl,ReadsW.bool true,?_,fun O=>⟨List.nodup_nil,fun O hm=>(nomatch hm)⟩⟩,hO,hos,hb⟩
 first| rfl| wrow_post
end
end
end Mine
theorem PySem.Challenge.cw_kl0400_01_holds : PySem.Challenge.rw_kl0400_01.Holds :=
  Mine.top Mine.pure
