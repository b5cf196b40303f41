import PyProof.Rows.All
import PyProof.AttrMissHeap
import PyProof.DictUpdate
import PyProof.DictDisplay
import PyProof.Rows.StrSplitMax
import PyProof.Rows.SortStr
import PyProof.SetRoads
import PyProof.Rows.SetFrom
import Open.Gens
import Open.Head
import OpenK.KMore
import KE.KItem
import KE.KBoundM
import KE.KPop
import KE.KLam
import KE.KDictSum
import KE.KTurns
import KE.KItemsList
import KE.KSortKey
import KE.KPar
import KE.KRevIter
import KE.KSetDisp
import OpenK.XSim
import OpenK.ZSim
import OpenK.XOpen
import Wide.FinOn
import OpenK.AllK
import Wide.All
import PySem.Challenge.RW_kl0465_01
open PySem renaming wpAny_bind → ac, wpAny_execs_cons → af, wpAny_execs_nil → ag, wpAny_pure → ah, wpAny_mono → aj, wpAny_holding → ak, plainObj_wpAny_Assign_Attribute → am, wpAny_Assign_Name → aq, wpAny_Call_ofName → ar, wpAny_truthy_bool → av, wpAny_standAt → aw, wpAny_Constant_none → ax, wpAny_Expr_any → ay, wpAny_isTrue_Compare1 → az, sizeLine_eq → bb
open PySem.Heap renaming get?_push_size → bc, get?_push_of_some → bd, lt_size → bh
open PyProof.Rows renaming MethodCall_ → bj
open Option.some renaming inj → bn
open Bool renaming and_eq_true → bp, false_ne_true → bq
open PySem.Str renaming ofString → br
open List renaming all_eq_true → bs, lookup_cons → bt, mem_cons_of_mem → bw, length_cons → bx, mem_cons → bz, mem_cons_self → cb, mem_singleton → cf, not_mem_nil → cj, length_append → ck
open Array renaming length_toList → cp
open PySem PySem.Calls PyProof.Rows PySem.W
set_option maxRecDepth 100000
set_option Elab.async false
set_option linter.all false
set_option bootstrap.genMatcherCode false
set_option tactic.hygienic false
namespace Mine.Internal
noncomputable section
section
section
universe u1 u2 u3 u4
variable{G:Prop}
theorem xE{α1:Sort _}{p1:α1→Prop}(h:∃x:α1,p1 x)(k:∀x,p1 x→G):G:=h.elim fun x h1=>k x h1
theorem xA{p1 p2:Prop}(h:p1∧p2)(k:p1→p2→G):G:=k h.1 h.2
theorem xEE{α1:Sort _}{α2:Sort _}{p1:α1→α2→Prop}(h:∃x:α1,∃y:α2,p1 x y)(k:∀x,∀y,p1 x y→G):G:=h.elim fun x h1=>h1.elim fun y h2=>k x y h2
theorem xEA{α1:Sort _}{p1 p2:α1→Prop}(h:∃x:α1,p1 x∧p2 x)(k:∀x,p1 x→p2 x→G):G:=h.elim fun x h1=>k x h1.1 h1.2
theorem xAA{p1 p2 p3:Prop}(h:p1∧p2∧p3)(k:p1→p2→p3→G):G:=k h.1 h.2.1 h.2.2
theorem xEEA{α1:Sort _}{α2:Sort _}{p1 p2:α1→α2→Prop}(h:∃x:α1,∃y:α2,p1 x y∧p2 x y)(k:∀x,∀y,p1 x y→p2 x y→G):G:=h.elim fun x h1=>h1.elim fun y h2=>k x y h2.1 h2.2
theorem xEAA{α1:Sort _}{p1 p2 p3:α1→Prop}(h:∃x:α1,p1 x∧p2 x∧p3 x)(k:∀x,p1 x→p2 x→p3 x→G):G:=h.elim fun x h1=>k x h1.1 h1.2.1 h1.2.2
theorem xAAA{p1 p2 p3 p4:Prop}(h:p1∧p2∧p3∧p4)(k:p1→p2→p3→p4→G):G:=k h.1 h.2.1 h.2.2.1 h.2.2.2
theorem xAEA{α1:Sort _}{p1:Prop}{p2 p3:α1→Prop}(h:p1∧∃x:α1,p2 x∧p3 x)(k:p1→∀x,p2 x→p3 x→G):G:=h.2.elim fun x h1=>k h.1 x h1.1 h1.2
theorem xAAE{α1:Sort _}{p1 p2:Prop}{p3:α1→Prop}(h:p1∧p2∧∃x:α1,p3 x)(k:p1→p2→∀x,p3 x→G):G:=h.2.2.elim fun x h1=>k h.1 h.2.1 x h1
theorem xEEEA{α1:Sort _}{α2:Sort _}{α3:Sort _}{p1 p2:α1→α2→α3→Prop}(h:∃x:α1,∃y:α2,∃z:α3,p1 x y z∧p2 x y z)(k:∀x,∀y,∀z,p1 x y z→p2 x y z→G):G:=h.elim fun x h1=>h1.elim fun y h2=>h2.elim fun z h3=>k x y z h3.1 h3.2
theorem xEEAA{α1:Sort _}{α2:Sort _}{p1 p2 p3:α1→α2→Prop}(h:∃x:α1,∃y:α2,p1 x y∧p2 x y∧p3 x y)(k:∀x,∀y,p1 x y→p2 x y→p3 x y→G):G:=h.elim fun x h1=>h1.elim fun y h2=>k x y h2.1 h2.2.1 h2.2.2
theorem xAAAA{p1 p2 p3 p4 p5:Prop}(h:p1∧p2∧p3∧p4∧p5)(k:p1→p2→p3→p4→p5→G):G:=k h.1 h.2.1 h.2.2.1 h.2.2.2.1 h.2.2.2.2
theorem xEEEEA{α1:Sort _}{α2:Sort _}{α3:Sort _}{α4:Sort _}{p1 p2:α1→α2→α3→α4→Prop}(h:∃x:α1,∃y:α2,∃z:α3,∃w:α4,p1 x y z w∧p2 x y z w)(k:∀x,∀y,∀z,∀w,p1 x y z w→p2 x y z w→G):G:=h.elim fun x h1=>h1.elim fun y h2=>h2.elim fun z h3=>h3.elim fun w h4=>k x y z w h4.1 h4.2
theorem xEEAAA{α1:Sort _}{α2:Sort _}{p1 p2 p3 p4:α1→α2→Prop}(h:∃x:α1,∃y:α2,p1 x y∧p2 x y∧p3 x y∧p4 x y)(k:∀x,∀y,p1 x y→p2 x y→p3 x y→p4 x y→G):G:=h.elim fun x h1=>h1.elim fun y h2=>k x y h2.1 h2.2.1 h2.2.2.1 h2.2.2.2
theorem xEEEAA{α1:Sort _}{α2:Sort _}{α3:Sort _}{p1 p2 p3:α1→α2→α3→Prop}(h:∃x:α1,∃y:α2,∃z:α3,p1 x y z∧p2 x y z∧p3 x y z)(k:∀x,∀y,∀z,p1 x y z→p2 x y z→p3 x y z→G):G:=h.elim fun x h1=>h1.elim fun y h2=>h2.elim fun z h3=>k x y z h3.1 h3.2.1 h3.2.2
theorem xEEEAAA{α1:Sort _}{α2:Sort _}{α3:Sort _}{p1 p2 p3 p4:α1→α2→α3→Prop}(h:∃x:α1,∃y:α2,∃z:α3,p1 x y z∧p2 x y z∧p3 x y z∧p4 x y z)(k:∀x,∀y,∀z,p1 x y z→p2 x y z→p3 x y z→p4 x y z→G):G:=h.elim fun x h1=>h1.elim fun y h2=>h2.elim fun z h3=>k x y z h3.1 h3.2.1 h3.2.2.1 h3.2.2.2
theorem xEEAAAA{α1:Sort _}{α2:Sort _}{p1 p2 p3 p4 p5:α1→α2→Prop}(h:∃x:α1,∃y:α2,p1 x y∧p2 x y∧p3 x y∧p4 x y∧p5 x y)(k:∀x,∀y,p1 x y→p2 x y→p3 x y→p4 x y→p5 x y→G):G:=h.elim fun x h1=>h1.elim fun y h2=>k x y h2.1 h2.2.1 h2.2.2.1 h2.2.2.2.1 h2.2.2.2.2
theorem xEEEEAAA{α1:Sort _}{α2:Sort _}{α3:Sort _}{α4:Sort _}{p1 p2 p3 p4:α1→α2→α3→α4→Prop}(h:∃x:α1,∃y:α2,∃z:α3,∃w:α4,p1 x y z w∧p2 x y z w∧p3 x y z w∧p4 x y z w)(k:∀x,∀y,∀z,∀w,p1 x y z w→p2 x y z w→p3 x y z w→p4 x y z w→G):G:=h.elim fun x h1=>h1.elim fun y h2=>h2.elim fun z h3=>h3.elim fun w h4=>k x y z w h4.1 h4.2.1 h4.2.2.1 h4.2.2.2
theorem xEEEEAA{α1:Sort _}{α2:Sort _}{α3:Sort _}{α4:Sort _}{p1 p2 p3:α1→α2→α3→α4→Prop}(h:∃x:α1,∃y:α2,∃z:α3,∃w:α4,p1 x y z w∧p2 x y z w∧p3 x y z w)(k:∀x,∀y,∀z,∀w,p1 x y z w→p2 x y z w→p3 x y z w→G):G:=h.elim fun x h1=>h1.elim fun y h2=>h2.elim fun z h3=>h3.elim fun w h4=>k x y z w h4.1 h4.2.1 h4.2.2
end
section
variable{M:Model}{A:Around}{E:Value→Shared→Prop}{s:Shared}{α:Type}{t e:Sem α}{Q:α→Shared→Prop}{c:Prop}[Decidable c]
theorem wy(hc:c)(h:wpAny M A t Q E s):wpAny M A (if c then t else e) Q E s:=by rw[if_pos hc];exact h
theorem wn(hc:¬c)(h:wpAny M A e Q E s):wpAny M A (if c then t else e) Q E s:=by rw[if_neg hc];exact h
end
theorem below{P:Nat→Prop}{n k:Nat}(h:n<k+1)(a:P k)(b:n<k→P n):P n:=
 (Nat.lt_or_eq_of_le (Nat.le_of_lt_succ h)).elim b fun e=>e▸a
theorem below4{P:Nat→Prop}(a:P 0)(b:P 1)(c:P 2)(d:P 3)(n:Nat)(h:n<4):P n:=
 below (P:=P) h d fun h=>below (P:=P) h c fun h=>below (P:=P) h b fun h=>below (P:=P) h a fun h=>absurd h (Nat.not_lt_zero _)
theorem below9{P:Nat→Prop}(a:P 0)(b:P 1)(c:P 2)(d:P 3)(e:P 4)(f:P 5)(g:P 6)(i:P 7)(j:P 8)(n:Nat)(h:n<9):P n:=
 below (P:=P) h j fun h=>below (P:=P) h i fun h=>below (P:=P) h g fun h=>below (P:=P) h f fun h=>below (P:=P) h e (below4 a b c d n)
theorem below6{P:Nat→Prop}(a:P 0)(b:P 1)(c:P 2)(d:P 3)(e:P 4)(f:P 5)(n:Nat)(h:n<6):P n:=
 below (P:=P) h f fun h=>below (P:=P) h e (below4 a b c d n)
theorem py{c p q:Prop}[Decidable c](hc:c)(h:p):if c then p else q:=by rw[if_pos hc];exact h
theorem pn{c p q:Prop}[Decidable c](hc:¬c)(h:q):if c then p else q:=by rw[if_neg hc];exact h
theorem ex1{M:Model}{A:Around}{st:Stmt}{env:Env}{Q:Flow→Shared→Prop}{E:Value→Shared→Prop}{s:Shared}(h:wpAny M A (exec st env) Q E s):wpAny M A (execs [st] env) Q E s:=
 af (aj h (fun f Y hq=>by cases f<;>first|exact ag hq|exact hq) fun Y Y hq=>hq)
end
noncomputable abbrev pw:Program:=PySem.Challenge.pw_kl0465_01
noncomputable def z(s:String):Str:=br s
noncomputable def zl(l:List Nat):Str:=⟨l.toArray⟩
noncomputable def vs(s:String)(t:Nat):Value:= .str (br s) t
noncomputable def vi(i:Int)(t:Nat):Value:= .int i t
noncomputable def ds(P:Params)(s:String)(t:Nat)(v:Value):DictEntry:=⟨PyData.keyHash P (br s), .str (br s) t,v⟩
structure DefP where
 name:Str
 params:Arguments
 body:List Stmt
 scope:Scope
noncomputable def defP:Stmt→DefP
 | .FunctionDef n a b _ _ _ sc _ _ _=>⟨n,a,b,sc⟩
 |_=>⟨default,default,[],default⟩
noncomputable def nthS:Nat→List Stmt→Stmt
 |_,[]=> .Pass ⟨0,0,0,0⟩
 |0,s::_=>s
 |n+1,_::r=>nthS n r
noncomputable def dT(i:Nat):DefP:=defP (nthS i pw.main.body)
noncomputable def dC(i j:Nat):DefP:=match nthS i pw.main.body with
 | .ClassDef _ _ _ b _ _ _ _ _ _ _=>defP (nthS j b)
 |_=>⟨default,default,[],default⟩
noncomputable def fd(d:DefP)(qual:Str)(globals:Addr)(dflt kwd mod code:Value)(blt:Addr):FuncData:=
 {name:=d.name,qualname:=qual,params:=d.params,body:= .stmts d.body,scope:=d.scope,globals,closure:=[],defaults:=dflt,kwdefaults:=kwd,pyModule:=mod,code,builtins:=blt}
noncomputable def tu(l:Array Value):Obj:=⟨.type "tuple",none, .seq l 0, #[]⟩
noncomputable def fl(l:Array Value):Obj:=⟨.none,none, .fields l, #[]⟩
noncomputable def fz(d:DefP)(s:String):Obj:=⟨.none,none, .func (fd d (z s) 0 .none .none .none .none 0), #[]⟩
noncomputable def fu(d:DefP)(s:String)(v:Value)(a:Addr):Obj:=⟨.type "function",none, .func (fd d (z s) 3 .none .none v (.ref a) 0), #[]⟩
noncomputable def co(A B:String)(t:Nat)(L e f g k:Int)(a:Addr)(b:Bool)(m:Int)(c:Addr)(x y u v:Value)(n:Int)(o:Nat):Obj:=⟨.type "code",none, .fields #[vs A t,vs B (t+1),vs "/claim/cut.py" (t+2),vi L 0,vi e 0,vi f 0,vi g 0,vi k 0, .ref a, .bool b,vi m 0, .ref c,x,y,u,v,vi n 0,vi L 0,vs "/claim/cut.py" o], #[]⟩
noncomputable def db(P:Params)(s:String)(t:Nat):DictEntry:=ds P s t (.builtin s)
noncomputable def dt(P:Params)(s:String)(t:Nat):DictEntry:=ds P s t (.type s)
noncomputable def ob0(P:Params):Obj:=⟨(.type "dict"),none,(.dict #[ds P "__name__" 1 (vs "builtins" 160),ds P "__doc__" 2 (.builtin "builtins.__doc__:str#opaque"),ds P "__package__" 3 (.builtin "builtins.__package__:str#opaque"),ds P "__loader__" 4 (.builtin "builtins.__loader__:shared#opaque"),ds P "__spec__" 5 (.builtin "builtins.__spec__#opaque"),db P "__build_class__" 6,db P "__import__" 7,db P "abs" 8,db P "all" 9,db P "any" 10,db P "ascii" 11,db P "bin" 12,db P "breakpoint" 13,db P "callable" 14,db P "chr" 15,db P "compile" 16,db P "delattr" 17,db P "dir" 18,db P "divmod" 19,db P "eval" 20,db P "exec" 21,db P "format" 22,db P "getattr" 23,db P "globals" 24,db P "hasattr" 25,db P "hash" 26,db P "hex" 27,db P "id" 28,db P "input" 29,db P "isinstance" 30,db P "issubclass" 31,db P "iter" 32,db P "aiter" 33,db P "len" 34,db P "locals" 35,db P "max" 36,db P "min" 37,db P "next" 38,db P "anext" 39,db P "oct" 40,db P "ord" 41,db P "pow" 42,db P "print" 43,db P "repr" 44,db P "round" 45,db P "setattr" 46,db P "sorted" 47,db P "sum" 48,db P "vars" 49,ds P "None" 50 .none,ds P "Ellipsis" 51 .ellipsis,ds P "NotImplemented" 52 .notImplemented,ds P "False" 53 (.bool false),ds P "True" 54 (.bool true),dt P "bool" 55,dt P "memoryview" 56,dt P "bytearray" 57,dt P "bytes" 58,dt P "classmethod" 59,dt P "complex" 60,dt P "dict" 61,dt P "enumerate" 62,dt P "filter" 63,dt P "float" 64,dt P "frozenset" 65,dt P "property" 66,dt P "int" 67,dt P "list" 68,dt P "map" 69,dt P "object" 70,dt P "range" 71,dt P "reversed" 72,dt P "set" 73,dt P "slice" 74,dt P "staticmethod" 75,dt P "str" 76,dt P "super" 77,dt P "tuple" 78,dt P "type" 79,dt P "zip" 80,ds P "__debug__" 81 (.bool true),dt P "BaseException" 82,dt P "BaseExceptionGroup" 83,dt P "Exception" 84,dt P "GeneratorExit" 85,dt P "KeyboardInterrupt" 86,dt P "SystemExit" 87,dt P "ArithmeticError" 88,dt P "AssertionError" 89,dt P "AttributeError" 90,dt P "BufferError" 91,dt P "EOFError" 92,dt P "ImportError" 93,dt P "LookupError" 94,dt P "MemoryError" 95,dt P "NameError" 96,dt P "OSError" 97,dt P "ReferenceError" 98,dt P "RuntimeError" 99,dt P "StopAsyncIteration" 100,dt P "StopIteration" 101,dt P "SyntaxError" 102,dt P "SystemError" 103,dt P "TypeError" 104,dt P "ValueError" 105,dt P "Warning" 106,dt P "FloatingPointError" 107,dt P "OverflowError" 108,dt P "ZeroDivisionError" 109,dt P "BytesWarning" 110,dt P "DeprecationWarning" 111,dt P "EncodingWarning" 112,dt P "FutureWarning" 113,dt P "ImportWarning" 114,dt P "PendingDeprecationWarning" 115,dt P "ResourceWarning" 116,dt P "RuntimeWarning" 117,dt P "SyntaxWarning" 118,dt P "UnicodeWarning" 119,dt P "UserWarning" 120,dt P "BlockingIOError" 121,dt P "ChildProcessError" 122,dt P "ConnectionError" 123,dt P "FileExistsError" 124,dt P "FileNotFoundError" 125,dt P "InterruptedError" 126,dt P "IsADirectoryError" 127,dt P "NotADirectoryError" 128,dt P "PermissionError" 129,dt P "ProcessLookupError" 130,dt P "TimeoutError" 131,dt P "IndentationError" 132,dt P "_IncompleteInputError" 133,dt P "IndexError" 134,dt P "KeyError" 135,dt P "ModuleNotFoundError" 136,dt P "NotImplementedError" 137,dt P "PythonFinalizationError" 138,dt P "RecursionError" 139,dt P "UnboundLocalError" 140,dt P "UnicodeError" 141,dt P "BrokenPipeError" 142,dt P "ConnectionAbortedError" 143,dt P "ConnectionRefusedError" 144,dt P "ConnectionResetError" 145,dt P "TabError" 146,dt P "UnicodeDecodeError" 147,dt P "UnicodeEncodeError" 148,dt P "UnicodeTranslateError" 149,dt P "ExceptionGroup" 150,ds P "EnvironmentError" 151 (.type "OSError"),ds P "IOError" 152 (.type "OSError"),db P "open" 153,ds P "quit" 154 (.builtin "builtins.quit#opaque"),ds P "exit" 155 (.builtin "builtins.exit#opaque"),ds P "copyright" 156 (.builtin "builtins.copyright#opaque"),ds P "credits" 157 (.builtin "builtins.credits#opaque"),ds P "license" 158 (.builtin "builtins.license#opaque"),ds P "help" 159 (.builtin "builtins.help#opaque")] 159), #[]⟩
noncomputable def ob1(P:Params):Obj:=⟨(.type "dict"),none,(.dict #[ds P "builtins" 162 (.ref 4),ds P "__main__" 163 (.ref 5),ds P "_sre" 244 (.ref 12)] 3), #[]⟩
noncomputable def ob2(P:Params):Obj:=⟨.none,none,(.dict #[ds P "\x69mport.loaded._sre" 183 (.bool true),ds P "class._frozen_importlib.BuiltinImporter" 185 (.ref 14),ds P "watched.\x69mport" 206 (.ref 18),ds P "class._frozen_importlib.ModuleSpec" 216 (.ref 22),ds P "sys.modules.booked-epoch" 245 (vi 3 0),ds P "\x69mport.later-laid._sre" 270 (.bool true),ds P "watched.library" 272 (.ref 27),ds P "watched.library-objects" 0 (.str (zl [12]) 0),ds P "watched.library-deep._sre" 273 (.str (zl [4,0,0,11,4,0,0,11,4,0,0,3,4,0,0,11,8,4,100,105,99,116,2]) 0)] 9), #[]⟩
noncomputable def ob3(P:Params):Obj:=⟨(.type "dict"),none,(.dict #[ds P "__name__" 165 (vs "law_kl0465_01" 2807),ds P "__doc__" 166 .none,ds P "__package__" 167 .none,ds P "__loader__" 168 (.builtin "__main__.__loader__#opaque"),ds P "__spec__" 169 .none,ds P "__annotations__" 170 (.ref 6),ds P "__builtins__" 171 (.ref 4),ds P "__file__" 173 (vs "/claim/cut.py" 172),ds P "__cached__" 174 .none,ds P "_sre" 275 (.ref 12),ds P "_wall" 288 (.ref 38),ds P "_MAX_STRING_SIZE" 292 (vi 40 291),ds P "_MOVE_COST" 294 (vi 2 293),ds P "_CASE_COST" 296 (vi 1 295),ds P "_substitution_cost" 304 (.ref 45),ds P "_levenshtein_distance" 324 (.ref 52),ds P "b1_set" 386 (.ref 60),ds P "in_table_b1" 393 (.ref 70),ds P "b3_exceptions" 2344 (.ref 71),ds P "map_table_b3" 2352 (.ref 116),ds P "ENDMARKER" 2356 (vi 0 2355),ds P "LPAR" 2358 (vi 7 2357),ds P "RPAR" 2360 (vi 8 2359),ds P "LSQB" 2362 (vi 9 2361),ds P "RSQB" 2364 (vi 10 2363),ds P "COLON" 2366 (vi 11 2365),ds P "COMMA" 2368 (vi 12 2367),ds P "SEMI" 2370 (vi 13 2369),ds P "PLUS" 2372 (vi 14 2371),ds P "MINUS" 2374 (vi 15 2373),ds P "STAR" 2376 (vi 16 2375),ds P "SLASH" 2378 (vi 17 2377),ds P "VBAR" 2380 (vi 18 2379),ds P "AMPER" 2382 (vi 19 2381),ds P "LESS" 2384 (vi 20 2383),ds P "GREATER" 2386 (vi 21 2385),ds P "EQUAL" 2388 (vi 22 2387),ds P "DOT" 2390 (vi 23 2389),ds P "PERCENT" 2392 (vi 24 2391),ds P "LBRACE" 2394 (vi 25 2393),ds P "RBRACE" 2396 (vi 26 2395),ds P "EQEQUAL" 2398 (vi 27 2397),ds P "NOTEQUAL" 2400 (vi 28 2399),ds P "LESSEQUAL" 2402 (vi 29 2401),ds P "GREATEREQUAL" 2404 (vi 30 2403),ds P "TILDE" 2406 (vi 31 2405),ds P "CIRCUMFLEX" 2408 (vi 32 2407),ds P "LEFTSHIFT" 2410 (vi 33 2409),ds P "RIGHTSHIFT" 2412 (vi 34 2411),ds P "DOUBLESTAR" 2414 (vi 35 2413),ds P "PLUSEQUAL" 2416 (vi 36 2415),ds P "MINEQUAL" 2418 (vi 37 2417),ds P "STAREQUAL" 2420 (vi 38 2419),ds P "SLASHEQUAL" 2422 (vi 39 2421),ds P "PERCENTEQUAL" 2424 (vi 40 2423),ds P "AMPEREQUAL" 2426 (vi 41 2425),ds P "VBAREQUAL" 2428 (vi 42 2427),ds P "CIRCUMFLEXEQUAL" 2430 (vi 43 2429),ds P "LEFTSHIFTEQUAL" 2432 (vi 44 2431),ds P "RIGHTSHIFTEQUAL" 2434 (vi 45 2433),ds P "DOUBLESTAREQUAL" 2436 (vi 46 2435),ds P "DOUBLESLASH" 2438 (vi 47 2437),ds P "DOUBLESLASHEQUAL" 2440 (vi 48 2439),ds P "AT" 2442 (vi 49 2441),ds P "ATEQUAL" 2444 (vi 50 2443),ds P "RARROW" 2446 (vi 51 2445),ds P "ELLIPSIS" 2448 (vi 52 2447),ds P "COLONEQUAL" 2450 (vi 53 2449),ds P "EXCLAMATION" 2452 (vi 54 2451),ds P "EXACT_TOKEN_TYPES" 2549 (.ref 117),ds P "ISEOF" 2556 (.ref 126),ds P "_twin_re_1" 2596 (.ref 131),ds P "_namespace_map" 2618 (.ref 132),ds P "_raise_serialization_error" 2625 (.ref 139),ds P "_looks_like_prefix_name" 2627 (.ref 140),ds P "C14NWriterTarget" 2792 (.ref 238),ds P "_escape_cdata_c14n" 2799 (.ref 249),ds P "_escape_attrib_c14n" 2806 (.ref 256),ds P "_law_tell" 2819 (.ref 263),ds P "_law_word" 2825 (.ref 268),ds P "_law_words" 2838 (.ref 275),ds P "law" 2844 (.ref 280)] 82), #[]⟩
noncomputable def ob4(P:Params):Obj:=⟨(.type "module"),(some 0), .plain, #[]⟩
noncomputable def ob5(P:Params):Obj:=⟨(.type "module"),(some 3), .plain, #[]⟩
noncomputable def ob6(P:Params):Obj:=⟨(.type "dict"),none,(.dict #[] 0), #[]⟩
noncomputable def ob7(P:Params):Obj:=tu #[]
noncomputable def ob8(P:Params):Obj:=fl #[]
noncomputable def ob9(P:Params):Obj:=co "<module>" "<module>" 176 1 0 0 0 0 7 false 175 8 .none .none .none .none 179 180
noncomputable def ob10(P:Params):Obj:=⟨(.type "frame"),none, .plain, #[(some (.ref 9)),(some (.ref 3)),(some (.ref 3)),none,(some (vs "__main__" 164)),none,(some (.ref 0))]⟩
noncomputable def ob11(P:Params):Obj:=⟨(.type "dict"),none,(.dict #[ds P "__name__" 247 (vs "_sre" 246),ds P "__doc__" 248 .none,ds P "__package__" 250 (vs "" 249),ds P "__loader__" 251 (.builtin "off-the-table:_sre.__loader__:shared#opaque"),ds P "__spec__" 252 (.builtin "off-the-table:_sre.__spec__:shared#opaque"),ds P "compile" 253 (.builtin "_sre.compile"),ds P "template" 254 (.builtin "off-the-table:_sre.template:shared#opaque"),ds P "getcodesize" 255 (.builtin "off-the-table:_sre.getcodesize:shared#opaque"),ds P "ascii_iscased" 256 (.builtin "off-the-table:_sre.ascii_iscased:shared#opaque"),ds P "unicode_iscased" 257 (.builtin "off-the-table:_sre.unicode_iscased:shared#opaque"),ds P "ascii_tolower" 258 (.builtin "off-the-table:_sre.ascii_tolower:shared#opaque"),ds P "unicode_tolower" 259 (.builtin "off-the-table:_sre.unicode_tolower:shared#opaque"),ds P "MAGIC" 261 (vi 20230612 260),ds P "CODESIZE" 263 (vi 4 262),ds P "MAXREPEAT" 265 (vi 4294967295 264),ds P "MAXGROUPS" 267 (vi 1073741823 266),ds P "copyright" 269 (vs " SRE 2.2.2 Copyright (c) 1997-2002 by Secret Labs AB " 268)] 17), #[]⟩
noncomputable def ob12(P:Params):Obj:=⟨(.type "module"),(some 11), .plain, #[]⟩
noncomputable def ob13(P:Params):Obj:=⟨(.type "dict"),none,(.dict #[ds P "__module__" 189 (vs "_frozen_importlib" 186),ds P "__firstlineno__" 190 (vi 971 187),ds P "__doc__" 191 (.builtin "_frozen_importlib.BuiltinImporter.__doc__:str#opaque"),ds P "_ORIGIN" 192 (vs "built-in" 188),ds P "find_spec" 193 (.builtin "_frozen_importlib.BuiltinImporter.find_spec#opaque"),ds P "create_module" 194 (.builtin "_frozen_importlib.BuiltinImporter.create_module#opaque"),ds P "exec_module" 195 (.builtin "_frozen_importlib.BuiltinImporter.exec_module#opaque"),ds P "get_code" 196 (.builtin "_frozen_importlib.BuiltinImporter.get_code#opaque"),ds P "get_source" 197 (.builtin "_frozen_importlib.BuiltinImporter.get_source#opaque"),ds P "is_package" 198 (.builtin "_frozen_importlib.BuiltinImporter.is_package#opaque"),ds P "load_module" 199 (.builtin "_frozen_importlib.BuiltinImporter.load_module#opaque"),ds P "__static_attributes__" 200 (.ref 15),ds P "__dict__" 202 (.ref 16),ds P "__weakref__" 204 (.ref 17)] 14), #[]⟩
noncomputable def ob14(P:Params):Obj:=⟨(.type "type"),none,(.cls ⟨(z "BuiltinImporter"),[(.type "object")],[(.ref 14),(.type "object")],13,(z "BuiltinImporter"),true,[],[],false,none,false⟩), #[]⟩
noncomputable def ob15(P:Params):Obj:=tu #[]
noncomputable def ob16(P:Params):Obj:=⟨(.type "getset_descriptor"),none,(.fields #[(vs "__dict__" 201),(.ref 14),(.builtin "function.__dict__"),(.builtin "function.__dict__#set")]), #[]⟩
noncomputable def ob17(P:Params):Obj:=⟨(.type "getset_descriptor"),none,(.fields #[(vs "__weakref__" 203),(.ref 14),(.builtin "ExceptionGroup.__weakref__"), .none]), #[]⟩
noncomputable def ob18(P:Params):Obj:=⟨.none,none,(.seq #[(vi 13 0),(.str (zl [6,189,10,95,95,109,111,100,117,108,101,95,95,6,186,17,95,102,114,111,122,101,110,95,105,109,112,111,114,116,108,105,98,6,190,15,95,95,102,105,114,115,116,108,105,110,101,110,111,95,95,4,187,0,971,6,191,7,95,95,100,111,99,95,95,9,52,95,102,114,111,122,101,110,95,105,109,112,111,114,116,108,105,98,46,66,117,105,108,116,105,110,73,109,112,111,114,116,101,114,46,95,95,100,111,99,95,95,58,115,116,114,35,111,112,97,113,117,101,6,192,7,95,79,82,73,71,73,78,6,188,8,98,117,105,108,116,45,105,110,6,193,9,102,105,110,100,95,115,112,101,99,9,50,95,102,114,111,122,101,110,95,105,109,112,111,114,116,108,105,98,46,66,117,105,108,116,105,110,73,109,112,111,114,116,101,114,46,102,105,110,100,95,115,112,101,99,35,111,112,97,113,117,101,6,194,13,99,114,101,97,116,101,95,109,111,100,117,108,101,9,54,95,102,114,111,122,101,110,95,105,109,112,111,114,116,108,105,98,46,66,117,105,108,116,105,110,73,109,112,111,114,116,101,114,46,99,114,101,97,116,101,95,109,111,100,117,108,101,35,111,112,97,113,117,101,6,195,11,101,120,101,99,95,109,111,100,117,108,101,9,52,95,102,114,111,122,101,110,95,105,109,112,111,114,116,108,105,98,46,66,117,105,108,116,105,110,73,109,112,111,114,116,101,114,46,101,120,101,99,95,109,111,100,117,108,101,35,111,112,97,113,117,101,6,196,8,103,101,116,95,99,111,100,101,9,49,95,102,114,111,122,101,110,95,105,109,112,111,114,116,108,105,98,46,66,117,105,108,116,105,110,73,109,112,111,114,116,101,114,46,103,101,116,95,99,111,100,101,35,111,112,97,113,117,101,6,197,10,103,101,116,95,115,111,117,114,99,101,9,51,95,102,114,111,122,101,110,95,105,109,112,111,114,116,108,105,98,46,66,117,105,108,116,105,110,73,109,112,111,114,116,101,114,46,103,101,116,95,115,111,117,114,99,101,35,111,112,97,113,117,101,6,198,10,105,115,95,112,97,99,107,97,103,101,9,51,95,102,114,111,122,101,110,95,105,109,112,111,114,116,108,105,98,46,66,117,105,108,116,105,110,73,109,112,111,114,116,101,114,46,105,115,95,112,97,99,107,97,103,101,35,111,112,97,113,117,101,6,199,11,108,111,97,100,95,109,111,100,117,108,101,9,52,95,102,114,111,122,101,110,95,105,109,112,111,114,116,108,105,98,46,66,117,105,108,116,105,110,73,109,112,111,114,116,101,114,46,108,111,97,100,95,109,111,100,117,108,101,35,111,112,97,113,117,101,6,200,21,95,95,115,116,97,116,105,99,95,97,116,116,114,105,98,117,116,101,115,95,95,4,0,0,15,6,202,8,95,95,100,105,99,116,95,95,4,0,0,16,6,204,11,95,95,119,101,97,107,114,101,102,95,95,4,0,0,17]) 0),(.bool true),(.bool true),(vs "" 205),(vi 21 0),(.str (zl [6,227,10,95,95,109,111,100,117,108,101,95,95,6,217,17,95,102,114,111,122,101,110,95,105,109,112,111,114,116,108,105,98,6,228,15,95,95,102,105,114,115,116,108,105,110,101,110,111,95,95,4,218,0,562,6,229,7,95,95,100,111,99,95,95,9,47,95,102,114,111,122,101,110,95,105,109,112,111,114,116,108,105,98,46,77,111,100,117,108,101,83,112,101,99,46,95,95,100,111,99,95,95,58,115,116,114,35,111,112,97,113,117,101,6,230,8,95,95,105,110,105,116,95,95,9,44,95,102,114,111,122,101,110,95,105,109,112,111,114,116,108,105,98,46,77,111,100,117,108,101,83,112,101,99,46,95,95,105,110,105,116,95,95,35,111,112,97,113,117,101,6,231,8,95,95,114,101,112,114,95,95,9,44,95,102,114,111,122,101,110,95,105,109,112,111,114,116,108,105,98,46,77,111,100,117,108,101,83,112,101,99,46,95,95,114,101,112,114,95,95,35,111,112,97,113,117,101,6,232,6,95,95,101,113,95,95,9,42,95,102,114,111,122,101,110,95,105,109,112,111,114,116,108,105,98,46,77,111,100,117,108,101,83,112,101,99,46,95,95,101,113,95,95,35,111,112,97,113,117,101,6,233,6,99,97,99,104,101,100,9,42,95,102,114,111,122,101,110,95,105,109,112,111,114,116,108,105,98,46,77,111,100,117,108,101,83,112,101,99,46,99,97,99,104,101,100,35,111,112,97,113,117,101,6,234,6,112,97,114,101,110,116,9,42,95,102,114,111,122,101,110,95,105,109,112,111,114,116,108,105,98,46,77,111,100,117,108,101,83,112,101,99,46,112,97,114,101,110,116,35,111,112,97,113,117,101,6,235,12,104,97,115,95,108,111,99,97,116,105,111,110,9,48,95,102,114,111,122,101,110,95,105,109,112,111,114,116,108,105,98,46,77,111,100,117,108,101,83,112,101,99,46,104,97,115,95,108,111,99,97,116,105,111,110,35,111,112,97,113,117,101,6,236,21,95,95,115,116,97,116,105,99,95,97,116,116,114,105,98,117,116,101,115,95,95,4,0,0,23,6,238,8,95,95,100,105,99,116,95,95,4,0,0,24,6,240,11,95,95,119,101,97,107,114,101,102,95,95,4,0,0,25,6,241,8,95,95,104,97,115,104,95,95,0]) 0),(.bool true),(.bool true),(vs "" 242)] 1), #[]⟩
noncomputable def ob19(P:Params):Obj:=⟨(.type "list"),none,(.seq #[] 0), #[]⟩
noncomputable def ob20(P:Params):Obj:=⟨(.type "dict"),none,(.dict #[ds P "name" 208 (vs "_sre" 207),ds P "loader" 209 (.ref 14),ds P "origin" 210 (vs "built-in" 184),ds P "loader_state" 211 .none,ds P "submodule_search_locations" 212 .none,ds P "_uninitialized_submodules" 213 (.ref 19),ds P "_set_fileattr" 214 (.bool false),ds P "_cached" 215 .none,ds P "_initializing" 243 (.bool false)] 9), #[]⟩
noncomputable def ob21(P:Params):Obj:=⟨(.type "dict"),none,(.dict #[ds P "__module__" 227 (vs "_frozen_importlib" 217),ds P "__firstlineno__" 228 (vi 562 218),ds P "__doc__" 229 (.builtin "_frozen_importlib.ModuleSpec.__doc__:str#opaque"),ds P "__init__" 230 (.builtin "_frozen_importlib.ModuleSpec.__init__#opaque"),ds P "__repr__" 231 (.builtin "_frozen_importlib.ModuleSpec.__repr__#opaque"),ds P "__eq__" 232 (.builtin "_frozen_importlib.ModuleSpec.__eq__#opaque"),ds P "cached" 233 (.builtin "_frozen_importlib.ModuleSpec.cached#opaque"),ds P "parent" 234 (.builtin "_frozen_importlib.ModuleSpec.parent#opaque"),ds P "has_location" 235 (.builtin "_frozen_importlib.ModuleSpec.has_location#opaque"),ds P "__static_attributes__" 236 (.ref 23),ds P "__dict__" 238 (.ref 24),ds P "__weakref__" 240 (.ref 25),ds P "__hash__" 241 .none] 13), #[]⟩
noncomputable def ob22(P:Params):Obj:=⟨(.type "type"),none,(.cls ⟨(z "ModuleSpec"),[(.type "object")],[(.ref 22),(.type "object")],21,(z "ModuleSpec"),true,[],[],false,none,false⟩), #[]⟩
noncomputable def ob23(P:Params):Obj:=tu #[(vs "_cached" 219),(vs "_set_fileattr" 220),(vs "_uninitialized_submodules" 221),(vs "loader" 222),(vs "loader_state" 223),(vs "name" 224),(vs "origin" 225),(vs "submodule_search_locations" 226)]
noncomputable def ob24(P:Params):Obj:=⟨(.type "getset_descriptor"),none,(.fields #[(vs "__dict__" 237),(.ref 22),(.builtin "function.__dict__"),(.builtin "function.__dict__#set")]), #[]⟩
noncomputable def ob25(P:Params):Obj:=⟨(.type "getset_descriptor"),none,(.fields #[(vs "__weakref__" 239),(.ref 22),(.builtin "ExceptionGroup.__weakref__"), .none]), #[]⟩
noncomputable def ob26(P:Params):Obj:=⟨(.ref 22),(some 20), .plain, #[]⟩
noncomputable def ob27(P:Params):Obj:=⟨.none,none,(.seq #[(vi 11 0),(.str (zl [6,247,8,95,95,110,97,109,101,95,95,6,246,4,95,115,114,101,6,248,7,95,95,100,111,99,95,95,0,6,250,11,95,95,112,97,99,107,97,103,101,95,95,6,249,0,6,251,10,95,95,108,111,97,100,101,114,95,95,4,0,0,14,6,252,8,95,95,115,112,101,99,95,95,4,0,0,26,6,253,7,99,111,109,112,105,108,101,9,12,95,115,114,101,46,99,111,109,112,105,108,101,6,254,8,116,101,109,112,108,97,116,101,9,13,95,115,114,101,46,116,101,109,112,108,97,116,101,6,255,11,103,101,116,99,111,100,101,115,105,122,101,9,16,95,115,114,101,46,103,101,116,99,111,100,101,115,105,122,101,6,256,13,97,115,99,105,105,95,105,115,99,97,115,101,100,9,18,95,115,114,101,46,97,115,99,105,105,95,105,115,99,97,115,101,100,6,257,15,117,110,105,99,111,100,101,95,105,115,99,97,115,101,100,9,20,95,115,114,101,46,117,110,105,99,111,100,101,95,105,115,99,97,115,101,100,6,258,13,97,115,99,105,105,95,116,111,108,111,119,101,114,9,18,95,115,114,101,46,97,115,99,105,105,95,116,111,108,111,119,101,114,6,259,15,117,110,105,99,111,100,101,95,116,111,108,111,119,101,114,9,20,95,115,114,101,46,117,110,105,99,111,100,101,95,116,111,108,111,119,101,114,6,261,5,77,65,71,73,67,4,260,0,20230612,6,263,8,67,79,68,69,83,73,90,69,4,262,0,4,6,265,9,77,65,88,82,69,80,69,65,84,4,264,0,4294967295,6,267,9,77,65,88,71,82,79,85,80,83,4,266,0,1073741823,6,269,9,99,111,112,121,114,105,103,104,116,6,268,53,32,83,82,69,32,50,46,50,46,50,32,67,111,112,121,114,105,103,104,116,32,40,99,41,32,49,57,57,55,45,50,48,48,50,32,98,121,32,83,101,99,114,101,116,32,76,97,98,115,32,65,66,32]) 0),(.bool true),(.bool false),(vs "_sre" 271)] 0), #[]⟩
noncomputable def ob28(P:Params):Obj:=tu #[]
noncomputable def ob29(P:Params):Obj:=fl #[(vi 2 0),(vi 0 0),(.ref 37),(vi 9 0),(vi 0 0),(.ref 44),(vi 15 0),(vi 0 0),(.ref 51),(vi 55 0),(vi 0 0),(.ref 69),(vi 58 0),(vi 0 0),(.ref 115),(vi 114 0),(vi 0 0),(.ref 125),(vi 119 0),(vi 0 0),(.ref 138),(vi 122 0),(vi 0 0),(.ref 146),(vi 297 0),(vi 0 0),(.ref 248),(vi 310 0),(vi 0 0),(.ref 255),(vi 328 0),(vi 0 0),(.ref 262),(vi 334 0),(vi 0 0),(.ref 267),(vi 336 0),(vi 0 0),(.ref 274),(vi 357 0),(vi 0 0),(.ref 279)]
noncomputable def ob30(P:Params):Obj:=co "<module>" "<module>" 277 1 0 0 0 0 28 false 276 29 .none .none .none .none 280 281
noncomputable def ob31(P:Params):Obj:=⟨(.type "frame"),none, .plain, #[(some (.ref 30)),(some (.ref 3)),(some (.ref 3)),none,(some (vs "__main__" 164)),none,(some (.ref 0))]⟩
noncomputable def ob32(P:Params):Obj:=tu #[]
noncomputable def ob33(P:Params):Obj:=fl #[]
noncomputable def ob34(P:Params):Obj:=tu #[(vs "k" 285)]
noncomputable def ob35(P:Params):Obj:=tu #[]
noncomputable def ob36(P:Params):Obj:=fz (dT 1) "_wall"
noncomputable def ob37(P:Params):Obj:=co "_wall" "_wall" 282 2 1 0 0 3 32 true 276 33 .none (.ref 34) (.ref 35) (.ref 36) 286 287
noncomputable def ob38(P:Params):Obj:=fu (dT 1) "_wall" (vs "__main__" 164) 37
noncomputable def ob39(P:Params):Obj:=tu #[]
noncomputable def ob40(P:Params):Obj:=fl #[]
noncomputable def ob41(P:Params):Obj:=tu #[(vs "ch_a" 300),(vs "ch_b" 301)]
noncomputable def ob42(P:Params):Obj:=tu #[]
noncomputable def ob43(P:Params):Obj:=fz (dT 6) "_substitution_cost"
noncomputable def ob44(P:Params):Obj:=co "_substitution_cost" "_substitution_cost" 297 9 2 0 0 3 39 true 276 40 .none (.ref 41) (.ref 42) (.ref 43) 302 303
noncomputable def ob45(P:Params):Obj:=fu (dT 6) "_substitution_cost" (vs "cpy313.traceback" 289) 44
noncomputable def ob46(P:Params):Obj:=tu #[]
noncomputable def ob47(P:Params):Obj:=fl #[]
noncomputable def ob48(P:Params):Obj:=tu #[(vs "a" 308),(vs "b" 309),(vs "max_cost" 310),(vs "pre" 311),(vs "post" 312),(vs "row" 313),(vs "result" 314),(vs "bindex" 315),(vs "bchar" 316),(vs "distance" 317),(vs "minimum" 318),(vs "index" 319),(vs "substitute" 320),(vs "insert_delete" 321)]
noncomputable def ob49(P:Params):Obj:=tu #[]
noncomputable def ob50(P:Params):Obj:=fz (dT 7) "_levenshtein_distance"
noncomputable def ob51(P:Params):Obj:=co "_levenshtein_distance" "_levenshtein_distance" 305 15 3 0 0 3 46 true 276 47 .none (.ref 48) (.ref 49) (.ref 50) 322 323
noncomputable def ob52(P:Params):Obj:=fu (dT 7) "_levenshtein_distance" (vs "cpy313.traceback" 289) 51
noncomputable def ob53(P:Params):Obj:=⟨(.type "list"),none,(.seq #[(vi 173 327),(vi 847 328),(vi 6150 329),(vi 6155 330),(vi 6156 331),(vi 6157 332),(vi 8203 333),(vi 8204 334),(vi 8205 335),(vi 8288 336),(vi 65279 337)] 0), #[]⟩
noncomputable def ob54(P:Params):Obj:=⟨(.type "range"),none,(.fields #[(vi 65024 338),(vi 65040 339),(vi 1 340)]), #[]⟩
noncomputable def ob55(P:Params):Obj:=⟨(.type "list"),none,(.seq #[(vi 65024 343),(vi 65025 344),(vi 65026 345),(vi 65027 346),(vi 65028 347),(vi 65029 348),(vi 65030 349),(vi 65031 350),(vi 65032 351),(vi 65033 352),(vi 65034 353),(vi 65035 354),(vi 65036 355),(vi 65037 356),(vi 65038 357),(vi 65039 358)] 18), #[]⟩
noncomputable def ob56(P:Params):Obj:=⟨(.type "range_iterator"),none,(.fields #[(vi 65040 0),(vi 0 0),(vi 1 0)]), #[]⟩
noncomputable def ob57(P:Params):Obj:=tu #[]
noncomputable def ob58(P:Params):Obj:=⟨(.type "StopIteration"),none,(.fields #[(.ref 57), .none, .none, .none,(.bool false), .none]), #[]⟩
noncomputable def ob59(P:Params):Obj:=⟨(.type "list"),none,(.seq #[(vi 173 327),(vi 847 328),(vi 6150 329),(vi 6155 330),(vi 6156 331),(vi 6157 332),(vi 8203 333),(vi 8204 334),(vi 8205 335),(vi 8288 336),(vi 65279 337),(vi 65024 343),(vi 65025 344),(vi 65026 345),(vi 65027 346),(vi 65028 347),(vi 65029 348),(vi 65030 349),(vi 65031 350),(vi 65032 351),(vi 65033 352),(vi 65034 353),(vi 65035 354),(vi 65036 355),(vi 65037 356),(vi 65038 357),(vi 65039 358)] 0), #[]⟩
noncomputable def ob60(P:Params):Obj:=⟨(.type "set"),none,(.set #[(65024,(vi 65024 343)),(65025,(vi 65025 344)),(65026,(vi 65026 345)),(65027,(vi 65027 346)),(65028,(vi 65028 347)),(65029,(vi 65029 348)),(6150,(vi 6150 329)),(65030,(vi 65030 349)),(65031,(vi 65031 350)),(65032,(vi 65032 351)),(65033,(vi 65033 352)),(6155,(vi 6155 330)),(6156,(vi 6156 331)),(6157,(vi 6157 332)),(8203,(vi 8203 333)),(8204,(vi 8204 334)),(8205,(vi 8205 335)),(65034,(vi 65034 353)),(65035,(vi 65035 354)),(65036,(vi 65036 355)),(65037,(vi 65037 356)),(65038,(vi 65038 357)),(65039,(vi 65039 358)),(173,(vi 173 327)),(847,(vi 847 328)),(8288,(vi 8288 336)),(65279,(vi 65279 337))] 29 ⟨127, #[0,1,2,3,4,5,6,7,8,9,10,11,12,13,14,15,16,17,18,19,20,21,22,45,79,96,127], #[],0,!P.followText "set-order",2,true⟩), #[]⟩
noncomputable def ob61(P:Params):Obj:=⟨(.type "list_iterator"),none,(.fields #[.none,(vi 27 0)]), #[]⟩
noncomputable def ob62(P:Params):Obj:=tu #[]
noncomputable def ob63(P:Params):Obj:=⟨(.type "StopIteration"),none,(.fields #[(.ref 62), .none, .none, .none,(.bool false), .none]), #[]⟩
noncomputable def ob64(P:Params):Obj:=tu #[]
noncomputable def ob65(P:Params):Obj:=fl #[]
noncomputable def ob66(P:Params):Obj:=tu #[(vs "code" 390)]
noncomputable def ob67(P:Params):Obj:=tu #[]
noncomputable def ob68(P:Params):Obj:=fz (dT 10) "in_table_b1"
noncomputable def ob69(P:Params):Obj:=co "in_table_b1" "in_table_b1" 387 55 1 0 0 3 64 true 276 65 .none (.ref 66) (.ref 67) (.ref 68) 391 392
noncomputable def ob70(P:Params):Obj:=fu (dT 10) "in_table_b1" (vs "cpy313.stringprep" 325) 69
noncomputable def mkB3:Nat→List (Option Expr)→List Expr→List DictEntry
 |i,some (.Constant (.int k) _ _)::ks, .Constant (.str v) _ _::vs=>⟨k, .int k (if i≤646 then 394+3*i else 1040+2*i), .str v (if i≤646 then 395+3*i else 1041+2*i)⟩::mkB3 (i+1) ks vs
 |_,_,_=>[]
noncomputable def b3L:List DictEntry:=match nthS 11 pw.main.body with
 | .Assign _ (.Dict ks vs _) _=>mkB3 0 ks vs
 |_=>[]
noncomputable def ob71(_:Params):Obj:=⟨.type "dict",none, .dict b3L.toArray 650, #[]⟩
noncomputable def ob72(_:Params):Obj:=⟨.type "dict",none, .dict ((b3L.drop 17).take 17).toArray 17, #[]⟩
noncomputable def ob73(_:Params):Obj:=⟨.type "dict",none, .dict ((b3L.drop 34).take 17).toArray 17, #[]⟩
noncomputable def ob74(_:Params):Obj:=⟨.type "dict",none, .dict ((b3L.drop 51).take 17).toArray 17, #[]⟩
noncomputable def ob75(_:Params):Obj:=⟨.type "dict",none, .dict ((b3L.drop 68).take 17).toArray 17, #[]⟩
noncomputable def ob76(_:Params):Obj:=⟨.type "dict",none, .dict ((b3L.drop 85).take 17).toArray 17, #[]⟩
noncomputable def ob77(_:Params):Obj:=⟨.type "dict",none, .dict ((b3L.drop 102).take 17).toArray 17, #[]⟩
noncomputable def ob78(_:Params):Obj:=⟨.type "dict",none, .dict ((b3L.drop 119).take 17).toArray 17, #[]⟩
noncomputable def ob79(_:Params):Obj:=⟨.type "dict",none, .dict ((b3L.drop 136).take 17).toArray 17, #[]⟩
noncomputable def ob80(_:Params):Obj:=⟨.type "dict",none, .dict ((b3L.drop 153).take 17).toArray 17, #[]⟩
noncomputable def ob81(_:Params):Obj:=⟨.type "dict",none, .dict ((b3L.drop 170).take 17).toArray 17, #[]⟩
noncomputable def ob82(_:Params):Obj:=⟨.type "dict",none, .dict ((b3L.drop 187).take 17).toArray 17, #[]⟩
noncomputable def ob83(_:Params):Obj:=⟨.type "dict",none, .dict ((b3L.drop 204).take 17).toArray 17, #[]⟩
noncomputable def ob84(_:Params):Obj:=⟨.type "dict",none, .dict ((b3L.drop 221).take 17).toArray 17, #[]⟩
noncomputable def ob85(_:Params):Obj:=⟨.type "dict",none, .dict ((b3L.drop 238).take 17).toArray 17, #[]⟩
noncomputable def ob86(_:Params):Obj:=⟨.type "dict",none, .dict ((b3L.drop 255).take 17).toArray 17, #[]⟩
noncomputable def ob87(_:Params):Obj:=⟨.type "dict",none, .dict ((b3L.drop 272).take 17).toArray 17, #[]⟩
noncomputable def ob88(_:Params):Obj:=⟨.type "dict",none, .dict ((b3L.drop 289).take 17).toArray 17, #[]⟩
noncomputable def ob89(_:Params):Obj:=⟨.type "dict",none, .dict ((b3L.drop 306).take 17).toArray 17, #[]⟩
noncomputable def ob90(_:Params):Obj:=⟨.type "dict",none, .dict ((b3L.drop 323).take 17).toArray 17, #[]⟩
noncomputable def ob91(_:Params):Obj:=⟨.type "dict",none, .dict ((b3L.drop 340).take 17).toArray 17, #[]⟩
noncomputable def ob92(_:Params):Obj:=⟨.type "dict",none, .dict ((b3L.drop 357).take 17).toArray 17, #[]⟩
noncomputable def ob93(_:Params):Obj:=⟨.type "dict",none, .dict ((b3L.drop 374).take 17).toArray 17, #[]⟩
noncomputable def ob94(_:Params):Obj:=⟨.type "dict",none, .dict ((b3L.drop 391).take 17).toArray 17, #[]⟩
noncomputable def ob95(_:Params):Obj:=⟨.type "dict",none, .dict ((b3L.drop 408).take 17).toArray 17, #[]⟩
noncomputable def ob96(_:Params):Obj:=⟨.type "dict",none, .dict ((b3L.drop 425).take 17).toArray 17, #[]⟩
noncomputable def ob97(_:Params):Obj:=⟨.type "dict",none, .dict ((b3L.drop 442).take 17).toArray 17, #[]⟩
noncomputable def ob98(_:Params):Obj:=⟨.type "dict",none, .dict ((b3L.drop 459).take 17).toArray 17, #[]⟩
noncomputable def ob99(_:Params):Obj:=⟨.type "dict",none, .dict ((b3L.drop 476).take 17).toArray 17, #[]⟩
noncomputable def ob100(_:Params):Obj:=⟨.type "dict",none, .dict ((b3L.drop 493).take 17).toArray 17, #[]⟩
noncomputable def ob101(_:Params):Obj:=⟨.type "dict",none, .dict ((b3L.drop 510).take 17).toArray 17, #[]⟩
noncomputable def ob102(_:Params):Obj:=⟨.type "dict",none, .dict ((b3L.drop 527).take 17).toArray 17, #[]⟩
noncomputable def ob103(_:Params):Obj:=⟨.type "dict",none, .dict ((b3L.drop 544).take 17).toArray 17, #[]⟩
noncomputable def ob104(_:Params):Obj:=⟨.type "dict",none, .dict ((b3L.drop 561).take 17).toArray 17, #[]⟩
noncomputable def ob105(_:Params):Obj:=⟨.type "dict",none, .dict ((b3L.drop 578).take 17).toArray 17, #[]⟩
noncomputable def ob106(_:Params):Obj:=⟨.type "dict",none, .dict ((b3L.drop 595).take 17).toArray 17, #[]⟩
noncomputable def ob107(_:Params):Obj:=⟨.type "dict",none, .dict ((b3L.drop 612).take 17).toArray 17, #[]⟩
noncomputable def ob108(_:Params):Obj:=⟨.type "dict",none, .dict ((b3L.drop 629).take 17).toArray 17, #[]⟩
noncomputable def ob109(_:Params):Obj:=⟨.type "dict",none, .dict ((b3L.drop 646).take 4).toArray 4, #[]⟩
noncomputable def ob110(P:Params):Obj:=tu #[]
noncomputable def ob111(P:Params):Obj:=fl #[]
noncomputable def ob112(P:Params):Obj:=tu #[(vs "code" 2348),(vs "r" 2349)]
noncomputable def ob113(P:Params):Obj:=tu #[]
noncomputable def ob114(P:Params):Obj:=fz (dT 12) "map_table_b3"
noncomputable def ob115(P:Params):Obj:=co "map_table_b3" "map_table_b3" 2345 58 1 0 0 3 110 true 276 111 .none (.ref 112) (.ref 113) (.ref 114) 2350 2351
noncomputable def ob116(P:Params):Obj:=fu (dT 12) "map_table_b3" (vs "cpy313.stringprep" 325) 115
noncomputable def ob117(P:Params):Obj:=⟨(.type "dict"),none,(.dict #[ds P "!" 2453 (vi 54 2451),ds P "!=" 2455 (vi 28 2399),ds P "%" 2457 (vi 24 2391),ds P "%=" 2459 (vi 40 2423),ds P "&" 2461 (vi 19 2381),ds P "&=" 2463 (vi 41 2425),ds P "(" 2465 (vi 7 2357),ds P ")" 2467 (vi 8 2359),ds P "*" 2469 (vi 16 2375),ds P "**" 2471 (vi 35 2413),ds P "**=" 2473 (vi 46 2435),ds P "*=" 2475 (vi 38 2419),ds P "+" 2477 (vi 14 2371),ds P "+=" 2479 (vi 36 2415),ds P "," 2481 (vi 12 2367),ds P "-" 2483 (vi 15 2373),ds P "-=" 2485 (vi 37 2417),ds P "->" 2487 (vi 51 2445),ds P "." 2489 (vi 23 2389),ds P "..." 2491 (vi 52 2447),ds P "/" 2493 (vi 17 2377),ds P "//" 2495 (vi 47 2437),ds P "//=" 2497 (vi 48 2439),ds P "/=" 2499 (vi 39 2421),ds P ":" 2501 (vi 11 2365),ds P ":=" 2503 (vi 53 2449),ds P ";" 2505 (vi 13 2369),ds P "<" 2507 (vi 20 2383),ds P "<<" 2509 (vi 33 2409),ds P "<<=" 2511 (vi 44 2431),ds P "<=" 2513 (vi 29 2401),ds P "=" 2515 (vi 22 2387),ds P "==" 2517 (vi 27 2397),ds P ">" 2519 (vi 21 2385),ds P ">=" 2521 (vi 30 2403),ds P ">>" 2522 (vi 34 2411),ds P ">>=" 2523 (vi 45 2433),ds P "@" 2524 (vi 49 2441),ds P "@=" 2525 (vi 50 2443),ds P "[" 2526 (vi 9 2361),ds P "]" 2527 (vi 10 2363),ds P "^" 2528 (vi 32 2407),ds P "^=" 2529 (vi 43 2429),ds P "{" 2530 (vi 25 2393),ds P "|" 2531 (vi 18 2379),ds P "|=" 2532 (vi 42 2427),ds P "}" 2533 (vi 26 2395),ds P "~" 2534 (vi 31 2405)] 48), #[]⟩
noncomputable def ob118(P:Params):Obj:=⟨(.type "dict"),none,(.dict #[ds P "->" 2487 (vi 51 2445),ds P "." 2489 (vi 23 2389),ds P "..." 2491 (vi 52 2447),ds P "/" 2493 (vi 17 2377),ds P "//" 2495 (vi 47 2437),ds P "//=" 2497 (vi 48 2439),ds P "/=" 2499 (vi 39 2421),ds P ":" 2501 (vi 11 2365),ds P ":=" 2503 (vi 53 2449),ds P ";" 2505 (vi 13 2369),ds P "<" 2507 (vi 20 2383),ds P "<<" 2509 (vi 33 2409),ds P "<<=" 2511 (vi 44 2431),ds P "<=" 2513 (vi 29 2401),ds P "=" 2515 (vi 22 2387),ds P "==" 2517 (vi 27 2397),ds P ">" 2519 (vi 21 2385)] 17), #[]⟩
noncomputable def ob119(P:Params):Obj:=⟨(.type "dict"),none,(.dict #[ds P ">=" 2521 (vi 30 2403),ds P ">>" 2522 (vi 34 2411),ds P ">>=" 2523 (vi 45 2433),ds P "@" 2524 (vi 49 2441),ds P "@=" 2525 (vi 50 2443),ds P "[" 2526 (vi 9 2361),ds P "]" 2527 (vi 10 2363),ds P "^" 2528 (vi 32 2407),ds P "^=" 2529 (vi 43 2429),ds P "{" 2530 (vi 25 2393),ds P "|" 2531 (vi 18 2379),ds P "|=" 2532 (vi 42 2427),ds P "}" 2533 (vi 26 2395),ds P "~" 2534 (vi 31 2405)] 14), #[]⟩
noncomputable def ob120(P:Params):Obj:=tu #[]
noncomputable def ob121(P:Params):Obj:=fl #[]
noncomputable def ob122(P:Params):Obj:=tu #[(vs "x" 2553)]
noncomputable def ob123(P:Params):Obj:=tu #[]
noncomputable def ob124(P:Params):Obj:=fz (dT 64) "ISEOF"
noncomputable def ob125(P:Params):Obj:=co "ISEOF" "ISEOF" 2550 114 1 0 0 3 120 true 276 121 .none (.ref 122) (.ref 123) (.ref 124) 2554 2555
noncomputable def ob126(P:Params):Obj:=fu (dT 64) "ISEOF" (vs "cpy313.token" 2353) 125
noncomputable def ob127(P:Params):Obj:=⟨(.type "list"),none,(.seq #[(vi 14 2562),(vi 4 2563),(vi 0 2564),(vi 3 2565),(vi 4294967295 2566),(vi 6 2567),(vi 0 2568),(vi 24 2569),(vi 9 2570),(vi 1 2571),(vi 4294967295 2572),(vi 13 2573),(vi 4 2574),(vi 8 2575),(vi 14 2576),(vi 0 2577),(vi 1 2578),(vi 16 2579),(vi 58 2580),(vi 24 2581),(vi 9 2582),(vi 1 2583),(vi 4294967295 2584),(vi 13 2585),(vi 4 2586),(vi 8 2587),(vi 14 2588),(vi 0 2589),(vi 1 2590),(vi 6 2591),(vi 5 2592),(vi 1 2593)] 0), #[]⟩
noncomputable def ob128(P:Params):Obj:=⟨(.type "dict"),none,(.dict #[] 0), #[]⟩
noncomputable def ob129(P:Params):Obj:=tu #[.none]
noncomputable def ob130(P:Params):Obj:=tu #[(vi 14 0),(vi 4 0),(vi 0 0),(vi 3 0),(vi 4294967295 0),(vi 6 0),(vi 0 0),(vi 24 0),(vi 9 0),(vi 1 0),(vi 4294967295 0),(vi 13 0),(vi 4 0),(vi 8 0),(vi 14 0),(vi 0 0),(vi 1 0),(vi 16 0),(vi 58 0),(vi 24 0),(vi 9 0),(vi 1 0),(vi 4294967295 0),(vi 13 0),(vi 4 0),(vi 8 0),(vi 14 0),(vi 0 0),(vi 1 0),(vi 6 0),(vi 5 0),(vi 1 0)]
noncomputable def ob131(P:Params):Obj:=⟨(.type "re.Pattern"),none,(.fields #[(.str (zl [94,92,119,43,58,92,119,43,36]) 2560),(vi 32 2595),(vi 0 0), .none, .none,(.ref 130),(vi 0 0)]), #[]⟩
noncomputable def ob132(P:Params):Obj:=⟨(.type "dict"),none,(.dict #[ds P "http://www.w3.org/XML/1998/namespace" 2597 (vs "xml" 2598),ds P "http://www.w3.org/1999/xhtml" 2599 (vs "html" 2600),ds P "http://www.w3.org/1999/02/22-rdf-syntax-ns#" 2601 (vs "rdf" 2602),ds P "http://schemas.xmlsoap.org/wsdl/" 2603 (vs "wsdl" 2604),ds P "http://www.w3.org/2001/XMLSchema" 2605 (vs "xs" 2606),ds P "http://www.w3.org/2001/XMLSchema-instance" 2607 (vs "xsi" 2608),ds P "http://purl.org/dc/elements/1.1/" 2609 (vs "dc" 2610)] 7), #[]⟩
noncomputable def ob133(P:Params):Obj:=tu #[]
noncomputable def ob134(P:Params):Obj:=fl #[]
noncomputable def ob135(P:Params):Obj:=tu #[(vs "text" 2622)]
noncomputable def ob136(P:Params):Obj:=tu #[]
noncomputable def ob137(P:Params):Obj:=fz (dT 68) "_raise_serialization_error"
noncomputable def ob138(P:Params):Obj:=co "_raise_serialization_error" "_raise_serialization_error" 2619 119 1 0 0 3 133 true 276 134 .none (.ref 135) (.ref 136) (.ref 137) 2623 2624
noncomputable def ob139(P:Params):Obj:=fu (dT 68) "_raise_serialization_error" (vs "cpy313.xml.etree.ElementTree" 2557) 138
noncomputable def ob140(P:Params):Obj:=⟨(.type "builtin_function_or_method"),none,(.fields #[(.builtin "re.Pattern.match"),(.ref 131)]), #[]⟩
noncomputable def ob141(P:Params):Obj:=tu #[]
noncomputable def ob142(P:Params):Obj:=⟨(.type "builtin_function_or_method"),none,(.fields #[(.builtin "type.__prepare__"),(.type "type")]), #[]⟩
noncomputable def ob143(P:Params):Obj:=⟨(.type "dict"),none,(.dict #[ds P "__module__" 2635 (vs "cpy313.xml.etree.ElementTree" 2557),ds P "__qualname__" 2637 (vs "C14NWriterTarget" 2636),ds P "__firstlineno__" 2639 (vi 122 2638),ds P "__init__" 2661 (.ref 155),ds P "_iter_namespaces" 2671 (.ref 163),ds P "_resolve_prefix_name" 2683 (.ref 170),ds P "_qname" 2696 (.ref 178),ds P "data" 2704 (.ref 185),ds P "_flush" 2717 (.ref 194),ds P "start_ns" 2726 (.ref 201),ds P "start" 2736 (.ref 208),ds P "_start" 2742 (.ref 214),ds P "end" 2750 (.ref 221),ds P "comment" 2758 (.ref 228),ds P "pi" 2767 (.ref 235),ds P "__static_attributes__" 2785 (.ref 236)] 16), #[]⟩
noncomputable def ob144(P:Params):Obj:=tu #[]
noncomputable def ob145(P:Params):Obj:=fl #[(vi 124 0),(vi 4 0),(.ref 154),(vi 152 0),(vi 4 0),(.ref 162),(vi 157 0),(vi 4 0),(.ref 169),(vi 164 0),(vi 4 0),(.ref 177),(vi 191 0),(vi 4 0),(.ref 184),(vi 195 0),(vi 4 0),(.ref 193),(vi 209 0),(vi 4 0),(.ref 200),(vi 212 0),(vi 4 0),(.ref 207),(vi 225 0),(vi 4 0),(.ref 213),(vi 270 0),(vi 4 0),(.ref 220),(vi 282 0),(vi 4 0),(.ref 227),(vi 295 0),(vi 4 0),(.ref 234)]
noncomputable def ob146(P:Params):Obj:=co "C14NWriterTarget" "C14NWriterTarget" 2630 122 0 0 0 0 144 false 276 145 .none .none .none .none 2633 2634
noncomputable def ob147(P:Params):Obj:=⟨(.type "frame"),none, .plain, #[(some (.ref 146)),(some (.ref 3)),(some (.ref 143)),none,(some (vs "cpy313.xml.etree.ElementTree" 2557)),none,(some (.ref 0))]⟩
noncomputable def ob148(P:Params):Obj:=⟨(.type "dict"),none,(.dict #[ds P "with_comments" 2640 (.bool false),ds P "strip_text" 2641 (.bool false),ds P "rewrite_prefixes" 2642 (.bool false),ds P "qname_aware_tags" 2643 .none,ds P "qname_aware_attrs" 2644 .none,ds P "exclude_attrs" 2645 .none,ds P "exclude_tags" 2646 .none] 7), #[]⟩
noncomputable def ob149(P:Params):Obj:=tu #[]
noncomputable def ob150(P:Params):Obj:=fl #[]
noncomputable def ob151(P:Params):Obj:=tu #[(vs "self" 2650),(vs "write" 2651),(vs "with_comments" 2652),(vs "strip_text" 2653),(vs "rewrite_prefixes" 2654),(vs "qname_aware_tags" 2655),(vs "qname_aware_attrs" 2656),(vs "exclude_attrs" 2657),(vs "exclude_tags" 2658)]
noncomputable def ob152(P:Params):Obj:=tu #[]
noncomputable def ob153(P:Params):Obj:=fz (dC 70 0) "C14NWriterTarget.__init__"
noncomputable def ob154(P:Params):Obj:=co "__init__" "C14NWriterTarget.__init__" 2647 124 2 0 7 3 149 true 276 150 .none (.ref 151) (.ref 152) (.ref 153) 2659 2660
noncomputable def ob155(P:Params):Obj:=⟨(.type "function"),none,(.func (fd (dC 70 0) (z "C14NWriterTarget.__init__") 3 .none (.ref 148) (vs "cpy313.xml.etree.ElementTree" 2557) (.ref 154) 0)), #[]⟩
noncomputable def ob156(P:Params):Obj:=tu #[(.type "reversed")]
noncomputable def ob157(P:Params):Obj:=tu #[]
noncomputable def ob158(P:Params):Obj:=fl #[]
noncomputable def ob159(P:Params):Obj:=tu #[(vs "self" 2665),(vs "ns_stack" 2666),(vs "_reversed" 2667),(vs "namespaces" 2668)]
noncomputable def ob160(P:Params):Obj:=tu #[]
noncomputable def ob161(P:Params):Obj:=fz (dC 70 1) "C14NWriterTarget._iter_namespaces"
noncomputable def ob162(P:Params):Obj:=co "_iter_namespaces" "C14NWriterTarget._iter_namespaces" 2662 152 3 0 0 35 157 true 276 158 .none (.ref 159) (.ref 160) (.ref 161) 2669 2670
noncomputable def ob163(P:Params):Obj:=⟨(.type "function"),none,(.func (fd (dC 70 1) (z "C14NWriterTarget._iter_namespaces") 3 (.ref 156) .none (vs "cpy313.xml.etree.ElementTree" 2557) (.ref 162) 0)), #[]⟩
noncomputable def ob164(P:Params):Obj:=tu #[]
noncomputable def ob165(P:Params):Obj:=fl #[]
noncomputable def ob166(P:Params):Obj:=tu #[(vs "self" 2675),(vs "prefixed_name" 2676),(vs "prefix" 2677),(vs "name" 2678),(vs "uri" 2679),(vs "p" 2680)]
noncomputable def ob167(P:Params):Obj:=tu #[]
noncomputable def ob168(P:Params):Obj:=fz (dC 70 2) "C14NWriterTarget._resolve_prefix_name"
noncomputable def ob169(P:Params):Obj:=co "_resolve_prefix_name" "C14NWriterTarget._resolve_prefix_name" 2672 157 2 0 0 3 164 true 276 165 .none (.ref 166) (.ref 167) (.ref 168) 2681 2682
noncomputable def ob170(P:Params):Obj:=fu (dC 70 2) "C14NWriterTarget._resolve_prefix_name" (vs "cpy313.xml.etree.ElementTree" 2557) 169
noncomputable def ob171(P:Params):Obj:=tu #[.none]
noncomputable def ob172(P:Params):Obj:=tu #[]
noncomputable def ob173(P:Params):Obj:=fl #[]
noncomputable def ob174(P:Params):Obj:=tu #[(vs "self" 2687),(vs "qname" 2688),(vs "uri" 2689),(vs "tag" 2690),(vs "prefixes_seen" 2691),(vs "u" 2692),(vs "prefix" 2693)]
noncomputable def ob175(P:Params):Obj:=tu #[]
noncomputable def ob176(P:Params):Obj:=fz (dC 70 3) "C14NWriterTarget._qname"
noncomputable def ob177(P:Params):Obj:=co "_qname" "C14NWriterTarget._qname" 2684 164 3 0 0 3 172 true 276 173 .none (.ref 174) (.ref 175) (.ref 176) 2694 2695
noncomputable def ob178(P:Params):Obj:=⟨(.type "function"),none,(.func (fd (dC 70 3) (z "C14NWriterTarget._qname") 3 (.ref 171) .none (vs "cpy313.xml.etree.ElementTree" 2557) (.ref 177) 0)), #[]⟩
noncomputable def ob179(P:Params):Obj:=tu #[]
noncomputable def ob180(P:Params):Obj:=fl #[]
noncomputable def ob181(P:Params):Obj:=tu #[(vs "self" 2700),(vs "data" 2701)]
noncomputable def ob182(P:Params):Obj:=tu #[]
noncomputable def ob183(P:Params):Obj:=fz (dC 70 4) "C14NWriterTarget.data"
noncomputable def ob184(P:Params):Obj:=co "data" "C14NWriterTarget.data" 2697 191 2 0 0 3 179 true 276 180 .none (.ref 181) (.ref 182) (.ref 183) 2702 2703
noncomputable def ob185(P:Params):Obj:=fu (dC 70 4) "C14NWriterTarget.data" (vs "cpy313.xml.etree.ElementTree" 2557) 184
noncomputable def ob186(P:Params):Obj:=⟨(.type "builtin_function_or_method"),none,(.fields #[(.builtin "str.join"),(vs "" 2705)]), #[]⟩
noncomputable def ob187(P:Params):Obj:=tu #[(.ref 186)]
noncomputable def ob188(P:Params):Obj:=tu #[]
noncomputable def ob189(P:Params):Obj:=fl #[]
noncomputable def ob190(P:Params):Obj:=tu #[(vs "self" 2710),(vs "_join_text" 2711),(vs "data" 2712),(vs "args" 2713),(vs "qname_text" 2714)]
noncomputable def ob191(P:Params):Obj:=tu #[]
noncomputable def ob192(P:Params):Obj:=fz (dC 70 5) "C14NWriterTarget._flush"
noncomputable def ob193(P:Params):Obj:=co "_flush" "C14NWriterTarget._flush" 2707 195 2 0 0 3 188 true 276 189 .none (.ref 190) (.ref 191) (.ref 192) 2715 2716
noncomputable def ob194(P:Params):Obj:=⟨(.type "function"),none,(.func (fd (dC 70 5) (z "C14NWriterTarget._flush") 3 (.ref 187) .none (vs "cpy313.xml.etree.ElementTree" 2557) (.ref 193) 0)), #[]⟩
noncomputable def ob195(P:Params):Obj:=tu #[]
noncomputable def ob196(P:Params):Obj:=fl #[]
noncomputable def ob197(P:Params):Obj:=tu #[(vs "self" 2721),(vs "prefix" 2722),(vs "uri" 2723)]
noncomputable def ob198(P:Params):Obj:=tu #[]
noncomputable def ob199(P:Params):Obj:=fz (dC 70 6) "C14NWriterTarget.start_ns"
noncomputable def ob200(P:Params):Obj:=co "start_ns" "C14NWriterTarget.start_ns" 2718 209 3 0 0 3 195 true 276 196 .none (.ref 197) (.ref 198) (.ref 199) 2724 2725
noncomputable def ob201(P:Params):Obj:=fu (dC 70 6) "C14NWriterTarget.start_ns" (vs "cpy313.xml.etree.ElementTree" 2557) 200
noncomputable def ob202(P:Params):Obj:=tu #[]
noncomputable def ob203(P:Params):Obj:=fl #[]
noncomputable def ob204(P:Params):Obj:=tu #[(vs "self" 2730),(vs "tag" 2731),(vs "attrs" 2732),(vs "new_namespaces" 2733)]
noncomputable def ob205(P:Params):Obj:=tu #[]
noncomputable def ob206(P:Params):Obj:=fz (dC 70 7) "C14NWriterTarget.start"
noncomputable def ob207(P:Params):Obj:=co "start" "C14NWriterTarget.start" 2727 212 3 0 0 3 202 true 276 203 .none (.ref 204) (.ref 205) (.ref 206) 2734 2735
noncomputable def ob208(P:Params):Obj:=fu (dC 70 7) "C14NWriterTarget.start" (vs "cpy313.xml.etree.ElementTree" 2557) 207
noncomputable def ob209(P:Params):Obj:=tu #[.none]
noncomputable def ob210(P:Params):Obj:=tu #[]
noncomputable def ob211(P:Params):Obj:=fl #[]
noncomputable def ob212(P:Params):Obj:=fz (dC 70 8) "C14NWriterTarget._start"
noncomputable def ob213(P:Params):Obj:=co "_start" "C14NWriterTarget._start" 2737 225 5 0 0 3 210 true 276 211 .none .none .none (.ref 212) 2740 2741
noncomputable def ob214(P:Params):Obj:=⟨(.type "function"),none,(.func (fd (dC 70 8) (z "C14NWriterTarget._start") 3 (.ref 209) .none (vs "cpy313.xml.etree.ElementTree" 2557) (.ref 213) 0)), #[]⟩
noncomputable def ob215(P:Params):Obj:=tu #[]
noncomputable def ob216(P:Params):Obj:=fl #[]
noncomputable def ob217(P:Params):Obj:=tu #[(vs "self" 2746),(vs "tag" 2747)]
noncomputable def ob218(P:Params):Obj:=tu #[]
noncomputable def ob219(P:Params):Obj:=fz (dC 70 9) "C14NWriterTarget.end"
noncomputable def ob220(P:Params):Obj:=co "end" "C14NWriterTarget.end" 2743 270 2 0 0 3 215 true 276 216 .none (.ref 217) (.ref 218) (.ref 219) 2748 2749
noncomputable def ob221(P:Params):Obj:=fu (dC 70 9) "C14NWriterTarget.end" (vs "cpy313.xml.etree.ElementTree" 2557) 220
noncomputable def ob222(P:Params):Obj:=tu #[]
noncomputable def ob223(P:Params):Obj:=fl #[]
noncomputable def ob224(P:Params):Obj:=tu #[(vs "self" 2754),(vs "text" 2755)]
noncomputable def ob225(P:Params):Obj:=tu #[]
noncomputable def ob226(P:Params):Obj:=fz (dC 70 10) "C14NWriterTarget.comment"
noncomputable def ob227(P:Params):Obj:=co "comment" "C14NWriterTarget.comment" 2751 282 2 0 0 3 222 true 276 223 .none (.ref 224) (.ref 225) (.ref 226) 2756 2757
noncomputable def ob228(P:Params):Obj:=fu (dC 70 10) "C14NWriterTarget.comment" (vs "cpy313.xml.etree.ElementTree" 2557) 227
noncomputable def ob229(P:Params):Obj:=tu #[]
noncomputable def ob230(P:Params):Obj:=fl #[]
noncomputable def ob231(P:Params):Obj:=tu #[(vs "self" 2762),(vs "target" 2763),(vs "data" 2764)]
noncomputable def ob232(P:Params):Obj:=tu #[]
noncomputable def ob233(P:Params):Obj:=fz (dC 70 11) "C14NWriterTarget.pi"
noncomputable def ob234(P:Params):Obj:=co "pi" "C14NWriterTarget.pi" 2759 295 3 0 0 3 229 true 276 230 .none (.ref 231) (.ref 232) (.ref 233) 2765 2766
noncomputable def ob235(P:Params):Obj:=fu (dC 70 11) "C14NWriterTarget.pi" (vs "cpy313.xml.etree.ElementTree" 2557) 234
noncomputable def ob236(P:Params):Obj:=tu #[(vs "_data" 2768),(vs "_declared_ns_stack" 2769),(vs "_exclude_attrs" 2770),(vs "_exclude_tags" 2771),(vs "_find_qname_aware_attrs" 2772),(vs "_ignored_depth" 2773),(vs "_ns_stack" 2774),(vs "_pending_start" 2775),(vs "_prefix_map" 2776),(vs "_preserve_space" 2777),(vs "_qname_aware_tags" 2778),(vs "_rewrite_prefixes" 2779),(vs "_root_done" 2780),(vs "_root_seen" 2781),(vs "_strip_text" 2782),(vs "_with_comments" 2783),(vs "_write" 2784)]
noncomputable def ob237(P:Params):Obj:=⟨(.type "dict"),none,(.dict #[ds P "__module__" 2635 (vs "cpy313.xml.etree.ElementTree" 2557),ds P "__firstlineno__" 2639 (vi 122 2638),ds P "__init__" 2661 (.ref 155),ds P "_iter_namespaces" 2671 (.ref 163),ds P "_resolve_prefix_name" 2683 (.ref 170),ds P "_qname" 2696 (.ref 178),ds P "data" 2704 (.ref 185),ds P "_flush" 2717 (.ref 194),ds P "start_ns" 2726 (.ref 201),ds P "start" 2736 (.ref 208),ds P "_start" 2742 (.ref 214),ds P "end" 2750 (.ref 221),ds P "comment" 2758 (.ref 228),ds P "pi" 2767 (.ref 235),ds P "__static_attributes__" 2785 (.ref 236),ds P "__dict__" 2787 (.ref 239),ds P "__weakref__" 2789 (.ref 240),ds P "__doc__" 2790 .none] 4), #[]⟩
noncomputable def ob238(P:Params):Obj:=⟨(.type "type"),none,(.cls ⟨(z "C14NWriterTarget"),[(.type "object")],[(.ref 238),(.type "object")],237,(z "C14NWriterTarget"),true,[],[],false,none,false⟩), #[none,none,(some (vs "C14NWriterTarget" 2628)),(some (vs "C14NWriterTarget" 2636)),(some (.builtin "object.__new__")),(some (.bool true))]⟩
noncomputable def ob239(P:Params):Obj:=⟨(.type "getset_descriptor"),none,(.fields #[(vs "__dict__" 2786),(.ref 238),(.builtin "function.__dict__"),(.builtin "function.__dict__#set")]), #[]⟩
noncomputable def ob240(P:Params):Obj:=⟨(.type "getset_descriptor"),none,(.fields #[(vs "__weakref__" 2788),(.ref 238),(.builtin "ExceptionGroup.__weakref__"), .none]), #[]⟩
noncomputable def ob241(P:Params):Obj:=⟨(.type "super"),none,(.fields #[(.ref 238),(.ref 238),(.ref 238)]), #[]⟩
noncomputable def ob242(P:Params):Obj:=⟨(.type "builtin_function_or_method"),none,(.fields #[(.builtin "object.__init_subclass__"),(.ref 238)]), #[]⟩
noncomputable def ob243(P:Params):Obj:=tu #[]
noncomputable def ob244(P:Params):Obj:=fl #[]
noncomputable def ob245(P:Params):Obj:=tu #[(vs "text" 2796)]
noncomputable def ob246(P:Params):Obj:=tu #[]
noncomputable def ob247(P:Params):Obj:=fz (dT 71) "_escape_cdata_c14n"
noncomputable def ob248(P:Params):Obj:=co "_escape_cdata_c14n" "_escape_cdata_c14n" 2793 297 1 0 0 3 243 true 276 244 .none (.ref 245) (.ref 246) (.ref 247) 2797 2798
noncomputable def ob249(P:Params):Obj:=fu (dT 71) "_escape_cdata_c14n" (vs "cpy313.xml.etree.ElementTree" 2557) 248
noncomputable def ob250(P:Params):Obj:=tu #[]
noncomputable def ob251(P:Params):Obj:=fl #[]
noncomputable def ob252(P:Params):Obj:=tu #[(vs "text" 2803)]
noncomputable def ob253(P:Params):Obj:=tu #[]
noncomputable def ob254(P:Params):Obj:=fz (dT 72) "_escape_attrib_c14n"
noncomputable def ob255(P:Params):Obj:=co "_escape_attrib_c14n" "_escape_attrib_c14n" 2800 310 1 0 0 3 250 true 276 251 .none (.ref 252) (.ref 253) (.ref 254) 2804 2805
noncomputable def ob256(P:Params):Obj:=fu (dT 72) "_escape_attrib_c14n" (vs "cpy313.xml.etree.ElementTree" 2557) 255
noncomputable def ob257(P:Params):Obj:=tu #[]
noncomputable def ob258(P:Params):Obj:=fl #[]
noncomputable def ob259(P:Params):Obj:=tu #[(vs "writer" 2812),(vs "names" 2813),(vs "tops" 2814),(vs "one" 2815),(vs "other" 2816)]
noncomputable def ob260(P:Params):Obj:=tu #[]
noncomputable def ob261(P:Params):Obj:=fz (dT 74) "_law_tell"
noncomputable def ob262(P:Params):Obj:=co "_law_tell" "_law_tell" 2809 328 4 0 0 3 257 true 276 258 .none (.ref 259) (.ref 260) (.ref 261) 2817 2818
noncomputable def ob263(P:Params):Obj:=fu (dT 74) "_law_tell" (vs "law_kl0465_01" 2807) 262
noncomputable def ob264(P:Params):Obj:=tu #[]
noncomputable def ob265(P:Params):Obj:=fl #[]
noncomputable def ob266(P:Params):Obj:=fz (dT 75) "_law_word"
noncomputable def ob267(P:Params):Obj:=co "_law_word" "_law_word" 2820 334 1 0 0 3 264 true 276 265 .none .none .none (.ref 266) 2823 2824
noncomputable def ob268(P:Params):Obj:=fu (dT 75) "_law_word" (vs "law_kl0465_01" 2807) 267
noncomputable def ob269(P:Params):Obj:=tu #[]
noncomputable def ob270(P:Params):Obj:=fl #[]
noncomputable def ob271(P:Params):Obj:=tu #[(vs "page" 2829),(vs "words" 2830),(vs "held" 2831),(vs "ending" 2832),(vs "sign" 2833),(vs "kind" 2834),(vs "letter" 2835)]
noncomputable def ob272(P:Params):Obj:=tu #[]
noncomputable def ob273(P:Params):Obj:=fz (dT 76) "_law_words"
noncomputable def ob274(P:Params):Obj:=co "_law_words" "_law_words" 2826 336 1 0 0 3 269 true 276 270 .none (.ref 271) (.ref 272) (.ref 273) 2836 2837
noncomputable def ob275(P:Params):Obj:=fu (dT 76) "_law_words" (vs "law_kl0465_01" 2807) 274
noncomputable def ob276(P:Params):Obj:=tu #[]
noncomputable def ob277(P:Params):Obj:=fl #[]
noncomputable def ob278(P:Params):Obj:=fz (dT 77) "law"
noncomputable def ob279(P:Params):Obj:=co "law" "law" 2839 357 1 0 0 3 276 true 276 277 .none .none .none (.ref 278) 2842 2843
noncomputable def ob280(P:Params):Obj:=fu (dT 77) "law" (vs "law_kl0465_01" 2807) 279
noncomputable def oa3(P:Params):Obj:=⟨(.type "dict"),none,(.dict #[ds P "__name__" 165 (vs "__main__" 164),ds P "__doc__" 166 .none,ds P "__package__" 167 .none,ds P "__loader__" 168 (.builtin "__main__.__loader__#opaque"),ds P "__spec__" 169 .none,ds P "__annotations__" 170 (.ref 6),ds P "__builtins__" 171 (.ref 4),ds P "__file__" 173 (vs "/claim/cut.py" 172),ds P "__cached__" 174 .none,ds P "_sre" 275 (.ref 12)] 10), #[]⟩
noncomputable def oa29(P:Params):Obj:=⟨.none,none,(.fields #[]), #[]⟩
noncomputable def ob3L(P:Params):List DictEntry:=match (ob3 P).data with
 | .dict es _=>es.toList
 |_=>[]
noncomputable def om(P:Params)(nm:Value)(k:Nat):Obj:=⟨.type "dict",none, .dict ((ds P "__name__" 165 nm::(ob3L P).tail).take k).toArray k, #[]⟩
noncomputable def ot9(P:Params):Obj:=⟨.none,none,(.fields #[(vi 2 0),(vi 0 0),(.ref 37),(vi 9 0),(vi 0 0),(.ref 44),(vi 15 0),(vi 0 0),(.ref 51),(vi 55 0),(vi 0 0),(.ref 69)]), #[]⟩
noncomputable def ot61(P:Params):Obj:=⟨.none,none,(.fields #[(vi 2 0),(vi 0 0),(.ref 37),(vi 9 0),(vi 0 0),(.ref 44),(vi 15 0),(vi 0 0),(.ref 51),(vi 55 0),(vi 0 0),(.ref 69),(vi 58 0),(vi 0 0),(.ref 115)]), #[]⟩
noncomputable def ot62(P:Params):Obj:=⟨.none,none,(.fields #[(vi 2 0),(vi 0 0),(.ref 37),(vi 9 0),(vi 0 0),(.ref 44),(vi 15 0),(vi 0 0),(.ref 51),(vi 55 0),(vi 0 0),(.ref 69),(vi 58 0),(vi 0 0),(.ref 115)]), #[]⟩
noncomputable def ot68(P:Params):Obj:=⟨.none,none,(.fields #[(vi 2 0),(vi 0 0),(.ref 37),(vi 9 0),(vi 0 0),(.ref 44),(vi 15 0),(vi 0 0),(.ref 51),(vi 55 0),(vi 0 0),(.ref 69),(vi 58 0),(vi 0 0),(.ref 115),(vi 114 0),(vi 0 0),(.ref 125),(vi 119 0),(vi 0 0),(.ref 138)]), #[]⟩
noncomputable def ot69(P:Params):Obj:=⟨.none,none,(.fields #[(vi 2 0),(vi 0 0),(.ref 37),(vi 9 0),(vi 0 0),(.ref 44),(vi 15 0),(vi 0 0),(.ref 51),(vi 55 0),(vi 0 0),(.ref 69),(vi 58 0),(vi 0 0),(.ref 115),(vi 114 0),(vi 0 0),(.ref 125),(vi 119 0),(vi 0 0),(.ref 138),(vi 122 0),(vi 0 0),(.ref 146)]), #[]⟩
noncomputable def obs(P:Params):List Obj:=[ob0 P,ob1 P,ob2 P,ob3 P,ob4 P,ob5 P,ob6 P,ob7 P,ob8 P,ob9 P,ob10 P,ob11 P,ob12 P,ob13 P,ob14 P,ob15 P,ob16 P,ob17 P,ob18 P,ob19 P,ob20 P,ob21 P,ob22 P,ob23 P,ob24 P,ob25 P,ob26 P,ob27 P,ob28 P,ob29 P,ob30 P,ob31 P,ob32 P,ob33 P,ob34 P,ob35 P,ob36 P,ob37 P,ob38 P,ob39 P,ob40 P,ob41 P,ob42 P,ob43 P,ob44 P,ob45 P,ob46 P,ob47 P,ob48 P,ob49 P,ob50 P,ob51 P,ob52 P,ob53 P,ob54 P,ob55 P,ob56 P,ob57 P,ob58 P,ob59 P,ob60 P,ob61 P,ob62 P,ob63 P,ob64 P,ob65 P,ob66 P,ob67 P,ob68 P,ob69 P,ob70 P,ob71 P,ob72 P,ob73 P,ob74 P,ob75 P,ob76 P,ob77 P,ob78 P,ob79 P,ob80 P,ob81 P,ob82 P,ob83 P,ob84 P,ob85 P,ob86 P,ob87 P,ob88 P,ob89 P,ob90 P,ob91 P,ob92 P,ob93 P,ob94 P,ob95 P,ob96 P,ob97 P,ob98 P,ob99 P,ob100 P,ob101 P,ob102 P,ob103 P,ob104 P,ob105 P,ob106 P,ob107 P,ob108 P,ob109 P,ob110 P,ob111 P,ob112 P,ob113 P,ob114 P,ob115 P,ob116 P,ob117 P,ob118 P,ob119 P,ob120 P,ob121 P,ob122 P,ob123 P,ob124 P,ob125 P,ob126 P,ob127 P,ob128 P,ob129 P,ob130 P,ob131 P,ob132 P,ob133 P,ob134 P,ob135 P,ob136 P,ob137 P,ob138 P,ob139 P,ob140 P,ob141 P,ob142 P,ob143 P,ob144 P,ob145 P,ob146 P,ob147 P,ob148 P,ob149 P,ob150 P,ob151 P,ob152 P,ob153 P,ob154 P,ob155 P,ob156 P,ob157 P,ob158 P,ob159 P,ob160 P,ob161 P,ob162 P,ob163 P,ob164 P,ob165 P,ob166 P,ob167 P,ob168 P,ob169 P,ob170 P,ob171 P,ob172 P,ob173 P,ob174 P,ob175 P,ob176 P,ob177 P,ob178 P,ob179 P,ob180 P,ob181 P,ob182 P,ob183 P,ob184 P,ob185 P,ob186 P,ob187 P,ob188 P,ob189 P,ob190 P,ob191 P,ob192 P,ob193 P,ob194 P,ob195 P,ob196 P,ob197 P,ob198 P,ob199 P,ob200 P,ob201 P,ob202 P,ob203 P,ob204 P,ob205 P,ob206 P,ob207 P,ob208 P,ob209 P,ob210 P,ob211 P,ob212 P,ob213 P,ob214 P,ob215 P,ob216 P,ob217 P,ob218 P,ob219 P,ob220 P,ob221 P,ob222 P,ob223 P,ob224 P,ob225 P,ob226 P,ob227 P,ob228 P,ob229 P,ob230 P,ob231 P,ob232 P,ob233 P,ob234 P,ob235 P,ob236 P,ob237 P,ob238 P,ob239 P,ob240 P,ob241 P,ob242 P,ob243 P,ob244 P,ob245 P,ob246 P,ob247 P,ob248 P,ob249 P,ob250 P,ob251 P,ob252 P,ob253 P,ob254 P,ob255 P,ob256 P,ob257 P,ob258 P,ob259 P,ob260 P,ob261 P,ob262 P,ob263 P,ob264 P,ob265 P,ob266 P,ob267 P,ob268 P,ob269 P,ob270 P,ob271 P,ob272 P,ob273 P,ob274 P,ob275 P,ob276 P,ob277 P,ob278 P,ob279 P,ob280 P]
noncomputable def btOf(l:List Obj):BT:=l.zipIdx.foldl (fun t oi=>t.ins oi.2 oi.1) .nil
noncomputable def bt0(P:Params):BT:=btOf (((obs P).take 32).zipIdx.map fun oi=>if oi.2==3 then oa3 P else if oi.2==29 then oa29 P else oi.1)
noncomputable def btM(P:Params)(n:Nat)(m t:Obj):BT:=btOf (((obs P).take n).zipIdx.map fun oi=>if oi.2==3 then m else if oi.2==29 then t else oi.1)
noncomputable def topSts:List Stmt:=behindTheImports pw
noncomputable def topEnv:Env:= {scope:=pw.main.scope,locals:=mainNs,globals:=mainNs,cells:=[],code:= .ref 30,frame:=some 31}
noncomputable def V0(w:World)(L:Life)(A:Around)(R:Result→Shared→Prop)(d:Drawn)(os:OsState):X.XV:= {prog:=pw,w:=w,h₀:=⟨#[],L⟩,n₁:=0,kt:= .nil,tabs:=[],A₀:=A,R₀:=R,d:=d,t₀:=0,os:=os}
noncomputable def pieceT(b:List Stmt):Sem Fin:=execs b topEnv>>=fun f=>pure (.done f)
noncomputable def ans{α:Type}(c:Code)(b:List (Code×Pos)):Sem α→Pos→Sem α
 | .at p' k,_=> .at p' fun u=>ans c b (k u) p'
 | .stack k,p=>ans c b (k ((c,p)::b)) p
 | .rule t k,p=> .rule t fun u=>ans c b (k u) p
 | .load a q k,p=> .load a q fun o=>ans c b (k o) p
 | .update a q f k,p=> .update a q f fun u=>ans c b (k u) p
 | .loadIfAlive a k,p=> .loadIfAlive a fun o=>ans c b (k o) p
 | .point q k,p=> .point q fun u=>ans c b (k u) p
 | .alloc o k,p=> .alloc o fun a=>ans c b (k a) p
 | .fresh k,p=> .fresh fun n=>ans c b (k n) p
 | .ask k,p=> .ask fun n=>ans c b (k n) p
 | .call c' h g l k,p=> .call c' h g l fun r=>ans c b (k r) p
 | .handled o k,p=> .handled o fun r=>ans c b (k r) p
 | .pure a,_=> .pure a
 | .raise e,_=> .raise e
 | .unsupported x,_=> .unsupported x
 | .finish x,_=> .unsupported "ans"
 | .register _ _,_=> .unsupported "ans"
 | .choose _ _ _,_=> .unsupported "ans"
 | .os _ _ _,_=> .unsupported "ans"
 | .genState _ _,_=> .unsupported "ans"
 | .newGen _ _,_=> .unsupported "ans"
 | .resume _ _ _ _,_=> .unsupported "ans"
 | .yield ..,_=> .unsupported "ans"
 | .thread _,_=> .unsupported "ans"
 | .fork ..,_=> .unsupported "ans"
 | .await ..,_=> .unsupported "ans"
theorem ans_wp{α:Type}{M:Model}{Γ:Ctx}{Q:α→Pos→Shared→Prop}{E:Value→Pos→Shared→Prop}:∀(t:Sem α) (p:Pos) (s:Shared),Sem.wp M Γ (ans Γ.code Γ.below t p) Q E p s→Sem.wp M Γ t Q E p s:=by
 intro t
 induction t with
 |«at» p' k ih=>intro p s h;exact ih () _ _ h
 |stack k ih=>intro p s h;exact ih _ _ _ h
 |rule t k ih=>intro p s h;exact ih () _ _ h
 |load a q k ih=>intro p s h;refine xEA h fun o e h=>?_;exact⟨o,e,ih _ _ _ h⟩
 |update a q f k ih=>intro p s h;exact⟨h.1,ih () _ _ h.2⟩
 |loadIfAlive a k ih=>intro p s h;exact ih _ _ _ h
 |point q k ih=>intro p s h;exact ih () _ _ h
 |alloc o k ih=>intro p s h;exact ih _ _ _ h
 |fresh k ih=>intro p s h;exact ih _ _ _ h
 |ask k ih=>intro p s h;exact ih _ _ _ h
 |call c' hd g l k ih=>
  intro p s h
  refine xEEA h fun r s' a b=>?_
  exact⟨r,s',a,ih _ _ _ b⟩
 |handled o k ih=>intro p s h;exact ih _ _ _ h
 |pure|raise=>intro p s h;exact h
 |_=>intro p s h;exact False.elim h
noncomputable abbrev SIM:X.XV→Nat→X.SimTy:=PySem.W.ZFast.zw5787569476765984915
theorem sim_q: @X.sim=SIM:=PySem.W.ZFast.ze5787569476765984915
noncomputable def topC:Code:= .body topSts topEnv
noncomputable def belC(q:Pos):List (Code×Pos):=[(.builtin "claim.caller" {},q)]
noncomputable abbrev rowW(w:World)(b:Bool):World:=w.withFollow "special-get-raises" b
def EndsR(V:X.XV)(T:BT)(m i:Nat):Prop:=∀h,X.Rep V h T m []→V.R₀ (.ok .next) ⟨h,⟨[]⟩,V.d,V.t₀+i,V.os⟩
noncomputable def lnew:Code:= .builtin "list.__new__" ⟨[.type "list", .ref 54],[]⟩
noncomputable def tcall:Code:= .builtin "type.__call__" ⟨[.type "list", .ref 54],[]⟩
def blk1P(w:World)(L:Life)(R:Result→Shared→Prop)(d:Drawn)(os:OsState)(p q:Pos):Prop:=
 SIM (V0 w L callerA R d os) 1400 topC none .base (ans topC (belC q) (pieceT (topSts.take 10)) p) (bt0 w.params) 32 282 [] []
theorem blk1f(w0:World)(L:Life)(R:Result→Shared→Prop)(d:Drawn)(os:OsState)(p q:Pos):
  blk1P (rowW w0 false) L R d os p q=(∀(p':Pos) (below:List (Code×Pos)),X.Lies (((((callerA.under topC).mark none).under tcall).mark none).under lnew) ((lnew,p')::below)→
   EndsR (V0 (rowW w0 false) L callerA R d os) (btM (rowW w0 false).params 71 (om (rowW w0 false).params (vs "cpy313.stringprep" 325) 18) (ot9 (rowW w0 false).params)) 71 394):=by kernel_rfl
section
theorem nn{α:Type}{r:α}(h:none=some r){G:Prop}:G:=by cases h
theorem sn{α:Type}{r:α}(h:some r=none){G:Prop}:G:=by cases h
theorem tf(h:true=false){G:Prop}:G:=by cases h
theorem ff(h:false=true){G:Prop}:G:=by cases h
inductive PV where
 |none
 |bool (b:Bool)
 |int (i:Int)
 |str (x:List Nat)
 |list (xs:List PV)
 |tuple (xs:List PV)
 |dict (ks:List (List Nat)) (vs:List PV)
 |range (a b c:Int)
 |obj (v:Value)
noncomputable def sv(x:List Nat):Str:=⟨x.toArray⟩
theorem sv_inj{x y:List Nat}(h:sv x=sv y):x=y:=by
 have:=congrArg (fun s=>s.cps.toList) h
 simpa[sv]using this
theorem sv_of(x:Str):sv x.cps.toList=x:=by cases x;simp[sv]
@[simp] theorem sv_cps(x:List Nat):(sv x).cps.toList=x:=by simp[sv]
theorem sv_length(x:List Nat):(sv x).length=x.length:=by simp[sv,Str.length]
section
variable(prog:Program)(w:World)(h:Heap)(F:Addr→Prop)
mutual
noncomputable def Rv:PV→Value→Prop
 | .none,v=>v= .none
 | .bool b,v=>v= .bool b
 | .int i,v=>∃t,v= .int i t
 | .str x,v=>∃t,v= .str (sv x) t
 | .list xs,v=>∃a vs,v= .ref a∧¬F a∧(a==sysModules)=false∧h.PlainList a vs∧Rvs xs vs.toList
 | .tuple xs,v=>∃a vs,v= .ref a∧¬F a∧h.IsTuple a vs∧Rvs xs vs.toList
 | .dict ks vs,v=>∃a kvs,v= .ref a∧¬F a∧(a==sysModules)=false∧h.DictOf (PySem.strKind prog w) a kvs∧kvs.map (·.1)=ks.map sv∧Rvs vs (kvs.map (·.2))
 | .range a b c,v=>∃r t u z,v= .ref r∧¬F r∧IsRange h r a b c t u z
 | .obj u,v=>v=u
noncomputable def Rvs:List PV→List Value→Prop
 |[],vs=>vs=[]
 |x::xs,vs=>∃v r,vs=v::r∧Rv x v∧Rvs xs r
end
end
def Up(h:Heap)(F:Addr→Prop)(h':Heap)(F':Addr→Prop):Prop:=∀a o,h.get? a=some o→¬F a→¬F' a∧h'.get? a=some o
def Ext(h h':Heap):Prop:=∀a o,h.get? a=some o→h'.get? a=some o
theorem Ext.refl(h:Heap):Ext h h:=fun Y Y e=>e
theorem Ext.trans{h h' h'':Heap}(x:Ext h h')(y:Ext h' h''):Ext h h'':=fun a o e=>y a o (x a o e)
theorem Ext.push(h:Heap)(o:Obj):Ext h (h.push o):=fun Y Y e=>bd _ e
theorem Ext.up{h h':Heap}(x:Ext h h')(F:Addr→Prop):Up h F h' F:=fun a o e n=>⟨n,x a o e⟩
theorem Up.refl(h:Heap)(F:Addr→Prop):Up h F h F:=fun Y Y e n=>⟨n,e⟩
theorem Up.trans{h h' h'':Heap}{F F' F'':Addr→Prop}(x:Up h F h' F')(y:Up h' F' h'' F''):Up h F h'' F'':=
 fun a o e n=>y a o (x a o e n).2 (x a o e n).1
section
variable{prog:Program}{w:World}{h h':Heap}{F F':Addr→Prop}
mutual
theorem Rv.up(U:Up h F h' F'):∀(p:PV) {v:Value},Rv prog w h F p v→Rv prog w h' F' p v
 | .none,_,r=>r
 | .bool _,_,r=>r
 | .int _,_,r=>r
 | .str _,_,r=>r
 | .obj _,_,r=>r
 | .list xs,v,r=>by
  show Exists _
  refine xEEAAAA r fun a vs Y nf ns il rs=>?_;clear r;subst Y
  refine xE il fun n ho=>?_
  refine xA (U a _ ho nf) fun n' ho'=>?_
  exact⟨a,vs,rfl,n',ns,⟨n,ho'⟩,Rvs.up U xs rs⟩
 | .tuple xs,v,r=>by
  show Exists _
  refine xEEAAA r fun a vs Y nf il rs=>?_;clear r;subst Y
  refine xEA il fun o ho q=>?_
  refine xA (U a o ho nf) fun n' ho'=>?_
  exact⟨a,vs,rfl,n',⟨o,ho',q⟩,Rvs.up U xs rs⟩
 | .dict ks vs,v,r=>by
  show Exists _
  refine xEEAAAA r fun a kvs Y nf ns il Y1=>?_;clear r;refine xA Y1 fun ek rs=>?_;subst Y
  refine xEA (Heap.dictOf_iff.mp il) fun o ho q=>?_
  refine xA (U a o ho nf) fun n' ho'=>?_
  exact⟨a,kvs,rfl,n',ns,Heap.dictOf_iff.mpr ⟨o,ho',q⟩,ek,Rvs.up U vs rs⟩
 | .range a b c,v,r=>by
  show Exists _
  refine xEEEEAA r fun q t u z Y nf ir=>?_;clear r;subst Y
  refine xA (U q _ ir nf) fun n' ho'=>?_
  exact⟨q,t,u,z,rfl,n',ho'⟩
theorem Rvs.up(U:Up h F h' F'):∀(ps:List PV) {vs:List Value},Rvs prog w h F ps vs→Rvs prog w h' F' ps vs
 |[],_,r=>r
 |p::ps,vs,r=>by
  show Exists _
  refine xEEAA r fun v rest Y r1 r2=>?_;clear r;subst Y
  exact⟨v,rest,rfl,Rv.up U p r1,Rvs.up U ps r2⟩
end
theorem Rvs.length:∀{ps:List PV} {vs:List Value},Rvs prog w h F ps vs→vs.length=ps.length
 |[],_,r=>by have r:_=[]:=r;subst r;rfl
 |p::ps,vs,r=>by
  refine xEEAA r fun v rest Y Y9 r2=>?_;clear r;subst Y
  simp[Rvs.length r2]
theorem Rvs.get:∀{ps:List PV} {vs:List Value} (_:Rvs prog w h F ps vs) {i:Nat} {p:PV},ps[i]?=some p→∃v,vs[i]?=some v∧Rv prog w h F p v
 |[],_,_,i,p,e=>by simp at e
 |q::ps,vs,r,i,p,e=>by
  refine xEEAA r fun v rest Y r1 r2=>?_;clear r;subst Y
  cases i with
  |zero=>simp only[List.getElem?_cons_zero,Option.some.injEq]at e;subst e;exact⟨v,rfl,r1⟩
  |succ n=>simp only[List.getElem?_cons_succ]at e⊢;exact Rvs.get r2 e
theorem Rvs.append:∀{ps qs:List PV} {vs us:List Value},Rvs prog w h F ps vs→Rvs prog w h F qs us→Rvs prog w h F (ps++qs) (vs++us)
 |[],_,_,_,r,r'=>by have r:_=[]:=r;subst r;simpa using r'
 |p::ps,qs,vs,us,r,r'=>by
  refine xEEAA r fun v rest Y r1 r2=>?_;clear r;subst Y
  show Exists _
  exact⟨v,rest++us,rfl,r1,Rvs.append r2 r'⟩
theorem Rvs.nil:Rvs prog w h F [] []:=rfl
theorem Rvs.cons{p:PV}{v:Value}{ps:List PV}{vs:List Value}(r:Rv prog w h F p v)(rs:Rvs prog w h F ps vs):Rvs prog w h F (p::ps) (v::vs):=⟨v,vs,rfl,r,rs⟩
theorem Rvs.one{p:PV}{v:Value}(r:Rv prog w h F p v):Rvs prog w h F [p] [v]:=⟨v,[],rfl,r,rfl⟩
theorem Rvs.of_get:∀{ps:List PV} {vs:List Value},vs.length=ps.length→(∀(i:Nat) p v,ps[i]?=some p→vs[i]?=some v→Rv prog w h F p v)→Rvs prog w h F ps vs
 |[],vs,hl,_=>by cases vs with|nil=>exact Rvs.nil|cons=>simp at hl
 |p::ps,[],hl,_=>by simp at hl
 |p::ps,v::vs,hl,H=>by
  show Exists _
  refine⟨v,vs,rfl,H 0 p v rfl rfl,Rvs.of_get (by simpa using hl) fun i q u h1 h2=>H (i+1) q u (by simpa using h1) (by simpa using h2)⟩
theorem Rvs.take{n:Nat}{ps:List PV}{vs:List Value}(r:Rvs prog w h F ps vs):Rvs prog w h F (ps.take n) (vs.take n):=by
 refine Rvs.of_get (by simp[r.length]) fun i p v h1 h2=>?_
 rw[List.getElem?_take]at h1 h2
 split at h1
 ·rename_i hi
  rw[if_pos hi]at h2
  refine xEA (r.get h1) fun v' e q=>?_
  rw[e]at h2;cases h2;exact q
 ·cases h1
theorem Rvs.drop{n:Nat}{ps:List PV}{vs:List Value}(r:Rvs prog w h F ps vs):Rvs prog w h F (ps.drop n) (vs.drop n):=by
 refine Rvs.of_get (by simp[r.length]) fun i p v h1 h2=>?_
 rw[List.getElem?_drop]at h1 h2
 refine xEA (r.get h1) fun v' e q=>?_
 rw[e]at h2;cases h2;exact q
end
def FL(h:Heap)(F:Addr→Prop):Prop:=∀a,F a→∃o,h.get? a=some o
theorem FL.ext{h h':Heap}{F:Addr→Prop}(x:FL h F)(e:Ext h h'):FL h' F:=fun a f=>xE (x a f) fun o ho=>⟨o,e a o ho⟩
theorem FL.fresh{h:Heap}{F:Addr→Prop}(x:FL h F){a:Addr}(e:h.get? a=none):¬F a:=fun f=>by
 refine xE (x a f) fun o ho=>?_;rw[e]at ho;cases ho
theorem get?_size(h:Heap):h.get? h.objs.size=none:=by
 cases e:h.get? h.objs.size with
 |none=>rfl
 |some o=>exact absurd (bh e) (Nat.lt_irrefl _)
theorem FL.new{h:Heap}{F:Addr→Prop}(x:FL h F):¬F h.objs.size:=x.fresh (get?_size h)
def VarAt(h:Heap)(env:Env)(x:Str)(v:Value):Prop:=
 (env.kindOf x=some .local∧∃m,h.Ns env.locals m∧m x=some v)∨
 (env.kindOf x=some .cell∧∃c,env.cells.lookup x=some c∧h.IsCell c (some v))∨
 (env.kindOf x=some .free∧(x==br "__classdict__")=false∧∃c,env.cells.lookup x=some c∧h.IsCell c (some v))
theorem VarAt.ext{h h':Heap}{env:Env}{x:Str}{v:Value}(e:Ext h h'):VarAt h env x v→VarAt h' env x v
 | .inl ⟨k,m,n,q⟩=> .inl ⟨k,m,n.at' fun o ho=>e _ o ho,q⟩
 | .inr (.inl ⟨k,c,hc,i⟩)=> .inr (.inl ⟨k,c,hc,i.keeps e⟩)
 | .inr (.inr ⟨k,kk,c,hc,i⟩)=> .inr (.inr ⟨k,kk,c,hc,i.keeps e⟩)
theorem VarAt.load{prog:Program}{w:World}{A:Around}{E:Value→Shared→Prop}{s:Shared}{env:Env}{x:Str}{v:Value}{Q:Value→Shared→Prop}
  (hk:env.scope.kind= .function) (V:VarAt s.heap env x v) (h:Q v s):wpAny (model prog w) A (loadName env x) Q E s:=by
 rcases V with ⟨k,m,n,q⟩|⟨k,c,hc,i⟩|⟨k,kk,c,hc,i⟩
 ·exact wpAny_loadName_local hk k n q h
 ·exact wpAny_loadName_cell hk k hc i h
 ·exact wpAny_loadName_free hk k hc i h kk
structure AOk(n:Nat)(A:Around):Prop where
 handled:A.handled=none
 depth:A.depth+n≤900
 units:A.units+8*n≤9000
theorem AOk.le{n m:Nat}{A:Around}(x:AOk n A)(h:m≤n):AOk m A:=⟨x.handled,by have:=x.depth;lia,by have:=x.units;lia⟩
theorem AOk.lt{a b K:Nat}{A:Around}(x:AOk (a+K) A)(h:b.ble a=true:=by decide):AOk (b+K) A:=x.le (Nat.add_le_add_right (Nat.le_of_ble_eq_true h) K)
theorem AOk.pr{a K:Nat}{A:Around}(x:AOk (a+1+K) A):AOk (a+K) A:=x.le (Nat.add_le_add_right (Nat.le_succ a) K)
theorem AOk.in1{n:Nat}{A:Around}(x:AOk (n+1) A):AOk n A.in1:=⟨x.handled,by have:=x.depth;simp;lia,by have:=x.units;simp;lia⟩
theorem AOk.deeper{n:Nat}{A:Around}(x:AOk (n+1) A)(env:Env):AOk n (A.deeper env):=⟨x.handled,by have:=x.depth;simp[Around.deeper];lia,by have:=x.units;simp;lia⟩
theorem AOk.lim{n:Nat}{A:Around}(x:AOk n A):A.depth<recursionLimit:=by have:=x.depth;unfold recursionLimit;lia
theorem AOk.cline{n:Nat}{A:Around}(x:AOk n A):A.units<cLine:=by have:=x.units;unfold cLine;lia
end
section
def Post(prog:Program)(w:World)(F:Addr→Prop)(p:PV)(s:Shared)(Q:Value→Shared→Prop):Prop:=
 ∀v h' t',Ext s.heap h'→Rv prog w h' F p v→Q v {s with heap:=h',toks:=t'}
def PostB(b:Bool)(s:Shared)(Q:Bool→Shared→Prop):Prop:=∀h' t',Ext s.heap h'→Q b {s with heap:=h',toks:=t'}
theorem Post.same{prog:Program}{w:World}{F:Addr→Prop}{p:PV}{s:Shared}{Q:Value→Shared→Prop}(H:Post prog w F p s Q){v:Value}(r:Rv prog w s.heap F p v):Q v s:=H v s.heap s.toks (Ext.refl _) r
theorem Post.tok{prog:Program}{w:World}{F:Addr→Prop}{p:PV}{s:Shared}{Q:Value→Shared→Prop}(H:Post prog w F p s Q){v:Value}{t:Nat}(r:Rv prog w s.heap F p v):Q v {s with toks:=t}:=H v s.heap t (Ext.refl _) r
theorem Post.later{prog:Program}{w:World}{F:Addr→Prop}{p:PV}{s:Shared}{Q:Value→Shared→Prop}(H:Post prog w F p s Q){h':Heap}{t':Nat}(e:Ext s.heap h'):Post prog w F p {s with heap:=h',toks:=t'} Q:=
 fun v h'' t'' e' r=>H v h'' t'' (e.trans e') r
theorem PostB.later{b:Bool}{s:Shared}{Q:Bool→Shared→Prop}(H:PostB b s Q){h':Heap}{t':Nat}(e:Ext s.heap h'):PostB b {s with heap:=h',toks:=t'} Q:=
 fun h'' t'' e'=>H h'' t'' (e.trans e')
theorem PostB.tok{b:Bool}{s:Shared}{Q:Bool→Shared→Prop}(H:PostB b s Q){t:Nat}:Q b {s with toks:=t}:=H s.heap t (Ext.refl _)
theorem PostB.same{b:Bool}{s:Shared}{Q:Bool→Shared→Prop}(H:PostB b s Q):Q b s:=H s.heap s.toks (Ext.refl _)
section
variable{prog:Program}{w:World}{h:Heap}{F:Addr→Prop}{v:Value}
theorem Rv.int_iff{i:Int}:Rv prog w h F (.int i) v↔∃t,v= .int i t:=Iff.rfl
theorem Rv.str_iff{x:List Nat}:Rv prog w h F (.str x) v↔∃t,v= .str (sv x) t:=Iff.rfl
theorem Rv.bool_iff{b:Bool}:Rv prog w h F (.bool b) v↔v= .bool b:=Iff.rfl
theorem Rv.none_iff:Rv prog w h F .none v↔v= .none:=Iff.rfl
theorem Rv.list_iff{xs:List PV}:Rv prog w h F (.list xs) v↔∃a vs,v= .ref a∧¬F a∧(a==sysModules)=false∧h.PlainList a vs∧Rvs prog w h F xs vs.toList:=Iff.rfl
theorem Rv.tuple_iff{xs:List PV}:Rv prog w h F (.tuple xs) v↔∃a vs,v= .ref a∧¬F a∧h.IsTuple a vs∧Rvs prog w h F xs vs.toList:=Iff.rfl
theorem Rv.dict_iff{ks:List (List Nat)}{vs:List PV}:Rv prog w h F (.dict ks vs) v↔∃a kvs,v= .ref a∧¬F a∧(a==sysModules)=false∧h.DictOf (PySem.strKind prog w) a kvs∧kvs.map (·.1)=ks.map sv∧Rvs prog w h F vs (kvs.map (·.2)):=Iff.rfl
theorem Rv.range_iff{a b c:Int}:Rv prog w h F (.range a b c) v↔∃r t u z,v= .ref r∧¬F r∧IsRange h r a b c t u z:=Iff.rfl
theorem Rv.int{i:Int}{t:Tok}:Rv prog w h F (.int i) (.int i t):=Rv.int_iff.mpr ⟨t,rfl⟩
theorem Rv.str{x:List Nat}{t:Tok}:Rv prog w h F (.str x) (.str (sv x) t):=Rv.str_iff.mpr ⟨t,rfl⟩
theorem Rv.bool{b:Bool}:Rv prog w h F (.bool b) (.bool b):=Rv.bool_iff.mpr rfl
theorem Rv.none:Rv prog w h F .none .none:=Rv.none_iff.mpr rfl
end
noncomputable def smallI(i:Int):Bool:=i.natAbs.blt (2^60)
theorem intBits_small{i:Int}(h:smallI i=true):Builtin.Int.intBits i≤64:=by
 have h1:i.natAbs<2^60:=by simpa[smallI]using h
 unfold Builtin.Int.intBits
 split
 ·lia
 ·rename_i h0
  have:=(Nat.log2_lt (by intro e;apply h0;simp[Int.natAbs_eq_zero.mp e]:i.natAbs≠0)).mpr h1
  lia
theorem pylong_small{a b:Int}(h:smallI b=true):Builtin.divisionGoesByPylong a b=false:=by
 have h1:b.natAbs<2^60:=by simpa[smallI]using h
 unfold Builtin.divisionGoesByPylong
 have:¬((if(b==0)=true then 0 else b.natAbs.log2/30+1)>300):=by
  split
  ·lia
  ·rename_i h0
   have hb:b.natAbs≠0:=by intro e;apply h0;simp[Int.natAbs_eq_zero.mp e]
   have:=(Nat.log2_lt hb).mpr h1
   lia
 simp only[decide_eq_false this,Bool.false_and]
theorem if_inv{α:Type}{b:Bool}{x:Option α}{r:α}(h:(if b then x else none)=some r){G:Prop}(k:b=true→x=some r→G):G:=by
 cases b with
 |false=>exact nn h
 |true=>exact k rfl h
theorem map_inv{α β:Type}{x:Option α}{f:α→β}{r:β}(h:x.map f=some r){G:Prop}(k:∀a,x=some a→f a=r→G):G:=by
 cases x with
 |none=>exact nn h
 |some a=>exact k a rfl (bn h)
noncomputable def o1{α β:Type}(x:Option α)(f:α→Option β):Option β:=match x with
 |some a=>f a
 |none=>none
noncomputable def o2{α β γ:Type}(x:Option α)(y:Option β)(f:α→β→Option γ):Option γ:=match x with
 |some a=>o1 y (f a)
 |none=>none
theorem o1_inv{α β:Type}{x:Option α}{f:α→Option β}{r:β}(h:o1 x f=some r){G:Prop}(k:∀a,x=some a→f a=some r→G):G:=by
 cases x with
 |none=>exact nn h
 |some a=>exact k a rfl h
theorem o2_inv{α β γ:Type}{x:Option α}{y:Option β}{f:α→β→Option γ}{r:γ}(h:o2 x y f=some r){G:Prop}(k:∀a b,x=some a→y=some b→f a b=some r→G):G:=by
 cases x with
 |none=>exact nn h
 |some a=>exact o1_inv h fun b=>k a b rfl
noncomputable def oe{α β:Type}(x:Option α)(f:α→Option β)(g:Option β):Option β:=match x with
 |some a=>f a
 |none=>g
theorem oe_inv{α β:Type}{x:Option α}{f:α→Option β}{g:Option β}{r:β}(h:oe x f g=some r){G:Prop}(k:∀a,x=some a→f a=some r→G)(l:g=some r→G):G:=by
 cases x with
 |none=>exact l h
 |some a=>exact k a rfl h
theorem oe_inv2{α β:Type}{x:Option α}{f:α→Option β}{g:Option β}{r:β}(h:oe x f g=some r){G:Prop}(k:∀a,x=some a→f a=some r→G)(l:x=none→g=some r→G):G:=by
 cases x with
 |none=>exact l rfl h
 |some a=>exact k a rfl h
noncomputable def gd{α:Type}(b:Bool)(x:Option α):Option α:=match b with
 |true=>x
 |false=>none
theorem gd_inv{α:Type}{b:Bool}{x:Option α}{r:α}(h:gd b x=some r){G:Prop}(k:b=true→x=some r→G):G:=by
 cases b with
 |false=>exact nn h
 |true=>exact k rfl h
noncomputable def sl{α:Type}(b:Bool)(x y:α):α:=match b with
 |true=>x
 |false=>y
theorem oe_mk{α β:Type}{x:Option α}{f:α→Option β}{g:Option β}{a:α}{r:β}(h:x=some a)(k:f a=some r):oe x f g=some r:=by rw[h];exact k
theorem oe_no{α β:Type}{x:Option α}{f:α→Option β}{g:Option β}{r:β}(h:x=none)(k:g=some r):oe x f g=some r:=by rw[h];exact k
theorem o1_mk{α β:Type}{x:Option α}{f:α→Option β}{a:α}{r:β}(h:x=some a)(k:f a=some r):o1 x f=some r:=by rw[h];exact k
theorem gd_mk{α:Type}{b:Bool}{x:Option α}{r:α}(h:b=true)(k:x=some r):gd b x=some r:=by rw[h];exact k
theorem o2_mk{α β γ:Type}{x:Option α}{y:Option β}{f:α→β→Option γ}{a:α}{b:β}{r:γ}(h1:x=some a)(h2:y=some b)(k:f a b=some r):o2 x y f=some r:=by rw[h1,h2];exact k
theorem any_inv{α:Type}{x:Option α}{f:α→Bool}(h:x.any f=true){G:Prop}(k:∀a,x=some a→f a=true→G):G:=by
 cases x with
 |none=>exact ff h
 |some a=>exact k a rfl h
theorem blt_lt{a b:Nat}(h:a.blt b=true):a<b:=by simpa using h
noncomputable def binI(a b:Int):Operator→Option PV
 | .Add=>some (.int (a+b))
 | .Sub=>some (.int (a-b))
 | .Mult=>if smallI a||smallI b then some (.int (a*b))else none
 | .FloorDiv=>if smallI b&&!(b==0)then some (.int (a.fdiv b))else none
 | .Mod=>if !(b==0)then some (.int (a.fmod b))else none
 | .Pow=>if a.natAbs.blt 1000&&decide (0≤b)&&decide (b≤1000)then some (.int (a^b.toNat))else none
 |_=>none
noncomputable def isAdd:Operator→Bool
 | .Add=>true
 |_=>false
theorem isAdd_eq{op:Operator}(h:isAdd op=true):op= .Add:=by cases op<;>first|rfl|exact ff h
noncomputable def isI:PV→Option Int
 | .int a=>some a
 |_=>none
noncomputable def isS:PV→Option (List Nat)
 | .str a=>some a
 |_=>none
noncomputable def isL:PV→Option (List PV)
 | .list a=>some a
 |_=>none
theorem isI_eq{p:PV}{a:Int}(h:isI p=some a):p= .int a:=by cases p<;>first|exact nn h|exact congrArg _ (bn h)
theorem isS_eq{p:PV}{a:List Nat}(h:isS p=some a):p= .str a:=by cases p<;>first|exact nn h|exact congrArg _ (bn h)
theorem isL_eq{p:PV}{a:List PV}(h:isL p=some a):p= .list a:=by cases p<;>first|exact nn h|exact congrArg _ (bn h)
noncomputable def binPV(op:Operator)(p q:PV):Option PV:=
 oe (isI p) (fun a=>o1 (isI q) fun b=>binI a b op)<|oe (isS p) (fun x=>o1 (isS q) fun y=>if isAdd op&&(x.length+y.length).blt 10000 then some (.str (x++y))else none)<|
  o2 (isL p) (isL q) fun x y=>if isAdd op&&(x.length+y.length).blt 10000 then some (.list (x++y))else none
section
variable{prog:Program}{w:World}{A:Around}{E:Value→Shared→Prop}{s:Shared}{F:Addr→Prop}
theorem new_list{n:Nat}(hs:sysModules<s.heap.objs.size){xs:List PV}{vs:List Value}(fl:FL s.heap F)(rs:Rvs prog w s.heap F xs vs):
  Rv prog w (s.heap.push {cls:= .type "list",data:= .seq vs.toArray n}) F (.list xs) (.ref s.heap.objs.size):=by
 refine Rv.list_iff.mpr ⟨_,vs.toArray,rfl,fl.new,?_,⟨n,bc _ rfl⟩,?_⟩
 ·exact beq_eq_false_iff_ne.mpr (Nat.ne_of_gt hs)
 ·simpa using Rvs.up ((Ext.push _ _).up F) _ rs
theorem binI_ok{op:Operator}{a b:Int}{t1 t2:Tok}{r:PV}{Q:Value→Shared→Prop}(e:binI a b op=some r)(H:Post prog w F r s Q):wpAny (model prog w) A (binaryOp op (.int a t1) (.int b t2)) Q E s:=by
 have K:∀{i:Int},PV.int i=r→∀{t:Nat},Q (.int i s.toks) {s with toks:=t}:=fun h=>by subst h;exact H.tok Rv.int
 cases op<;>try exact nn e
 case Add=>exact add_int (K (bn e))
 case Sub=>exact sub_int (K (bn e))
 case Mult=>exact if_inv e fun hl e=>mul_int (K (bn e)) ((Bool.or_eq_true_iff.mp hl).elim (fun q=> .of_left (intBits_small q)) fun q=> .of_right (intBits_small q))
 case FloorDiv=>exact if_inv e fun hl e=>floordiv_int (by simpa using (Bool.and_eq_true_iff.mp hl).2) (K (bn e)) (.inl (pylong_small (Bool.and_eq_true_iff.mp hl).1))
 case Mod=>exact if_inv e fun hl e=>mod_int' (by simpa using hl) (K (bn e))
 case Pow=>
  refine if_inv e fun hl e=>?_
  simp only[bp,decide_eq_true_eq,Nat.blt_eq]at hl
  refine pow_int hl.1.2 ?_ (K (bn e))
  have:Builtin.Int.intBits a≤64:=intBits_small (by simp[smallI];lia)
  have q:(Builtin.Int.intBits a:Int)*b≤64*1000:=Int.mul_le_mul (by exact_mod_cast this) hl.2 hl.1.2 (by decide)
  lia
theorem binPV_ok{op:Operator}{p q r:PV}{u v:Value}{Q:Value→Shared→Prop}(e:binPV op p q=some r)(hs:sysModules<s.heap.objs.size)(fl:FL s.heap F)
  (hu:Rv prog w s.heap F p u) (hv:Rv prog w s.heap F q v) (H:Post prog w F r s Q):wpAny (model prog w) A (binaryOp op u v) Q E s:=by
 refine oe_inv e (fun a hp e=>o1_inv e fun b hq e=>?_) fun e=>oe_inv e (fun x hp e=>o1_inv e fun y hq e=>if_inv e fun hl er=>?_) fun e=>o2_inv e fun x y hp hq e=>if_inv e fun hl er=>?_
 ·refine xE (Rv.int_iff.mp (isI_eq hp▸hu)) fun t1 Y=>?_;subst Y
  refine xE (Rv.int_iff.mp (isI_eq hq▸hv)) fun t2 Y=>?_;subst Y
  exact binI_ok e H
 ·refine xE (Rv.str_iff.mp (isS_eq hp▸hu)) fun t1 Y=>?_;subst Y
  refine xE (Rv.str_iff.mp (isS_eq hq▸hv)) fun t2 Y=>?_;subst Y
  refine xA (Bool.and_eq_true_iff.mp hl) fun ho hl=>?_
  have hl:=blt_lt hl
  rw[isAdd_eq ho]
  refine add_str (fun t' tk=>?_) (by rw[sv_length,sv_length];unfold sizeLine;lia)
  rw[show sv x++sv y=sv (x++y) by show Str.mk _=_;simp[sv]]
  exact H.tok (bn er▸Rv.str)
 ·refine xEEAAAA (Rv.list_iff.mp (isL_eq hp▸hu)) fun a vs Y nf ns Y1 rs=>?_;subst Y;refine xE Y1 fun n il=>?_
  refine xEEAAAA (Rv.list_iff.mp (isL_eq hq▸hv)) fun b us Y nf' ns' Y1 rs'=>?_;subst Y;refine xE Y1 fun n' il'=>?_
  refine xA (Bool.and_eq_true_iff.mp hl) fun ho hl=>?_
  have hl:=blt_lt hl
  have l1:=rs.length
  have l2:=rs'.length
  rw[isAdd_eq ho]
  refine PySem.P.add_list il il' ?_ (by simp only[←cp,l1,l2];unfold sizeLine;lia)
  refine H _ _ _ (Ext.push _ _) ?_
  rw[show vs++us=(vs.toList++us.toList).toArray by apply Array.ext';simp]
  exact bn er▸new_list (n:=0) (prog:=prog) (w:=w) hs fl (rs.append rs')
mutual
noncomputable def eqPV:PV→PV→Option Bool
 | .int a,q=>o1 (isI q) fun b=>some (a==b)
 | .str x,q=>o1 (isS q) fun y=>some (x==y)
 | .list xs,q=>o1 (isL q) fun ys=>if xs.length==ys.length then eqPVs xs ys else some false
 |_,_=>none
noncomputable def eqPVs:List PV→List PV→Option Bool
 |[],_=>some true
 |x::xs,ys=>match ys with
  |[]=>none
  |y::ys=>o2 (eqPV x y) (eqPVs xs ys) fun a b=>some (a&&b)
end
mutual
noncomputable def depPV:PV→Nat
 | .list xs=>depPVs xs+1
 |_=>0
noncomputable def depPVs:List PV→Nat
 |[]=>0
 |x::xs=>max (depPV x) (depPVs xs)
end
mutual
theorem eqPV_refl:∀(p:PV) (b:Bool),eqPV p p=some b→b=true
 | .int a,b,e=>(bn e).symm.trans (beq_self_eq_true a)
 | .str a,b,e=>(bn e).symm.trans (beq_self_eq_true a)
 | .list xs,b,e=>by
  have e:(if xs.length==xs.length then eqPVs xs xs else some false)=some b:=e
  rw[beq_self_eq_true,if_pos rfl]at e;exact eqPVs_refl xs b e
 | .none,b,e=>nn e
 | .bool _,b,e=>nn e
 | .tuple _,b,e=>nn e
 | .dict ..,b,e=>nn e
 | .range ..,b,e=>nn e
 | .obj ..,b,e=>nn e
theorem eqPVs_refl:∀(p:List PV) (b:Bool),eqPVs p p=some b→b=true
 |[],b,e=>(bn e).symm
 |x::xs,b,e=>o2_inv e fun a c h1 h2 e=>by rw[←bn e,eqPV_refl x a h1,eqPVs_refl xs c h2];rfl
end
mutual
theorem Rv.uniq:∀(p q:PV) {v:Value} {b:Bool},eqPV p q=some b→Rv prog w s.heap F p v→Rv prog w s.heap F q v→p=q
 | .int a,q,v,b,e,r,r'=>o1_inv e fun y h Y=>by
  refine xE (Rv.int_iff.mp r) fun t Y=>?_;subst Y
  refine xE (Rv.int_iff.mp (isI_eq h▸r')) fun t' z=>?_
  rw[isI_eq h];injection z with z;rw[z]
 | .str a,q,v,b,e,r,r'=>o1_inv e fun y h Y=>by
  refine xE (Rv.str_iff.mp r) fun t Y=>?_;subst Y
  refine xE (Rv.str_iff.mp (isS_eq h▸r')) fun t' z=>?_
  rw[isS_eq h];injection z with z;rw[sv_inj z]
 | .list xs,q,v,b,e,r,r'=>o1_inv e fun ys h e=>by
  refine xEEAAAA (Rv.list_iff.mp r) fun a vs Y nf ns Y1 rs=>?_;subst Y;refine xE Y1 fun n il=>?_
  refine xEEAAAA (Rv.list_iff.mp (isL_eq h▸r')) fun a' vs' hv nf' ns' Y rs'=>?_;refine xE Y fun n' il'=>?_
  injection hv with hv
  rw[←hv,il]at il'
  injection il' with il'
  injection il' with _ _ il' _
  injection il' with il' _
  rw[←il']at rs'
  have hl:xs.length=ys.length:=by rw[←rs.length,←rs'.length]
  rw[hl,beq_self_eq_true,if_pos rfl]at e
  rw[Rvs.uniq xs ys e rs rs',isL_eq h]
 | .none,q,_,b,e,_,_=>nn e
 | .bool _,q,_,b,e,_,_=>nn e
 | .tuple _,q,_,b,e,_,_=>nn e
 | .dict ..,q,_,b,e,_,_=>nn e
 | .range ..,q,_,b,e,_,_=>nn e
 | .obj ..,q,_,b,e,_,_=>nn e
theorem Rvs.uniq:∀(p q:List PV) {v:List Value} {b:Bool},eqPVs p q=some b→Rvs prog w s.heap F p v→Rvs prog w s.heap F q v→p=q
 |[],[],_,_,_,_,_=>rfl
 |[],y::ys,v,b,e,r,r'=>by
  refine xEEA r' fun Y Y q Y=>?_
  rw[r]at q;exact nomatch q
 |x::xs,[],v,b,e,_,_=>nn e
 |x::xs,y::ys,v,b,e,r,r'=>o2_inv e fun a c h1 h2 Y=>by
  refine xEEAA r fun v1 r1 Y a1 a2=>?_;clear r;subst Y
  refine xEEAA r' fun v2 r2 q b1 b2=>?_
  injection q with q1 q2
  rw[Rv.uniq x y h1 a1 (q1▸b1),Rvs.uniq xs ys h2 a2 (q2▸b2)]
end
open PySem.SeqAt in
mutual
theorem eqPV_at:∀(p q:PV) {u v:Value} {b:Bool} {A:Around},eqPV p q=some b→AOk (depPV p) A→Rv prog w s.heap F p u→Rv prog w s.heap F q v→EqAt A s u v b
 | .int a,q,u,v,b,A,e,ok,r,r'=>o1_inv e fun y h e=>by
  refine xE (Rv.int_iff.mp r) fun t Y=>?_;subst Y
  refine xE (Rv.int_iff.mp (isI_eq h▸r')) fun t' Y=>?_;subst Y
  exact bn e▸(MeetsSeq.EqGives.int a _ t t').at A s
 | .str a,q,u,v,b,A,e,ok,r,r'=>o1_inv e fun y h e=>by
  refine xE (Rv.str_iff.mp r) fun t Y=>?_;subst Y
  refine xE (Rv.str_iff.mp (isS_eq h▸r')) fun t' Y=>?_;subst Y
  have:=(SeqRoads2.EqGives.str (sv a) (sv y) t t').at A s
  rw[sv_cps,sv_cps]at this
  exact bn e▸this
 | .list xs,q,u,v,b,A,e,ok,r,r'=>by
  by_cases huv:u=v
  ·subst huv
   obtain rfl:=Rv.uniq _ _ e r r'
   rw[eqPV_refl _ _ e]
   exact EqAt.same u
  ·refine o1_inv e fun ys h e=>?_
   refine xEEAAAA (Rv.list_iff.mp r) fun a vs Y nf ns il rs=>?_;subst Y
   refine xEEAAAA (Rv.list_iff.mp (isL_eq h▸r')) fun a' vs' Y nf' ns' il' rs'=>?_;subst Y
   have hne:a≠a':=fun q=>huv (by rw[q])
   have l1:=rs.length
   have l2:=rs'.length
   by_cases hl:xs.length=ys.length
   ·rw[if_pos (beq_iff_eq.mpr hl)]at e
    have hsz:vs.size=vs'.size:=by rw[←cp,←cp,l1,l2,hl]
    refine xEA (eqPVs_at xs ys (A:=A.in1) e (by rw[depPV]at ok;exact ok.in1) rs rs') fun f hf hb=>?_
    have:=RcAt.lists (e:=fun j=>f j) il.isList il'.isList hsz ok.cline (fun j h1 h2=>by
     have:=hf j vs[j] vs'[j] (by rw[Array.getElem?_toList];simp[h1]) (by rw[Array.getElem?_toList];simp[h2])
     exact this)
    rw[←cp,l1,hb]at this
    exact EqAt.of_refs hne this
   ·rw[if_neg fun q=>hl (beq_iff_eq.mp q)]at e
    exact bn e▸EqAt.of_refs hne (RcAt.lists_lengths il.isList il'.isList (by simp only[bne_iff_ne,ne_eq];rw[←cp,←cp,l1,l2];exact hl) ok.cline)
 | .none,q,_,_,b,_,e,_,_,_=>nn e
 | .bool _,q,_,_,b,_,e,_,_,_=>nn e
 | .tuple _,q,_,_,b,_,e,_,_,_=>nn e
 | .dict ..,q,_,_,b,_,e,_,_,_=>nn e
 | .range ..,q,_,_,b,_,e,_,_,_=>nn e
 | .obj ..,q,_,_,b,_,e,_,_,_=>nn e
theorem eqPVs_at:∀(p q:List PV) {us vs:List Value} {b:Bool} {A:Around},eqPVs p q=some b→AOk (depPVs p) A→Rvs prog w s.heap F p us→Rvs prog w s.heap F q vs→
  ∃f:Nat→Bool,(∀j u v,us[j]?=some u→vs[j]?=some v→EqAt A s u v (f j))∧(List.range p.length).all f=b
 |[],q,us,vs,b,A,e,ok,r,r'=>by
  exact⟨fun Y=>true,fun j u v h=>by rw[r]at h;exact nn h,bn e⟩
 |x::xs,[],_,_,_,_,e,_,_,_=>nn e
 |x::xs,y::ys,us,vs,b,A,e,ok,r,r'=>o2_inv e fun a c h1 h2 e=>by
  refine xEEAA r fun v1 r1 Y a1 a2=>?_;clear r;subst Y
  refine xEEAA r' fun v2 r2 Y b1 b2=>?_;clear r';subst Y
  rw[depPVs]at ok
  have e1:=eqPV_at x y h1 (ok.le (Nat.le_max_left _ _)) a1 b1
  refine xEA (eqPVs_at xs ys h2 (ok.le (Nat.le_max_right _ _)) a2 b2) fun f hf hb=>?_
  refine⟨fun j=>match j with|0=>a|j+1=>f j,fun j u v hu hv=>?_,?_⟩
  ·cases j with
   |zero=>exact bn hu▸bn hv▸e1
   |succ j=>exact hf j u v hu hv
  ·rw[bx,List.range_succ_eq_map,List.all_cons,List.all_map,←bn e,←hb];rfl
end
end
end
section
noncomputable def isB:PV→Option Bool
 | .bool a=>some a
 |_=>none
noncomputable def isD:PV→Option (List (List Nat)×List PV)
 | .dict a b=>some (a,b)
 |_=>none
theorem isB_eq{p:PV}{a:Bool}(h:isB p=some a):p= .bool a:=by cases p<;>first|exact nn h|exact congrArg _ (bn h)
theorem isD_eq{p:PV}{a:List (List Nat)×List PV}(h:isD p=some a):p= .dict a.1 a.2:=by cases p<;>first|exact nn h|exact congrArg (fun z:List (List Nat)×List PV=>PV.dict z.1 z.2) (bn h)
noncomputable def sgl{α:Type}:List α→Option α
 |[a]=>some a
 |_=>none
noncomputable def dbl{α:Type}:List α→Option (α×α)
 |[a,b]=>some (a,b)
 |_=>none
theorem sgl_eq{α:Type}{l:List α}{a:α}(h:sgl l=some a):l=[a]:=by
 rcases l with _|⟨b,_|⟨c,l⟩⟩<;>first|exact nn h|exact congrArg (fun z=>[z]) (bn h)
noncomputable def tpl{α:Type}:List α→Option (α×α×α)
 |[a,b,c]=>some (a,b,c)
 |_=>none
theorem tpl_eq{α:Type}{l:List α}{a:α×α×α}(h:tpl l=some a):l=[a.1,a.2.1,a.2.2]:=by
 rcases l with _|⟨b,_|⟨c,_|⟨d,_|⟨e,l⟩⟩⟩⟩<;>first|exact nn h|exact congrArg (fun z:α×α×α=>[z.1,z.2.1,z.2.2]) (bn h)
theorem len_1{α:Type}{l:List α}(h:l.length=1):∃a,l=[a]:=List.length_eq_one_iff.mp h
theorem len_2{α:Type}{l:List α}(h:l.length=2):∃a b,l=[a,b]:=by
 refine xEE (List.exists_cons_of_length_eq_add_one h) fun a l Y=>?_;subst Y
 refine xE (len_1 (Nat.succ.inj h)) fun b Y=>?_;subst Y
 exact⟨a,b,rfl⟩
theorem len_3{α:Type}{l:List α}(h:l.length=3):∃a b c,l=[a,b,c]:=by
 refine xEE (List.exists_cons_of_length_eq_add_one h) fun a l Y=>?_;subst Y
 refine xEE (len_2 (Nat.succ.inj h)) fun b c Y=>?_;subst Y
 exact⟨a,b,c,rfl⟩
theorem dbl_eq{α:Type}{l:List α}{a:α×α}(h:dbl l=some a):l=[a.1,a.2]:=by
 rcases l with _|⟨b,_|⟨c,_|⟨d,l⟩⟩⟩<;>first|exact nn h|exact congrArg (fun z:α×α=>[z.1,z.2]) (bn h)
noncomputable def eqTop(p q:PV):Option Bool:=oe (isB p) (fun a=>o1 (isB q) fun b=>some (a==b)) (eqPV p q)
noncomputable def cmpPV(op:CmpOp)(p q:PV):Option Bool:=match op with
 | .Eq=>eqTop p q
 | .NotEq=>(eqTop p q).map (!·)
 | .Lt=>o2 (isI p) (isI q) fun a b=>some (decide (a<b))
 | .Gt=>o2 (isI p) (isI q) fun a b=>some (decide (a>b))
 | .In=>o2 (isS p) (isS q) fun x y=>o1 (sgl x) fun c=>some (y.elem c)
 |_=>none
section
variable{prog:Program}{w:World}{A:Around}{E:Value→Shared→Prop}{s:Shared}{F:Addr→Prop}
theorem eqL{xs ys:List PV}{vs vs':Array Value}{b:Bool}(e:(if xs.length==ys.length then eqPVs xs ys else some false)=some b)(ok:AOk (depPV (.list xs)) A)(rs:Rvs prog w s.heap F xs vs.toList)(rs':Rvs prog w s.heap F ys vs'.toList):
  (vs.size=vs'.size∧∃f:Nat→Bool,(∀j (h1:j<vs.size) (h2:j<vs'.size),SeqAt.EqAt A.in1 s vs[j] vs'[j] (f j))∧(List.range vs.size).all f=b)∨((vs.size !=vs'.size)=true∧false=b):=by
 have l1:vs.size=xs.length:=by rw[←cp];exact rs.length
 have l2:vs'.size=ys.length:=by rw[←cp];exact rs'.length
 by_cases hl:xs.length=ys.length
 ·rw[if_pos (beq_iff_eq.mpr hl)]at e
  rw[depPV]at ok
  refine xEA (eqPVs_at xs ys (A:=A.in1) e ok.in1 rs rs') fun f hf hb=>?_
  exact .inl ⟨by rw[l1,l2,hl],f,fun j h1 h2=>hf j _ _ (by rw[Array.getElem?_toList];simp[h1]) (by rw[Array.getElem?_toList];simp[h2]),by rw[l1,hb]⟩
 ·rw[if_neg fun q=>hl (beq_iff_eq.mp q)]at e
  exact .inr ⟨by rw[bne_iff_ne,l1,l2];exact hl,bn e⟩
set_option tactic.hygienic true in
theorem eq_ok{p q:PV}{b:Bool}{u v:Value}{Q:Value→Shared→Prop}(e:eqPV p q=some b)(ok:AOk (depPV p) A)
  (hu:Rv prog w s.heap F p u) (hv:Rv prog w s.heap F q v) (H:Q (.bool b) s):wpAny (model prog w) A (compareOp .Eq u v) Q E s:=by
 cases p<;>try exact nn e
 case int=>
  refine o1_inv e fun y h e=>?_
  refine xE (Rv.int_iff.mp hu) fun t1 Y=>?_;subst Y;refine xE (Rv.int_iff.mp (isI_eq h▸hv)) fun t2 Y=>?_;subst Y;exact eq_int (bn e▸H)
 case str x=>
  refine o1_inv e fun y h e=>?_
  refine xE (Rv.str_iff.mp hu) fun t1 Y=>?_;subst Y;refine xE (Rv.str_iff.mp (isS_eq h▸hv)) fun t2 Y=>?_;subst Y
  refine eq_str ?_
  rw[show(sv x==sv y)=(x==y) by rw[Bool.eq_iff_iff];simp only[beq_iff_eq];exact⟨sv_inj,fun e=>by rw[e]⟩]
  exact bn e▸H
 case list xs=>
  by_cases huv:u=v
  ·subst huv
   obtain rfl:=Rv.uniq _ _ e hu hv
   refine xEEAAAA (Rv.list_iff.mp hu) fun a vs Y nf ns il rs=>?_;subst Y
   rcases eqL e ok rs rs with ⟨-,f,hf,hb⟩|⟨h, -⟩
   ·exact SeqAt.eq_listAt (e:=f) il.isList il.isList rfl ok.cline hf (hb▸H)
   ·exact absurd rfl (bne_iff_ne.mp h)
  ·refine o1_inv e fun ys h e=>?_
   refine xEEAAAA (Rv.list_iff.mp hu) fun a vs Y nf ns il rs=>?_;subst Y
   refine xEEAAAA (Rv.list_iff.mp (isL_eq h▸hv)) fun a' vs' Y nf' ns' il' rs'=>?_;subst Y
   refine Or.elim (eqL e ok rs rs') (fun Y=>xAEA Y fun hz f hf hb=>?_) fun Y=>xA Y fun h hb=>?_
   ·exact SeqAt.eq_listAt (e:=f) il.isList il'.isList hz ok.cline hf (hb▸H)
   ·exact SeqAt.eq_list_lengthsAt il.isList il'.isList h ok.cline (hb▸H)
set_option tactic.hygienic true in
theorem ne_ok{p q:PV}{b:Bool}{u v:Value}{Q:Value→Shared→Prop}(e:eqPV p q=some b)(ok:AOk (depPV p) A)
  (hu:Rv prog w s.heap F p u) (hv:Rv prog w s.heap F q v) (H:Q (.bool !b) s):wpAny (model prog w) A (compareOp .NotEq u v) Q E s:=by
 cases p<;>try exact nn e
 case int=>
  refine o1_inv e fun y h e=>?_
  refine xE (Rv.int_iff.mp hu) fun t1 Y=>?_;subst Y;refine xE (Rv.int_iff.mp (isI_eq h▸hv)) fun t2 Y=>?_;subst Y;rw[←bn e]at H;exact ne_int H
 case str x=>
  refine o1_inv e fun y h e=>?_
  refine xE (Rv.str_iff.mp hu) fun t1 Y=>?_;subst Y;refine xE (Rv.str_iff.mp (isS_eq h▸hv)) fun t2 Y=>?_;subst Y
  refine ne_str ?_
  show Q (.bool (!(sv x==sv y))) s
  rw[show(sv x==sv y)=(x==y) by rw[Bool.eq_iff_iff];simp only[beq_iff_eq];exact⟨sv_inj,fun e=>by rw[e]⟩]
  exact bn e▸H
 case list xs=>
  refine o1_inv e fun ys h e=>?_
  refine xEEAAAA (Rv.list_iff.mp hu) fun a vs Y nf ns il rs=>?_;subst Y
  refine xEEAAAA (Rv.list_iff.mp (isL_eq h▸hv)) fun a' vs' Y nf' ns' il' rs'=>?_;subst Y
  refine Or.elim (eqL e ok rs rs') (fun Y=>xAEA Y fun hz f hf hb=>?_) fun Y=>xA Y fun h hb=>?_
  ·exact SeqAt.RcNeAt.lists (e:=f) il.isList il'.isList hz ok.cline hf prog w E Q (hb▸H)
  ·rw[←hb]at H;exact SeqAt.RcNeAt.lists_lengths il.isList il'.isList h ok.cline prog w E Q H
theorem cmpPV_ok{op:CmpOp}{p q:PV}{b:Bool}{u v:Value}{Q:Value→Shared→Prop}(e:cmpPV op p q=some b)(ok:AOk (depPV p) A)
  (hu:Rv prog w s.heap F p u) (hv:Rv prog w s.heap F q v) (H:Q (.bool b) s):wpAny (model prog w) A (compareOp op u v) Q E s:=by
 cases op<;>try exact nn e
 case Eq=>
  refine oe_inv e (fun x h e=>o1_inv e fun y h' e=>?_) fun e=>eq_ok e ok hu hv H
  obtain rfl:=Rv.bool_iff.mp (isB_eq h▸hu)
  obtain rfl:=Rv.bool_iff.mp (isB_eq h'▸hv)
  exact eq_bool (bn e▸H)
 case NotEq=>
  refine map_inv e fun c ec e=>oe_inv ec (fun x h ec=>o1_inv ec fun y h' ec=>?_) fun ec=>ne_ok ec ok hu hv (e▸H)
  obtain rfl:=Rv.bool_iff.mp (isB_eq h▸hu)
  obtain rfl:=Rv.bool_iff.mp (isB_eq h'▸hv)
  exact ne_bool (by rw[←e,←bn ec]at H;exact H)
 case Lt=>
  refine o2_inv e fun x y h h' e=>?_
  refine xE (Rv.int_iff.mp (isI_eq h▸hu)) fun t1 Y=>?_;subst Y;refine xE (Rv.int_iff.mp (isI_eq h'▸hv)) fun t2 Y=>?_;subst Y;exact lt_int (bn e▸H)
 case Gt=>
  refine o2_inv e fun x y h h' e=>?_
  refine xE (Rv.int_iff.mp (isI_eq h▸hu)) fun t1 Y=>?_;subst Y;refine xE (Rv.int_iff.mp (isI_eq h'▸hv)) fun t2 Y=>?_;subst Y;exact gt_int (bn e▸H)
 case In=>
  refine o2_inv e fun z x h h' e=>o1_inv e fun c hc e=>?_
  refine xE (Rv.str_iff.mp (isS_eq h▸hu)) fun t1 Y=>?_;subst Y;refine xE (Rv.str_iff.mp (isS_eq h'▸hv)) fun t2 Y=>?_;subst Y
  rw[sgl_eq hc]
  refine in_str ?_
  rw[show sv [c]=⟨#[c]⟩from rfl,StrLaws.found_one,sv_cps,←List.elem_eq_mem]
  exact bn e▸H
noncomputable def nonNil{α:Type}:List α→Bool
 |[]=>false
 |_::_=>true
noncomputable def truPV:PV→Option Bool
 | .bool b=>some b
 | .int i=>some (i !=0)
 | .none=>some false
 | .str x=>if x.length.blt 10000 then some (nonNil x)else none
 | .list xs=>if xs.length.blt 10000 then some (nonNil xs)else none
 |_=>none
set_option tactic.hygienic true in
theorem truPV_ok{p:PV}{b:Bool}{v:Value}{Q:Bool→Shared→Prop}(e:truPV p=some b)(hv:Rv prog w s.heap F p v)(H:PostB b s Q):wpAny (model prog w) A (truthy v) Q E s:=by
 cases p<;>try exact nn e
 case none=>rw[Rv.none_iff.mp hv];exact truthy_none (bn e▸H.same)
 case bool=>rw[Rv.bool_iff.mp hv];exact av (bn e▸H.same)
 case int=>refine xE (Rv.int_iff.mp hv) fun t Y=>?_;subst Y;exact truthy_int (bn e▸H.same)
 case str x=>
  refine if_inv e fun hl e=>?_
  refine xE (Rv.str_iff.mp hv) fun t Y=>?_;subst Y
  have hl:=blt_lt hl
  refine P.truthy_str (by rw[sv_length];omega) ?_
  rw[show(((sv x).length:Int) !=0)=nonNil x by rw[sv_length];cases x<;>rfl,bn e]
  exact H.tok
 case list xs=>
  refine if_inv e fun hl e=>?_
  refine xEEAAAA (Rv.list_iff.mp hv) fun a vs Y nf ns il rs=>?_;subst Y
  have hl:=blt_lt hl
  have l1:=rs.length
  refine wpAny_truthy_list il.isList (by rw[←cp,l1];omega) ?_
  rw[show(!vs.isEmpty)=nonNil xs by cases xs<;>simp[Array.isEmpty,←cp,l1,nonNil],bn e]
  exact H.tok
noncomputable def idxL{α:Type}(l:List α)(i:Int):Option α:=
 if decide (0≤i)then(if l.length.blt 10000 then l[i.toNat]? else none)else if decide (-(l.length:Int)≤i)&&l.length.blt 10000 then l[(i+l.length).toNat]? else none
noncomputable def cutL{α:Type}(l:List α)(lo hi:Option Int):List α:=
 (l.drop (lo.elim 0 (clipAt l.length))).take (hi.elim l.length (clipAt l.length)-lo.elim 0 (clipAt l.length))
noncomputable def findK:List (List Nat)→List PV→List Nat→Option PV
 |k::ks,v::vs,x=>if k==x then some v else findK ks vs x
 |_,_,_=>none
noncomputable def subPV(p q:PV):Option PV:=oe (isL p) (fun xs=>o1 (isI q) (idxL xs))<|oe (isS p) (fun x=>o1 (isI q) fun i=>(idxL x i).map fun c=> .str [c])<|o2 (isD p) (isS q) fun d=>findK d.1 d.2
noncomputable def partPV:PV→Option (Option Int)
 | .none=>some none
 | .int i=>some (some i)
 |_=>none
noncomputable def slicePV(p l u:PV):Option PV:=o2 (partPV l) (partPV u) fun l u=>oe (isL p) (fun xs=>if xs.length.blt 10000 then some (.list (cutL xs l u))else none)<|o1 (isS p) fun x=>if x.length.blt 10000 then some (.str (cutL x l u))else none
theorem idxL_some{α:Type}{l:List α}{i:Int}{x:α}(e:idxL l i=some x):
  l.length<10000∧((0≤i∧i<l.length∧l[i.toNat]?=some x)∨(i<0∧ -(l.length:Int)≤i∧l[(i+l.length).toNat]?=some x)):=by
 by_cases h:0≤i
 ·rw[idxL,decide_eq_true h]at e
  refine if_inv e fun hl e=>⟨blt_lt hl, .inl ⟨h,?_,e⟩⟩
  have:=(List.getElem?_eq_some_iff.mp e).1
  omega
 ·rw[idxL,decide_eq_false h]at e
  refine if_inv e fun h2 e=>?_
  rw[bp,decide_eq_true_eq,Nat.blt_eq]at h2
  exact⟨h2.2, .inr ⟨Int.not_le.mp h,h2.1,e⟩⟩
theorem seqIndex_of{α:Type}{l:List α}{i:Int}{x:α}(e:idxL l i=some x):∃j,seqIndex? i l.length=some j∧l[j]?=some x:=by
 refine xA (idxL_some e) fun hl h=>?_
 rcases h with ⟨h0,h1,h2⟩|⟨h0,h1,h2⟩
 ·refine⟨i.toNat,?_,h2⟩
  unfold seqIndex?
  rw[if_neg (Int.not_lt.mpr h0)]
  simp only[decide_eq_true h0,decide_eq_true h1];rfl
 ·refine⟨(i+l.length).toNat,?_,h2⟩
  unfold seqIndex?
  rw[if_pos h0]
  simp only[decide_eq_true (show(0:Int)≤i+l.length by omega),decide_eq_true (show i+(l.length:Int)<l.length by omega)];rfl
theorem find_at:∀{ks:List (List Nat)} {vs:List PV} {x:List Nat} {p:PV} {kvs:List (Str×Value)},findK ks vs x=some p→kvs.map (·.1)=ks.map sv→Rvs prog w s.heap F vs (kvs.map (·.2))→
  ∃v,valueAt kvs (sv x)=some v∧Rv prog w s.heap F p v
 |[],_,_,_,_,e,_,_=>nn e
 |k::ks,[],_,_,_,e,_,_=>nn e
 |k::ks,q::vs,x,p,[],e,h1,h2=>nomatch h1
 |k::ks,q::vs,x,p,kv::kvs,e,h1,h2=>by
  simp only[List.map_cons,List.cons.injEq]at h1
  rw[List.map_cons]at h2
  refine xEEAA h2 fun v r e1 r1 r2=>?_
  injection e1 with e1 e2
  subst e1 e2
  by_cases hk:k=x
  ·have e:some q=some p:=(if_pos (beq_iff_eq.mpr hk):(if(k==x)=true then some q else findK ks vs x)=some q).symm.trans e
   exact⟨kv.2,by simp[valueAt,h1.1,hk],bn e▸r1⟩
  ·replace e:=(if_neg (fun q=>hk (beq_iff_eq.mp q)):(if(k==x)=true then some q else findK ks vs x)=findK ks vs x).symm.trans e
   refine xEA (find_at e h1.2 r2) fun v a b=>?_
   refine⟨v,?_,b⟩
   have:¬(kv.1=sv x):=fun q=>hk (by rw[h1.1]at q;simpa using sv_inj q)
   unfold valueAt at a⊢
   rw[List.find?_cons_of_neg (by simpa using this)]
   exact a
theorem subPV_ok{p q r:PV}{u v:Value}{Q:Value→Shared→Prop}(e:subPV p q=some r)(hu:Rv prog w s.heap F p u)(hv:Rv prog w s.heap F q v)(H:Post prog w F r s Q):
  wpAny (model prog w) A (getItem u v) Q E s∧∃T id,s.TypeIs u T∧typeLookup (.type T) (br "__getitem__")=pure (some (.builtin id)):=by
 refine oe_inv e (fun xs hp e=>o1_inv e fun i hq e=>?_) fun e=>oe_inv e (fun x hp e=>o1_inv e fun i hq e=>?_) fun e=>o2_inv e fun d x hp hq e=>?_
 ·refine xEEAAAA (Rv.list_iff.mp (isL_eq hp▸hu)) fun a vs Y nf ns il rs=>?_;subst Y
  refine xE (Rv.int_iff.mp (isI_eq hq▸hv)) fun t Y=>?_;subst Y
  have l1:=rs.length
  refine⟨?_,_,_,il.isList.typeIs,slot_list_getitem.lookup⟩
  refine xA (idxL_some e) fun hl h=>?_
  rcases h with ⟨h0,h1,h2⟩|⟨h0,h1,h2⟩
  ·refine xEA (rs.get h2) fun v e1 e2=>?_
   exact wpAny_getItem_list il.isList h0 (by omega) (by rw[←Array.getElem?_toList];exact e1) (H.same e2)
  ·refine xEA (rs.get h2) fun v e1 e2=>?_
   exact wpAny_getItem_list_neg il.isList h0 (by rw[←cp,l1];exact h1) (by omega) (by rw[←cp,l1,←Array.getElem?_toList];exact e1) (H.same e2)
 ·refine xE (Rv.str_iff.mp (isS_eq hp▸hu)) fun t1 Y=>?_;subst Y
  refine xE (Rv.int_iff.mp (isI_eq hq▸hv)) fun t Y=>?_;subst Y
  refine map_inv e fun c ec er=>⟨?_,_,_,typeIs_str _ _ _,PySem.F.slot_str_getitem.lookup⟩
  refine xEA (seqIndex_of ec) fun j e1 e2=>?_
  refine xA (idxL_some ec) fun hl h=>?_
  refine P.getItem_str (c:=c) ?_ (by rw[sv_length,e1];simp only[Option.bind_some];rw[←Array.getElem?_toList,sv_cps];exact e2) (H.tok (er▸Rv.str (x:=[c])))
  have a1:¬i< -(2^63):=by omega
  have a2:¬i≥2^63:=by omega
  rw[decide_eq_false a1,decide_eq_false a2];rfl
 ·refine xEEAAAA (Rv.dict_iff.mp (isD_eq hp▸hu)) fun a kvs Y nf ns il Y1=>?_;refine xA Y1 fun ek rs=>?_;subst Y
  refine xE (Rv.str_iff.mp (isS_eq hq▸hv)) fun t Y=>?_;subst Y
  refine xEA (find_at e ek rs) fun v e1 e2=>?_
  exact⟨wpAny_getItem_of (by simp[PySem.strKind,Value.isStrOf]) il.mapOf e1 (H.tok e2),_,_,il.typeIs,PySem.F.slot_dict_getitem.lookup⟩
theorem strIdx_cut(x:List Nat)(lo hi:Option Int):(Builtin.Str.strSliceIndices lo hi 1 x.length).filterMap (fun i=>(sv x).cps[i]?)=cutL x lo hi:=by
 have e1:Builtin.Str.strSliceIndices lo hi 1 x.length=sliceRange (sliceBounds lo hi none x.length).1 (sliceBounds lo hi none x.length).2.1 (sliceBounds lo hi none x.length).2.2:=rfl
 rw[e1,sliceBounds_plain,sliceRange_one,pick_run,sv_cps]
 rfl
theorem clipAt_le(n:Nat)(i:Int):clipAt n i≤n:=by
 have:=clipAt_cast n i
 omega
theorem cut_all{x:List Nat}{lo hi:Option Int}(h:(Builtin.Str.strSliceIndices lo hi 1 x.length).length=x.length):cutL x lo hi=x:=by
 have e1:Builtin.Str.strSliceIndices lo hi 1 x.length=sliceRange (sliceBounds lo hi none x.length).1 (sliceBounds lo hi none x.length).2.1 (sliceBounds lo hi none x.length).2.2:=rfl
 rw[e1,sliceBounds_plain,sliceRange_one]at h
 simp only[List.length_map,List.length_range]at h
 unfold cutL
 have h2:hi.elim x.length (clipAt x.length)≤x.length:=by cases hi<;>simp[clipAt_le]
 refine Or.elim (Nat.eq_zero_or_pos x.length) (fun h0=>?_) fun h0=>?_
 ·have:x=[]:=List.length_eq_zero_iff.mp h0
  subst this;simp
 ·have h3:lo.elim 0 (clipAt x.length)=0:=by omega
  rw[h3]
  simp only[List.drop_zero]
  exact List.take_of_length_le (by omega)
theorem cut_len{α:Type}(x:List α)(lo hi:Option Int):(cutL x lo hi).length≤x.length:=by
 exact Nat.le_trans (List.length_take_le' _ _) (by rw[List.length_drop];exact Nat.sub_le _ _)
noncomputable def optTok:Value→Option (Int×Tok)
 | .int i t=>some (i,t)
 |_=>none
theorem part_ok{p:PV}{v:Value}{o:Option Int}(e:partPV p=some o)(r:Rv prog w s.heap F p v):v=partValue (optTok v)∧(optTok v).map (·.1)=o∧IsPart v o:=by
 cases p<;>try exact nn e
 ·obtain rfl:=bn e;rw[Rv.none_iff.mp r];exact⟨rfl,rfl, .none⟩
 ·obtain rfl:=bn e;refine xE (Rv.int_iff.mp r) fun t Y=>?_;subst Y;exact⟨rfl,rfl, .int _ t⟩
theorem slicePV_ok{p l u r:PV}{o vl vu:Value}{a:Addr}{Q:Value→Shared→Prop}(e:slicePV p l u=some r)(hs:sysModules<s.heap.objs.size)(fl:FL s.heap F)(ho:Rv prog w s.heap F p o)
  (hl:Rv prog w s.heap F l vl) (hu:Rv prog w s.heap F u vu) (hsl:s.heap.get? a=some {cls:= .type "slice",data:= .fields #[vl,vu, .none] }) (H:Post prog w F r s Q):
  wpAny (model prog w) A (getItem o (.ref a)) Q E s∧∃T id,s.TypeIs o T∧typeLookup (.type T) (br "__getitem__")=pure (some (.builtin id)):=by
 refine o2_inv e fun lo hi e1 e2 e=>oe_inv e (fun xs hp e=>if_inv e fun hlen er=>?_) fun e=>o1_inv e fun x hp e=>if_inv e fun hlen er=>?_
 ·refine xEEAAAA (Rv.list_iff.mp (isL_eq hp▸ho)) fun b vs Y nf ns il rs=>?_;subst Y
  have hlen:=blt_lt hlen
  have l1:=rs.length
  refine⟨?_,_,_,il.isList.typeIs,slot_list_getitem.lookup⟩
  refine wpAny_getItem_list_slice il.isList ⟨_,hsl,rfl,rfl⟩ (part_ok e1 hl).2.2 (part_ok e2 hu).2.2 .none (by simp) ?_ (by rw[←cp,l1];unfold sizeLine;omega)
  refine H _ _ _ (Ext.push _ _) ?_
  rw[slicePick_plain,←cp,l1,←bn er]
  exact new_list (n:=0) (prog:=prog) (w:=w) hs fl ((rs.drop).take)
 ·refine xE (Rv.str_iff.mp (isS_eq hp▸ho)) fun t Y=>?_;subst Y
  have hlen:=blt_lt hlen
  refine xAA (part_ok e1 hl) fun a1 b1 Y=>?_
  refine xAA (part_ok e2 hu) fun a2 b2 Y=>?_
  rw[←bn er]at H
  refine⟨?_,_,_,typeIs_str _ _ _,PySem.F.slot_str_getitem.lookup⟩
  refine wpAny_getItem_str_slice (l:=optTok vl) (u:=optTok vu) (st:=none) ⟨_,hsl,rfl,?_⟩ rfl ?_
  ·rw[←a1,←a2];rfl
  ·have hp:slicePicked (sv x) (optTok vl) (optTok vu) none=Builtin.Str.strSliceIndices lo hi 1 x.length:=by
    unfold slicePicked;rw[b1,b2,sv_length];rfl
   unfold sliceMade
   split
   ·rename_i hc
    have hlen:(Builtin.Str.strSliceIndices lo hi 1 x.length).length=x.length:=by
     rw[hp,sv_length]at hc
     simpa using hc
    have:=cut_all hlen
    show Q (.str (sv x) t) s
    rw[this]at H
    exact H.same Rv.str
   ·rw[hp,strIdx_cut]
    have:=cut_len x lo hi
    exact⟨by show(sv (cutL x lo hi)).length≤sizeLine;rw[sv_length];unfold sizeLine;omega,H.tok Rv.str⟩
inductive BI where|len|range|list|max|min|sum|chr|ord
noncomputable def BI.val:BI→Value
 | .len=> .builtin "len" | .range=> .type "range" | .list=> .type "list" | .max=> .builtin "max" | .min=> .builtin "min" | .sum=> .builtin "sum" | .chr=> .builtin "chr" | .ord=> .builtin "ord"
noncomputable def rangeL(a c:Int):Nat→List PV
 |0=>[]
 |n+1=> .int a::rangeL (a+c) c n
noncomputable def sumPV:List PV→Option Int
 |[]=>some 0
 |p::r=>match p with
  | .int i=>(sumPV r).map (i+ ·)
  |_=>none
noncomputable def isR:PV→Option (Int×Int×Int)
 | .range a b c=>some (a,b,c)
 |_=>none
theorem isR_eq{p:PV}{a:Int×Int×Int}(h:isR p=some a):p= .range a.1 a.2.1 a.2.2:=by cases p<;>first|exact nn h|exact congrArg (fun z:Int×Int×Int=>PV.range z.1 z.2.1 z.2.2) (bn h)
noncomputable def lenPV(p:PV):Option PV:=oe (isS p) (fun x=>if x.length.blt 10000 then some (.int x.length)else none)<|o1 (isL p) fun x=>if x.length.blt 10000 then some (.int x.length)else none
noncomputable def rangePV:List PV→Option PV
 |[a]=>o1 (isI a) fun a=>some (.range 0 a 1)
 |[a,b]=>o2 (isI a) (isI b) fun a b=>some (.range a b 1)
 |[a,b,c]=>o2 (isI a) (isI b) fun a b=>o1 (isI c) fun c=>if smallI c&&!(c==0)then some (.range a b c)else none
 |_=>none
noncomputable def okR(r:Int×Int×Int):Bool:=Builtin.Range.small r.1 r.2.1 r.2.2&&decide (Builtin.Range.rangeSize r.1 r.2.1 r.2.2≤10000)&&decide (0≤Builtin.Range.rangeSize r.1 r.2.1 r.2.2)
noncomputable def listPV(p:PV):Option PV:=oe (isS p) (fun x=>if x.length.blt 10000 then some (.list (x.map fun c=> .str [c]))else none)<|o1 (isR p) fun r=>if okR r then some (.list (rangeL r.1 r.2.2 (Builtin.Range.rangeSize r.1 r.2.1 r.2.2).toNat))else none
noncomputable def callBI(f:BI)(ps:List PV):Option PV:=match f with
 | .len=>o1 (sgl ps) lenPV
 | .range=>rangePV ps
 | .list=>o1 (sgl ps) listPV
 | .max=>o1 (dbl ps) fun p=>o2 (isI p.1) (isI p.2) fun a b=>some (.int (if b>a then b else a))
 | .min=>o1 (dbl ps) fun p=>o2 (isI p.1) (isI p.2) fun a b=>some (.int (if b<a then b else a))
 | .sum=>o2 (sgl ps) (o1 (sgl ps) isL) fun Y xs=>(sumPV xs).map .int
 | .chr=>o2 (sgl ps) (o1 (sgl ps) isI) fun Y i=>if decide (0≤i)&&decide (i≤1114111)then some (.str [i.toNat])else none
 | .ord=>o2 (sgl ps) (o1 (sgl ps) isS) fun Y x=>o1 (sgl x) fun c=>some (.int c)
theorem Rvs.one_iff{p:PV}{vs:List Value}{h:Heap}:Rvs prog w h F [p] vs↔∃v,vs=[v]∧Rv prog w h F p v:=
 ⟨fun h=>xEEAA h fun v r e a b=>⟨v,by rw[e,show r=[]from b],a⟩,fun h=>xEA h fun v e a=>e▸Rvs.one a⟩
theorem Rvs.two_iff{p q:PV}{vs:List Value}{h:Heap}:Rvs prog w h F [p,q] vs↔∃v u,vs=[v,u]∧Rv prog w h F p v∧Rv prog w h F q u:=
 ⟨fun h=>xEEAA h fun v r e a b=>xEEAA b fun u r' e' b' c=>⟨v,u,by rw[e,e',show r'=[]from c],a,b'⟩,fun h=>xEEAA h fun v u e a b=>e▸Rvs.cons a (Rvs.one b)⟩
theorem Rvs.three_iff{p q r:PV}{vs:List Value}{h:Heap}:Rvs prog w h F [p,q,r] vs↔∃v u z,vs=[v,u,z]∧Rv prog w h F p v∧Rv prog w h F q u∧Rv prog w h F r z:=
 ⟨fun h=>xEEAA h fun v r e a b=>xEEAA b fun u r' e' b' c=>xEEAA c fun z r'' e'' c' d=>⟨v,u,z,by rw[e,e',e'',show r''=[]from d],a,b',c'⟩,fun h=>xEEEAAA h fun v u z e a b c=>e▸Rvs.cons a (Rvs.cons b (Rvs.one c))⟩
theorem rangeL_get:∀(n:Nat) (a c:Int) (i:Nat) (p:PV),(rangeL a c n)[i]?=some p→p= .int (a+i*c)
 |0,_,_,i,p,e=>by simp[rangeL]at e
 |n+1,a,c,i,p,e=>by
  cases i with
  |zero=>simp only[rangeL,List.getElem?_cons_zero,Option.some.injEq]at e;subst e;simp
  |succ i=>
   simp only[rangeL,List.getElem?_cons_succ]at e
   rw[rangeL_get n (a+c) c i p e]
   congr 1
   rw[Int.natCast_succ,Int.add_mul,Int.one_mul];omega
theorem rangeL_length:∀(n:Nat) (a c:Int),(rangeL a c n).length=n
 |0,_,_=>rfl
 |n+1,a,c=>by simp[rangeL,rangeL_length n]
set_option tactic.hygienic true in
theorem sum_items:∀{xs:List PV} {vs:List Value} {n:Int} {h:Heap},sumPV xs=some n→Rvs prog w h F xs vs→∃l:List (Int×Tok),vs=l.map (fun p=>Value.int p.1 p.2)∧(l.map (·.1)).sum=n
 |[],vs,n,h,e,r=>by
  have r:_=[]:=r;subst r
  simp only[sumPV,Option.some.injEq]at e;subst e
  exact⟨[],rfl,rfl⟩
 |p::xs,vs,n,h,e,r=>by
  refine xEEAA r fun v rest Y a b=>?_;clear r;subst Y
  cases p<;>try exact nn e
  rename_i i
  refine xE (Rv.int_iff.mp a) fun t Y=>?_;subst Y
  refine xEA (Option.map_eq_some_iff.mp e) fun m em Y=>?_;subst Y
  refine xEA (sum_items em b) fun l Y hl=>?_;subst Y
  exact⟨(i,t)::l,rfl,by simp[hl]⟩
theorem one_of{ps:List PV}{p:PV}{vs:List Value}(h:sgl ps=some p)(hv:Rvs prog w s.heap F ps vs){G:Prop}(k:∀v,vs=[v]→Rv prog w s.heap F p v→G):G:=by
 refine xEA (Rvs.one_iff.mp (sgl_eq h▸hv)) fun v a b=>?_;exact k v a b
theorem len_ok{p r:PV}{v:Value}{Q:Value→Shared→Prop}(e:lenPV p=some r)(a:Rv prog w s.heap F p v)(H:Post prog w F r s Q):wpAny (model prog w) A (call (.builtin "len") [v]) Q E s:=by
 refine oe_inv e (fun x hp e=>if_inv e fun hl er=>?_) fun e=>o1_inv e fun x hp e=>if_inv e fun hl er=>?_
 ·refine xE (Rv.str_iff.mp (isS_eq hp▸a)) fun t Y=>?_;subst Y
  have hl:=blt_lt hl
  exact P.len_str (by rw[sv_length];omega) (H.tok (by rw[sv_length,←bn er];exact Rv.int))
 ·refine xEEAAAA (Rv.list_iff.mp (isL_eq hp▸a)) fun b us Y nf ns il rs=>?_;subst Y
  have hl:=blt_lt hl
  have l1:=rs.length
  exact PySem.Calls.call_len_list il.isList (by rw[←cp,l1];omega) (H.tok (by rw[←cp,l1,←bn er];exact Rv.int))
theorem list_ok{p r:PV}{v:Value}{Q:Value→Shared→Prop}(e:listPV p=some r)(hs:sysModules<s.heap.objs.size)(fl:FL s.heap F)(ok:A.handled=none)(a:Rv prog w s.heap F p v)(H:Post prog w F r s Q):wpAny (model prog w) A (call (.type "list") [v]) Q E s:=by
 refine oe_inv e (fun x hp e=>if_inv e fun hl er=>?_) fun e=>o1_inv e fun x hp e=>if_inv e fun hl er=>?_
 ·refine xE (Rv.str_iff.mp (isS_eq hp▸a)) fun t Y=>?_;subst Y
  have hl:=blt_lt hl
  refine call_list_str ok (sv x) t (fun h' tk acc' c' hk ho hi=>?_) (by simp only[sv,List.size_toArray];unfold sizeLine;omega)
  refine H _ _ _ hk (bn er▸?_)
  refine Rv.list_iff.mpr ⟨_,acc',rfl,fl.new,beq_eq_false_iff_ne.mpr (Nat.ne_of_gt hs),⟨c',ho⟩,Rvs.of_get (by rw[cp,hi.1];simp[sv]) fun i p v h1 h2=>?_⟩
  rw[Array.getElem?_toList]at h2
  refine xEEA (hi.2 i v h2) fun c u e1 Y=>?_;subst Y
  have:x[i]?=some c:=by rw[←e1];simp[sv]
  rw[List.getElem?_map,this]at h1
  exact bn h1▸Rv.str
 ·refine xEEEEAA (Rv.range_iff.mp (isR_eq hp▸a)) fun q t u z Y nf ir=>?_;subst Y
  simp only[okR,bp,decide_eq_true_eq]at hl
  refine call_list_range (n:=(Builtin.Range.rangeSize x.1 x.2.1 x.2.2).toNat) ok ir hl.1.1 (by omega) (by omega) (fun h' tk acc' c' hk ho hi=>?_)
  refine H _ _ _ hk (bn er▸?_)
  refine Rv.list_iff.mpr ⟨_,acc',rfl,fl.new,beq_eq_false_iff_ne.mpr (Nat.ne_of_gt hs),⟨c',ho⟩,Rvs.of_get (by rw[cp,hi.1,rangeL_length]) fun i p v h1 h2=>?_⟩
  rw[Array.getElem?_toList]at h2
  refine xE (hi.2 i v h2) fun u Y=>?_;subst Y
  rw[rangeL_get _ _ _ _ _ h1]
  exact Rv.int
theorem range_ok{ps:List PV}{r:PV}{vs:List Value}{Q:Value→Shared→Prop}(e:rangePV ps=some r)(fl:FL s.heap F)(hv:Rvs prog w s.heap F ps vs)(H:Post prog w F r s Q):wpAny (model prog w) A (call (.type "range") vs) Q E s:=by
 rcases ps with _|⟨a,_|⟨b,_|⟨c,_|⟨d,ps⟩⟩⟩⟩
 ·exact nn e
 ·refine o1_inv e fun a h e=>?_
  refine xEA (Rvs.one_iff.mp hv) fun v Y r=>?_;subst Y
  refine xE (Rv.int_iff.mp (isI_eq h▸r)) fun t Y=>?_;subst Y
  exact call_range_1 (H _ _ _ (Ext.push _ _) (bn e▸Rv.range_iff.mpr ⟨_,_,_,_,rfl,fl.new,IsRange.new ..⟩))
 ·refine o2_inv e fun a b h1 h2 e=>?_
  refine xEEAA (Rvs.two_iff.mp hv) fun v u Y a b=>?_;subst Y
  refine xE (Rv.int_iff.mp (isI_eq h1▸a)) fun t Y=>?_;subst Y
  refine xE (Rv.int_iff.mp (isI_eq h2▸b)) fun t' Y=>?_;subst Y
  exact call_range_2 (H _ _ _ (Ext.push _ _) (bn e▸Rv.range_iff.mpr ⟨_,_,_,_,rfl,fl.new,IsRange.new ..⟩))
 ·refine o2_inv e fun a b h1 h2 e=>o1_inv e fun c h3 e=>if_inv e fun hc e=>?_
  refine xA (Bool.and_eq_true_iff.mp hc) fun c1 c2=>?_
  refine xEEEAAA (Rvs.three_iff.mp hv) fun v u z Y a b c=>?_;subst Y
  refine xE (Rv.int_iff.mp (isI_eq h1▸a)) fun t Y=>?_;subst Y
  refine xE (Rv.int_iff.mp (isI_eq h2▸b)) fun t' Y=>?_;subst Y
  refine xE (Rv.int_iff.mp (isI_eq h3▸c)) fun t'' Y=>?_;subst Y
  exact call_range_3 (by simpa using c2) (H _ _ _ (Ext.push _ _) (bn e▸Rv.range_iff.mpr ⟨_,_,_,_,rfl,fl.new,IsRange.new ..⟩)) (.inl (pylong_small c1))
 ·exact nn e
theorem callBI_ok{f:BI}{ps:List PV}{r:PV}{vs:List Value}{Q:Value→Shared→Prop}(e:callBI f ps=some r)(hs:sysModules<s.heap.objs.size)(fl:FL s.heap F)(ok:A.handled=none)
  (hv:Rvs prog w s.heap F ps vs) (H:Post prog w F r s Q):wpAny (model prog w) A (call f.val vs) Q E s:=by
 cases f
 ·exact o1_inv e fun p hp e=>one_of hp hv fun v hw a=>hw▸len_ok e a H
 ·exact range_ok e fl hv H
 ·exact o1_inv e fun p hp e=>one_of hp hv fun v hw a=>hw▸list_ok e hs fl ok a H
 ·refine o1_inv e fun p hp e=>o2_inv e fun x y h1 h2 e=>?_
  refine xEEAA (Rvs.two_iff.mp (dbl_eq hp▸hv)) fun v u Y a b=>?_;subst Y
  refine xE (Rv.int_iff.mp (isI_eq h1▸a)) fun t Y=>?_;subst Y
  refine xE (Rv.int_iff.mp (isI_eq h2▸b)) fun t' Y=>?_;subst Y
  refine max_two_ints ok fun h' tk hk=>H _ _ _ hk (bn e▸?_)
  split<;>exact Rv.int
 ·refine o1_inv e fun p hp e=>o2_inv e fun x y h1 h2 e=>?_
  refine xEEAA (Rvs.two_iff.mp (dbl_eq hp▸hv)) fun v u Y a b=>?_;subst Y
  refine xE (Rv.int_iff.mp (isI_eq h1▸a)) fun t Y=>?_;subst Y
  refine xE (Rv.int_iff.mp (isI_eq h2▸b)) fun t' Y=>?_;subst Y
  refine min_two_ints ok fun h' tk hk=>H _ _ _ hk (bn e▸?_)
  split<;>exact Rv.int
 ·refine o2_inv e fun p xs hp hx e=>one_of hp hv fun v hw a=>map_inv e fun n en er=>?_
  rw[hp]at hx
  refine xEEAAAA (Rv.list_iff.mp (isL_eq hx▸a)) fun b us Y nf ns il rs=>?_;subst Y
  refine xEA (sum_items en rs) fun l el hl=>?_
  have e2:us=intItems l.toArray:=by
   apply Array.ext';rw[el];simp[intItems]
  rw[hw]
  refine sum_intListG (xs:=l.toArray) ok (by rw[←e2];exact il.isList) fun h' tk t' hk=>H _ _ _ hk ?_
  rw[preSum_eq,List.take_of_length_le (by simp),show(l.toArray.toList.map (·.1)).sum=n by simpa using hl,←er]
  exact Rv.int
 ·refine o2_inv e fun p i hp hx e=>one_of hp hv fun v hw a=>if_inv e fun hl er=>?_
  rw[hp]at hx
  refine xE (Rv.int_iff.mp (isI_eq hx▸a)) fun t Y=>?_;subst Y
  simp only[bp,decide_eq_true_eq]at hl
  rw[hw]
  exact chr_of_range hl.1 hl.2 (H.tok (bn er▸Rv.str (x:=[i.toNat])))
 ·refine o2_inv e fun p x hp hx e=>one_of hp hv fun v hw a=>o1_inv e fun c hc er=>?_
  rw[hp]at hx
  refine xE (Rv.str_iff.mp (isS_eq hx▸a)) fun t Y=>?_;subst Y
  rw[hw,sgl_eq hc]
  exact P.ord_of_char (H.tok (bn er▸Rv.int))
end
end
inductive Ent where
 |val (p:PV)
 |own (xs:List PV)
 |gv (p:PV)
 |bi (f:BI)
 |fn (f:List PV→Option PV)
 |lgv (p:PV)
 |lbi (f:BI)
 |len
 |lfn (f:List PV→Option PV)
 |en
noncomputable abbrev Rho:=List (Str×Ent)
structure Gnd where
 prog:Program
 w:World
 h₀:Heap
 K:Nat
noncomputable def flatPV:PV→Bool
 | .none=>true
 | .bool _=>true
 | .int _=>true
 | .str _=>true
 | .obj _=>true
 |_=>false
theorem Rv.flat{prog:Program}{w:World}{h h':Heap}{F F':Addr→Prop}{p:PV}{v:Value}(e:flatPV p=true)(r:Rv prog w h F p v):Rv prog w h' F' p v:=by
 cases p<;>first|exact r|exact ff e
theorem Rvs.flat{prog:Program}{w:World}{h h':Heap}{F F':Addr→Prop}:∀{ps:List PV} {vs:List Value},ps.all flatPV=true→Rvs prog w h F ps vs→Rvs prog w h' F' ps vs
 |[],vs,_,r=>r
 |p::ps,vs,e,r=>by
  simp only[List.all_cons,bp]at e
  show Exists _
  refine xEEAA r fun v rest Y a b=>?_;clear r;subst Y
  exact⟨v,rest,rfl,a.flat e.1,Rvs.flat e.2 b⟩
def Contract(g:Gnd)(a:Addr)(f:List PV→Option PV):Prop:=
 ∀(A:Around) (E:Value→Shared→Prop) (s:Shared) (F:Addr→Prop) (ps:List PV) (vs:List Value) (p:PV) (Q:Value→Shared→Prop),
  AOk g.K A→Ext g.h₀ s.heap→FL s.heap F→Rvs g.prog g.w s.heap F ps vs→f ps=some p→Post g.prog g.w F p s Q→wpAny (model g.prog g.w) A (call (.ref a) vs) Q E s
noncomputable def GOk(g:Gnd)(h:Heap)(gl bl:Addr)(F:Addr→Prop)(x:Str):Ent→Prop
 | .gv p=>flatPV p=true∧∃mg v,h.Ns gl mg∧mg x=some v∧Rv g.prog g.w h F p v
 | .bi f=>∃mg mb,h.Ns gl mg∧mg x=none∧h.Ns bl mb∧mb x=some f.val
 | .en=>∃mg mb,h.Ns gl mg∧mg x=none∧h.Ns bl mb∧mb x=some (.type "enumerate")
 | .fn f=>∃mg a o fd,h.Ns gl mg∧mg x=some (.ref a)∧h.get? a=some o∧¬F a∧o.data= .func fd∧Contract g a f
 | .lgv p=>flatPV p=true∧∃mg v,h.Ns gl mg∧mg x=some v∧Rv g.prog g.w h F p v
 | .lbi f=>∃mg mb,h.Ns gl mg∧mg x=none∧h.Ns bl mb∧mb x=some f.val
 | .len=>∃mg mb,h.Ns gl mg∧mg x=none∧h.Ns bl mb∧mb x=some (.type "enumerate")
 | .lfn f=>∃mg a o fd,h.Ns gl mg∧mg x=some (.ref a)∧h.get? a=some o∧¬F a∧o.data= .func fd∧Contract g a f
 |_=>False
noncomputable def EntOk(g:Gnd)(h:Heap)(env:Env)(F M:Addr→Prop)(x:Str):Ent→Prop
 | .val p=>∃v,VarAt h env x v∧Rv g.prog g.w h F p v
 | .own xs=>∃a vs,VarAt h env x (.ref a)∧M a∧a≠env.locals∧(∀n c,env.cells.lookup n=some c→a≠c)∧(a==sysModules)=false∧h.PlainList a vs∧xs.all flatPV=true∧Rvs g.prog g.w h F xs vs.toList
 | .gv p=>env.kindOf x=some .globalImplicit∧GOk g h env.globals env.builtins F x (.gv p)
 | .bi f=>env.kindOf x=some .globalImplicit∧GOk g h env.globals env.builtins F x (.bi f)
 | .en=>env.kindOf x=some .globalImplicit∧GOk g h env.globals env.builtins F x .en
 | .fn f=>env.kindOf x=some .globalImplicit∧GOk g h env.globals env.builtins F x (.fn f)
 | .lgv p=>GOk g h env.globals env.builtins F x (.lgv p)
 | .lbi f=>GOk g h env.globals env.builtins F x (.lbi f)
 | .len=>GOk g h env.globals env.builtins F x .len
 | .lfn f=>GOk g h env.globals env.builtins F x (.lfn f)
noncomputable def isOwn:Ent→Bool
 | .own _=>true
 |_=>false
theorem GOk.mono{g:Gnd}{h h':Heap}{gl bl:Addr}{F F':Addr→Prop}{x:Str}{e:Ent}(U:Up h F h' F')(g1:¬F gl)(g2:¬F bl)(k:GOk g h gl bl F x e):GOk g h' gl bl F' x e:=by
 have n1:∀{mm},h.Ns gl mm→h'.Ns gl mm:=fun n=>n.at' fun o e=>(U _ o e g1).2
 have n2:∀{mm},h.Ns bl mm→h'.Ns bl mm:=fun n=>n.at' fun o e=>(U _ o e g2).2
 have a:(∃mg mb,h.Ns gl mg∧mg x=none∧h.Ns bl mb∧mb x=some (.type "enumerate"))→∃mg mb,h'.Ns gl mg∧mg x=none∧h'.Ns bl mb∧mb x=some (.type "enumerate"):=fun ⟨mg,mb,n,e,n',e'⟩=>⟨mg,mb,n1 n,e,n2 n',e'⟩
 have b:∀{f:BI},(∃mg mb,h.Ns gl mg∧mg x=none∧h.Ns bl mb∧mb x=some f.val)→∃mg mb,h'.Ns gl mg∧mg x=none∧h'.Ns bl mb∧mb x=some f.val:=fun ⟨mg,mb,n,e,n',e'⟩=>⟨mg,mb,n1 n,e,n2 n',e'⟩
 have c:∀{p:PV},(flatPV p=true∧∃mg v,h.Ns gl mg∧mg x=some v∧Rv g.prog g.w h F p v)→flatPV p=true∧∃mg v,h'.Ns gl mg∧mg x=some v∧Rv g.prog g.w h' F' p v:=fun Y=>xA Y fun f Y=>xEEAA Y fun mg v n e r=>⟨f,mg,v,n1 n,e,r.flat f⟩
 have d:∀{f:List PV→Option PV},(∃mg a o fd,h.Ns gl mg∧mg x=some (.ref a)∧h.get? a=some o∧¬F a∧o.data= .func fd∧Contract g a f)→∃mg a o fd,h'.Ns gl mg∧mg x=some (.ref a)∧h'.get? a=some o∧¬F' a∧o.data= .func fd∧Contract g a f:=
  fun ⟨mg,a,o,fd,n,e,ho,nf,hd,C⟩=>⟨mg,a,o,fd,n1 n,e,(U _ _ ho nf).2,(U _ _ ho nf).1,hd,C⟩
 cases e with
 |val=>exact k
 |own=>exact k
 |gv=>exact c k
 |bi=>exact b k
 |fn=>exact d k
 |lgv=>exact c k
 |lbi=>exact b k
 |len=>exact a k
 |lfn=>exact d k
 |en=>exact a k
theorem VarAt.keep{h h':Heap}{env:Env}{x:Str}{v:Value}(hO:∀a,(a=env.locals∨∃n,env.cells.lookup n=some a)→∀o,h.get? a=some o→h'.get? a=some o)(va:VarAt h env x v):VarAt h' env x v:=by
 rcases va with ⟨k,m,n,q⟩|⟨k,c,hc,o,ho,hd⟩|⟨k,kk,c,hc,o,ho,hd⟩
 ·exact .inl ⟨k,m,n.at' fun o e=>hO _ (.inl rfl) o e,q⟩
 ·exact .inr (.inl ⟨k,c,hc,o,hO c (.inr ⟨_,hc⟩) o ho,hd⟩)
 ·exact .inr (.inr ⟨k,kk,c,hc,o,hO c (.inr ⟨_,hc⟩) o ho,hd⟩)
theorem EntOk.keep{g:Gnd}{h h':Heap}{env:Env}{F F' M M':Addr→Prop}{x:Str}{e:Ent}(ok:EntOk g h env F M x e)(no:isOwn e=false)(U:Up h F h' F')(g1:¬F env.globals)(g2:¬F env.builtins)(hv:∀v,VarAt h env x v→VarAt h' env x v):EntOk g h' env F' M' x e:=by
 cases e with
 |val p=>refine xEA ok fun v a b=>?_;exact⟨v,hv v a,b.up U _⟩
 |own xs=>exact ff no.symm
 |gv p=>exact⟨ok.1,ok.2.mono U g1 g2⟩
 |bi f=>exact⟨ok.1,ok.2.mono U g1 g2⟩
 |en=>exact⟨ok.1,ok.2.mono U g1 g2⟩
 |fn f=>exact⟨ok.1,ok.2.mono U g1 g2⟩
 |lgv p=>exact GOk.mono (g:=g) (x:=x) (e:= .lgv p) U g1 g2 ok
 |lbi f=>exact GOk.mono (g:=g) (x:=x) (e:= .lbi f) U g1 g2 ok
 |len=>exact GOk.mono (g:=g) (x:=x) (e:= .len) U g1 g2 ok
 |lfn f=>exact GOk.mono (g:=g) (x:=x) (e:= .lfn f) U g1 g2 ok
structure Inv(g:Gnd)(env:Env)(ρ:Rho)(h:Heap)(F M:Addr→Prop):Prop where
 kind:env.scope.kind= .function
 base:Ext g.h₀ h
 low:∃a o,sysModules≤a∧g.h₀.get? a=some o
 fl:FL h F
 sub:∀a,M a→F a
 glob:¬F env.globals
 blt:¬F env.builtins
 glive:(∃o,h.get? env.globals=some o)∧∃o,h.get? env.builtins=some o
 loc:∃m,h.Ns env.locals m
 mloc:M env.locals
 cel:∀n c,env.cells.lookup n=some c→M c∧c≠env.locals∧∃v,h.IsCell c v
 celd:∀n n' c,env.cells.lookup n=some c→env.cells.lookup n'=some c→n=n'
 ents:∀x e,ρ.lookup x=some e→EntOk g h env F M x e∧(x==br "__debug__")=false
theorem Inv.re{g:Gnd}{env:Env}{ρ ρ':Rho}{h h':Heap}{F F' M M':Addr→Prop}(I:Inv g env ρ h F M)(U:Up h F h' F')
  (hO:∀a,(a=env.locals∨∃n,env.cells.lookup n=some a)→∀o,h.get? a=some o→h'.get? a=some o) (hB:Ext g.h₀ h') (fl:FL h' F') (hM:∀a,M a→M' a) (hs:∀a,M' a→F' a)
  (E:∀x e,ρ'.lookup x=some e→EntOk g h' env F' M' x e∧(x==br "__debug__")=false):Inv g env ρ' h' F' M':=by
 refine xA I.glive fun Y Y1=>?_;refine xE Y1 fun o2 g2=>?_;refine xE Y fun o1 g1=>?_
 refine xE I.loc fun m n=>?_
 exact⟨I.kind,hB,I.low,fl,hs,(U _ _ g1 I.glob).1,(U _ _ g2 I.blt).1,⟨⟨o1,(U _ _ g1 I.glob).2⟩,o2,(U _ _ g2 I.blt).2⟩,⟨m,n.at' fun o e=>hO _ (.inl rfl) o e⟩,hM _ I.mloc,
  fun n c hc=>let ⟨a,b,v,o,ho,hd⟩:=I.cel n c hc;⟨hM _ a,b,v,o,hO c (.inr ⟨n,hc⟩) o ho,hd⟩,I.celd,E⟩
theorem Inv.chgM{g:Gnd}{env:Env}{ρ:Rho}{h h':Heap}{F F' M M':Addr→Prop}(I:Inv g env ρ h F M)(U:Up h F h' F')
  (hO:∀a,M a→∀o,h.get? a=some o→h'.get? a=some o) (hB:Ext g.h₀ h') (fl:FL h' F') (hM:∀a,M a→M' a) (hs:∀a,M' a→F' a):Inv g env ρ h' F' M':=by
 have hO':∀a,(a=env.locals∨∃n,env.cells.lookup n=some a)→∀o,h.get? a=some o→h'.get? a=some o:=fun a q=>hO a (by
  rcases q with rfl|⟨n,q⟩
  ·exact I.mloc
  ·exact(I.cel n a q).1)
 refine I.re U hO' hB fl hM hs fun x e hx=>⟨?_,(I.ents x e hx).2⟩
 have ok:=(I.ents x e hx).1
 cases ho:isOwn e with
 |false=>exact ok.keep ho U I.glob I.blt fun v=>VarAt.keep hO'
 |true=>
  cases e<;>try exact ff ho
  refine xEEAAAA ok fun a vs va m l c Y=>?_;refine xAAA Y fun n pl f r=>?_
  exact⟨a,vs,va.keep hO',hM _ m,l,c,n,pl.at fun o ho=>hO a m o ho,f,r.flat f⟩
theorem Inv.size{g:Gnd}{env:Env}{ρ:Rho}{h:Heap}{F M:Addr→Prop}(I:Inv g env ρ h F M):sysModules<h.objs.size:=by
 refine xEEA I.low fun a o l ho=>?_
 exact Nat.lt_of_le_of_lt l (bh (I.base _ _ ho))
theorem Inv.ext{g:Gnd}{env:Env}{ρ:Rho}{h h':Heap}{F M:Addr→Prop}(I:Inv g env ρ h F M)(U:Ext h h'):Inv g env ρ h' F M:=
 I.chgM (U.up F) (fun a Y o e=>U a o e) (I.base.trans U) (I.fl.ext U) (fun Y q=>q) I.sub
noncomputable def constPV:Const→Option PV
 | .int i=>some (.int i)
 | .str x=>some (.str x.cps.toList)
 | .none=>some .none
 | .bool b=>some (.bool b)
 |_=>none
noncomputable def setR:Rho→Str→Ent→Rho
 |[],x,e=>[(x,e)]
 |(y,d)::r,x,e=>if y==x then(y,e)::r else(y,d)::setR r x e
theorem setR_lookup:∀(ρ:Rho) (x:Str) (e:Ent) (y:Str),(setR ρ x e).lookup y=if y=x then some e else ρ.lookup y
 |[],x,e,y=>by
  by_cases h:y=x
  ·subst h;simp[setR,bt]
  ·have h':(y==x)=false:=by simpa using h
   simp[setR,bt,h',h]
 |(z,d)::r,x,e,y=>by
  unfold setR
  by_cases hz:z=x
  ·subst hz
   simp only[beq_self_eq_true,if_true]
   by_cases h:y=z
   ·subst h;simp[bt]
   ·have h':(y==z)=false:=by simpa using h
    simp[bt,h',h]
  ·have hz':(z==x)=false:=by simpa using hz
   simp only[hz',Bool.false_eq_true,if_false]
   by_cases h:y=z
   ·subst h
    simp[bt,hz]
   ·have h':(y==z)=false:=by simpa using h
    simp only[bt,h']
    exact setR_lookup r x e y
theorem Inv.store{g:Gnd}{env:Env}{ρ:Rho}{h h':Heap}{F M:Addr→Prop}(I:Inv g env ρ h F M){x:Str}{v:Value}{e:Ent}{z:Addr}(hz:z=env.locals∨env.cells.lookup x=some z)
  (hs:Heap.SameBut z h h') (hbase:g.h₀.get? z=none) (hd:(x==br "__debug__")=false)
  (hl:∃m',h'.Ns env.locals m'∧∀m,h.Ns env.locals m→∀y,y≠x→m' y=m y)
  (hc:∀c,env.cells.lookup x=some c→∃v,h'.IsCell c v)
  (he:EntOk g h' env F M x e):Inv g env (setR ρ x e) h' F M:=by
 have hzM:M z:=by rcases hz with rfl|hz;exact I.mloc;exact(I.cel _ _ hz).1
 have hzF:=I.sub z hzM
 have keep:∀a o,a≠z→h.get? a=some o→h'.get? a=some o:=fun a o ne ho=>hs.extBut a o ne ho
 have U:Up h F h' F:=fun a o ho nf=>⟨nf,keep a o (fun q=>nf (q▸hzF)) ho⟩
 have ng:env.globals≠z:=fun q=>I.glob (q▸hzF)
 have nb:env.builtins≠z:=fun q=>I.blt (q▸hzF)
 have live:∀a,(∃o,h.get? a=some o)→∃o,h'.get? a=some o:=fun a Y=>xE Y fun o ho=>by
  by_cases q:a=z
  ·subst q
   rcases hz with rfl|hz
   ·refine xEA hl fun m' Y Y9=>?_;refine xEEEA Y fun o' Y Y ho' Y=>?_;exact⟨o',ho'⟩
   ·refine xEEA (hc _ hz) fun v' o' ho' Y=>?_;exact⟨o',ho'⟩
  ·exact⟨o,keep a o q ho⟩
 have cell:∀n c v',n≠x→env.cells.lookup n=some c→h.IsCell c v'→h'.IsCell c v':=fun n c v' ne hc' Y=>xEA Y fun o ho hd=>by
  refine⟨o,keep c o ?_ ho,hd⟩
  rintro rfl
  refine Or.elim hz (fun q=>?_) fun q=>?_
  ·exact(I.cel n _ hc').2.1 q
  ·exact ne (I.celd n x _ hc' q)
 have var:∀y u,y≠x→VarAt h env y u→VarAt h' env y u:=fun y u ne=>by
  rintro (⟨k,m,n,q⟩|⟨k,c,hc',i⟩|⟨k,kk,c,hc',i⟩)
  ·refine xEA hl fun m' n' e'=>?_
   exact .inl ⟨k,m',n',(e' m n y ne).trans q⟩
  ·exact .inr (.inl ⟨k,c,hc',cell y c _ ne hc' i⟩)
  ·exact .inr (.inr ⟨k,kk,c,hc',cell y c _ ne hc' i⟩)
 refine⟨I.kind,fun a o ho=>keep a o (fun q=>by rw[q,hbase]at ho;exact nn ho) (I.base a o ho),I.low,fun a f=>live a (I.fl a f),I.sub,I.glob,I.blt,⟨live _ I.glive.1,live _ I.glive.2⟩,?_,I.mloc,fun n c hc'=>?_,I.celd,fun y d hy=>?_⟩
 ·refine xEA hl fun m' n' Y=>?_;exact⟨m',n'⟩
 ·refine xAAE (I.cel n c hc') fun a b v' i=>?_
  refine⟨a,b,?_⟩
  by_cases q:n=x
  ·subst q;exact hc c hc'
  ·exact⟨v',cell n c v' q hc' i⟩
 ·rw[setR_lookup]at hy
  by_cases q:y=x
  ·subst q
   rw[if_pos rfl]at hy
   cases hy
   exact⟨he,hd⟩
  ·rw[if_neg q]at hy
   refine xA (I.ents y d hy) fun ok dd=>?_
   refine⟨?_,dd⟩
   cases ho:isOwn d with
   |false=>exact ok.keep ho U I.glob I.blt fun u=>var y u q
   |true=>
    cases d<;>try exact ff ho
    refine xEEAAAA ok fun a vs va m l c Y=>?_;refine xAAA Y fun n pl f r=>?_
    refine⟨a,vs,var y _ q va,m,l,c,n,pl.at fun o ho=>keep a o ?_ ho,f,r.flat f⟩
    rintro rfl
    refine Or.elim hz (fun q'=>?_) fun q'=>?_
    ·exact l q'
    ·exact c x _ q' rfl
section
noncomputable abbrev noE:Value→Shared→Prop:=fun Y Y=>False
section
variable{prog:Program}{w:World}{A:Around}{R:Result→Shared→Prop}{s:Shared}
noncomputable def testsOf(ifs:List Expr)(env:Env):Sem Bool:=
 forIn ifs true fun c r=>if r=true then do let ok ←isTrue c env (eval c env);pure (ForInStep.yield ok)else pure (ForInStep.yield r)
theorem compTurnL(elt:Expr)(gens:List Comprehension)(scope:Scope)(pos:Pos)(k:Nat)(it acc:Value)(env:Env){tgt iter:Expr}{ifs:List Expr}(hg:gens[k]?=some ⟨tgt,iter,ifs,0⟩):
  compTurn (.ListComp elt gens scope pos) k it acc env=(do
   standAt iter.pos
   match ←pyNext it with
   |none=>pure (.done .next)
   |some v=>
    letOwnedTupleGo tgt it v
    assign tgt env v
    let ok ←testsOf ifs env
    if ok then
     match gens[k+1]? with
     |some g'=>
      let x ←eval g'.iter env
      standAt g'.iter.pos
      let x ←if g'.is_async !=0 then foldedIterable g'.iter x else foldedSetIterable g'.iter env x
      let _ ←runOwn (.compStart (.ListComp elt gens scope pos) (k+1) (←holding [x] (if g'.is_async !=0 then asyncIter x else pyIter x)) acc env) env
     |none=>(do let _ ←call (.builtin "list.append") [acc,←eval elt env])
    again (.compLoop (.ListComp elt gens scope pos) k it acc env)):=by
 unfold compTurn
 simp only[hg]
 rfl
theorem listcomp_step{elt:Expr}{gens:List Comprehension}{scope:Scope}{pos:Pos}{k:Nat}{tgt iter:Expr}{ifs:List Expr}{it acc:Value}{env:Env}(hg:gens[k]?=some ⟨tgt,iter,ifs,0⟩)
  (hn:∀g',gens[k+1]?=some g'→g'.is_async=0∧∀x,foldedSetIterable g'.iter env x=pure x)
  (turn:wpAny (model prog w) A (pyNext it) (fun r s₁=>match r with
   |none=>R (.ok .next) s₁
   |some v=>wpAny (model prog w) A (letOwnedTupleGo tgt it v) (fun Y s₂=>wpAny (model prog w) A (assign tgt env v) (fun Y s₃=>wpAny (model prog w) A (testsOf ifs env) (fun ok s₄=>
     if ok=true then(match gens[k+1]? with
      |some g'=>wpAny (model prog w) A (eval g'.iter env) (fun x s₅=>wpAny (model prog w) A (pyIter x) (fun it' s₆=>
        codeAny (model prog w) A (.compStart (.ListComp elt gens scope pos) (k+1) it' acc env) (fun r s₇=>∃f,r= .ok f∧codeAny (model prog w) A (.compLoop (.ListComp elt gens scope pos) k it acc env) R s₇) s₆) noE s₅) noE s₄
      |none=>wpAny (model prog w) A (eval elt env) (fun x s₅=>wpAny (model prog w) A (call (.builtin "list.append") [acc,x]) (fun Y s₆=>codeAny (model prog w) A (.compLoop (.ListComp elt gens scope pos) k it acc env) R s₆) noE s₅) noE s₄)
     else codeAny (model prog w) A (.compLoop (.ListComp elt gens scope pos) k it acc env) R s₄) noE s₃) noE s₂) noE s₁) noE s):
  codeAny (model prog w) A (.compLoop (.ListComp elt gens scope pos) k it acc env) R s:=by
 have hq:(Code.compLoop (.ListComp elt gens scope pos) k it acc env).quiet=true:=by cases k<;>rfl
 refine codeAny_of_tree ?_
 have hA:A.under (.compLoop (.ListComp elt gens scope pos) k it acc env)=A:=by rfl
 rw[hA]
 show wpAny _ A ((compTurn (.ListComp elt gens scope pos) k it acc env).onRaise (fun x=>do noteFrame x env;theTreesLotGoes x)) _ _ s
 refine wpAny_noted ?_
 rw[compTurnL elt gens scope pos k it acc env hg]
 refine ac (aw (ac (aj turn (fun r s₁ h₁=>?_) fun Y Y h'=>h'.elim)))
 cases r with
 |none=>exact ah h₁
 |some v=>
  refine ac (aj h₁ (fun Y s₂ h₂=>?_) fun Y Y h'=>h'.elim)
  refine ac (aj h₂ (fun Y s₃ h₃=>?_) fun Y Y h'=>h'.elim)
  refine ac (aj h₃ (fun ok s₄ h₄=>?_) fun Y Y h'=>h'.elim)
  cases ok with
  |false=>exact ac (ah (ah ⟨hq,by simpa using h₄⟩))
  |true=>
   simp only[if_true]at h₄⊢
   cases hg':gens[k+1]? with
   |none=>
    rw[hg']at h₄
    exact ac (ac (aj h₄ (fun x s₅ h₅=>ac (aj h₅ (fun Y s₆ h₆=>ah (ah ⟨hq,h₆⟩)) fun Y Y h'=>h'.elim)) fun Y Y h'=>h'.elim))
   |some g'=>
    rw[hg']at h₄
    refine xA (hn g' hg') fun h0 hf=>?_
    simp only[h0,bne_self_eq_false,Bool.false_eq_true,if_false]
    refine ac (aj h₄ (fun x s₅ h₅=>ac (aw ?_)) fun Y Y h'=>h'.elim)
    refine ac (wpAny_of_eq (hf x) ?_)
    refine ac (ak (aj h₅ (fun it' s₆ h₆=>?_) fun Y Y h'=>h'.elim))
    refine ac (wpAny_runOwn (codeAny_mono h₆ fun r s₇ h₇=>?_))
    obtain⟨f,rfl,h₇⟩:=h₇
    exact ah ⟨hq,h₇⟩
theorem listcomp_start{elt:Expr}{gens:List Comprehension}{scope:Scope}{pos:Pos}{k:Nat}{tgt iter:Expr}{ifs:List Expr}{it acc:Value}{env:Env}(hg:gens[k]?=some ⟨tgt,iter,ifs,0⟩)
  (h0:codeAny (model prog w) A (.compLoop (.ListComp elt gens scope pos) k it acc env) R s)
  (h:wpAny (model prog w) A (pyIter it) (fun it' s'=>codeAny (model prog w) A (.compLoop (.ListComp elt gens scope pos) k it' acc env) R s') noE s):
  codeAny (model prog w) A (.compStart (.ListComp elt gens scope pos) k it acc env) R s:=by
 refine codeAny_of_tree ?_
 have hA:A.under (.compStart (.ListComp elt gens scope pos) k it acc env)=A:=by rfl
 rw[hA]
 show wpAny _ _ ((compStart (.ListComp elt gens scope pos) k it acc env).onRaise (fun x=>do noteFrame x env;standAt theWindowsPlace)) _ _ s
 refine wpAny_notedAt ?_
 unfold compStart
 have hc:(clausesOf (.ListComp elt gens scope pos))[k]?=some ⟨tgt,iter,ifs,0⟩:=hg
 have hq:∀i a,(Code.compLoop (.ListComp elt gens scope pos) k i a env).quiet=true:=fun i a=>by cases k<;>rfl
 rw[hc]
 show wpAny _ _ (ask>>=_) _ _ s
 refine ac (wpAny_askSetting (wpAny_ite ?_))
 split
 ·first
   |exact ac (ah (ah (And.intro (hq _ _) h0)))
   |exact ah (And.intro (hq _ _) h0)
 ·first
   |exact ac (wpAny_rule (ac (aw (ac (aj h (fun it' s' h'=>ah (And.intro (hq _ _) h')) fun Y Y x=>x.elim)))))
   |(refine ac (wpAny_rule ?_);show wpAny _ _ (standAt iter.pos>>=_) _ _ s;exact ac (aw (ac (aj h (fun it' s' h'=>ah (And.intro (hq _ _) h')) fun Y Y x=>x.elim))))
theorem compTurnD(kx vx tgt iter:Expr)(ifs:List Expr)(scope:Scope)(pos:Pos)(it:Value)(D:Addr)(env:Env):
  compTurn (.DictComp kx vx [⟨tgt,iter,ifs,0⟩] scope pos) 0 it (.ref D) env=(do
   standAt iter.pos
   match ←pyNext it with
   |none=>pure (.done .next)
   |some v=>
    letOwnedTupleGo tgt it v
    assign tgt env v
    let ok ←testsOf ifs env
    if ok then
     (do
      let kv ←eval kx env
      let vv ←holding [kv] (eval vx env)
      standAt {kx.pos with endLine:=vx.pos.endLine,endCol:=vx.pos.endCol}
      holding [kv,vv] (dictSet D kv vv))
    again (.compLoop (.DictComp kx vx [⟨tgt,iter,ifs,0⟩] scope pos) 0 it (.ref D) env)):=by rfl
theorem dictcomp_step{kx vx tgt iter:Expr}{ifs:List Expr}{scope:Scope}{pos:Pos}{it:Value}{D:Addr}{env:Env}
  (turn:wpAny (model prog w) A (pyNext it) (fun r s₁=>match r with
   |none=>R (.ok .next) s₁
   |some v=>wpAny (model prog w) A (letOwnedTupleGo tgt it v) (fun Y s₂=>wpAny (model prog w) A (assign tgt env v) (fun Y s₃=>wpAny (model prog w) A (testsOf ifs env) (fun ok s₄=>
     if ok=true then wpAny (model prog w) A (eval kx env) (fun kv s₅=>wpAny (model prog w) A (eval vx env) (fun vv s₆=>wpAny (model prog w) A (dictSet D kv vv) (fun Y s₇=>
      codeAny (model prog w) A (.compLoop (.DictComp kx vx [⟨tgt,iter,ifs,0⟩] scope pos) 0 it (.ref D) env) R s₇) noE s₆) noE s₅) noE s₄
     else codeAny (model prog w) A (.compLoop (.DictComp kx vx [⟨tgt,iter,ifs,0⟩] scope pos) 0 it (.ref D) env) R s₄) noE s₃) noE s₂) noE s₁) noE s):
  codeAny (model prog w) A (.compLoop (.DictComp kx vx [⟨tgt,iter,ifs,0⟩] scope pos) 0 it (.ref D) env) R s:=by
 have hq:(Code.compLoop (.DictComp kx vx [⟨tgt,iter,ifs,0⟩] scope pos) 0 it (.ref D) env).quiet=true:=rfl
 refine codeAny_of_tree ?_
 have hA:A.under (.compLoop (.DictComp kx vx [⟨tgt,iter,ifs,0⟩] scope pos) 0 it (.ref D) env)=A:=by rfl
 rw[hA]
 show wpAny _ A ((compTurn (.DictComp kx vx [⟨tgt,iter,ifs,0⟩] scope pos) 0 it (.ref D) env).onRaise (fun x=>do noteFrame x env;theTreesLotGoes x)) _ _ s
 refine wpAny_noted ?_
 rw[compTurnD]
 refine ac (aw (ac (aj turn (fun r s₁ h₁=>?_) fun Y Y h'=>h'.elim)))
 cases r with
 |none=>exact ah h₁
 |some v=>
  refine ac (aj h₁ (fun Y s₂ h₂=>?_) fun Y Y h'=>h'.elim)
  refine ac (aj h₂ (fun Y s₃ h₃=>?_) fun Y Y h'=>h'.elim)
  refine ac (aj h₃ (fun ok s₄ h₄=>?_) fun Y Y h'=>h'.elim)
  cases ok with
  |false=>exact ac (ah (ah ⟨hq,by simpa using h₄⟩))
  |true=>
   simp only[if_true]at h₄⊢
   exact ac (ac (aj h₄ (fun kv s₅ h₅=>ac (ak (aj h₅ (fun vv s₆ h₆=>ac (aw (ak (aj h₆ (fun Y s₇ h₇=>ah ⟨hq,h₇⟩) fun Y Y h'=>h'.elim)))) fun Y Y h'=>h'.elim))) fun Y Y h'=>h'.elim))
end
end
theorem Inv.grow{g:Gnd}{env:Env}{ρ:Rho}{hb h:Heap}{F F' M M':Addr→Prop}(I:Inv g env ρ hb F M)(U:Ext hb h)(hF:∀a,F a→F' a)
  (hn:∀a o,hb.get? a=some o→¬F a→¬F' a) (fl:FL h F') (hM:∀a,M a→M' a) (hs:∀a,M' a→F' a):Inv g env ρ h F' M':=by
 exact I.chgM (fun a o ho nf=>⟨hn a o ho nf,U a o ho⟩) (fun a Y o e=>U a o e) (I.base.trans U) fl hM hs
theorem Inv.drop{g:Gnd}{env:Env}{ρ:Rho}{h:Heap}{F M:Addr→Prop}{x:Str}{e:Ent}(I:Inv g env (setR ρ x e) h F M)(hx:ρ.lookup x=none):Inv g env ρ h F M:=
 ⟨I.kind,I.base,I.low,I.fl,I.sub,I.glob,I.blt,I.glive,I.loc,I.mloc,I.cel,I.celd,fun y d hy=>I.ents y d (by
  rw[setR_lookup]
  rw[if_neg (by rintro rfl;rw[hx]at hy;exact nn hy)]
  exact hy)⟩
def Cn(env:Env)(cn:List Str):Prop:=∀x∈cn,(env.kindOf x=some .cell∨env.kindOf x=some .free)∧(env.cells.lookup x).isSome=true
noncomputable def uniqNames:List (Str×NameKind)→Bool
 |[]=>true
 |(x,_)::r=>(r.lookup x).isNone&&uniqNames r
noncomputable def scopeOk(scope:Scope)(cn:List Str):Bool:=
 (match scope.kind with| .function=>true|_=>false)&&uniqNames scope.names&&scope.names.all fun x=>match x.2 with
  | .free=>cn.contains x.1&&!(x.1==br "__classdict__")
  |_=>true
theorem lookup_of_mem:∀{l:List (Str×NameKind)} {x:Str} {k:NameKind},uniqNames l=true→(x,k)∈l→l.lookup x=some k
 |[],_,_,_,h=>absurd h cj
 |(y,d)::r,x,k,u,m=>by
  simp only[uniqNames,bp]at u
  refine Or.elim (bz.mp m) (fun e=>?_) fun m=>?_
  ·cases e;simp[bt]
  ·have:=lookup_of_mem u.2 m
   have ne:(x==y)=false:=by
    rw[beq_eq_false_iff_ne]
    rintro rfl
    rw[this]at u;simp at u
   rw[bt,ne];exact this
theorem closure_ok{env:Env}(f:Str×NameKind→List (Str×Addr)→Sem (ForInStep (List (Str×Addr))))
  (hff:∀n k cs,f (n,k) cs=if k== .free then(do let a ←cellOf env n;pure (ForInStep.yield ((n,a)::cs)))else pure (ForInStep.yield cs)):
  ∀(names:List (Str×NameKind)) (acc:List (Str×Addr)),(∀x∈names,x.2= .free→(env.cells.lookup x.1).isSome=true)→
  ∃cl,(forIn names acc f:Sem _)=pure cl∧
   (∀x c,cl.lookup x=some c→acc.lookup x=some c∨env.cells.lookup x=some c)∧(∀x∈names,x.2= .free→(cl.lookup x.1).isSome=true)∧(∀x,(acc.lookup x).isSome=true→(cl.lookup x).isSome=true)∧(∀x c,cl.lookup x=some c→(acc.lookup x).isSome=true∨(x,NameKind.free)∈names)
 |[],acc,_=>⟨acc,rfl,fun Y Y h=> .inl h,fun x hx=>(nomatch hx),fun x h=>h,fun x c h=> .inl (by rw[h];rfl)⟩
 |(n,k)::r,acc,hf=>by
  by_cases hk:k= .free
  ·subst hk
   refine xE (Option.isSome_iff_exists.mp (hf (n, .free) (cb ..) rfl)) fun c hc=>?_
   refine xEAA (closure_ok f hff r ((n,c)::acc) (fun x hx=>hf x (bw _ hx))) fun cl e h1 Y=>?_;refine xAA Y fun h2 h3 h4=>?_
   refine⟨cl,?_,fun x d hd=>?_,fun x hx hxk=>?_,fun x hx=>h3 x ?_,fun x d hd=>?_⟩
   ·rw[List.forIn_cons,hff]
    have:cellOf env n=pure c:=by unfold cellOf;rw[hc]
    simp only[beq_self_eq_true,if_true,this,pure_bind]
    exact e
   ·refine Or.elim (h1 x d hd) (fun q=>?_) fun q=>?_
    ·rw[bt]at q
     cases hb:x==n with
     |true=>rw[hb]at q;cases q;rw[beq_iff_eq.mp hb];exact .inr hc
     |false=>rw[hb]at q;exact .inl q
    ·exact .inr q
   ·rcases bz.mp hx with rfl|hx
    ·exact h3 n (by simp)
    ·exact h2 x hx hxk
   ·rw[bt]
    cases hb:x==n with
    |true=>rfl
    |false=>exact hx
   ·refine Or.elim (h4 x d hd) (fun q=>?_) fun q=>?_
    ·rw[bt]at q
     cases hb:x==n with
     |true=>rw[beq_iff_eq.mp hb];exact .inr (cb ..)
     |false=>rw[hb]at q;exact .inl q
    ·exact .inr (bw _ q)
  ·have hk':(k==NameKind.free)=false:=by rw[beq_eq_false_iff_ne];exact hk
   refine xEAA (closure_ok f hff r acc (fun x hx=>hf x (bw _ hx))) fun cl e h1 Y=>?_;refine xAA Y fun h2 h3 h4=>?_
   refine⟨cl,?_,h1,fun x hx hxk=>?_,h3,fun x d hd=>(h4 x d hd).imp id (bw _)⟩
   ·rw[List.forIn_cons,hff]
    simp only[hk',Bool.false_eq_true,if_false,pure_bind]
    exact e
   ·rcases bz.mp hx with rfl|hx
    ·exact absurd hxk hk
    ·exact h2 x hx hxk
theorem closureFor_ok{env:Env}{scope:Scope}(hf:∀x∈scope.names,x.2= .free→(env.cells.lookup x.1).isSome=true):
  ∃cl,closureFor scope env=pure cl∧(∀x c,cl.lookup x=some c→env.cells.lookup x=some c)∧(∀x∈scope.names,x.2= .free→(cl.lookup x.1).isSome=true)∧∀x c,cl.lookup x=some c→(x,NameKind.free)∈scope.names:=by
 refine xEAA (closure_ok (env:=env) (fun (p:Str×NameKind) cs=>match p with|(n,k)=>if k== .free then(do let a ←cellOf env n;pure (ForInStep.yield ((n,a)::cs)))else pure (ForInStep.yield cs)) (fun n k cs=>rfl) scope.names [] hf) fun cl e h1 Y=>?_;refine xAA Y fun h2 Y9 h4=>?_
 refine⟨cl,?_,fun x c h=>(h1 x c h).resolve_left (by simp),h2,fun x c h=>(h4 x c h).resolve_left (by simp)⟩
 unfold closureFor
 show(forIn scope.names [] _>>=fun cs=>pure cs)=pure cl
 rw[show(fun (cs:List (Str×Addr))=>(pure cs:Sem _))=pure from rfl,bind_pure]
 exact e
def CFacts(names:List (Str×NameKind))(acc:List (Str×Addr))(n:Nat)(C:List (Str×Addr))(H:Heap):Prop:=
 (∀x c,C.lookup x=some c→(acc.lookup x=some c)∨(n≤c∧H.IsCell c none))∧(∀x y c,C.lookup x=some c→C.lookup y=some c→x=y)∧(∀x,(x,NameKind.cell)∈names→∃c,C.lookup x=some c)∧
  (∀x c,acc.lookup x=some c→∃c,C.lookup x=some c)∧(∀x,(x,NameKind.cell)∉names→C.lookup x=acc.lookup x)
theorem cellsFrom_facts:∀(names:List (Str×NameKind)) (h:Heap) (acc:List (Str×Addr)) (n:Nat),n≤h.objs.size→(∀x c,acc.lookup x=some c→c<n∨(n≤c∧c<h.objs.size∧h.IsCell c none))→
  (∀x y c,acc.lookup x=some c→acc.lookup y=some c→x=y)→
  (∀x c,(cellsFrom h.objs.size names acc).lookup x=some c→(acc.lookup x=some c)∨(n≤c∧(pushCells h names).IsCell c none))∧
  (∀x y c,(cellsFrom h.objs.size names acc).lookup x=some c→(cellsFrom h.objs.size names acc).lookup y=some c→x=y)∧
  (∀x,(x,NameKind.cell)∈names→∃c,(cellsFrom h.objs.size names acc).lookup x=some c)∧
  (∀x c,acc.lookup x=some c→∃c,(cellsFrom h.objs.size names acc).lookup x=some c)∧
  (∀x,(x,NameKind.cell)∉names→(cellsFrom h.objs.size names acc).lookup x=acc.lookup x)
 |[],h,acc,n,hn,ha,hd=>⟨fun x c e=> .inl e,hd,fun x hx=>(nomatch hx),fun x c e=>⟨c,e⟩,fun Y Y=>rfl⟩
 |(z,k)::r,h,acc,n,hn,ha,hd=>by
  by_cases hk:k= .cell
  ·subst hk
   have hsz:(h.push {cls:= .type "cell",data:= .cell none}).objs.size=h.objs.size+1:=Heap.size_push ..
   have ha':∀x c,((z,h.objs.size)::acc).lookup x=some c→c<n∨(n≤c∧c<(h.push {cls:= .type "cell",data:= .cell none}).objs.size∧(h.push {cls:= .type "cell",data:= .cell none}).IsCell c none):=fun x c e=>by
    rw[bt]at e
    cases hb:x==z with
    |true=>rw[hb]at e;cases e;exact .inr ⟨hn,by rw[hsz];exact Nat.lt_succ_self _,_,bc _ rfl,rfl⟩
    |false=>
     rw[hb]at e
     refine Or.elim (ha x c e) (fun q=>?_) fun Y=>xAA Y fun q1 q2 q3=>?_
     ·exact .inl q
     ·exact .inr ⟨q1,by rw[hsz];exact Nat.lt_succ_of_lt q2,q3.keeps fun b o e=>bd _ e⟩
   have hd':∀x y c,((z,h.objs.size)::acc).lookup x=some c→((z,h.objs.size)::acc).lookup y=some c→x=y:=fun x y c e1 e2=>by
    rw[bt]at e1 e2
    have low:∀x c,acc.lookup x=some c→c<h.objs.size:=fun x c e=>by
     refine Or.elim (ha x c e) (fun q=>?_) fun Y=>xAA Y fun Y q Y=>?_
     ·exact Nat.lt_of_lt_of_le q hn
     ·exact q
    cases hb:x==z with
    |true=>
     rw[hb]at e1;cases e1
     cases hb':y==z with
     |true=>rw[beq_iff_eq.mp hb,beq_iff_eq.mp hb']
     |false=>rw[hb']at e2;exact absurd (low _ _ e2) (Nat.lt_irrefl _)
    |false=>
     rw[hb]at e1
     cases hb':y==z with
     |true=>rw[hb']at e2;cases e2;exact absurd (low _ _ e1) (Nat.lt_irrefl _)
     |false=>rw[hb']at e2;exact hd x y c e1 e2
   have kp:=pushCells_keeps r _ _ _ (bc h (o:= {cls:= .type "cell",data:= .cell none}) rfl)
   have IH:CFacts r ((z,h.objs.size)::acc) n (cellsFrom (h.push {cls:= .type "cell",data:= .cell none}).objs.size r ((z,h.objs.size)::acc)) (pushCells (h.push {cls:= .type "cell",data:= .cell none}) r):=cellsFrom_facts r (h.push {cls:= .type "cell",data:= .cell none}) ((z,h.objs.size)::acc) n (by rw[hsz];lia) ha' hd'
   rw[hsz]at IH
   show CFacts ((z, .cell)::r) acc n (cellsFrom (h.objs.size+1) r ((z,h.objs.size)::acc)) (pushCells (h.push {cls:= .type "cell",data:= .cell none}) r)
   generalize cellsFrom (h.objs.size+1) r ((z,h.objs.size)::acc)=C at IH⊢
   generalize pushCells (h.push {cls:= .type "cell",data:= .cell none}) r=H at IH kp⊢
   refine xAAAA IH fun i1 i2 i3 i4 i5=>?_
   refine⟨fun x c e=>?_,i2,fun x hx=>?_,fun x c e=>?_,fun x hx=>?_⟩
   ·refine Or.elim (i1 x c e) (fun q=>?_) fun q=>?_
    ·rw[bt]at q
     cases hb:x==z with
     |true=>
      rw[hb]at q;cases q
      exact .inr ⟨hn,_,kp,rfl⟩
     |false=>rw[hb]at q;exact .inl q
    ·exact .inr q
   ·refine Or.elim (bz.mp hx) (fun e=>?_) fun hx=>?_
    ·cases e;exact i4 z h.objs.size (by simp)
    ·exact i3 x hx
   ·cases hb:x==z with
    |true=>exact i4 x h.objs.size (by rw[bt,hb])
    |false=>exact i4 x c (by rw[bt,hb];exact e)
   ·rw[i5 x fun q=>hx (bw _ q),bt]
    cases hb:x==z with
    |true=>exact absurd (by rw[beq_iff_eq.mp hb];exact cb ..) hx
    |false=>rfl
  ·have hk':(k==NameKind.cell)=false:=by rw[beq_eq_false_iff_ne];exact hk
   have e1:cellsFrom h.objs.size ((z,k)::r) acc=cellsFrom h.objs.size r acc:=if_neg (by rw[hk'];exact bq)
   have e2:pushCells h ((z,k)::r)=pushCells h r:=if_neg (by rw[hk'];exact bq)
   show CFacts _ _ _ (cellsFrom h.objs.size ((z,k)::r) acc) (pushCells h ((z,k)::r))
   rw[e1,e2]
   refine xAAAA (cellsFrom_facts r h acc n hn ha hd) fun i1 i2 i3 i4 i5=>?_
   refine⟨i1,i2,fun x hx=>?_,i4,fun x hx=>i5 x fun q=>hx (bw _ q)⟩
   refine Or.elim (bz.mp hx) (fun e=>?_) fun hx=>?_
   ·cases e;exact absurd rfl hk
   ·exact i3 x hx
theorem newEnv_comp{prog:Program}{w:World}{A:Around}{E:Value→Shared→Prop}{s:Shared}{scope:Scope}{cl:List (Str×Addr)}{env:Env}{Q:Env→Shared→Prop}
  (h:Q (newEnv scope s.heap.objs.size env.globals (cellsFrom (s.heap.objs.size+1) scope.names cl) env.qual none .none (some env) builtinsNs)
   {s with heap:=pushCells (s.heap.push {cls:= .type "dict",data:= .dict #[] }) scope.names}):
  wpAny (model prog w) A (newFunctionEnv scope env.globals cl [] env.qual none .none (some env)) Q E s:=by
 simp only[newFunctionEnv,Option.isSome_some,if_true]
 refine ac (wpAny_alloc ?_)
 refine ac (wpAny_layCells _ (fun name kind cells=>by cases hkc:kind==NameKind.cell<;>simp[hkc]) _ _ _ _ ?_)
 rw[show({s with heap:=s.heap.push {cls:= .type "dict",data:= .dict #[] } }:Shared).heap.objs.size=s.heap.objs.size+1 from Heap.size_push ..]
 simp only[List.forIn_nil]
 exact ac (ah (ah h))
noncomputable def isVal:Ent→Bool
 | .val _=>true
 |_=>false
noncomputable def unl:Ent→Option Ent
 | .gv p=>some (.gv p)
 | .bi f=>some (.bi f)
 | .en=>some .en
 | .fn f=>some (.fn f)
 | .lgv p=>some (.gv p)
 | .lbi f=>some (.bi f)
 | .len=>some .en
 | .lfn f=>some (.fn f)
 |_=>none
noncomputable def lat:Ent→Option Ent
 | .gv p=>some (.lgv p)
 | .bi f=>some (.lbi f)
 | .en=>some .len
 | .fn f=>some (.lfn f)
 | .lgv p=>some (.lgv p)
 | .lbi f=>some (.lbi f)
 | .len=>some .len
 | .lfn f=>some (.lfn f)
 |_=>none
noncomputable def hasN:List (Str×NameKind)→Str→Bool
 |[],_=>false
 |(y,_)::r,x=>y==x||hasN r x
noncomputable def filt1(ρ:Rho):List (Str×NameKind)→Rho→Rho
 |[],t=>t
 |(x,k)::r,t=>match k with
  | .free=>(match ρ.lookup x with
   |some e=>if isVal e then(x,e)::filt1 ρ r t else filt1 ρ r t
   |none=>filt1 ρ r t)
  | .globalImplicit=>(match ρ.lookup x with
   |some e=>(match unl e with
    |some e'=>(x,e')::filt1 ρ r t
    |none=>filt1 ρ r t)
   |none=>filt1 ρ r t)
  |_=>filt1 ρ r t
noncomputable def lats(ρ:Rho)(l:List (Str×NameKind)):Rho→Rho
 |[]=>[]
 |(x,_)::r=>if hasN l x then lats ρ l r else match ρ.lookup x with
  |some e=>(match lat e with
   |some e'=>(x,e')::lats ρ l r
   |none=>lats ρ l r)
  |none=>lats ρ l r
noncomputable def filtR(ρ:Rho)(l:List (Str×NameKind)):Rho:=filt1 ρ l (lats ρ l ρ)
noncomputable def cellNames:List (Str×NameKind)→List Str
 |[]=>[]
 |(x,k)::r=>match k with
  | .free=>x::cellNames r
  | .cell=>x::cellNames r
  |_=>cellNames r
theorem cellNames_mem:∀{l:List (Str×NameKind)} {x:Str},x∈cellNames l→(x, .free)∈l∨(x, .cell)∈l
 |(y,k)::r,x,h=>by
  unfold cellNames at h
  split at h
  ·rcases bz.mp h with rfl|h
   ·exact .inl (cb ..)
   ·exact(cellNames_mem h).imp (bw _) (bw _)
  ·rcases bz.mp h with rfl|h
   ·exact .inr (cb ..)
   ·exact(cellNames_mem h).imp (bw _) (bw _)
  ·exact(cellNames_mem h).imp (bw _) (bw _)
set_option tactic.hygienic true in
theorem lats_lookup{ρ:Rho}{l:List (Str×NameKind)}:∀{t:Rho} {x:Str} {e:Ent},(lats ρ l t).lookup x=some e→∃d,ρ.lookup x=some d∧lat d=some e∧hasN l x=false
 |[],x,e,h=>by simp[lats]at h
 |(y,k)::r,x,e,h=>by
  unfold lats at h
  split at h
  ·exact lats_lookup h
  ·rename_i hn
   split at h
   ·rename_i d hd
    split at h
    ·rename_i e' he
     rw[bt]at h
     cases hb:x==y with
     |true=>rw[hb]at h;cases h;obtain rfl:=beq_iff_eq.mp hb;exact⟨d,hd,he,by simpa using hn⟩
     |false=>rw[hb]at h;exact lats_lookup h
    ·exact lats_lookup h
   ·exact lats_lookup h
set_option tactic.hygienic true in
theorem filt1_lookup{ρ t:Rho}:∀{l:List (Str×NameKind)} {x:Str} {e:Ent},(filt1 ρ l t).lookup x=some e→(∃d,ρ.lookup x=some d∧((isVal d=true∧d=e∧(x, .free)∈l)∨(unl d=some e∧(x, .globalImplicit)∈l)))∨t.lookup x=some e
 |[],x,e,h=> .inr h
 |(y,k)::r,x,e,h=>by
  have ih:(filt1 ρ r t).lookup x=some e→(∃d,ρ.lookup x=some d∧((isVal d=true∧d=e∧(x, .free)∈(y,k)::r)∨(unl d=some e∧(x, .globalImplicit)∈(y,k)::r)))∨t.lookup x=some e:=fun q=>by
   refine Or.elim (filt1_lookup q) (fun Y=>xEA Y fun d a b=>?_) fun q=>?_
   ·exact .inl ⟨d,a,b.imp (fun z=>⟨z.1,z.2.1,bw _ z.2.2⟩) fun z=>⟨z.1,bw _ z.2⟩⟩
   ·exact .inr q
  unfold filt1 at h
  split at h
  ·split at h
   ·rename_i d hd
    split at h
    ·rename_i hv
     rw[bt]at h
     cases hb:x==y with
     |true=>rw[hb]at h;cases h;obtain rfl:=beq_iff_eq.mp hb;exact .inl ⟨_,hd, .inl ⟨hv,rfl,cb ..⟩⟩
     |false=>rw[hb]at h;exact ih h
    ·exact ih h
   ·exact ih h
  ·split at h
   ·rename_i d hd
    split at h
    ·rename_i e' hv
     rw[bt]at h
     cases hb:x==y with
     |true=>rw[hb]at h;cases h;obtain rfl:=beq_iff_eq.mp hb;exact .inl ⟨_,hd, .inr ⟨hv,cb ..⟩⟩
     |false=>rw[hb]at h;exact ih h
    ·exact ih h
   ·exact ih h
  ·exact ih h
theorem filtR_lookup{ρ:Rho}{l:List (Str×NameKind)}{x:Str}{e:Ent}(h:(filtR ρ l).lookup x=some e):∃d,ρ.lookup x=some d∧((isVal d=true∧d=e∧(x, .free)∈l)∨(unl d=some e∧(x, .globalImplicit)∈l)∨(lat d=some e∧hasN l x=false)):=by
 refine Or.elim (filt1_lookup h) (fun Y=>xEA Y fun d a b=>?_) fun h=>?_
 ·exact⟨d,a,b.imp id .inl⟩
 ·refine xEAA (lats_lookup h) fun d a b c=>?_
  exact⟨d,a, .inr (.inr ⟨b,c⟩)⟩
theorem relabel_lookup{env:Env}(hk:env.scope.kind= .function):∀{names:List (Str×NameKind)} {x:Str} {k:NameKind},names.lookup x=some k→
  (names.map fun (n,k)=>if(k==NameKind.free&&env.scope.kind== .function&&env.kindOf n==some .cell)then(n,NameKind.cell)else(n,k)).lookup x=some (if k= .free∧env.kindOf x=some .cell then .cell else k)
 |[],x,k,h=>by simp at h
 |(y,d)::r,x,k,h=>by
  rw[bt]at h
  cases hb:x==y with
  |true=>
   rw[hb]at h
   cases h
   obtain rfl:=beq_iff_eq.mp hb
   simp only[List.map_cons]
   by_cases hc:d= .free∧env.kindOf x=some .cell
   ·have:(d==NameKind.free&&env.scope.kind== .function&&env.kindOf x==some .cell)=true:=by rw[hc.1,hc.2,hk];rfl
    rw[if_pos hc,if_pos this];simp
   ·have:¬(d==NameKind.free&&env.scope.kind== .function&&env.kindOf x==some .cell)=true:=by
     intro q;apply hc
     simp only[bp,beq_iff_eq]at q
     exact⟨q.1.1,q.2⟩
    rw[if_neg hc,if_neg this];simp
  |false=>
   rw[hb]at h
   have ih:=relabel_lookup hk h
   simp only[List.map_cons]
   split<;>(rw[bt,hb];exact ih)
theorem EntOk.gok{g:Gnd}{h:Heap}{env:Env}{F M:Addr→Prop}{x:Str}{d:Ent}(n1:isVal d=false)(n2:isOwn d=false)(ok:EntOk g h env F M x d):GOk g h env.globals env.builtins F x d:=by
 cases d<;>first|exact ff n1.symm|exact ff n2.symm|exact ok.2|exact ok
theorem unl_ok{g:Gnd}{h h':Heap}{env env':Env}{F F' M M':Addr→Prop}{x:Str}{d e:Ent}(hv:unl d=some e)(ok:EntOk g h env F M x d)(kl:env'.kindOf x=some .globalImplicit)(U:Up h F h' F')(g1:¬F env.globals)(g2:¬F env.builtins)
  (e1:env'.globals=env.globals:=by rfl) (e2:env'.builtins=env.builtins:=by rfl):EntOk g h' env' F' M' x e:=by
 have K:=GOk.mono U g1 g2 (ok.gok (by cases d<;>first|rfl|exact nn hv) (by cases d<;>first|rfl|exact nn hv))
 rw[←e1,←e2]at K
 cases d<;>first|exact nn hv|exact bn hv▸⟨kl,K⟩
theorem lat_ok{g:Gnd}{h h':Heap}{env env':Env}{F F' M M':Addr→Prop}{x:Str}{d e:Ent}(hv:lat d=some e)(ok:EntOk g h env F M x d)(U:Up h F h' F')(g1:¬F env.globals)(g2:¬F env.builtins)
  (e1:env'.globals=env.globals:=by rfl) (e2:env'.builtins=env.builtins:=by rfl):EntOk g h' env' F' M' x e:=by
 have K:=GOk.mono U g1 g2 (ok.gok (by cases d<;>first|rfl|exact nn hv) (by cases d<;>first|rfl|exact nn hv))
 rw[←e1,←e2]at K
 cases d<;>first|exact nn hv|exact bn hv▸K
theorem comp_env{g:Gnd}{env:Env}{ρ:Rho}{cn:List Str}{hb h₃:Heap}{F F₀ M:Addr→Prop}(I:Inv g env ρ hb F M)(hcn:Cn env cn){scope:Scope}(ok:scopeOk scope cn=true)(U:Ext hb h₃)
  (hF:∀a,F a→F₀ a) (hn:∀a o,hb.get? a=some o→¬F a→¬F₀ a) (fl:FL h₃ F₀):
  ∃cl,closureFor scope env=pure cl∧∀cs,cs=cellsFrom (h₃.objs.size+1) scope.names cl→
   let h₄:=pushCells (h₃.push {cls:= .type "dict",data:= .dict #[] }) scope.names
   let F':=fun a=>F₀ a∨a=h₃.objs.size∨∃n,cs.lookup n=some a
   Ext h₃ h₄∧Inv g (compEnvC scope cs h₃.objs.size env) (filtR ρ scope.names) h₄ F' F'∧Cn (compEnvC scope cs h₃.objs.size env) (cellNames scope.names)∧
   (∀a,F' a→F₀ a∨hb.get? a=none)∧(∀a o,hb.get? a=some o→¬F a→¬F' a)∧
   (∀x,(scope.names.lookup x=some .local∨scope.names.lookup x=some .cell)→((compEnvC scope cs h₃.objs.size env).kindOf x=some .local∨(compEnvC scope cs h₃.objs.size env).kindOf x=some .cell∧(cs.lookup x).isSome=true)∧
    ∀c,cs.lookup x=some c→h₃.get? c=none)∧(∀x c,cs.lookup x=some c→env.cells.lookup x=some c∨h₃.get? c=none):=by
 have okk:=ok
 refine xA (Bool.and_eq_true_iff.mp ok) fun Y ok3=>?_;refine xA (Bool.and_eq_true_iff.mp Y) fun ok1 ok2=>?_
 have hkind:scope.kind= .function:=by
  cases h:scope.kind<;>rw[h]at ok1<;>first|rfl|cases ok1
 have free:∀x,(x,NameKind.free)∈scope.names→x∈cn∧(x==br "__classdict__")=false:=fun x hx=>by
  have this:(cn.contains x&&!(x==br "__classdict__"))=true:=bs.mp ok3 _ hx
  simp only[bp,Bool.not_eq_true']at this
  exact⟨List.contains_iff_mem.mp this.1,this.2⟩
 obtain⟨cl,e1,e2,e3,e4⟩:=closureFor_ok (env:=env) (scope:=scope) fun x hx hxk=>by
  obtain⟨y,k⟩:=x
  cases hxk
  exact(hcn y (free y hx).1).2
 refine⟨cl,e1,fun cs hcs=>?_⟩
 subst hcs
 have hsz:(h₃.push {cls:= .type "dict",data:= .dict #[] }).objs.size=h₃.objs.size+1:=Heap.size_push ..
 have U1:Ext h₃ (h₃.push {cls:= .type "dict",data:= .dict #[] }):=Ext.push _ _
 have U4:Ext h₃ (pushCells (h₃.push {cls:= .type "dict",data:= .dict #[] }) scope.names):=fun a o e=>pushCells_keeps _ _ _ _ (U1 a o e)
 have celOld:∀x c,cl.lookup x=some c→M c∧c≠env.locals∧∃v,hb.IsCell c v:=fun x c h=>I.cel x c (e2 x c h)
 have lt3:∀a,(∃o,h₃.get? a=some o)→a<h₃.objs.size:=fun a Y=>xE Y fun o ho=>bh ho
 have clLt:∀x c,cl.lookup x=some c→c<h₃.objs.size:=fun x c h=>by
  refine xAAE (celOld x c h) fun Y9 Y9 v Y=>?_;refine xEA Y fun o ho Y9=>?_
  exact lt3 c ⟨o,U _ _ ho⟩
 have facts:=cellsFrom_facts scope.names (h₃.push {cls:= .type "dict",data:= .dict #[] }) cl (h₃.objs.size+1) (by rw[hsz];exact Nat.le_refl _)
  (fun x c h=> .inl (Nat.lt_succ_of_lt (clLt x c h))) (fun x y c h h'=>I.celd x y c (e2 x c h) (e2 y c h'))
 rw[hsz]at facts
 refine xAAAA facts fun f1 f2 f3 f4 f5=>?_
 intro h₄ F'
 have hnew:∀a o,hb.get? a=some o→a<h₃.objs.size:=fun a o ho=>lt3 a ⟨o,U a o ho⟩
 have F'old:∀a o,hb.get? a=some o→¬F a→¬F' a:=fun a o ho nf=>by
  rintro (q|q|⟨n,q⟩)
  ·exact hn a o ho nf q
  ·subst q;exact Nat.lt_irrefl _ (hnew _ o ho)
  ·refine Or.elim (f1 n a q) (fun q=>?_) fun Y=>xA Y fun q Y=>?_
   ·exact nf (I.sub _ (celOld n a q).1)
   ·exact Nat.lt_irrefl _ (Nat.lt_trans (hnew a o ho) q)
 have uq:∀x k k',(x,k)∈scope.names→(x,k')∈scope.names→k=k':=fun x k k' h h'=>by
  have a:=lookup_of_mem ok2 h
  have b:=lookup_of_mem ok2 h'
  rw[a]at b;exact bn b
 have hcs:∀n c,(cellsFrom (h₃.objs.size+1) scope.names cl).lookup n=some c→F' c∧c≠h₃.objs.size∧∃v,h₄.IsCell c v:=fun n c hc=>by
  refine⟨.inr (.inr ⟨n,hc⟩),?_⟩
  refine Or.elim (f1 n c hc) (fun q=>?_) fun Y=>xA Y fun q i=>?_
  ·refine xAAE (celOld n c q) fun Y Y v i=>?_
   have:=clLt n c q
   exact⟨Nat.ne_of_lt this,v,i.keeps (U.trans U4)⟩
  ·exact⟨Nat.ne_of_gt q,_,i⟩
 have none3:∀c,h₃.objs.size+1≤c→h₃.get? c=none:=fun c q=>by
  cases e:h₃.get? c with
  |none=>rfl
  |some o=>exact absurd (Nat.lt_trans (bh e) q) (Nat.lt_irrefl _)
 refine⟨U4,⟨?_,I.base.trans (U.trans U4),I.low,?_,fun Y q=>q,?_,?_,?_,?_, .inr (.inl rfl),hcs,f2,?_⟩,?_,?_,F'old,fun x hx=>⟨?_,fun c hc=>?_⟩,fun x c hc=>?_⟩
 ·exact hkind
 ·rintro a (q|q|⟨n,q⟩)
  ·exact fl.ext U4 a q
  ·subst q
   exact⟨_,pushCells_keeps _ _ _ _ (bc _ rfl)⟩
  ·refine xAAE (hcs n a q) fun Y9 Y9 v Y=>?_;refine xEA Y fun o ho Y9=>?_;exact⟨o,ho⟩
 ·refine xE I.glive.1 fun o ho=>?_;exact F'old _ o ho I.glob
 ·refine xE I.glive.2 fun o ho=>?_;exact F'old _ o ho I.blt
 ·refine xA I.glive fun Y Y1=>?_;refine xE Y1 fun o' ho'=>?_;refine xE Y fun o ho=>?_;exact⟨⟨o,U4 _ _ (U _ _ ho)⟩,o',U4 _ _ (U _ _ ho')⟩
 ·exact⟨_,(Heap.Ns.new h₃ (.type "dict")).keeps (pushCells_keeps _ _)⟩
 ·intro x e hx
  refine xEA (filtR_lookup hx) fun d he hk=>?_
  refine xA (I.ents x d he) fun oke dd=>?_
  refine⟨?_,dd⟩
  have V:Up hb F h₄ F':=fun a o ho nf=>⟨F'old a o ho nf,U4 _ _ (U _ _ ho)⟩
  rcases hk with ⟨hv,rfl,hm⟩|⟨hv,hm⟩|⟨hv,_⟩
  ·cases d<;>simp only[isVal]at hv<;>try cases hv
   refine xEA oke fun v va r=>?_
   refine⟨v,?_,r.up V _⟩
   refine xA (free x hm) fun hx1 hx2=>?_
   refine xA (hcn x hx1) fun kx cx=>?_
   have key:∃c,env.cells.lookup x=some c∧hb.IsCell c (some v):=by
    rcases va with ⟨k,_⟩|⟨_,r⟩|⟨_,_,r⟩
    ·refine Or.elim kx (fun kx=>?_) fun kx=>?_<;>(rw[kx]at k;cases k)
    ·exact r
    ·exact r
   refine xEA key fun c hc i=>?_
   have hcl:cl.lookup x=some c:=by
    refine xE (Option.isSome_iff_exists.mp (e3 (x, .free) hm rfl)) fun c' hc'=>?_
    have:=e2 x c' hc'
    rw[hc]at this;cases this;exact hc'
   have hcs':(cellsFrom (h₃.objs.size+1) scope.names cl).lookup x=some c:=by
    rw[f5 x fun q=>by cases uq x _ _ hm q];exact hcl
   have i':h₄.IsCell c (some v):=i.keeps (U.trans U4)
   have kl:=relabel_lookup (env:=env) I.kind (lookup_of_mem ok2 hm)
   by_cases kc:env.kindOf x=some .cell
   ·rw[if_pos ⟨rfl,kc⟩]at kl
    exact .inr (.inl ⟨kl,c,hcs',i'⟩)
   ·rw[if_neg fun q=>kc q.2]at kl
    exact .inr (.inr ⟨kl,hx2,c,hcs',i'⟩)
  ·have kl:=relabel_lookup (env:=env) I.kind (lookup_of_mem ok2 hm)
   rw[if_neg fun q=>by cases q.1]at kl
   exact unl_ok hv oke kl V I.glob I.blt
  ·exact lat_ok hv oke V I.glob I.blt
 ·intro x hx
  refine Or.elim (cellNames_mem hx) (fun hm=>?_) fun hm=>?_
  ·have kl:=relabel_lookup (env:=env) I.kind (lookup_of_mem ok2 hm)
   refine⟨?_,?_⟩
   ·by_cases kc:env.kindOf x=some .cell
    ·rw[if_pos ⟨rfl,kc⟩]at kl;exact .inl kl
    ·rw[if_neg fun q=>kc q.2]at kl;exact .inr kl
   ·show((cellsFrom (h₃.objs.size+1) scope.names cl).lookup x).isSome=true
    rw[f5 x fun q=>by cases uq x _ _ hm q]
    exact e3 (x, .free) hm rfl
  ·have kl:=relabel_lookup (env:=env) I.kind (lookup_of_mem ok2 hm)
   rw[if_neg fun q=>by cases q.1]at kl
   refine xE (f3 x hm) fun c hc=>?_
   exact⟨.inl kl,by show((cellsFrom (h₃.objs.size+1) scope.names cl).lookup x).isSome=true;rw[hc];rfl⟩
 ·rintro a (q|q|⟨n,q⟩)
  ·exact .inl q
  ·subst q
   refine .inr ?_
   cases e:hb.get? h₃.objs.size with
   |none=>rfl
   |some o=>exact absurd (hnew _ o e) (Nat.lt_irrefl _)
  ·refine Or.elim (f1 n a q) (fun q=>?_) fun Y=>xA Y fun q Y=>?_
   ·exact .inl (hF _ (I.sub _ (celOld n a q).1))
   ·refine .inr ?_
    cases e:hb.get? a with
    |none=>rfl
    |some o=>exact absurd (Nat.lt_trans (hnew _ o e) q) (Nat.lt_irrefl _)
 ·refine Or.elim hx (fun hx=>?_) fun hx=>?_
  ·have kl:=relabel_lookup (env:=env) I.kind hx
   rw[if_neg fun q=>by cases q.1]at kl
   exact .inl kl
  ·have kl:=relabel_lookup (env:=env) I.kind hx
   rw[if_neg fun q=>by cases q.1]at kl
   refine xE (f3 x (mem_of_lookup hx)) fun c hc=>?_
   exact .inr ⟨kl,by rw[hc];rfl⟩
 ·refine Or.elim (f1 x c hc) (fun q=>?_) fun Y=>xA Y fun q Y=>?_
  ·refine Or.elim hx (fun hx=>?_) fun hx=>?_
   ·have:=uq x _ _ (e4 x c q) (mem_of_lookup hx);cases this
   ·have:=uq x _ _ (e4 x c q) (mem_of_lookup hx);cases this
  ·exact none3 c q
 ·refine Or.elim (f1 x c hc) (fun q=>?_) fun Y=>xA Y fun q Y=>?_
  ·exact .inl (e2 x c q)
  ·exact .inr (none3 c q)
section
def ItemIs(prog:Program)(w:World)(target:Expr)(hb:Heap)(F:Addr→Prop)(p:PV)(v:Value)(h:Heap):Prop:=match target with
 | .Name .. =>Rv prog w hb F p v
 |_=>∃a b T pa pb,p= .tuple [pa,pb]∧v= .ref T∧h.IsTuple T #[a,b]∧Rv prog w hb F pa a∧Rv prog w hb F pb b
inductive IterOk(prog:Program)(w:World)(A:Around)(target:Expr)(hb:Heap)(F:Addr→Prop)(items:List PV)(it:Value)(h:Heap):Prop
 |mk (I:Addr) (fp wr:List Addr) (P Md:Nat→Value→Heap→Prop) (St:Nat→Heap→Prop) (e:it= .ref I) (T:KTurns prog w A target I fp wr items.length P Md St) (s0:St 0 h) (live:∀i h,St i h→∀b∈fp,∃o,h.get? b=some o)
  (wrn:∀b∈wr,hb.get? b=none) (fpF:∀b∈fp,¬F b) (self:∀i (s:Shared) (Q:Value→Shared→Prop) (E:Value→Shared→Prop),St i s.heap→Q (.ref I) s→wpAny (model prog w) A (pyIter (.ref I)) Q E s)
  (item:∀i v h' p,P i v h'→items[i]?=some p→ItemIs prog w target hb F p v h')
noncomputable def iterPV:PV→Option (List PV)
 | .list xs=>if xs.length.blt 10000 then some xs else none
 | .str x=>if x.length.blt 10000 then some (x.map fun c=> .str [c])else none
 | .range a b c=>if Builtin.Range.small a b c&&decide (Builtin.Range.rangeSize a b c≤10000)&&decide (0≤Builtin.Range.rangeSize a b c)then some (rangeL a c (Builtin.Range.rangeSize a b c).toNat)else none
 |_=>none
section
variable{prog:Program}{w:World}{A:Around}{E:Value→Shared→Prop}{s:Shared}{F:Addr→Prop}
set_option tactic.hygienic true in
theorem iter_ok{x:Str}{px:Pos}{p:PV}{items:List PV}{v:Value}{Q:Value→Shared→Prop}(e:iterPV p=some items)(fl:FL s.heap F)(hh:A.handled=none)(r:Rv prog w s.heap F p v)
  (H:∀it h',Ext s.heap h'→IterOk prog w A (.Name x px) s.heap F items it h'→Q it {s with heap:=h'}):wpAny (model prog w) A (pyIter v) Q E s:=by
 cases p<;>try exact nn e
 case list xs=>
  refine if_inv e fun Y e=>?_
  ·obtain rfl:=bn e
   refine xEEAAAA (Rv.list_iff.mp r) fun a vs Y nf ns il rs=>?_;subst Y
   have hne:a≠s.heap.objs.size:=by refine xE il fun n ho=>?_;exact Nat.ne_of_lt (bh ho)
   have hit:(s.heap.push {cls:= .type "list_iterator",data:= .fields #[.ref a, .int 0 0] }).IsListIter s.heap.objs.size a 0:=⟨_,bc _ rfl,rfl,rfl⟩
   have hil:=il.isList.push {cls:= .type "list_iterator",data:= .fields #[.ref a, .int 0 0] }
   refine wpAny_pyIter_list il.isList (H _ _ (Ext.push _ _) ?_)
   have hl:vs.size=xs.length:=by rw[←cp,rs.length]
   refine⟨_,_,_,_,_,_,rfl,hl▸KTurns.ofWalks (Walks.list hh s.heap.objs.size a hne vs) (fun Y Y Y Y Y Y hQ=>ah hQ),⟨hit,hil⟩,fun i h' st b hb=>?_,fun b hb=>?_,fun b hb=>?_,fun i s' Q' E' st hQ=>wpAny_pyIter_listiter st.1 hQ,fun i v h' p hP hp=>?_⟩
   ·rcases bz.mp hb with rfl|hb
    ·refine xA st fun Y Y9=>?_;refine xEA Y fun o ho Y=>?_;exact⟨o,ho⟩
    ·obtain rfl:=cf.mp hb
     refine xAEA st fun Y o ho Y=>?_;exact⟨o,ho⟩
   ·obtain rfl:=cf.mp hb;exact get?_size _
   ·rcases bz.mp hb with rfl|hb
    ·exact fl.new
    ·obtain rfl:=cf.mp hb;exact nf
   ·refine xEA (rs.get hp) fun v' e1 e2=>?_
    have hP':vs[i]?=some v:=hP
    rw[Array.getElem?_toList,hP']at e1
    exact bn e1▸e2
 case str y=>
  refine if_inv e fun Y e=>?_
  ·obtain rfl:=bn e
   refine xE (Rv.str_iff.mp r) fun t Y=>?_;subst Y
   have hl:(sv y).cps.size=(y.map fun c=>PV.str [c]).length:=by simp[sv]
   have key:∀(o:Obj) (St:Nat→Heap→Prop),(∀i h,St i h→∃o,h.get? s.heap.objs.size=some o)→Walks prog w A s.heap.objs.size [s.heap.objs.size] [s.heap.objs.size] (sv y).cps.size (SignAt (sv y)) St→St 0 (s.heap.push o)→
     Q (.ref s.heap.objs.size) {s with heap:=s.heap.push o}:=fun o St hf W st=>by
    refine H _ _ (Ext.push _ _) ?_
    refine⟨_,_,_,_,_,_,rfl,hl▸KTurns.ofWalks W (fun Y Y Y Y Y Y hQ=>ah hQ),st,fun i h' st b hb=>?_,fun b hb=>?_,fun b hb=>?_,W.self,fun i v h' p hP hp=>?_⟩
    ·obtain rfl:=cf.mp hb;exact hf i h' st
    ·obtain rfl:=cf.mp hb;exact get?_size _
    ·obtain rfl:=cf.mp hb;exact fl.new
    ·refine xEEA hP fun c u e1 Y=>?_;clear hP;subst Y
     have:y[i]?=some c:=by rw[←e1];simp[sv]
     rw[List.getElem?_map,this]at hp
     exact bn hp▸(Rv.str:Rv prog w s.heap F (.str [c]) (.str (sv [c]) u))
   cases ha:(sv y).cps.all (· <128)
   ·exact wpAny_pyIter_wide ha (key _ _ (fun i h st=>xEA st fun o ho Y=>⟨o,ho⟩) (Walks.strWide hh _ (sv y) t) ⟨_,bc _ rfl,rfl,rfl⟩)
   ·exact wpAny_pyIter_ascii ha (key _ _ (fun i h st=>xEA st fun o ho Y=>⟨o,ho⟩) (Walks.strAscii hh _ (sv y) t) ⟨_,bc _ rfl,rfl,rfl⟩)
 case range a b c=>
  refine if_inv e fun hc e=>?_
  ·obtain rfl:=bn e
   simp only[bp,decide_eq_true_eq]at hc
   refine xA hc fun Y h3=>?_;refine xA Y fun h1 h2=>?_
   refine xEEEEAA (Rv.range_iff.mp r) fun q t u z Y nf ir=>?_;subst Y
   refine wpAny_pyIter_range ir h1 (H _ _ (Ext.push _ _) ?_)
   have W:=Walks.range (prog:=prog) (w:=w) (A:=A) hh s.heap.objs.size a c (rangeL a c (Builtin.Range.rangeSize a b c).toNat).length
   have hl:(Builtin.Range.rangeSize a b c).toNat=(rangeL a c (Builtin.Range.rangeSize a b c).toNat).length:=(rangeL_length _ _ _).symm
   refine⟨_,_,_,_,_,_,rfl,KTurns.ofWalks W (fun Y Y Y Y Y Y hQ=>ah hQ),?_,fun i h' st b hb=>?_,fun b hb=>?_,fun b hb=>?_,W.self,fun i v h' p hP hp=>?_⟩
   ·have:((rangeL a c (Builtin.Range.rangeSize a b c).toNat).length:Int)=Builtin.Range.rangeSize a b c:=by rw[←hl];lia
    show IsRangeIter _ _ (a+((0:Nat):Int)*c) (((rangeL a c (Builtin.Range.rangeSize a b c).toNat).length:Int)-((0:Nat):Int)) c
    rw[this]
    simp only[Int.natCast_zero,Int.zero_mul,Int.add_zero,Int.sub_zero]
    exact bc _ rfl
   ·obtain rfl:=cf.mp hb;exact⟨_,st⟩
   ·obtain rfl:=cf.mp hb;exact get?_size _
   ·obtain rfl:=cf.mp hb;exact fl.new
   ·refine xE hP fun t Y=>?_;clear hP;subst Y
    rw[rangeL_get _ _ _ _ _ hp]
    exact(Rv.int:Rv prog w s.heap F (.int _) (.int _ _))
noncomputable def enumL:Nat→List PV→List PV
 |_,[]=>[]
 |k,x::xs=> .tuple [.int k,x]::enumL (k+1) xs
theorem enumL_length:∀(xs:List PV) (k:Nat),(enumL k xs).length=xs.length
 |[],_=>rfl
 |x::xs,k=>by simp[enumL,enumL_length xs]
theorem enumL_get:∀(xs:List PV) (k i:Nat) (p:PV),(enumL k xs)[i]?=some p→∃x,xs[i]?=some x∧p= .tuple [.int ((k+i:Nat):Int),x]
 |[],_,_,_,e=>by simp[enumL]at e
 |x::xs,k,i,p,e=>by
  cases i with
  |zero=>simp only[enumL,List.getElem?_cons_zero,Option.some.injEq]at e;exact⟨x,rfl,e.symm⟩
  |succ i=>
   simp only[enumL,List.getElem?_cons_succ]at e
   refine xEA (enumL_get xs (k+1) i p e) fun y h1 h2=>?_
   exact⟨y,by simpa using h1,by rw[h2];congr 4;lia⟩
theorem enum_ok{elts:List Expr}{k:Nat}{px:Pos}{xs:List PV}{v:Value}{Q:Value→Shared→Prop}(hl10:xs.length<10000)(fl:FL s.heap F)(hh:A.handled=none)(r:Rv prog w s.heap F (.list xs) v)
  (H:∀it h',Ext s.heap h'→IterOk prog w A (.Tuple elts k px) s.heap F (enumL 0 xs) it h'→Q it {s with heap:=h'}):
  wpAny (model prog w) A (call (.type "enumerate") [v]) (fun x s₁=>wpAny (model prog w) A (pyIter x) Q E s₁) E s:=by
 refine xEEAAAA (Rv.list_iff.mp r) fun a vs Y nf ns il rs=>?_;subst Y
 have ha:a<s.heap.objs.size:=by refine xE il fun n ho=>?_;exact bh ho
 refine call_enumerate_list il.isList fun h' he hit hsz hk=>wpAny_pyIter_enum he (H _ _ hk ?_)
 have hne1:s.heap.objs.size+1≠s.heap.objs.size:=Nat.succ_ne_self _
 have hne2:a≠s.heap.objs.size+1:=Nat.ne_of_lt (Nat.lt_succ_of_lt ha)
 have hne3:a≠s.heap.objs.size:=Nat.ne_of_lt ha
 have W:=(WalksT.enumerate (prog:=prog) (w:=w) (A:=A) hh (s.heap.objs.size+1) s.heap.objs.size a hne1 hne2 hne3 vs).toU
 have hlen:vs.size=(enumL 0 xs).length:=by rw[←cp,rs.length,enumL_length]
 have hl':=il.isList.at fun o e=>hk a o e
 have new1:s.heap.get? (s.heap.objs.size+1)=none:=by
  cases e:s.heap.get? (s.heap.objs.size+1)with
  |none=>rfl
  |some o=>exact absurd (bh e) (Nat.not_lt.mpr (Nat.le_succ _))
 refine⟨_,_,_,_,_,_,rfl,hlen▸KTurns.ofWalksU W,⟨⟨_,he⟩,hit,hl'⟩,fun i h'' st b hb=>?_,fun b hb=>?_,fun b hb=>?_,W.self,fun i v h'' p hP hp=>?_⟩
 ·refine xAAE st fun Y Y1 o2 Y2=>?_;refine xA Y2 fun ho2 Y9=>?_;refine xE Y fun old he'=>?_;refine xEA Y1 fun o1 ho1 Y=>?_
  rcases bz.mp hb with rfl|hb
  ·exact⟨_,he'⟩
  ·rcases bz.mp hb with rfl|hb
   ·exact⟨_,ho1⟩
   ·obtain rfl:=cf.mp hb;exact⟨_,ho2⟩
 ·rcases bz.mp hb with rfl|hb
  ·exact new1
  ·obtain rfl:=cf.mp hb;exact get?_size _
 ·rcases bz.mp hb with rfl|hb
  ·exact fl.fresh new1
  ·rcases bz.mp hb with rfl|hb
   ·exact fl.new
   ·obtain rfl:=cf.mp hb;exact nf
 ·refine xEEAA hP fun T vals Y Y1 hT=>?_;clear hP;subst Y;refine xEEA Y1 fun t x hx Y=>?_;clear Y1;subst Y
  refine xEA (enumL_get xs 0 i p hp) fun y hy Y=>?_;subst Y
  refine xEA (rs.get hy) fun v' e1 e2=>?_
  rw[Array.getElem?_toList,hx]at e1
  cases e1
  exact⟨_,_,T,_,_,rfl,rfl,hT,by simpa using (Rv.int:Rv prog w s.heap F (.int (i:Int)) (.int (i:Int) t)),e2⟩
end
end
def Own(env:Env)(bk:Str→Bool)(a:Addr):Prop:=a=env.locals∨∃n,bk n=true∧env.cells.lookup n=some a
def Mod(Z:Addr→Prop)(h h':Heap):Prop:=∀a o,h.get? a=some o→¬Z a→h'.get? a=some o
theorem Mod.trans{Z:Addr→Prop}{h h' h'':Heap}(x:Mod Z h h')(y:Mod Z h' h''):Mod Z h h'':=fun a o e n=>y a o (x a o e n) n
theorem Ext.mod{h h':Heap}(x:Ext h h')(Z:Addr→Prop):Mod Z h h':=fun a o e Y=>x a o e
theorem Mod.mono{Z Z':Addr→Prop}{h h':Heap}(x:Mod Z h h')(k:∀a,Z a→Z' a):Mod Z' h h':=fun a o e n=>x a o e fun q=>n (k a q)
def Bindable(env:Env)(bk:Str→Bool):Prop:=∀x,bk x=true→(env.kindOf x=some .local∨env.kindOf x=some .cell∧(env.cells.lookup x).isSome=true)∧(x==br "__debug__")=false
noncomputable def pick{α:Type}(nm:Str→Option α)(cal:Expr→List Expr→List Keyword→Pos→Option α)(tup:List Expr→Option α)(lis:List Expr→Option α)(sub:Expr→Expr→Option α)(slc:Option Expr→Option Expr→Option Expr→Option α)(att:Expr→Str→Pos→Option α)(bin:Expr→Operator→Expr→Option α)(lc:Expr→List Comprehension→Scope→Pos→Option α)(com:Scope→Pos→Option α)(tern:Expr→Expr→Expr→Option α)(cpr:Expr→List CmpOp→List Expr→Option α)(st:Option α):Expr→Option α
 | .Name x _=>nm x
 | .Call f a k p=>cal f a k p
 | .Tuple l _ _=>tup l
 | .List l _=>lis l
 | .Subscript o i _=>sub o i
 | .Slice l u s _=>slc l u s
 | .Attribute o m p=>att o m p
 | .BinOp l o r _=>bin l o r
 | .ListComp v g s p=>lc v g s p
 | .SetComp _ _ s p=>com s p
 | .DictComp _ _ _ s p=>com s p
 | .IfExp t b o _=>tern t b o
 | .Compare l o r _=>cpr l o r
 | .Set .. =>st
 |_=>none
noncomputable def k1{α β:Type}(Y:α):Option β:=none
noncomputable def k2{α β γ:Type}(Y:α)(Y:β):Option γ:=none
noncomputable def k3{α β γ δ:Type}(Y:α)(Y:β)(Y:γ):Option δ:=none
noncomputable def k4{α β γ δ ε:Type}(Y:α)(Y:β)(Y:γ)(Y:δ):Option ε:=none
theorem pick_inv{α:Type}{nm:Str→Option α}{cal:Expr→List Expr→List Keyword→Pos→Option α}{tup:List Expr→Option α}{lis:List Expr→Option α}{sub:Expr→Expr→Option α}{slc:Option Expr→Option Expr→Option Expr→Option α}{att:Expr→Str→Pos→Option α}{bin:Expr→Operator→Expr→Option α}{lc:Expr→List Comprehension→Scope→Pos→Option α}{tern:Expr→Expr→Expr→Option α}{cpr:Expr→List CmpOp→List Expr→Option α}{e:Expr}{z:α}(h:pick nm cal tup lis sub slc att bin lc k2 tern cpr none e=some z){G:Prop}
  (c0:∀x p,e= .Name x p→nm x=some z→G) (c1:∀f a k p,e= .Call f a k p→cal f a k p=some z→G) (c2:∀l k p,e= .Tuple l k p→tup l=some z→G) (c3:∀l p,e= .List l p→lis l=some z→G) (c4:∀o i p,e= .Subscript o i p→sub o i=some z→G) (c5:∀l u s p,e= .Slice l u s p→slc l u s=some z→G) (c6:∀o m p,e= .Attribute o m p→att o m p=some z→G) (c7:∀l o r p,e= .BinOp l o r p→bin l o r=some z→G) (c8:∀v g s p,e= .ListComp v g s p→lc v g s p=some z→G) (c10:∀t b o p,e= .IfExp t b o p→tern t b o=some z→G) (c11:∀l o r p,e= .Compare l o r p→cpr l o r=some z→G):G:=by
 generalize hh:e=x at h
 cases x<;>first|exact nn h|exact c0 _ _ hh h|exact c1 _ _ _ _ hh h|exact c2 _ _ _ hh h|exact c3 _ _ hh h|exact c4 _ _ _ hh h|exact c5 _ _ _ _ hh h|exact c6 _ _ _ hh h|exact c7 _ _ _ _ hh h|exact c8 _ _ _ _ hh h|exact c10 _ _ _ _ hh h|exact c11 _ _ _ _ hh h
theorem n2{α P Q:Type}{E:P→Q→Prop}{z:α}{G:Prop}(a:P)(b:Q)(Y:E a b)(q:(none:Option α)=some z):G:=nn q
theorem n3{α P Q R:Type}{E:P→Q→R→Prop}{z:α}{G:Prop}(a:P)(b:Q)(c:R)(Y:E a b c)(q:(none:Option α)=some z):G:=nn q
theorem n4{α P Q R S:Type}{E:P→Q→R→S→Prop}{z:α}{G:Prop}(a:P)(b:Q)(c:R)(d:S)(Y:E a b c d)(q:(none:Option α)=some z):G:=nn q
noncomputable def nmOf:Expr→Option Str:=pick some k4 k1 k1 k2 k3 k3 k3 k4 k2 k3 k3 none
theorem nmOf_eq{e:Expr}{x:Str}(h:nmOf e=some x):∃p,e= .Name x p:=
 pick_inv h (fun Y p q r=>⟨p,q.trans (congrArg (fun z=>Expr.Name z p) (bn r))⟩) n4 n3 n2 n3 n4 n3 n4 n4 n4 n4
noncomputable def nm2(es:List Expr):Option (Str×Str):=o1 (dbl es) fun z=>o2 (nmOf z.1) (nmOf z.2) fun x y=>some (x,y)
theorem nm2_eq{es:List Expr}{z:Str×Str}(h:nm2 es=some z){G:Prop}(k:∀p q,es=[.Name z.1 p, .Name z.2 q]→G):G:=o1_inv h fun y hy h=>o2_inv h fun a b ha hb h=>by
 refine xE (nmOf_eq ha) fun p e1=>?_
 refine xE (nmOf_eq hb) fun q e2=>?_
 exact k p q (by rw[dbl_eq hy,e1,e2,←bn h])
noncomputable def isT(p:PV):Option (PV×PV):=match p with
 | .tuple l=>dbl l
 |_=>none
theorem isT_eq{p:PV}{a:PV×PV}(h:isT p=some a):p= .tuple [a.1,a.2]:=by cases p<;>first|exact nn h|exact congrArg PV.tuple (dbl_eq h)
noncomputable def tupOf:Expr→Option (List Expr):=pick k1 k4 some k1 k2 k3 k3 k3 k4 k2 k3 k3 none
theorem tupOf_eq{e:Expr}{z:List Expr}(h:tupOf e=some z):∃k p,e= .Tuple z k p:=
 pick_inv h n2 n4 (fun Y k p q r=>⟨k,p,q.trans (congrArg (fun z=>Expr.Tuple z k p) (bn r))⟩) n2 n3 n4 n3 n4 n4 n4 n4
noncomputable def bindT(bk:Str→Bool)(tgt:Expr)(p:PV)(ρ:Rho):Option Rho:=oe (nmOf tgt) (fun x=>gd (bk x) (some (setR ρ x (.val p))))<|o1 (tupOf tgt) fun elts=>o1 (nm2 elts) fun z=>gd (bk z.1&&bk z.2) (o1 (isT p) fun a=>some (setR (setR ρ z.1 (.val a.1)) z.2 (.val a.2)))
theorem bindT_inv{bk:Str→Bool}{tgt:Expr}{p:PV}{ρ ρ':Rho}(e:bindT bk tgt p ρ=some ρ'){G:Prop}(k1:∀x px,tgt= .Name x px→bk x=true→setR ρ x (.val p)=ρ'→G)
  (k2:∀x y a b p1 p2 k px,tgt= .Tuple [.Name x p1, .Name y p2] k px→p= .tuple [a,b]→bk x=true→bk y=true→setR (setR ρ x (.val a)) y (.val b)=ρ'→G):G:=
 oe_inv e (fun x hx e=>gd_inv e fun h e=>xE (nmOf_eq hx) fun px ht=>k1 x px ht h (bn e)) fun e=>o1_inv e fun elts ht e=>o1_inv e fun z hz e=>gd_inv e fun hb e=>o1_inv e fun a ha e=>nm2_eq hz fun p q h=>by
  refine xEE (tupOf_eq ht) fun k px ht=>?_
  rw[bp]at hb
  exact k2 _ _ _ _ p q k px (by rw[ht,h]) (isT_eq ha) hb.1 hb.2 (bn e)
theorem store_own{g:Gnd}{env:Env}{ρ:Rho}{s:Shared}{A:Around}{E:Value→Shared→Prop}{F M:Addr→Prop}(I:Inv g env ρ s.heap F M){bk:Str→Bool}(hb:Bindable env bk){x:Str}{v:Value}{p:PV}{Q:Unit→Shared→Prop}
  (hx:bk x=true) (hm:∀a,Own env bk a→g.h₀.get? a=none) (r:Rv g.prog g.w s.heap F p v)
  (H:∀h' t',Mod (Own env bk) s.heap h'→Inv g env (setR ρ x (.val p)) h' F M→Q () {s with heap:=h',toks:=t'}):wpAny (model g.prog g.w) A (storeName env x v) Q E s:=by
 refine xA (hb x hx) fun hk hd=>?_
 refine Or.elim hk (fun hk=>?_) fun Y=>xA Y fun hk hc=>?_
 ·refine xE I.loc fun m n=>?_
  refine wpAny_storeName_local hk n (fun h' n' hs=>?_) (by rw[I.kind];rfl)
  have U:Up s.heap F h' F:=fun a o ho nf=>⟨nf,hs.extBut a o (fun q=>nf (q▸I.sub _ I.mloc)) ho⟩
  refine H h' (s.toks+1) (fun a o ho no=>hs.extBut a o (fun q=>no (.inl q)) ho) (I.store (v:=v) (.inl rfl) hs (hm _ (.inl rfl)) hd ⟨_,n',fun m₂ n₂ y hy=>?_⟩ (fun c hc=>?_) ⟨v, .inl ⟨hk,_,n',by simp⟩,r.up U _⟩)
  ·rw[if_neg hy]
   exact n.agree n₂ y
  ·refine xAAE (I.cel x c hc) fun a b u i=>?_
   exact⟨u,i.sameBut hs b⟩
 ·refine xE (Option.isSome_iff_exists.mp hc) fun c hc=>?_
  refine xAAE (I.cel x c hc) fun a b u i=>?_
  refine wpAny_storeName_cell I.kind hk hc i fun h' i' hs=>?_
  have U:Up s.heap F h' F:=fun a' o ho nf=>⟨nf,hs.extBut a' o (fun q=>nf (q▸I.sub _ a)) ho⟩
  refine xE I.loc fun m n=>?_
  have n':=n.sameBut hs (Ne.symm b)
  refine H h' s.toks (fun a o ho no=>hs.extBut a o (fun q=>no (.inr ⟨x,hx,q▸hc⟩)) ho) (I.store (v:=v) (.inr hc) hs (hm _ (.inr ⟨x,hx,hc⟩)) hd ⟨m,n',fun m₂ n₂ y hy=>n.agree n₂ y⟩ (fun c' hc'=>?_) ⟨v, .inr (.inl ⟨hk,c,hc,i'⟩),r.up U _⟩)
  rw[hc]at hc';cases hc';exact⟨_,i'⟩
theorem Mod.up{Z F:Addr→Prop}{h h':Heap}(x:Mod Z h h')(k:∀a,Z a→F a):Up h F h' F:=fun a o e n=>⟨n,x a o e fun q=>n (k a q)⟩
theorem Inv.ownF{g:Gnd}{env:Env}{ρ:Rho}{h:Heap}{F M:Addr→Prop}(I:Inv g env ρ h F M){bk:Str→Bool}:∀a,Own env bk a→F a:=fun a q=>by
 rcases q with rfl|⟨n,_,q⟩
 ·exact I.sub _ I.mloc
 ·exact I.sub _ (I.cel n a q).1
theorem bind_ok{g:Gnd}{env:Env}{ρ ρ':Rho}{s:Shared}{A:Around}{E:Value→Shared→Prop}{F M:Addr→Prop}(I:Inv g env ρ s.heap F M){bk:Str→Bool}(hbk:Bindable env bk){tgt:Expr}{p:PV}{v:Value}{hb:Heap}{F₀:Addr→Prop}
  (hh:A.handled=none) (e:bindT bk tgt p ρ=some ρ') (it:ItemIs g.prog g.w tgt hb F₀ p v s.heap) (U:Up hb F₀ s.heap F) (hm:∀a,Own env bk a→g.h₀.get? a=none) {Q:Unit→Shared→Prop}
  (H:∀h' t',Mod (Own env bk) s.heap h'→Inv g env ρ' h' F M→Q () {s with heap:=h',toks:=t'}):wpAny (model g.prog g.w) A (assign tgt env v) Q E s:=by
 refine bindT_inv e (fun x px ht hx er=>?_) fun x y a b p1 p2 k px ht hp hx hy er=>?_
 ·subst ht er
  exact wpAny_assign_Name (store_own I hbk hx hm (Rv.up U _ it) H)
 ·subst ht er
  refine xEE it fun va vb Y=>?_;clear it;refine xEEEAAA Y fun T pa pb hp' Y1 hT Y2=>?_;refine xA Y2 fun ra rb=>?_;subst Y1
  rw[hp]at hp'
  injection hp' with hp
  injection hp with h1 h2
  injection h2 with h2 _
  subst h1 h2
  refine wpAny_assign_Tuple (items:= #[va,vb]) hh hT rfl rfl fun h₁ hk₁=>?_
  have X:Ext s.heap h₁:=fun a o ho=>hk₁ a o (Nat.ne_of_lt (bh ho)) ho
  show wpAny _ A (assignInOrder [assign (.Name x p1) env,assign (.Name y p2) env] [va,vb]) _ _ _
  unfold assignInOrder
  refine ac (ak (wpAny_assign_Name ?_))
  refine store_own (s:= {s with heap:=h₁}) (I.ext X) hbk hx hm (Rv.up (U.trans (X.up F)) _ ra) fun h₂ t₂ m₂ I₂=>?_
  unfold assignInOrder
  refine ac (ak (wpAny_assign_Name ?_))
  refine store_own (s:= {s with heap:=h₂,toks:=t₂}) I₂ hbk hy hm (Rv.up ((U.trans (X.up F)).trans (m₂.up I.ownF)) _ rb) fun h₃ t₃ m₃ I₃=>?_
  unfold assignInOrder
  exact ah (H h₃ t₃ (((X.mod _).trans m₂).trans m₃) I₃)
noncomputable def notCall(e:Expr):Bool:=(pick k1 (fun Y Y Y Y=>some ()) k1 k1 k2 k3 k3 k3 k4 k2 k3 k3 none e).isNone
noncomputable def plainArg:Expr→Bool
 | .Starred .. =>false
 |_=>true
inductive Meth where|lower|upper
noncomputable def methOf(x:Str):Option Meth:=if x==br "lower"then some .lower else if x==br "upper"then some .upper else none
noncomputable def methPV:Meth→List Nat→List Nat
 | .lower,x=>x.map lo1
 | .upper,x=>x.map up1
noncomputable def newT(ρ:Rho)(tgt:Expr):Bool:=match nmOf tgt with
 |some x=>(ρ.lookup x).isNone
 |none=>(o1 (tupOf tgt) nm2).any fun z=>(ρ.lookup z.1).isNone&&(ρ.lookup z.2).isNone&&!(z.1==z.2)
noncomputable def okKind(names:List (Str×NameKind))(x:Str):Bool:=(match names.lookup x with
 |some .local=>true
 |some .cell=>true
 |_=>false)&&!(x==br "__debug__")
noncomputable def isName(e:Expr):Bool:=(nmOf e).isSome
noncomputable def notSet(e:Expr):Bool:=(pick k1 k4 k1 k1 k2 k3 k3 k3 k4 k2 k3 k3 (some ()) e).isNone
noncomputable def joinPV:List PV→Option (List Nat)
 |[]=>some []
 |p::r=>o2 (isS p) (joinPV r) fun x y=>some (x++y)
noncomputable def putK:List (List Nat)→List PV→List Nat→PV→List (List Nat)×List PV
 |k::ks,v::vs,x,p=>if k==x then(k::ks,p::vs)else((k::(putK ks vs x p).1),v::(putK ks vs x p).2)
 |_,_,x,p=>([x],[p])
noncomputable def calOf:Expr→Option (Expr×List Expr×List Keyword×Pos):=pick k1 (fun f a k p=>some (f,a,k,p)) k1 k1 k2 k3 k3 k3 k4 k2 k3 k3 none
theorem calOf_eq{e:Expr}{z:Expr×List Expr×List Keyword×Pos}(h:calOf e=some z):e= .Call z.1 z.2.1 z.2.2.1 z.2.2.2:=
 pick_inv h n2 (fun Y Y Y Y q r=>q.trans (congrArg (fun z:Expr×List Expr×List Keyword×Pos=>Expr.Call z.1 z.2.1 z.2.2.1 z.2.2.2) (bn r))) n3 n2 n3 n4 n3 n4 n4 n4 n4
noncomputable def slcOf:Expr→Option (Option Expr×Option Expr×Option Expr):=pick k1 k4 k1 k1 k2 (fun l u s=>some (l,u,s)) k3 k3 k4 k2 k3 k3 none
theorem slcOf_eq{e:Expr}{z:Option Expr×Option Expr×Option Expr}(h:slcOf e=some z):∃p,e= .Slice z.1 z.2.1 z.2.2 p:=
 pick_inv h n2 n4 n3 n2 n3 (fun Y Y Y p q r=>⟨p,q.trans (congrArg (fun z:Option Expr×Option Expr×Option Expr=>Expr.Slice z.1 z.2.1 z.2.2 p) (bn r))⟩) n3 n4 n4 n4 n4
noncomputable def atOf:Expr→Option (Expr×Str×Pos):=pick k1 k4 k1 k1 k2 k3 (fun o m p=>some (o,m,p)) k3 k4 k2 k3 k3 none
theorem atOf_eq{e:Expr}{z:Expr×Str×Pos}(h:atOf e=some z):e= .Attribute z.1 z.2.1 z.2.2:=
 pick_inv h n2 n4 n3 n2 n3 n4 (fun Y Y Y q r=>q.trans (congrArg (fun z:Expr×Str×Pos=>Expr.Attribute z.1 z.2.1 z.2.2) (bn r))) n4 n4 n4 n4
noncomputable def eName(y:Option Ent):Option PV:=match y with
 |some (.val p)=>some p
 |some (.gv p)=>some p
 |_=>none
noncomputable def oOwn(y:Option Ent):Option (List PV):=match y with
 |some (.own xs)=>some xs
 |_=>none
theorem eName_inv{y:Option Ent}{p:PV}(h:eName y=some p):y=some (.val p)∨y=some (.gv p):=by
 rcases y with _|e
 ·exact nn h
 ·cases e<;>first|exact nn h|exact .inl (congrArg (fun z=>some (Ent.val z)) (bn h))|exact .inr (congrArg (fun z=>some (Ent.gv z)) (bn h))
theorem oOwn_inv{y:Option Ent}{p:List PV}(h:oOwn y=some p):y=some (.own p):=by
 rcases y with _|e
 ·exact nn h
 ·cases e<;>first|exact nn h|exact congrArg (fun z=>some (Ent.own z)) (bn h)
noncomputable def cmpN(n:Nat)(op:CmpOp)(a b:PV):Option Bool:=gd ((depPV a).ble n) (cmpPV op a b)
noncomputable def pcmp(n:Nat)(ops:List CmpOp)(rs:List Expr)(a:Option PV)(f:Expr→Option PV):Option Bool:=o1 (sgl ops) fun op=>o1 (sgl rs) fun r=>gd (!behindInMarks op r) (o2 a (f r) (cmpN n op))
noncomputable def sel(op:BoolOp)(t:Bool):Bool:=match op with
 | .And=>t
 | .Or=>!t
noncomputable def psub(y:Option (List PV))(a b:Option PV):Option PV:=match y with
 |some xs=>o1 (o1 b isI) (idxL xs)
 |none=>o2 a b subPV
noncomputable def lstP(ps:List PV):Option PV:=gd (ps.length.blt 10000) (some (.list ps))
noncomputable def callE(y:Option Ent)(ps:Option (List PV)):Option PV:=match y with
 |some (.bi f)=>o1 ps (callBI f)
 |some (.fn f)=>o1 ps f
 |_=>none
theorem callE_inv{y:Option Ent}{ps:Option (List PV)}{r:PV}(h:callE y ps=some r){G:Prop}(k1:∀f l,y=some (.bi f)→ps=some l→callBI f l=some r→G)(k2:∀f l,y=some (.fn f)→ps=some l→f l=some r→G):G:=by
 revert k1 k2
 rcases y with _|e
 ·exact nn h
 ·cases e<;>first|exact nn h|exact fun k1 Y=>o1_inv h fun l hl h=>k1 _ l rfl hl h|exact fun Y k2=>o1_inv h fun l hl h=>k2 _ l rfl hl h
noncomputable def meth0(k:Meth)(x:List Nat):Option PV:=gd (x.all (fun c=>c.blt 128)&&x.length.blt 10000) (some (.str (methPV k x)))
noncomputable def join1(x:List Nat)(ps:List PV):Option PV:=gd x.isEmpty (o1 (joinPV ps) fun y=>gd (y.length.blt 10000&&ps.length.blt 10000) (some (.str y)))
noncomputable def pmeth(b:Bool)(m:Str)(o:Option PV)(args:List Expr)(f:Expr→Option PV):Option PV:=match args with
 |[]=>gd b (o1 (methOf m) fun k=>o1 (o1 o isS) (meth0 k))
 |a::r=>gd (b&&r.isEmpty&&plainArg a&&(m==br "join")) (o2 (o1 o isS) (o1 (f a) isL) join1)
theorem pmeth_inv{b:Bool}{m:Str}{o:Option PV}{args:List Expr}{f:Expr→Option PV}{p:PV}(h:pmeth b m o args f=some p){G:Prop}
  (k0:∀k x,args=[]→b=true→methOf m=some k→o=some (.str x)→x.all (fun c=>c.blt 128)=true→x.length<10000→ .str (methPV k x)=p→G)
  (k1:∀a ps y,args=[a]→b=true→plainArg a=true→m=br "join"→o=some (.str [])→f a=some (.list ps)→joinPV ps=some y→y.length<10000→ .str y=p→G):G:=by
 cases args with
 |nil=>
  refine gd_inv h fun hb h=>o1_inv h fun k hm h=>o1_inv h fun x hx h=>gd_inv h fun hl h=>o1_inv hx fun q hq hx=>?_
  rw[bp]at hl
  exact k0 k x rfl hb hm (isS_eq hx▸hq) hl.1 (blt_lt hl.2) (bn h)
 |cons a r=>
  refine gd_inv h fun hb h=>o2_inv h fun x ps hx hp h=>gd_inv h fun he h=>o1_inv h fun y hy h=>gd_inv h fun hl h=>o1_inv hx fun q hq hx=>o1_inv hp fun q' hq' hp=>?_
  rw[bp,bp,bp]at hb
  rw[bp]at hl
  rw[isS_eq hx,List.isEmpty_iff.mp he]at hq
  exact k1 a ps y (by rw[List.isEmpty_iff.mp hb.1.1.2]) hb.1.1.1 hb.1.2 (beq_iff_eq.mp hb.2) hq (isL_eq hp▸hq') hy (blt_lt hl.1) (bn h)
noncomputable def isEn(y:Option Ent):Bool:=match y with
 |some .en=>true
 |_=>false
theorem isEn_eq{y:Option Ent}(h:isEn y=true):y=some .en:=by
 rcases y with _|e
 ·exact ff h
 ·cases e<;>first|exact ff h|rfl
noncomputable def enP(xs:List PV):Option (List PV):=gd (xs.length.blt 10000) (some (enumL 0 xs))
noncomputable def pown(ρ:Rho)(e:Expr):Option (List PV):=o1 (nmOf e) fun x=>oOwn (ρ.lookup x)
mutual
noncomputable def pe:Nat→List Str→Rho→Expr→Option PV
 |0,_,_,_=>none
 |n+1,cn,ρ,e=>match e with
  | .Constant c _ _=>constPV c
  | .Name x _=>eName (ρ.lookup x)
  | .BinOp l op r _=>o2 (pe n cn ρ l) (pe n cn ρ r) (binPV op)
  | .Compare l ops rs _=>(pcmp n ops rs (pe n cn ρ l) fun r=>pe n cn ρ r).map .bool
  | .BoolOp op vs _=>o1 (dbl vs) fun z=>o1 (pe n cn ρ z.1) fun a=>o1 (truPV a) fun t=>sl (sel op t) (pe n cn ρ z.2) (some a)
  | .IfExp t b o _=>o1 (pt n cn ρ t) fun c=>sl c (pe n cn ρ b) (pe n cn ρ o)
  | .Subscript v i _=>oe (slcOf i) (fun z=>gd z.2.2.isNone (o2 (pe n cn ρ v) (po n cn ρ z.1) fun a b=>o1 (po n cn ρ z.2.1) (slicePV a b))) (psub (pown ρ v) (pe n cn ρ v) (pe n cn ρ i))
  | .List elts _=>o1 (pl n cn ρ elts) lstP
  | .ListComp elt gens scope _=>match gens with
   |g::gs=>gd (g.is_async==0&&scopeOk scope cn&&gs.all (fun g=>g.is_async==0&&notSet g.iter)&&newT (filtR ρ scope.names) g.target) (o1 (pit n cn ρ (isName g.target) g.iter) fun items=>o1 (pitems n (cellNames scope.names) (okKind scope.names) (filtR ρ scope.names) elt g.target g.ifs gs items) lstP)
   |[]=>none
  | .DictComp k v gens scope _=>o1 (sgl gens) fun g=>gd (g.is_async==0&&scopeOk scope cn&&newT (filtR ρ scope.names) g.target) (o1 (pit n cn ρ (isName g.target) g.iter) fun items=>gd (items.length.blt 10000)
    (o1 (pdict n (cellNames scope.names) (okKind scope.names) (filtR ρ scope.names) k v g.target g.ifs items [] []) fun z=>some (.dict z.1 z.2)))
  | .Call f args kws pos=>gd kws.isEmpty (oe (nmOf f) (fun x=>gd (!args.isEmpty) (callE (ρ.lookup x) (pl n cn ρ args)))<|o1 (atOf f) fun t=>pmeth (notCall t.1&&(t.2.2.endLine==pos.line)) t.2.1 (pe n cn ρ t.1) args fun a=>pe n cn ρ a)
  |_=>none
noncomputable def po:Nat→List Str→Rho→Option Expr→Option PV
 |0,_,_,_=>none
 |_+1,_,_,none=>some .none
 |n+1,cn,ρ,some e=>pe n cn ρ e
noncomputable def pl:Nat→List Str→Rho→List Expr→Option (List PV)
 |0,_,_,_=>none
 |_+1,_,_,[]=>some []
 |n+1,cn,ρ,e::es=>gd (plainArg e) (o2 (pe n cn ρ e) (pl n cn ρ es) fun p ps=>some (p::ps))
noncomputable def pt:Nat→List Str→Rho→Expr→Option Bool
 |0,_,_,_=>none
 |n+1,cn,ρ,e=>match e with
  | .UnaryOp op x _=>match op with
   | .Not=>(pt n cn ρ x).map (!·)
   |_=>none
  | .BoolOp op vs _=>pa n cn ρ op vs
  | .IfExp .. =>none
  | .Compare l ops rs _=>pcmp n ops rs (pe n cn ρ l) fun r=>pe n cn ρ r
  |e=>o1 (pe n cn ρ e) truPV
noncomputable def pa:Nat→List Str→Rho→BoolOp→List Expr→Option Bool
 |0,_,_,_,_=>none
 |_+1,_,_,op,[]=>some (sel op true)
 |n+1,cn,ρ,op,e::es=>o1 (pt n cn ρ e) fun b=>sl (sel op b) (pa n cn ρ op es) (some b)
noncomputable def pit:Nat→List Str→Rho→Bool→Expr→Option (List PV)
 |0,_,_,_,_=>none
 |n+1,cn,ρ,nm,e=>sl nm (gd (notSet e) (o1 (pe n cn ρ e) iterPV))<|o1 (calOf e) fun c=>o1 (nmOf c.1) fun x=>o1 (sgl c.2.1) fun a=>gd (plainArg a&&c.2.2.1.isEmpty) (gd (isEn (ρ.lookup x)) (o1 (o1 (pe n cn ρ a) isL) enP))
noncomputable def pitems:Nat→List Str→(Str→Bool)→Rho→Expr→Expr→List Expr→List Comprehension→List PV→Option (List PV)
 |0,_,_,_,_,_,_,_,_=>none
 |_+1,_,_,_,_,_,_,_,[]=>some []
 |n+1,cn,bk,ρ,elt,tgt,ifs,gs,p::ps=>o1 (bindT bk tgt p ρ) fun ρ'=>o1 (pa n cn ρ' .And ifs) fun c=>sl c (o2 (pgen n cn bk ρ' elt gs) (pitems n cn bk ρ elt tgt ifs gs ps) fun a b=>some (a++b)) (pitems n cn bk ρ elt tgt ifs gs ps)
noncomputable def pgen:Nat→List Str→(Str→Bool)→Rho→Expr→List Comprehension→Option (List PV)
 |0,_,_,_,_,_=>none
 |n+1,cn,_,ρ,elt,[]=>o1 (pe n cn ρ elt) fun p=>some [p]
 |n+1,cn,bk,ρ,elt,g::gs=>gd (newT ρ g.target) (o1 (pit n cn ρ (isName g.target) g.iter) (pitems n cn bk ρ elt g.target g.ifs gs))
noncomputable def pdict:Nat→List Str→(Str→Bool)→Rho→Expr→Expr→Expr→List Expr→List PV→List (List Nat)→List PV→Option (List (List Nat)×List PV)
 |0,_,_,_,_,_,_,_,_,_,_=>none
 |_+1,_,_,_,_,_,_,_,[],ks,vs=>some (ks,vs)
 |n+1,cn,bk,ρ,k,v,tgt,ifs,p::ps,ks,vs=>o1 (bindT bk tgt p ρ) fun ρ'=>o1 (pa n cn ρ' .And ifs) fun c=>sl c (o2 (o1 (pe n cn ρ' k) isS) (pe n cn ρ' v) fun x q=>pdict n cn bk ρ k v tgt ifs ps (putK ks vs x q).1 (putK ks vs x q).2) (pdict n cn bk ρ k v tgt ifs ps ks vs)
end
def NoOwn(ρ:Rho):Prop:=∀x xs,ρ.lookup x=some (.own xs)→False
theorem Inv.chg{g:Gnd}{env:Env}{ρ:Rho}{h h':Heap}{F F' M M':Addr→Prop}(I:Inv g env ρ h F M)(no:NoOwn ρ)(U:Up h F h' F')
  (hO:∀a,(a=env.locals∨∃n,env.cells.lookup n=some a)→∀o,h.get? a=some o→h'.get? a=some o) (hB:Ext g.h₀ h') (fl:FL h' F') (hM:∀a,M a→M' a) (hs:∀a,M' a→F' a):Inv g env ρ h' F' M':=by
 exact I.re U hO hB fl hM hs fun x e hx=>⟨(I.ents x e hx).1.keep (by cases e<;>first|rfl|exact(no x _ hx).elim) U I.glob I.blt fun v=>VarAt.keep hO,(I.ents x e hx).2⟩
theorem NoOwn.set{ρ:Rho}(h:NoOwn ρ){x:Str}{p:PV}:NoOwn (setR ρ x (.val p)):=fun y ys e=>by
 rw[setR_lookup]at e
 by_cases q:y=x
 ·rw[if_pos q]at e;cases e
 ·rw[if_neg q]at e;exact h y ys e
theorem NoOwn.bind{bk:Str→Bool}{tgt:Expr}{p:PV}{ρ ρ':Rho}(h:NoOwn ρ)(e:bindT bk tgt p ρ=some ρ'):NoOwn ρ':=
 bindT_inv e (fun x px Y Y e=>e▸h.set) fun x y a b p1 p2 k px Y Y Y Y e=>e▸h.set.set
theorem newT_two{ρ:Rho}{x y:Str}{p1 p2 px:Pos}{k:Nat}(hn:newT ρ (.Tuple [.Name x p1, .Name y p2] k px)=true):ρ.lookup x=none∧ρ.lookup y=none∧x≠y:=by
 have hn:((ρ.lookup x).isNone&&(ρ.lookup y).isNone&&!(x==y))=true:=hn
 rw[bp,bp,Option.isNone_iff_eq_none,Option.isNone_iff_eq_none,Bool.not_eq_true',beq_eq_false_iff_ne]at hn
 exact⟨hn.1.1,hn.1.2,hn.2⟩
theorem Inv.unbind{g:Gnd}{env:Env}{ρ ρ':Rho}{h:Heap}{F M:Addr→Prop}{bk:Str→Bool}{tgt:Expr}{p:PV}(I:Inv g env ρ' h F M)(e:bindT bk tgt p ρ=some ρ')(hn:newT ρ tgt=true):Inv g env ρ h F M:=by
 refine bindT_inv e (fun x px ht Y e=>?_) fun x y a b p1 p2 k px ht Y Y Y e=>?_
 ·rw[ht]at hn
  rw[←e]at I
  exact I.drop (Option.isNone_iff_eq_none.mp hn)
 ·rw[ht]at hn
  rw[←e]at I
  refine xAA (newT_two hn) fun h1 h2 h3=>?_
  refine(I.drop ?_).drop h1
  rw[setR_lookup,if_neg fun q=>h3 q.symm]
  exact h2
theorem tgt_shape{tgt:Expr}(h:(nmOf tgt).isSome=true∨(o1 (tupOf tgt) nm2).isSome=true):(∃x p,tgt= .Name x p)∨(∃elts k p,tgt= .Tuple elts k p):=by
 refine Or.elim h (fun h=>?_) fun h=>?_
 ·refine xE (Option.isSome_iff_exists.mp h) fun x hx=>?_
  exact .inl ⟨x,nmOf_eq hx⟩
 ·refine xE (Option.isSome_iff_exists.mp h) fun z hz=>?_
  exact o1_inv hz fun l hl Y=> .inr ⟨l,tupOf_eq hl⟩
theorem newT_shape{ρ:Rho}{tgt:Expr}(h:newT ρ tgt=true):(∃x p,tgt= .Name x p)∨(∃elts k p,tgt= .Tuple elts k p):=by
 unfold newT at h
 cases hn:nmOf tgt with
 |some x=>exact tgt_shape (.inl (by rw[hn];rfl))
 |none=>
  rw[hn]at h
  cases ht:o1 (tupOf tgt) nm2 with
  |some z=>exact tgt_shape (.inr (by rw[ht];rfl))
  |none=>rw[ht]at h;exact ff h
def SdE(g:Gnd)(n:Nat):Prop:=∀(cn:List Str) (ρ:Rho) (e:Expr) (p:PV) (env:Env) (F M:Addr→Prop) (A:Around) (E:Value→Shared→Prop) (s:Shared) (Q:Value→Shared→Prop),
 pe n cn ρ e=some p→AOk (n+g.K) A→Inv g env ρ s.heap F M→Cn env cn→Post g.prog g.w F p s Q→wpAny (model g.prog g.w) A (eval e env) Q E s
def SdT(g:Gnd)(n:Nat):Prop:=∀(cn:List Str) (ρ:Rho) (e:Expr) (b:Bool) (env:Env) (F M:Addr→Prop) (A:Around) (E:Value→Shared→Prop) (s:Shared) (Q:Bool→Shared→Prop),
 pt n cn ρ e=some b→AOk (n+g.K) A→Inv g env ρ s.heap F M→Cn env cn→PostB b s Q→wpAny (model g.prog g.w) A (isTrue e env (eval e env)) Q E s
def SdA(g:Gnd)(n:Nat):Prop:=∀(cn:List Str) (ρ:Rho) (op:BoolOp) (es:List Expr) (b:Bool) (env:Env) (F M:Addr→Prop) (A:Around) (E:Value→Shared→Prop) (s:Shared) (Q:Bool→Shared→Prop),
 pa n cn ρ op es=some b→AOk (n+g.K) A→Inv g env ρ s.heap F M→Cn env cn→PostB b s Q→wpAny (model g.prog g.w) A (allTrue op es env) Q E s
def SdC(g:Gnd)(n:Nat):Prop:=∀(cn:List Str) (ρ:Rho) (es:List Expr) (b:Bool) (env:Env) (F M:Addr→Prop) (A:Around) (E:Value→Shared→Prop) (s:Shared) (Q:Bool→Shared→Prop),
 pa n cn ρ .And es=some b→AOk (n+g.K) A→Inv g env ρ s.heap F M→Cn env cn→PostB b s Q→wpAny (model g.prog g.w) A (testsOf es env) Q E s
def SdO(g:Gnd)(n:Nat):Prop:=∀(cn:List Str) (ρ:Rho) (e:Option Expr) (p:PV) (env:Env) (F M:Addr→Prop) (A:Around) (E:Value→Shared→Prop) (s:Shared) (Q:Value→Shared→Prop),
 po n cn ρ e=some p→AOk (n+g.K) A→Inv g env ρ s.heap F M→Cn env cn→Post g.prog g.w F p s Q→wpAny (model g.prog g.w) A (evalPart e env) Q E s
def SdL(g:Gnd)(n:Nat):Prop:=∀(cn:List Str) (ρ:Rho) (es:List Expr) (ps:List PV) (env:Env) (F M:Addr→Prop) (A:Around) (E:Value→Shared→Prop) (s:Shared) (pos:Pos) (Q:List Value→Shared→Prop),
 pl n cn ρ es=some ps→AOk (n+g.K) A→Inv g env ρ s.heap F M→Cn env cn→(∀vs h' t',Ext s.heap h'→Rvs g.prog g.w h' F ps vs→Q vs {s with heap:=h',toks:=t'})→
 wpAny (model g.prog g.w) A (spliced (backTo pos (starEach es env))) Q E s
def SdI(g:Gnd)(n:Nat):Prop:=∀(cn:List Str) (ρ:Rho) (e:Expr) (tgt:Expr) (items:List PV) (env:Env) (F M:Addr→Prop) (A:Around) (E:Value→Shared→Prop) (s:Shared) (Q:Value→Shared→Prop),
 pit n cn ρ (isName tgt) e=some items→AOk (n+g.K) A→Inv g env ρ s.heap F M→Cn env cn→((∃x p,tgt= .Name x p)∨(∃elts k p,tgt= .Tuple elts k p))→
 (∀hb it h' t',Ext s.heap hb→Ext hb h'→IterOk g.prog g.w A tgt hb F items it h'→Q it {s with heap:=h',toks:=t'})→
 wpAny (model g.prog g.w) A (eval e env) (fun x s₁=>wpAny (model g.prog g.w) A (pyIter x) Q E s₁) E s∧∀x,foldedSetIterable e env x=pure x
structure Blk(g:Gnd)(env:Env)(cn:List Str)(bk:Str→Bool)(D:Addr)(F M:Addr→Prop):Prop where
 cnOk:Cn env cn
 bind:Bindable env bk
 hm:∀a,Own env bk a→g.h₀.get? a=none
 fd:F D
 d0:g.h₀.get? D=none
 dl:D≠env.locals
 dc:∀n c,env.cells.lookup n=some c→c≠D
 sub:∀a,M a→F a
structure Fill(g:Gnd)(env:Env)(ρ:Rho)(F M:Addr→Prop)(D:Addr)(acc:List PV)(h:Heap):Prop where
 inv:Inv g env ρ h F M
 list:∃ys,h.PlainList D ys∧Rvs g.prog g.w h F acc ys.toList
def LMod(env:Env)(bk:Str→Bool)(D:Addr)(h h':Heap):Prop:=Mod (fun a=>Own env bk a∨a=D) h h'
def SdG(g:Gnd)(n:Nat):Prop:=∀(cn:List Str) (bk:Str→Bool) (ρ:Rho) (elt:Expr) (gs:List Comprehension) (out:List PV) (gens:List Comprehension) (scope:Scope) (pos:Pos) (k:Nat) (it:Value) (env:Env) (D:Addr) (F M:Addr→Prop) (A:Around)
 (R:Result→Shared→Prop) (s:Shared) (acc:List PV),
 pgen n cn bk ρ elt gs=some out→gens.drop (k+1)=gs→(gs.all fun g=>g.is_async==0&&notSet g.iter)=true→AOk (n+g.K) A→Blk g env cn bk D F M→NoOwn ρ→acc.length+out.length<10000→Fill g env ρ F M D acc s.heap→
 (∀h' t',Fill g env ρ F M D (acc++out) h'→LMod env bk D s.heap h'→codeAny (model g.prog g.w) A (.compLoop (.ListComp elt gens scope pos) k it (.ref D) env) R {s with heap:=h',toks:=t'})→
 (match gens[k+1]? with
  |some g'=>wpAny (model g.prog g.w) A (eval g'.iter env) (fun x s₅=>wpAny (model g.prog g.w) A (pyIter x) (fun it' s₆=>
    codeAny (model g.prog g.w) A (.compStart (.ListComp elt gens scope pos) (k+1) it' (.ref D) env) (fun r s₇=>∃f,r= .ok f∧codeAny (model g.prog g.w) A (.compLoop (.ListComp elt gens scope pos) k it (.ref D) env) R s₇) s₆) noE s₅) noE s
  |none=>wpAny (model g.prog g.w) A (eval elt env) (fun x s₅=>wpAny (model g.prog g.w) A (call (.builtin "list.append") [.ref D,x]) (fun Y s₆=>codeAny (model g.prog g.w) A (.compLoop (.ListComp elt gens scope pos) k it (.ref D) env) R s₆) noE s₅) noE s)
structure Way(g:Gnd)(A:Around)(tgt:Expr)(env:Env)(bk:Str→Bool)(I:Addr)(fp wr:List Addr)(P Md:Nat→Value→Heap→Prop)(St:Nat→Heap→Prop)(its:List PV)(hb:Heap)(F₀ F' F:Addr→Prop)(D:Addr):Prop where
 turns:KTurns g.prog g.w A tgt I fp wr its.length P Md St
 live:∀i h,St i h→∀b∈fp,∃o,h.get? b=some o
 item:∀i v h p,P i v h→its[i]?=some p→ItemIs g.prog g.w tgt hb F₀ p v h
 new:∀a o,hb.get? a=some o→¬F₀ a→¬F a
 eqF:∀a,F a↔F' a∨a∈wr
 wr0:∀b∈wr,g.h₀.get? b=none
 wrF:∀b∈wr,¬F' b
 apart:∀b∈fp,¬(b=env.locals∨∃n,env.cells.lookup n=some b)∧b≠D
def SdP(g:Gnd)(n:Nat):Prop:=∀(cn:List Str) (bk:Str→Bool) (ρ:Rho) (elt tgt iter:Expr) (ifs:List Expr) (gs:List Comprehension) (rest out:List PV) (gens:List Comprehension) (scope:Scope) (pos:Pos) (k:Nat) (env:Env) (D I:Addr) (fp wr:List Addr)
 (P Md:Nat→Value→Heap→Prop) (St:Nat→Heap→Prop) (its:List PV) (i:Nat) (hb:Heap) (F₀ F' F M:Addr→Prop) (A:Around) (R:Result→Shared→Prop) (s:Shared) (acc:List PV),
 pitems n cn bk ρ elt tgt ifs gs rest=some out→gens[k]?=some ⟨tgt,iter,ifs,0⟩→gens.drop (k+1)=gs→(gs.all fun g=>g.is_async==0&&notSet g.iter)=true→newT ρ tgt=true→AOk (n+g.K) A→Blk g env cn bk D F' M→NoOwn ρ→
 acc.length+out.length<10000→Way g A tgt env bk I fp wr P Md St its hb F₀ F' F D→its.drop i=rest→i≤its.length→St i s.heap→(∀a o,hb.get? a=some o→¬F₀ a→s.heap.get? a=some o)→Fill g env ρ F M D acc s.heap→
 (∀h' t',Fill g env ρ F' M D (acc++out) h'→Mod (fun a=>Own env bk a∨a=D∨a∈wr) s.heap h'→R (.ok .next) {s with heap:=h',toks:=t'})→
 codeAny (model g.prog g.w) A (.compLoop (.ListComp elt gens scope pos) k (.ref I) (.ref D) env) R s
theorem Fill.out{g:Gnd}{env:Env}{ρ:Rho}{F F' M:Addr→Prop}{D:Addr}{acc:List PV}{h h':Heap}{wr:List Addr}(f:Fill g env ρ F M D acc h)(no:NoOwn ρ)(eqF:∀a,F a↔F' a∨a∈wr)(hk:∀b o,b∉wr→h.get? b=some o→h'.get? b=some o)
  (ap:∀b∈wr,¬(b=env.locals∨∃n,env.cells.lookup n=some b)∧b≠D) (wr0:∀b∈wr,g.h₀.get? b=none) (hs:∀a,M a→F' a) (fl:FL h' F'):Fill g env ρ F' M D acc h':=by
 have U:Up h F h' F':=fun a o ho nf=>⟨fun q=>nf ((eqF a).mpr (.inl q)),hk a o (fun q=>nf ((eqF a).mpr (.inr q))) ho⟩
 refine⟨f.inv.chg no U (fun a q o ho=>hk a o (fun z=>(ap a z).1 q) ho) (fun a o ho=>hk a o (fun z=>by rw[wr0 a z]at ho;exact nn ho) (f.inv.base a o ho)) fl (fun Y q=>q) hs,?_⟩
 refine xEA f.list fun ys h1 h2=>?_
 by_cases hD:D∈wr
 ·exact absurd rfl (ap D hD).2
 ·exact⟨ys,h1.at fun o ho=>hk D o hD ho,Rvs.up U _ h2⟩
theorem notSet_folded{e:Expr}{env:Env}{x:Value}(h:notSet e=true):foldedSetIterable e env x=pure x:=by
 cases e<;>first|exact ff h|rfl
theorem sdP_of{g:Gnd}{n:Nat}(hC:SdC g n)(hG:SdG g n)(hP:SdP g n):SdP g (n+1):=by
 intro cn bk ρ elt tgt iter ifs gs rest out gens scope pos k env D I fp wr P Md St its i hb F₀ F' F M A R s acc e hg hgs hall hnew ok B no hlen W hdrop hi st hkeep fill HR
 have hok:AOk (n+g.K) A:=ok.pr
 have hF'F:∀a,F' a→F a:=fun a q=>(W.eqF a).mpr (.inl q)
 have hwrF:∀a,a∈wr→F a:=fun a q=>(W.eqF a).mpr (.inr q)
 have wrfp:∀b∈wr,b∈fp:=W.turns.sub
 have apw:∀b∈wr,¬(b=env.locals∨∃n,env.cells.lookup n=some b)∧b≠D:=fun b hb=>W.apart b (wrfp b hb)
 have hn:∀g',gens[k+1]?=some g'→g'.is_async=0∧∀x,foldedSetIterable g'.iter env x=pure x:=fun g' hg'=>by
  have hm:g'∈gs:=by rw[←hgs];exact List.mem_of_getElem? (i:=0) (by rw[List.getElem?_drop];exact hg')
  have:=bs.mp hall g' hm
  simp only[bp,beq_iff_eq]at this
  refine⟨this.1,fun x=>?_⟩
  have h2:=this.2
  exact notSet_folded h2
 cases rest with
 |nil=>
  obtain rfl:=bn e
  have hil:i=its.length:=by
   have:=List.drop_eq_nil_iff.mp hdrop;lia
  refine listcomp_step hg hn ?_
  subst hil
  refine W.turns.done s _ _ st fun h' tk hk=>?_
  have fl':FL h' F':=fun a q=>by
   refine xE (fill.inv.fl a (hF'F a q)) fun o ho=>?_
   exact⟨o,hk a o (fun hw=>W.wrF a hw q) ho⟩
  have:=fill.out no W.eqF hk apw W.wr0 B.sub fl'
  exact HR h' tk (by rw[List.append_nil];exact this) fun a o ho nz=>hk a o (fun q=>nz (.inr (.inr q))) ho
 |cons p ps=>
  refine o1_inv e fun ρ' hρ' e=>o1_inv e fun c hpa e=>?_
  have hip:its[i]?=some p:=by
   have:=congrArg (·[0]?) hdrop
   simpa[List.getElem?_drop]using this
  have hlt:i<its.length:=(List.getElem?_eq_some_iff.mp hip).1
  have hdrop':its.drop (i+1)=ps:=by
   have:=congrArg List.tail hdrop
   simpa[List.tail_drop]using this
  refine listcomp_step hg hn ?_
  refine W.turns.item i s _ _ hlt st fun v h1 tk1 hMd hk1=>?_
  refine W.turns.go i v {s with heap:=h1,toks:=tk1} _ _ hMd fun h2 hP2 hst2 hk2=>?_
  have k02:∀b o,b∉wr→s.heap.get? b=some o→h2.get? b=some o:=fun b o hb ho=>hk2 b o hb (hk1 b o hb ho)
  have fl2:FL h2 F:=fun a q=>by
   by_cases hw:a∈wr
   ·exact W.live _ _ hst2 a (wrfp a hw)
   ·refine xE (fill.inv.fl a q) fun o ho=>?_;exact⟨o,k02 a o hw ho⟩
  have U02:Up s.heap F h2 F:=fun a o ho nf=>⟨nf,k02 a o (fun q=>nf (hwrF a q)) ho⟩
  have I2:Inv g env ρ h2 F M:=fill.inv.chg no U02 (fun a q o ho=>k02 a o (fun z=>(apw a z).1 q) ho) (fun a o ho=>k02 a o (fun z=>by rw[W.wr0 a z]at ho;exact nn ho) (fill.inv.base a o ho)) fl2 (fun Y q=>q) fun a q=>hF'F a (B.sub a q)
  refine xEA fill.list fun ys pl rs=>?_
  have hDw:D∉wr:=fun q=>(apw D q).2 rfl
  have pl2:h2.PlainList D ys:=pl.at fun o ho=>k02 D o hDw ho
  have rs2:=Rvs.up U02 _ rs
  have Uhb:Up hb F₀ h2 F:=fun a o ho nf=>⟨W.new a o ho nf,k02 a o (fun q=>W.new a o ho nf (hwrF a q)) (hkeep a o ho nf)⟩
  refine bind_ok (s:= {s with heap:=h2,toks:=tk1}) I2 B.bind hok.handled hρ' (W.item i v h2 p hP2 hip) Uhb B.hm fun h3 t3 m3 I3=>?_
  have no':=no.bind hρ'
  have ownF:∀a,Own env bk a→F a:=I2.ownF
  have notD:¬Own env bk D:=by
   rintro (q|⟨n',_,q⟩)
   ·exact B.dl q
   ·exact B.dc n' D q rfl
  have pl3:h3.PlainList D ys:=pl2.at fun o ho=>m3 D o ho notD
  have rs3:=Rvs.up (m3.up ownF) _ rs2
  have fp3:∀b∈fp,∀o,h2.get? b=some o→h3.get? b=some o:=fun b hb o ho=>m3 b o ho fun q=>(W.apart b hb).1 (by
   refine Or.elim q (fun q=>?_) fun Y=>xEA Y fun n' Y q=>?_
   ·exact .inl q
   ·exact .inr ⟨n',q⟩)
  have next:∀h' t' acc',Fill g env ρ' F M D acc' h'→(∀b∈fp,∀o,h2.get? b=some o→h'.get? b=some o)→Mod (fun a=>Own env bk a∨a=D) h2 h'→∀out',pitems n cn bk ρ elt tgt ifs gs ps=some out'→acc'.length+out'.length<10000→
    acc'++out'=acc++out→codeAny (model g.prog g.w) A (.compLoop (.ListComp elt gens scope pos) k (.ref I) (.ref D) env) R {s with heap:=h',toks:=t'}:=by
   intro h' t' acc' f' hfp m' out' e' hl' he
   refine hP cn bk ρ elt tgt iter ifs gs ps out' gens scope pos k env D I fp wr P Md St its (i+1) hb F₀ F' F M A R {s with heap:=h',toks:=t'} acc' e' hg hgs hall hnew hok B no hl' W hdrop' hlt (W.turns.frame _ _ _ hst2 hfp) (fun a o ho nf=>?_)
    ⟨f'.inv.unbind hρ' hnew,f'.list⟩ fun h'' t'' f'' m''=>?_
   ·refine m' a o (Uhb a o ho nf).2 ?_
    have:=(Uhb a o ho nf).1
    rintro (q|q)
    ·exact this (ownF a q)
    ·exact this (q▸hF'F D B.fd)
   ·rw[he]at f''
    refine HR h'' t'' f'' fun a o ho nz=>m'' a o (m' a o (k02 a o (fun q=>nz (.inr (.inr q))) ho) fun q=>nz (q.imp id .inl)) nz
  refine hC cn ρ' ifs c env F M A _ {s with heap:=h3,toks:=t3} _ hpa hok I3 B.cnOk fun h4 t4 x4=>?_
  have fill4:Fill g env ρ' F M D acc h4:=⟨I3.ext x4,ys,pl3.at fun o ho=>x4 D o ho,Rvs.up (x4.up F) _ rs3⟩
  have m24:Mod (fun a=>Own env bk a∨a=D) h2 h4:=fun a o ho nz=>x4 a o (m3 a o ho fun q=>nz (.inl q))
  cases c with
  |true=>
   refine o2_inv (show o2 _ _ _=some out from e) fun r1 r2 hr1 hr2 e=>?_
   obtain rfl:=bn e
   rw[ck]at hlen
   refine py rfl ?_
   refine hG cn bk ρ' elt gs r1 gens scope pos k (.ref I) env D F M A R {s with heap:=h4,toks:=t4} acc hr1 hgs hall hok ⟨B.cnOk,B.bind,B.hm,hF'F D B.fd,B.d0,B.dl,B.dc,fun a q=>hF'F a (B.sub a q)⟩ no' (by lia) fill4 fun h5 t5 f5 m5=>?_
   refine next h5 t5 (acc++r1) f5 (fun b hb o ho=>m5 b o (x4 b o (fp3 b hb o ho)) ?_) (fun a o ho nz=>m5 a o (m24 a o ho nz) nz) r2 hr2 (by rw[ck];lia) (by rw[List.append_assoc])
   rintro (q|q)
   ·refine(W.apart b hb).1 ?_
    refine Or.elim q (fun q=>?_) fun Y=>xEA Y fun n' Y q=>?_
    ·exact .inl q
    ·exact .inr ⟨n',q⟩
   ·exact(W.apart b hb).2 q
  |false=>
   refine pn bq ?_
   exact next h4 t4 acc fill4 (fun b hb o ho=>x4 b o (fp3 b hb o ho)) m24 out e hlen rfl
theorem sdG_of{g:Gnd}{n:Nat}(hE:SdE g n)(hI:SdI g n)(hP:SdP g n):SdG g (n+1):=by
 intro cn bk ρ elt gs out gens scope pos k it env D F M A R s acc e hgs hall ok B no hlen fill HQ
 have hok:AOk (n+g.K) A:=ok.pr
 cases gs with
 |nil=>
  have hnone:gens[k+1]?=none:=by
   have:=List.drop_eq_nil_iff.mp hgs
   exact List.getElem?_eq_none this
  rw[hnone]
  refine o1_inv e fun p hp e=>?_
  obtain rfl:=bn e
  refine hE cn ρ elt p env F M A _ s _ hp hok fill.inv B.cnOk fun v h1 t1 x1 r1=>?_
  refine xEA fill.list fun ys pl rs=>?_
  have pl1:h1.PlainList D ys:=pl.at fun o ho=>x1 D o ho
  have rs1:=Rvs.up (x1.up F) _ rs
  have I1:=fill.inv.ext x1
  refine wpAny_list_append_plain pl1 (fun h2 pl2 hs=>?_) (by rw[←cp,rs.length];unfold sizeLine;lia)
  have kp:∀a o,a≠D→h1.get? a=some o→h2.get? a=some o:=fun a o ne ho=>hs.extBut a o ne ho
  have U2:Up h1 F h2 F:=fun a o ho nf=>⟨nf,kp a o (fun q=>nf (q▸B.fd)) ho⟩
  have fl2:FL h2 F:=fun a q=>by
   by_cases hD:a=D
   ·subst hD;refine xE pl2 fun n' ho=>?_;exact⟨_,ho⟩
   ·refine xE (I1.fl a q) fun o ho=>?_;exact⟨o,kp a o hD ho⟩
  refine HQ h2 t1 ⟨I1.chg no U2 (fun a q o ho=>kp a o (fun z=>?_) ho) (fun a o ho=>kp a o (fun z=>by rw[z,B.d0]at ho;exact nn ho) (I1.base a o ho)) fl2 (fun Y q=>q) B.sub,_,pl2,?_⟩ (fun a o ho nz=>kp a o (fun z=>nz (.inr z)) (x1 a o ho))
  ·subst z
   refine Or.elim q (fun q=>?_) fun Y=>xE Y fun n' q=>?_
   ·exact B.dl q
   ·exact B.dc n' _ q rfl
  ·rw[Array.toList_push]
   exact(Rvs.up U2 _ rs1).append (Rvs.one (r1.up U2 _))
 |cons g' gs'=>
  obtain⟨tgt,iter,ifs,asy⟩:=g'
  have hsome:gens[k+1]?=some ⟨tgt,iter,ifs,asy⟩:=by
   have:=congrArg (·[0]?) hgs
   simpa[List.getElem?_drop]using this
  have hgs':gens.drop (k+1+1)=gs':=by
   have:=congrArg List.tail hgs
   simpa[List.tail_drop]using this
  simp only[List.all_cons,bp,beq_iff_eq]at hall
  refine xA hall fun Y hall'=>?_;refine xA Y fun ha0 hns=>?_
  subst ha0
  rw[hsome]
  refine gd_inv e fun hnew e=>o1_inv e fun items hit e=>?_
  refine(hI cn ρ iter tgt items env F M A _ s _ hit hok fill.inv B.cnOk (newT_shape hnew) fun hb it' h1 t1 xb x1 io=>?_).1
  obtain⟨I,fp,wr,P,Md,St,rfl,T,st,live,wrn,fpF,self,item⟩:=io
  have xs1:Ext s.heap h1:=xb.trans x1
  have base0:∀b,hb.get? b=none→g.h₀.get? b=none:=fun b q=>by
   cases e0:g.h₀.get? b with
   |none=>rfl
   |some o=>rw[xb _ _ (fill.inv.base b o e0)]at q;cases q
  let F1:Addr→Prop:=fun a=>F a∨a∈wr
  have new1:∀a o,s.heap.get? a=some o→¬F a→¬F1 a:=fun a o ho nf=>by
   rintro (q|q)
   ·exact nf q
   ·have:=wrn a q;rw[xb a o ho]at this;cases this
  have fl1:FL h1 F1:=by
   rintro a (q|q)
   ·exact(fill.inv.fl.ext xs1) a q
   ·exact live _ _ st a (T.sub a q)
  have inv1:Inv g env ρ h1 F1 M:=fill.inv.grow xs1 (fun a q=> .inl q) new1 fl1 (fun Y q=>q) fun a q=> .inl (B.sub a q)
  refine xEA fill.list fun ys pl rs=>?_
  have fill1:Fill g env ρ F1 M D acc h1:=⟨inv1,ys,pl.at fun o ho=>xs1 D o ho,Rvs.up (fun a o ho nf=>⟨new1 a o ho nf,xs1 a o ho⟩) _ rs⟩
  have W:Way g A tgt env bk I fp wr P Md St items hb F F F1 D:=
   {turns:=T,live:=live,item:=item
    new:=fun a o ho nf=>by
     rintro (q|q)
     ·exact nf q
     ·have:=wrn a q;rw[ho]at this;cases this
    eqF:=fun a=>Iff.rfl
    wr0:=fun b hb'=>base0 b (wrn b hb')
    wrF:=fun b hb'=>fpF b (T.sub b hb')
    apart:=fun b hb'=>⟨fun q=>fpF b hb' (by
     rcases q with rfl|⟨n',q⟩
     ·exact B.sub _ fill.inv.mloc
     ·exact B.sub _ (fill.inv.cel n' b q).1),fun q=>fpF b hb' (q▸B.fd)⟩}
  have loop:∀s':Shared,s'= {s with heap:=h1,toks:=t1}→codeAny (model g.prog g.w) A (.compLoop (.ListComp elt gens scope pos) (k+1) (.ref I) (.ref D) env)
     (fun r s₇=>∃f,r= .ok f∧codeAny (model g.prog g.w) A (.compLoop (.ListComp elt gens scope pos) k it (.ref D) env) R s₇) s':=by
   rintro s' rfl
   refine hP cn bk ρ elt tgt iter ifs gs' items out gens scope pos (k+1) env D I fp wr P Md St items 0 hb F F F1 M A _ {s with heap:=h1,toks:=t1} acc e hsome hgs' hall' hnew hok ⟨B.cnOk,B.bind,B.hm,B.fd,B.d0,B.dl,B.dc,B.sub⟩ no hlen W rfl (Nat.zero_le _) st (fun a o ho nf=>x1 a o ho) fill1 fun h2 t2 f2 m2=>?_
   refine⟨.next,rfl,HQ h2 t2 f2 fun a o ho nz=>m2 a o (xs1 a o ho) ?_⟩
   rintro (q|q|q)
   ·exact nz (.inl q)
   ·exact nz (.inr q)
   ·have:=wrn a q;rw[xb a o ho]at this;cases this
  exact listcomp_start hsome (loop _ rfl) (self 0 _ _ _ st (loop _ rfl))
theorem sdO_of{g:Gnd}{n:Nat}(hE:SdE g n):SdO g (n+1):=by
 intro cn ρ e p env F M A E s Q h ok I hcn H
 have hok:AOk (n+g.K) A:=ok.pr
 cases e with
 |none=>
  obtain rfl:=bn h
  exact ah (H.same Rv.none)
 |some e=>
  exact hE cn ρ e p env F M A E s Q h hok I hcn H
theorem starEach_plain{e:Expr}{es:List Expr}{env:Env}(h:plainArg e=true):starEach (e::es) env=(false,eval e env)::starEach es env:=by
 cases e<;>first|rfl|exact ff h
theorem sdL_of{g:Gnd}{n:Nat}(hE:SdE g n)(hL:SdL g n):SdL g (n+1):=by
 intro cn ρ es ps env F M A E s pos Q h ok I hcn H
 have hok:AOk (n+g.K) A:=ok.pr
 cases es with
 |nil=>
  obtain rfl:=bn h
  exact ah (H [] s.heap s.toks (Ext.refl _) Rvs.nil)
 |cons e es=>
  refine gd_inv h fun hp h=>o2_inv h fun p ps' h1 h2 h=>?_
  obtain rfl:=bn h
  rw[starEach_plain hp]
  show wpAny _ A (spliced ((false,eval e env)::backTo pos (starEach es env))) Q E s
  unfold spliced
  refine ac (hE cn ρ e p env F M A E s _ h1 hok I hcn fun v h3 t3 x3 r3=>?_)
  refine ac (ah (ac (ak ?_)))
  refine hL cn ρ es ps' env F M A E {s with heap:=h3,toks:=t3} pos _ h2 hok (I.ext x3) hcn fun vs h4 t4 x4 r4=>?_
  exact ah (H _ h4 t4 (x3.trans x4) (by
   show Exists _
   exact⟨v,vs,rfl,r3.up (x4.up F) _,r4⟩))
theorem sdA_of{g:Gnd}{n:Nat}(hT:SdT g n)(hA:SdA g n):SdA g (n+1):=by
 intro cn ρ op es b env F M A E s Q h ok I hcn H
 have hok:AOk (n+g.K) A:=ok.pr
 cases es with
 |nil=>
  obtain rfl:=bn h
  rw[arm_allTrue_nil]
  cases op<;>exact ah H.same
 |cons e es=>
  refine o1_inv h fun c hc h=>?_
  have go:∀{h1 t1},Ext s.heap h1→sel op c=true→wpAny (model g.prog g.w) A (allTrue op es env) Q E {s with heap:=h1,toks:=t1}:=fun x1 q=>by
   rw[q]at h;exact hA cn ρ op es b env F M A E _ Q h hok (I.ext x1) hcn (H.later x1)
  have st:∀{h1 t1},Ext s.heap h1→sel op c=false→Q c {s with heap:=h1,toks:=t1}:=fun x1 q=>by
   rw[q]at h;exact bn h▸H _ _ x1
  cases op with
  |And=>
   refine wpAny_allTrue_And_cons (hT cn ρ e c env F M A E s _ hc hok I hcn fun h1 t1 x1=>?_)
   cases c with
   |false=>exact st x1 rfl
   |true=>exact go x1 rfl
  |Or=>
   refine wpAny_allTrue_Or_cons (hT cn ρ e c env F M A E s _ hc hok I hcn fun h1 t1 x1=>?_)
   cases c with
   |true=>exact st x1 rfl
   |false=>exact go x1 rfl
theorem tests_false{prog:Program}{w:World}{A:Around}{E:Value→Shared→Prop}{s:Shared}{env:Env}{Q:Bool→Shared→Prop}(h:Q false s):∀es:List Expr,
  wpAny (model prog w) A (forIn es false fun c r=>if r=true then do let ok ←isTrue c env (eval c env);pure (ForInStep.yield ok)else pure (ForInStep.yield r)) Q E s
 |[]=>ah h
 |e::es=>by
  rw[List.forIn_cons]
  exact ac (ah (tests_false h es))
theorem sdC_of{g:Gnd}{n:Nat}(hT:SdT g n)(hC:SdC g n):SdC g (n+1):=by
 intro cn ρ es b env F M A E s Q h ok I hcn H
 have hok:AOk (n+g.K) A:=ok.pr
 unfold testsOf
 cases es with
 |nil=>
  obtain rfl:=bn h
  exact ah H.same
 |cons e es=>
  refine o1_inv h fun c hc h=>?_
  rw[List.forIn_cons]
  refine ac ?_
  refine ac (hT cn ρ e c env F M A E s _ hc hok I hcn fun h1 t1 x1=>?_)
  refine ah ?_
  cases c with
  |false=>obtain rfl:=bn h;exact tests_false (H _ _ x1) es
  |true=>exact hC cn ρ es b env F M A E {s with heap:=h1,toks:=t1} Q h hok (I.ext x1) hcn (H.later x1)
theorem Inv.look_global{g:Gnd}{env:Env}{ρ:Rho}{F M:Addr→Prop}{A:Around}{E:Value→Shared→Prop}{s:Shared}(I:Inv g env ρ s.heap F M){x:Str}{px:Pos}{mg:Str→Option Value}{v:Value}{Q:Value→Shared→Prop}
  (hk:env.kindOf x=some .globalImplicit) (hd:(x==br "__debug__")=false) (n:s.heap.Ns env.globals mg) (e:mg x=some v) (h:Q v s):wpAny (model g.prog g.w) A (eval (.Name x px) env) Q E s:=
 Name_function_global I.kind hk (loadGlobal_global n e h) hd
theorem Inv.look_builtin{g:Gnd}{env:Env}{ρ:Rho}{F M:Addr→Prop}{A:Around}{E:Value→Shared→Prop}{s:Shared}(I:Inv g env ρ s.heap F M){x:Str}{px:Pos}{mg mb:Str→Option Value}{v:Value}{Q:Value→Shared→Prop}
  (hk:env.kindOf x=some .globalImplicit) (hd:(x==br "__debug__")=false) (n:s.heap.Ns env.globals mg) (e:mg x=none) (n':s.heap.Ns env.builtins mb) (e':mb x=some v) (h:Q v s):wpAny (model g.prog g.w) A (eval (.Name x px) env) Q E s:=
 Name_function_global I.kind hk (loadGlobal_builtin n e n' e' h) hd
theorem sdI_of{g:Gnd}{n:Nat}(hE:SdE g n):SdI g (n+1):=by
 intro cn ρ e tgt items env F M A E s Q h ok I hcn hsh H
 have hok:AOk (n+g.K) A:=ok.pr
 rcases hsh with ⟨x,px,rfl⟩|⟨elts,k,px,rfl⟩
 ·refine gd_inv (show gd (notSet e) (o1 (pe n cn ρ e) iterPV)=some items from h) fun hns h=>o1_inv h fun p hp h=>?_
  refine⟨hE cn ρ e p env F M A E s _ hp hok I hcn fun v h1 t1 x1 r1=>?_,fun x=>notSet_folded hns⟩
  exact iter_ok (s:= {s with heap:=h1,toks:=t1}) (A:=A) h (I.fl.ext x1) hok.handled r1 fun it h2 x2 io=>H h1 it h2 t1 x1 x2 io
 ·refine o1_inv (show o1 (calOf e) _=some items from h) fun c hc h=>o1_inv h fun x hx h=>o1_inv h fun a ha h=>gd_inv h fun hc' h=>gd_inv h fun hen h=>o1_inv h fun xs hxs h=>gd_inv h fun hl h=>?_
  obtain rfl:=bn h
  refine xE (nmOf_eq hx) fun px' hx=>?_
  rw[bp]at hc'
  refine xA hc' fun hpa hkw=>?_
  rw[calOf_eq hc,hx,sgl_eq ha,List.isEmpty_iff.mp hkw]
  refine⟨?_,fun Y=>rfl⟩
  refine xA (I.ents x _ (isEn_eq hen)) fun Y hd=>?_;obtain⟨hk,mg,mb,ng,en,nb,eb⟩:=Y
  refine ar (I.look_builtin hk hd ng en nb eb ?_)
  rw[starEach_plain hpa]
  refine o1_inv hxs fun p hp hxs=>?_
  refine PySem.callWith_type1 (hE cn ρ a p env F M A E s _ hp hok I hcn fun v h1 t1 x1 r1=>?_)
  exact enum_ok (s:= {s with heap:=h1,toks:=t1}) (A:=A) (blt_lt hl) (I.fl.ext x1) hok.handled (isL_eq hxs▸r1) fun it h2 x2 io=>H h1 it h2 t1 x1 x2 io
theorem sdT_plain{g:Gnd}{n:Nat}(hE:SdE g n){cn:List Str}{ρ:Rho}{e:Expr}{b:Bool}{env:Env}{F M:Addr→Prop}{A:Around}{E:Value→Shared→Prop}{s:Shared}{Q:Bool→Shared→Prop}
  (h:o1 (pe n cn ρ e) truPV=some b) (ok:AOk (n+g.K) A) (I:Inv g env ρ s.heap F M) (hcn:Cn env cn) (H:PostB b s Q)
  (hp:isTrue e env (eval e env)=(do let v ←eval e env;standAt e.pos;holding [v] (truthy v))):wpAny (model g.prog g.w) A (isTrue e env (eval e env)) Q E s:=by
 refine o1_inv h fun p hpe h=>?_
 refine isTrue_plain (hE cn ρ e p env F M A E s _ hpe ok I hcn fun v h1 t1 x1 r1=>?_) hp
 exact truPV_ok (s:= {s with heap:=h1,toks:=t1}) h r1 (H.later x1)
theorem cmp_ok{g:Gnd}{n:Nat}(hE:SdE g n){cn:List Str}{ρ:Rho}{l r:Expr}{op:CmpOp}{a c:PV}{b:Bool}{env:Env}{F M:Addr→Prop}{A:Around}{E:Value→Shared→Prop}{s:Shared}{Q:Value→Shared→Prop}
  (h1:pe n cn ρ l=some a) (h2:pe n cn ρ r=some c) (hd:(depPV a).ble n=true) (h3:cmpPV op a c=some b) (ok:AOk (n+g.K) A) (I:Inv g env ρ s.heap F M) (hcn:Cn env cn)
  (H:∀h' t',Ext s.heap h'→Q (.bool b) {s with heap:=h',toks:=t'}):
  wpAny (model g.prog g.w) A (eval l env) (fun a' s₁=>wpAny (model g.prog g.w) A (eval r env) (fun b' s₂=>wpAny (model g.prog g.w) A (compareOp op a' b') Q E s₂) E s₁) E s:=by
 refine hE cn ρ l a env F M A E s _ h1 ok I hcn fun v h4 t4 x4 r4=>?_
 refine hE cn ρ r c env F M A E {s with heap:=h4,toks:=t4} _ h2 ok (I.ext x4) hcn fun u h5 t5 x5 r5=>?_
 exact cmpPV_ok (s:= {s with heap:=h5,toks:=t5}) h3 (ok.le (by have:=Nat.le_of_ble_eq_true hd;lia)) (r4.up (x5.up F) _) r5 (H h5 t5 (x4.trans x5))
theorem pcmp_inv{n:Nat}{ops:List CmpOp}{rs:List Expr}{a:Option PV}{f:Expr→Option PV}{b:Bool}(h:pcmp n ops rs a f=some b){G:Prop}
  (k:∀op r x y,ops=[op]→rs=[r]→behindInMarks op r=false→a=some x→f r=some y→(depPV x).ble n=true→cmpPV op x y=some b→G):G:=
 o1_inv h fun op h1 h=>o1_inv h fun r h2 h=>gd_inv h fun hb h=>o2_inv h fun x y h3 h4 h=>gd_inv h fun hd h=>k op r x y (sgl_eq h1) (sgl_eq h2) (Bool.not_eq_true' _▸hb) h3 h4 hd h
theorem sdT_of{g:Gnd}{n:Nat}(hE:SdE g n)(hT:SdT g n)(hA:SdA g n):SdT g (n+1):=by
 intro cn ρ e b env F M A E s Q h ok I hcn H
 have hok:AOk (n+g.K) A:=ok.pr
 cases e with
 |UnaryOp op x p=>
  cases op<;>try exact nn h
  exact map_inv h fun c hc e=>wpAny_isTrue_Not (hT cn ρ x c env F M A E s _ hc hok I hcn fun h' t' x'=>by rw[←e]at H;exact H h' t' x')
 |BoolOp op vs p=>exact wpAny_isTrue_BoolOp (hA cn ρ op vs b env F M A E s _ h hok I hcn H)
 |IfExp=>exact nn h
 |Compare l ops rs p=>
  refine pcmp_inv h fun op r a c h1 h2 hb h3 h4 hd hc=>?_
  subst h1 h2
  exact az (cmp_ok hE h3 h4 hd hc hok I hcn fun h' t' x'=>av (H h' t' x')) hb
 |_=>exact sdT_plain hE h hok I hcn H rfl
theorem sub_gen{g:Gnd}{A:Around}{E:Value→Shared→Prop}{s:Shared}{v i:Expr}{p:Pos}{env:Env}{Q:Value→Shared→Prop}(hs:∀o i',subscripted i false o i'=operate [o,i'] (getItem o i')∨subscripted i false o i'=operate [i',o] (getItem o i'))
  (h:wpAny (model g.prog g.w) A (eval v env) (fun o s₁=>wpAny (model g.prog g.w) A (eval i env) (fun k s₂=>wpAny (model g.prog g.w) A (getItem o k) Q E s₂∧∃T id,s₂.TypeIs o T∧typeLookup (.type T) (br "__getitem__")=pure (some (.builtin id))) E s₁) E s):
  wpAny (model g.prog g.w) A (eval (.Subscript v i p) env) Q E s:=by
 refine Subscript_ (aj h (fun o s₁ h₁=>aj h₁ (fun k s₂ h₂=>?_) fun Y Y x=>x) fun Y Y x=>x)
 refine xA h₂ fun h₂ Y=>?_;refine xEEA Y fun T id hT hl=>?_
 refine Or.elim (hs o k) (fun e=>?_) fun e=>?_
 ·exact tail_any hT hl h₂ e
 ·exact tail_any hT hl h₂ e
theorem sdE_name{g:Gnd}{n:Nat}{cn:List Str}{ρ:Rho}{x:Str}{px:Pos}{p:PV}{env:Env}{F M:Addr→Prop}{A:Around}{E:Value→Shared→Prop}{s:Shared}{Q:Value→Shared→Prop}
  (h:pe (n+1) cn ρ (.Name x px)=some p) (I:Inv g env ρ s.heap F M) (H:Post g.prog g.w F p s Q):wpAny (model g.prog g.w) A (eval (.Name x px) env) Q E s:=by
 refine Or.elim (eName_inv h) (fun hx=>?_) fun hx=>?_
 ·refine xA (I.ents x _ hx) fun Y hd=>?_;refine xEA Y fun v va r=>?_
  exact wpAny_Name (va.load I.kind (H.same r)) hd
 ·refine xA (I.ents x _ hx) fun Y hd=>?_;refine xAAE Y fun hk hf mg Y=>?_;refine xEAA Y fun v ng e r=>?_
  exact I.look_global hk hd ng e (H.same r)
def DictRep(prog:Program)(w:World)(h:Heap)(F:Addr→Prop)(D:Addr)(ks:List (List Nat))(vs:List PV):Prop:=
 ∃kvs,h.DictOf (PySem.strKind prog w) D kvs∧kvs.map (·.1)=ks.map sv∧Rvs prog w h F vs (kvs.map (·.2))
theorem putK_ok{prog:Program}{w:World}{h:Heap}{F:Addr→Prop}{x:List Nat}{p:PV}{v:Value}(r:Rv prog w h F p v):∀{ks:List (List Nat)} {vs:List PV} {kvs:List (Str×Value)},(kvs.map (·.1)).Nodup→kvs.map (·.1)=ks.map sv→Rvs prog w h F vs (kvs.map (·.2))→
  (stored kvs (sv x) v).map (·.1)=(putK ks vs x p).1.map sv∧Rvs prog w h F (putK ks vs x p).2 ((stored kvs (sv x) v).map (·.2))
 |[],vs,kvs,nd,e,rs=>by
  have:kvs=[]:=by cases kvs with|nil=>rfl|cons=>simp at e
  subst this
  have hv:vs=[]:=by
   have:=rs.length;simp at this;exact List.length_eq_zero_iff.mp this.symm
  subst hv
  exact⟨by simp[stored,putK],by simpa[stored,putK]using Rvs.one r⟩
 |k::ks,vs,kvs,nd,e,rs=>by
  cases kvs with
  |nil=>simp at e
  |cons kv kvs=>
   cases vs with
   |nil=>have:=rs.length;simp at this
   |cons q vs=>
    simp only[List.map_cons,List.cons.injEq]at e
    rw[List.map_cons]at rs
    refine xEEAA rs fun u rest e1 r1 r2=>?_
    cases e1
    simp only[List.map_cons,List.nodup_cons]at nd
    by_cases hk:k=x
    ·subst hk
     have h1:kv.1=sv k:=e.1
     have hst:stored (kv::kvs) (sv k) v=(kv.1,v)::kvs:=by
      unfold stored
      rw[if_pos (by simp[h1])]
      simp only[List.map_cons,h1,if_true]
      congr 1
      refine(List.map_congr_left fun a ha=>?_).trans (List.map_id _)
      rw[if_neg fun q=>nd.1 (by rw[h1,←q];exact List.mem_map_of_mem ha)];rfl
     rw[hst]
     simp only[putK,beq_self_eq_true,if_true,List.map_cons]
     refine⟨by rw[e.1,e.2],?_⟩
     show Exists _
     exact⟨v,_,rfl,r,r2⟩
    ·have h1:kv.1≠sv x:=fun q=>hk (sv_inj (e.1.symm.trans q))
     have hst:stored (kv::kvs) (sv x) v=kv::stored kvs (sv x) v:=by
      unfold stored
      simp only[List.any_cons,decide_eq_false h1,Bool.false_or]
      split
      ·simp only[List.map_cons,if_neg h1]
      ·rfl
     obtain⟨a,b⟩:=putK_ok r (ks:=ks) (vs:=vs) (kvs:=kvs) nd.2 e.2 r2
     rw[hst]
     have hk':(k==x)=false:=by simpa using hk
     simp only[putK,hk',Bool.false_eq_true,if_false,List.map_cons]
     refine⟨by rw[a,e.1],?_⟩
     show Exists _
     exact⟨kv.2,_,rfl,r1,b⟩
theorem DictRep.up{prog:Program}{w:World}{h h':Heap}{F F':Addr→Prop}{D:Addr}{ks:List (List Nat)}{vs:List PV}(d:DictRep prog w h F D ks vs)(U:Up h F h' F')(hD:∀o,h.get? D=some o→h'.get? D=some o):DictRep prog w h' F' D ks vs:=by
 refine xEAA d fun kvs a b c=>?_
 exact⟨kvs,a.at hD,b,Rvs.up U _ c⟩
theorem putK_length:∀(ks:List (List Nat)) (vs:List PV) (x:List Nat) (p:PV),(putK ks vs x p).1.length≤ks.length+1
 |[],_,_,_=>by simp[putK]
 |k::ks,[],_,_=>by simp[putK]
 |k::ks,v::vs,x,p=>by
  unfold putK
  split
  ·simp
  ·have:=putK_length ks vs x p
   simp;lia
structure FillD(g:Gnd)(env:Env)(ρ:Rho)(F M:Addr→Prop)(D:Addr)(ks:List (List Nat))(vs:List PV)(h:Heap):Prop where
 inv:Inv g env ρ h F M
 dict:DictRep g.prog g.w h F D ks vs
theorem dict_nodup{prog:Program}{w:World}{h:Heap}{D:Addr}{kvs:List (Str×Value)}(d:h.DictOf (PySem.strKind prog w) D kvs):(kvs.map (·.1)).Nodup:=by
 refine xEA (Heap.dictOf_iff.mp d) fun o Y hd=>?_
 exact keysNodup_of_isDictOf hd
theorem sdD_of{g:Gnd}{N:Nat}(hC:∀n,n≤N→SdC g n)(hE:∀n,n≤N→SdE g n):∀(n:Nat),n≤N+1→∀(cn:List Str) (bk:Str→Bool) (ρ:Rho) (kx vx tgt iter:Expr) (ifs:List Expr) (rest:List PV) (ks:List (List Nat)) (vs:List PV) (out:List (List Nat)×List PV) (scope:Scope) (pos:Pos) (env:Env) (D I:Addr) (fp wr:List Addr)
 (P Md:Nat→Value→Heap→Prop) (St:Nat→Heap→Prop) (its:List PV) (i:Nat) (hb:Heap) (F₀ F' F M:Addr→Prop) (A:Around) (R:Result→Shared→Prop) (s:Shared),
 pdict n cn bk ρ kx vx tgt ifs rest ks vs=some out→newT ρ tgt=true→AOk (n+g.K) A→Blk g env cn bk D F' M→NoOwn ρ→
 ks.length+rest.length<10000→Way g A tgt env bk I fp wr P Md St its hb F₀ F' F D→its.drop i=rest→i≤its.length→St i s.heap→(∀a o,hb.get? a=some o→¬F₀ a→s.heap.get? a=some o)→FillD g env ρ F M D ks vs s.heap→
 (∀h' t',FillD g env ρ F' M D out.1 out.2 h'→Mod (fun a=>Own env bk a∨a=D∨a∈wr) s.heap h'→R (.ok .next) {s with heap:=h',toks:=t'})→
 codeAny (model g.prog g.w) A (.compLoop (.DictComp kx vx [⟨tgt,iter,ifs,0⟩] scope pos) 0 (.ref I) (.ref D) env) R s:=by
 intro n
 induction n with
 |zero=>intro _ cn bk ρ kx vx tgt iter ifs rest ks vs out scope pos env D I fp wr P Md St its i hb F₀ F' F M A R s e;exact nn e
 |succ n ih=>
 intro hnN cn bk ρ kx vx tgt iter ifs rest ks vs out scope pos env D I fp wr P Md St its i hb F₀ F' F M A R s e hnew ok B no hlen W hdrop hi st hkeep fill HR
 have hok:AOk (n+g.K) A:=ok.pr
 have hF'F:∀a,F' a→F a:=fun a q=>(W.eqF a).mpr (.inl q)
 have hwrF:∀a,a∈wr→F a:=fun a q=>(W.eqF a).mpr (.inr q)
 have wrfp:∀b∈wr,b∈fp:=W.turns.sub
 have apw:∀b∈wr,¬(b=env.locals∨∃n,env.cells.lookup n=some b)∧b≠D:=fun b hb=>W.apart b (wrfp b hb)
 have hDw:D∉wr:=fun q=>(apw D q).2 rfl
 cases rest with
 |nil=>
  obtain rfl:=bn e
  have hil:i=its.length:=by
   have:=List.drop_eq_nil_iff.mp hdrop;lia
  refine dictcomp_step ?_
  subst hil
  refine W.turns.done s _ _ st fun h' tk hk=>?_
  have fl':FL h' F':=fun a q=>by
   refine xE (fill.inv.fl a (hF'F a q)) fun o ho=>?_
   exact⟨o,hk a o (fun hw=>W.wrF a hw q) ho⟩
  have U:Up s.heap F h' F':=fun a o ho nf=>⟨fun q=>nf (hF'F a q),hk a o (fun q=>nf (hwrF a q)) ho⟩
  refine HR h' tk ⟨fill.inv.chg no U (fun a q o ho=>hk a o (fun z=>(apw a z).1 q) ho) (fun a o ho=>hk a o (fun z=>by rw[W.wr0 a z]at ho;exact nn ho) (fill.inv.base a o ho)) fl' (fun Y q=>q) B.sub,
   fill.dict.up U fun o ho=>hk D o hDw ho⟩ fun a o ho nz=>hk a o (fun q=>nz (.inr (.inr q))) ho
 |cons p ps=>
  refine o1_inv e fun ρ' hρ' e=>o1_inv e fun c hpa e=>?_
  have hip:its[i]?=some p:=by
   have:=congrArg (·[0]?) hdrop
   simpa[List.getElem?_drop]using this
  have hlt:i<its.length:=(List.getElem?_eq_some_iff.mp hip).1
  have hdrop':its.drop (i+1)=ps:=by
   have:=congrArg List.tail hdrop
   simpa[List.tail_drop]using this
  refine dictcomp_step ?_
  refine W.turns.item i s _ _ hlt st fun v h1 tk1 hMd hk1=>?_
  refine W.turns.go i v {s with heap:=h1,toks:=tk1} _ _ hMd fun h2 hP2 hst2 hk2=>?_
  have k02:∀b o,b∉wr→s.heap.get? b=some o→h2.get? b=some o:=fun b o hb ho=>hk2 b o hb (hk1 b o hb ho)
  have fl2:FL h2 F:=fun a q=>by
   by_cases hw:a∈wr
   ·exact W.live _ _ hst2 a (wrfp a hw)
   ·refine xE (fill.inv.fl a q) fun o ho=>?_;exact⟨o,k02 a o hw ho⟩
  have U02:Up s.heap F h2 F:=fun a o ho nf=>⟨nf,k02 a o (fun q=>nf (hwrF a q)) ho⟩
  have I2:Inv g env ρ h2 F M:=fill.inv.chg no U02 (fun a q o ho=>k02 a o (fun z=>(apw a z).1 q) ho) (fun a o ho=>k02 a o (fun z=>by rw[W.wr0 a z]at ho;exact nn ho) (fill.inv.base a o ho)) fl2 (fun Y q=>q) fun a q=>hF'F a (B.sub a q)
  have d2:=fill.dict.up U02 fun o ho=>k02 D o hDw ho
  have Uhb:Up hb F₀ h2 F:=fun a o ho nf=>⟨W.new a o ho nf,k02 a o (fun q=>W.new a o ho nf (hwrF a q)) (hkeep a o ho nf)⟩
  refine bind_ok (s:= {s with heap:=h2,toks:=tk1}) I2 B.bind hok.handled hρ' (W.item i v h2 p hP2 hip) Uhb B.hm fun h3 t3 m3 I3=>?_
  have no':=no.bind hρ'
  have ownF:∀a,Own env bk a→F a:=I2.ownF
  have notD:¬Own env bk D:=by
   rintro (q|⟨n',_,q⟩)
   ·exact B.dl q
   ·exact B.dc n' D q rfl
  have d3:=d2.up (m3.up ownF) fun o ho=>m3 D o ho notD
  have fp3:∀b∈fp,∀o,h2.get? b=some o→h3.get? b=some o:=fun b hb o ho=>m3 b o ho fun q=>(W.apart b hb).1 (by
   refine Or.elim q (fun q=>?_) fun Y=>xEA Y fun n' Y q=>?_
   ·exact .inl q
   ·exact .inr ⟨n',q⟩)
  have next:∀h' t' ks' vs',FillD g env ρ' F M D ks' vs' h'→(∀b∈fp,∀o,h2.get? b=some o→h'.get? b=some o)→Mod (fun a=>Own env bk a∨a=D) h2 h'→pdict n cn bk ρ kx vx tgt ifs ps ks' vs'=some out→ks'.length+ps.length<10000→
    codeAny (model g.prog g.w) A (.compLoop (.DictComp kx vx [⟨tgt,iter,ifs,0⟩] scope pos) 0 (.ref I) (.ref D) env) R {s with heap:=h',toks:=t'}:=by
   intro h' t' ks' vs' f' hfp m' e' hl'
   refine ih (by lia) cn bk ρ kx vx tgt iter ifs ps ks' vs' out scope pos env D I fp wr P Md St its (i+1) hb F₀ F' F M A R {s with heap:=h',toks:=t'} e' hnew hok B no hl' W hdrop' hlt (W.turns.frame _ _ _ hst2 hfp) (fun a o ho nf=>?_)
    ⟨f'.inv.unbind hρ' hnew,f'.dict⟩ fun h'' t'' f'' m''=>?_
   ·refine m' a o (Uhb a o ho nf).2 ?_
    have:=(Uhb a o ho nf).1
    rintro (q|q)
    ·exact this (ownF a q)
    ·exact this (q▸hF'F D B.fd)
   ·refine HR h'' t'' f'' fun a o ho nz=>m'' a o (m' a o (k02 a o (fun q=>nz (.inr (.inr q))) ho) fun q=>nz (q.imp id .inl)) nz
  refine hC n (by lia) cn ρ' ifs c env F M A _ {s with heap:=h3,toks:=t3} _ hpa hok I3 B.cnOk fun h4 t4 x4=>?_
  cases c with
  |true=>
   refine py rfl ?_
   refine o2_inv (show o2 _ _ _=some out from e) fun x q hkx hvx e=>o1_inv hkx fun z hz hkx=>?_
   refine hE n (by lia) cn ρ' kx z env F M A _ {s with heap:=h4,toks:=t4} _ hz hok (I3.ext x4) B.cnOk fun kv h5 t5 x5 r5=>?_
   refine hE n (by lia) cn ρ' vx q env F M A _ {s with heap:=h5,toks:=t5} _ hvx hok ((I3.ext x4).ext x5) B.cnOk fun vv h6 t6 x6 r6=>?_
   have x36:Ext h3 h6:=(x4.trans x5).trans x6
   have I6:=I3.ext x36
   refine xEAA (d3.up (x36.up F) fun o ho=>x36 D o ho) fun kvs dk ek rk=>?_
   refine xE (Rv.str_iff.mp (isS_eq hkx▸r5)) fun tk Y=>?_;subst Y
   have hlk:kvs.length=ks.length:=by have:=congrArg List.length ek;simpa using this
   refine wpAny_dictSet_pairs (k:=sv x) (by simp[PySem.strKind,Value.isStrOf]) dk (fun h7 d7 hs=>?_) (by simp only[bx]at hlen;unfold sizeLine;lia)
   have kp:∀a o,a≠D→h6.get? a=some o→h7.get? a=some o:=fun a o ne ho=>hs.extBut a o ne ho
   have U7:Up h6 F h7 F:=fun a o ho nf=>⟨nf,kp a o (fun q=>nf (q▸hF'F D B.fd)) ho⟩
   have fl7:FL h7 F:=fun a q=>by
    by_cases hD:a=D
    ·subst hD;refine xEA (Heap.dictOf_iff.mp d7) fun o ho Y=>?_;exact⟨_,ho⟩
    ·refine xE (I6.fl a q) fun o ho=>?_;exact⟨o,kp a o hD ho⟩
   have I7:Inv g env ρ' h7 F M:=I6.chg no' U7 (fun a q o ho=>kp a o (fun z=>by
     subst z
     refine Or.elim q (fun q=>?_) fun Y=>xE Y fun n' q=>?_
     ·exact B.dl q
     ·exact B.dc n' _ q rfl) ho) (fun a o ho=>kp a o (fun z=>by rw[z,B.d0]at ho;exact nn ho) (I6.base a o ho)) fl7 (fun Y q=>q) fun a q=>hF'F a (B.sub a q)
   refine xA (putK_ok (x:=x) r6 (dict_nodup dk) ek rk) fun p1 p2=>?_
   refine next h7 (t6+1) _ _ ⟨I7,_,d7,p1,Rvs.up U7 _ p2⟩ (fun b hb o ho=>kp b o (fun q=>(W.apart b hb).2 q) (x36 b o (fp3 b hb o ho))) (fun a o ho nz=>kp a o (fun q=>nz (.inr q)) (x36 a o (m3 a o ho fun q=>nz (.inl q)))) e ?_
   have:=putK_length ks vs x q
   simp only[bx]at hlen
   lia
  |false=>
   refine pn bq ?_
   exact next h4 t4 ks vs ⟨I3.ext x4,d3.up (x4.up F) fun o ho=>x4 D o ho⟩ (fun b hb o ho=>x4 b o (fp3 b hb o ho)) (fun a o ho nz=>x4 a o (m3 a o ho fun q=>nz (.inl q))) e (by simp only[bx]at hlen;lia)
theorem Inv.reM{g:Gnd}{env:Env}{ρ:Rho}{h:Heap}{F M M':Addr→Prop}(I:Inv g env ρ h F M)(no:NoOwn ρ)(h1:M' env.locals)(h2:∀n c,env.cells.lookup n=some c→M' c)(h3:∀a,M' a→F a):Inv g env ρ h F M':=
 ⟨I.kind,I.base,I.low,I.fl,h3,I.glob,I.blt,I.glive,I.loc,h1,fun n c hc=>⟨h2 n c hc,(I.cel n c hc).2⟩,I.celd,fun x e hx=>⟨by
  have ok:=(I.ents x e hx).1
  cases e with
  |own xs=>exact(no x xs hx).elim
  |val=>exact ok
  |gv=>exact ok
  |bi=>exact ok
  |en=>exact ok
  |fn=>exact ok
  |lgv=>exact ok
  |lbi=>exact ok
  |len=>exact ok
  |lfn=>exact ok,(I.ents x e hx).2⟩⟩
theorem filtR_noOwn{ρ:Rho}{l:List (Str×NameKind)}:NoOwn (filtR ρ l):=fun x xs e=>by
 refine xEA (filtR_lookup e) fun d Y h=>?_
 rcases h with ⟨h,h',_⟩|⟨h,_⟩|⟨h,_⟩
 ·subst h';exact ff h
 ·cases d<;>cases h
 ·cases d<;>cases h
theorem okKind_of{names:List (Str×NameKind)}{x:Str}(h:okKind names x=true):(names.lookup x=some .local∨names.lookup x=some .cell)∧(x==br "__debug__")=false:=by
 simp only[okKind,bp,Bool.not_eq_true']at h
 refine⟨?_,h.2⟩
 have:=h.1
 split at this
 ·rename_i e;exact .inl e
 ·rename_i e;exact .inr e
 ·exact ff this
structure Begin(g:Gnd)(A:Around)(tgt:Expr)(env cenv:Env)(cn':List Str)(names:List (Str×NameKind))(I:Addr)(fp wr:List Addr)(P Md:Nat→Value→Heap→Prop)(St:Nat→Heap→Prop)(its:List PV)(hs hb h₁ h₄:Heap)(ρ:Rho)(F:Addr→Prop)(D:Addr)
  (F' Fo:Addr→Prop):Prop where
 blk:Blk g cenv cn' (okKind names) D Fo Fo
 way:Way g A tgt cenv (okKind names) I fp wr P Md St its hb F Fo F' D
 st:St 0 h₄
 keep:∀a o,hb.get? a=some o→h₄.get? a=some o
 inv:Inv g cenv (filtR ρ names) h₄ F' Fo
 self:∀i (s:Shared) (Q:Value→Shared→Prop) (E:Value→Shared→Prop),St i s.heap→Q (.ref I) s→wpAny (model g.prog g.w) A (pyIter (.ref I)) Q E s
 freshC:hs.get? cenv.locals=none
 freshD:hs.get? D=none
 ext:Ext hs h₄
 old:∀a o,hs.get? a=some o→¬(Own cenv (okKind names) a∨a=D∨a∈wr)
 notF:¬F D
 dc:D≠cenv.locals
 weak:∀a,F a∨a=cenv.locals→Fo a
theorem begin_ok{g:Gnd}{A:Around}{tgt:Expr}{env:Env}{cn:List Str}{ρ:Rho}{scope:Scope}{hs hb h₁:Heap}{F M:Addr→Prop}{its:List PV}{it:Value}(I₀:Inv g env ρ hs F M)(hcn:Cn env cn)(ok:scopeOk scope cn=true)
  (xb:Ext hs hb) (x1:Ext hb h₁) (io:IterOk g.prog g.w A tgt hb F its it h₁) (od:Obj) (hfd:od.isFreed=false):
  ∃cl,closureFor scope env=pure cl∧∃I fp wr P Md St F' Fo,it= .ref I∧
   Begin g A tgt env (compEnvC scope (cellsFrom (h₁.objs.size+1+1) scope.names cl) (h₁.objs.size+1) env) (cellNames scope.names) scope.names I fp wr P Md St its hs hb h₁
    (pushCells ((h₁.push od).push {cls:= .type "dict",data:= .dict #[] }) scope.names) ρ F h₁.objs.size F' Fo:=by
 obtain⟨I,fp,wr,P,Md,St,rfl,T,st,live,wrn,fpF,self,item⟩:=io
 have hD:h₁.get? h₁.objs.size=none:=get?_size _
 have x2:Ext h₁ (h₁.push od):=Ext.push _ _
 have hsz2:(h₁.push od).objs.size=h₁.objs.size+1:=Heap.size_push ..
 have Ib:=I₀.ext xb
 have none1:∀a,h₁.get? a=none→hb.get? a=none:=fun a q=>by
  cases e:hb.get? a with
  |none=>rfl
  |some o=>rw[x1 a o e]at q;cases q
 have none0:∀a,hb.get? a=none→hs.get? a=none:=fun a q=>by
  cases e:hs.get? a with
  |none=>rfl
  |some o=>rw[xb a o e]at q;cases q
 have noneG:∀a,hs.get? a=none→g.h₀.get? a=none:=fun a q=>by
  cases e:g.h₀.get? a with
  |none=>rfl
  |some o=>rw[I₀.base a o e]at q;cases q
 have none2:∀a,(h₁.push od).get? a=none→h₁.get? a=none:=fun a q=>by
  cases e:h₁.get? a with
  |none=>rfl
  |some o=>rw[x2 a o e]at q;cases q
 let F₀:Addr→Prop:=fun a=>(F a∨a=h₁.objs.size)∨a∈wr
 refine xEA (comp_env (F₀:=F₀) Ib hcn ok (x1.trans x2) (fun a q=> .inl (.inl q)) (fun a o ho nf=>by
   rintro ((q|q)|q)
   ·exact nf q
   ·subst q;rw[x1 _ _ ho]at hD;exact sn hD
   ·have:=wrn a q;rw[ho]at this;exact sn this) (by
   rintro a ((q|q)|q)
   ·exact(I₀.fl.ext (xb.trans (x1.trans x2))) a q
   ·subst q;exact⟨_,bc _ hfd⟩
   ·refine xE (live _ _ st a (T.sub a q)) fun o ho=>?_;exact⟨o,x2 a o ho⟩)) fun cl hcl K=>?_
 rw[hsz2]at K
 refine xAAAA (K _ rfl) fun U4 Iv Cn' Fnew Y=>?_;refine xAA Y fun F'old own celOr=>?_
 refine⟨cl,hcl,I,fp,wr,P,Md,St,(fun a=>F₀ a∨a=h₁.objs.size+1∨∃n,(cellsFrom (h₁.objs.size+1+1) scope.names cl).lookup n=some a),(fun a=>(F a∨a=h₁.objs.size)∨a=h₁.objs.size+1∨∃n,(cellsFrom (h₁.objs.size+1+1) scope.names cl).lookup n=some a),rfl,?_⟩
 have hC:(h₁.push od).get? (h₁.objs.size+1)=none:=by rw[←hsz2];exact get?_size _
 have hDlive:(h₁.push od).get? h₁.objs.size=some od:=bc _ hfd
 have ownNew:∀a,Own (compEnvC scope (cellsFrom (h₁.objs.size+1+1) scope.names cl) (h₁.objs.size+1) env) (okKind scope.names) a→(h₁.push od).get? a=none:=by
  rintro a (q|⟨n,hn,q⟩)
  ·subst q;exact hC
  ·exact(own n (okKind_of hn).1).2 a q
 have liveW:∀b∈fp,∃o,h₁.get? b=some o:=fun b hb'=>live _ _ st b hb'
 have celF:∀n c,(cellsFrom (h₁.objs.size+1+1) scope.names cl).lookup n=some c→F c∨(h₁.push od).get? c=none:=fun n c hc=>(celOr n c hc).imp (fun q=>Ib.sub _ (Ib.cel n c q).1) id
 have wrF:∀b∈wr,¬((F b∨b=h₁.objs.size)∨b=h₁.objs.size+1∨∃n,(cellsFrom (h₁.objs.size+1+1) scope.names cl).lookup n=some b):=fun b hb'=>by
  refine xE (liveW b (T.sub b hb')) fun o ho=>?_
  rintro ((q|q)|q|⟨n,q⟩)
  ·exact fpF b (T.sub b hb') q
  ·subst q;rw[hD]at ho;exact nn ho
  ·subst q;rw[x2 _ _ ho]at hC;exact sn hC
  ·refine Or.elim (celF n b q) (fun q=>?_) fun q=>?_
   ·exact fpF b (T.sub b hb') q
   ·rw[x2 _ _ ho]at q;cases q
 refine⟨⟨Cn',fun x hx=>⟨(own x (okKind_of hx).1).1,(okKind_of hx).2⟩,fun a q=>noneG a (none0 a (none1 a (none2 a (ownNew a q)))), .inl (.inr rfl),noneG _ (none0 _ (none1 _ hD)),?_,?_,fun Y q=>q⟩,?_,?_,?_,?_,self,none0 _ (none1 _ (none2 _ hC)),none0 _ (none1 _ hD),
  xb.trans (x1.trans (x2.trans U4)),?_,I₀.fl.fresh (none0 _ (none1 _ hD)),?_,?_⟩
 ·exact Nat.ne_of_lt (Nat.lt_succ_self _)
 ·intro n c hc e
  subst e
  refine Or.elim (celF n _ hc) (fun q=>?_) fun q=>?_
  ·exact I₀.fl.fresh (none0 _ (none1 _ hD)) q
  ·rw[hDlive]at q;exact sn q
 ·refine {turns:=T,live:=live,item:=item,new:=F'old,eqF:=fun a=>?_,wr0:=fun b hb'=>noneG b (none0 b (wrn b hb')),wrF:=wrF,apart:=fun b hb'=>⟨?_,?_⟩}
  ·constructor
   ·rintro ((q|q)|q)
    ·exact .inl (.inl q)
    ·exact .inr q
    ·exact .inl (.inr q)
   ·rintro ((q|q)|q)
    ·exact .inl (.inl q)
    ·exact .inr q
    ·exact .inl (.inr q)
  ·refine xE (liveW b hb') fun o ho=>?_
   rintro (q|⟨n,q⟩)
   ·subst q
    have:(h₁.push od).get? (h₁.objs.size+1)=some o:=x2 _ _ ho
    rw[hC]at this;exact nn this
   ·refine Or.elim (celF n b q) (fun q=>?_) fun q=>?_
    ·exact fpF b hb' q
    ·rw[x2 _ _ ho]at q;exact sn q
  ·refine xE (liveW b hb') fun o ho=>?_
   rintro rfl
   rw[hD]at ho;exact nn ho
 ·exact T.frame _ _ _ st fun b hb' o ho=>U4 _ _ (x2 _ _ ho)
 ·exact fun a o ho=>U4 _ _ (x2 _ _ (x1 _ _ ho))
 ·refine Iv.reM filtR_noOwn (.inr (.inl rfl)) (fun n c hc=> .inr (.inr ⟨n,hc⟩)) fun a q=>?_
  refine Or.elim q (fun q=>?_) fun q=>?_
  ·exact .inl (.inl q)
  ·exact .inr q
 ·intro a o ho
  rintro (q|q|q)
  ·have:=none0 a (none1 a (none2 a (ownNew a q)));rw[ho]at this;exact sn this
  ·subst q;have:=none0 _ (none1 _ hD);rw[ho]at this;exact sn this
  ·have:=none0 a (wrn a q);rw[ho]at this;exact sn this
 ·exact Nat.ne_of_lt (Nat.lt_succ_self _)
 ·rintro a (q|q)
  ·exact .inl (.inl q)
  ·exact .inr (.inl q)
theorem listcomp_core{g:Gnd}{n:Nat}(hI:SdI g n)(hP:SdP g n){cn:List Str}{ρ:Rho}{elt tgt iter:Expr}{ifs:List Expr}{gs:List Comprehension}{scope:Scope}{pos:Pos}{items out:List PV}{env:Env}{F M:Addr→Prop}{A:Around}{E:Value→Shared→Prop}{s:Shared}
  (ok:AOk (n+g.K) A) (I:Inv g env ρ s.heap F M) (hcn:Cn env cn) (hsc:scopeOk scope cn=true) (hall:(gs.all fun g=>g.is_async==0&&notSet g.iter)=true) (hit:pit n cn ρ (isName tgt) iter=some items)
  (hnew:newT (filtR ρ scope.names) tgt=true) (hout:pitems n (cellNames scope.names) (okKind scope.names) (filtR ρ scope.names) elt tgt ifs gs items=some out) (hlen:out.length<10000)
  {PP:Addr→Addr→Shared→Prop}
  (HP:∀D C h' t',Ext s.heap h'→s.heap.get? C=none→(∃m,h'.Ns C m)→Rv g.prog g.w h' (fun a=>F a∨a=C) (.list out) (.ref D)→PP D C {s with heap:=h',toks:=t'}):
  ∃cl,closureFor scope env=pure cl∧(∀x,foldedSetIterable iter env x=pure x)∧
   wpAny (model g.prog g.w) A (eval iter env) (fun x s₁=>wpAny (model g.prog g.w) A (pyIter x) (fun it s₂=>wpAny (model g.prog g.w) A (newList []) (fun acc s₃=>
    wpAny (model g.prog g.w) A (newFunctionEnv scope env.globals cl [] env.qual none .none (some env)) (fun cenv s₄=>
     codeAny (model g.prog g.w) A (.compStart (.ListComp elt (⟨tgt,iter,ifs,0⟩::gs) scope pos) 0 it acc {cenv with scope:=relabel scope env}) (fun r s'=>r= .ok .next∧∃D,acc= .ref D∧PP D cenv.locals s') s₄) E s₃) E s₂) E s₁) E s:=by
 obtain⟨cl,hcl,_⟩:=closureFor_ok (env:=env) (scope:=scope) fun x hx hxk=>by
  obtain⟨y,k⟩:=x
  cases hxk
  have:=Bool.and_eq_true_iff.mp (show(cn.contains y&&_)=true from bs.mp (Bool.and_eq_true_iff.mp hsc).2 _ hx)
  exact(hcn y (List.contains_iff_mem.mp this.1)).2
 have hi:=hI cn ρ iter tgt items env F M A E s (fun it s₂=>wpAny (model g.prog g.w) A (newList []) (fun acc s₃=>
    wpAny (model g.prog g.w) A (newFunctionEnv scope env.globals cl [] env.qual none .none (some env)) (fun cenv s₄=>
     codeAny (model g.prog g.w) A (.compStart (.ListComp elt (⟨tgt,iter,ifs,0⟩::gs) scope pos) 0 it acc {cenv with scope:=relabel scope env}) (fun r s'=>r= .ok .next∧∃D,acc= .ref D∧PP D cenv.locals s') s₄) E s₃) E s₂) hit ok I hcn (newT_shape hnew) fun hb it h1 t1 xb x1 io=>?_
 ·exact⟨cl,hcl,hi.2,hi.1⟩
 refine wpAny_newList ?_ (by simp[sizeLine])
 refine xEA (begin_ok I hcn hsc xb x1 io {cls:= .type "list",data:= .seq ([]:List Value).toArray} rfl) fun cl' hcl' Y=>?_;refine xEE Y fun II fp Y1=>?_;refine xEE Y1 fun wr P Y2=>?_;refine xEEEEA Y2 fun Md St F' Fo Y3 B=>?_;subst Y3
 have ecl:cl'=cl:=by
  have e:(pure cl':Sem _)=pure cl:=hcl'.symm.trans hcl
  injection e
 subst ecl
 refine newEnv_comp ?_
 have hsz:(h1.push {cls:= .type "list",data:= .seq ([]:List Value).toArray}).objs.size=h1.objs.size+1:=Heap.size_push ..
 show codeAny _ A (.compStart _ 0 (.ref II) (.ref h1.objs.size) (compEnvC scope (cellsFrom ((h1.push {cls:= .type "list",data:= .seq ([]:List Value).toArray}).objs.size+1) scope.names cl') (h1.push {cls:= .type "list",data:= .seq ([]:List Value).toArray}).objs.size env)) _ _
 rw[hsz]
 have fill:Fill g (compEnvC scope (cellsFrom (h1.objs.size+1+1) scope.names cl') (h1.objs.size+1) env) (filtR ρ scope.names) F' Fo h1.objs.size [] (pushCells ((h1.push {cls:= .type "list",data:= .seq ([]:List Value).toArray}).push {cls:= .type "dict",data:= .dict #[] }) scope.names):=
  ⟨B.inv, #[],⟨0,pushCells_keeps _ _ _ _ (bd _ (bc _ rfl))⟩,Rvs.nil⟩
 have loop:∀s':Shared,s'= {s with heap:=pushCells ((h1.push {cls:= .type "list",data:= .seq ([]:List Value).toArray}).push {cls:= .type "dict",data:= .dict #[] }) scope.names,toks:=t1}→
   codeAny (model g.prog g.w) A (.compLoop (.ListComp elt (⟨tgt,iter,ifs,0⟩::gs) scope pos) 0 (.ref II) (.ref h1.objs.size) (compEnvC scope (cellsFrom (h1.objs.size+1+1) scope.names cl') (h1.objs.size+1) env))
    (fun r s'=>r= .ok .next∧∃D,Value.ref h1.objs.size= .ref D∧PP D (h1.objs.size+1) s') s':=by
  rintro s' rfl
  refine hP _ _ _ elt tgt iter ifs gs items out _ scope pos 0 _ h1.objs.size II fp wr P Md St items 0 hb F Fo F' Fo A _ _ [] hout rfl rfl hall hnew ok B.blk filtR_noOwn (by simpa using hlen) B.way rfl (Nat.zero_le _) B.st (fun a o ho nf=>B.keep a o ho) fill fun h' t' f' m'=>⟨rfl,_,rfl,?_⟩
  refine HP _ _ h' t' (fun a o ho=>m' a o (B.ext a o ho) (B.old a o ho)) B.freshC f'.inv.loc ?_
  refine xEA f'.list fun ys pl rs=>?_
  refine Rv.list_iff.mpr ⟨_,ys,rfl,?_,?_,pl,?_⟩
  ·rintro (q|q)
   ·exact B.notF q
   ·exact B.dc q
  ·refine beq_eq_false_iff_ne.mpr fun q=>?_
   refine xEEA I.low fun a o l ho=>?_
   have:=Nat.lt_of_le_of_lt l (bh (x1 _ _ (xb _ _ (I.base _ _ ho))))
   rw[q]at this
   exact Nat.lt_irrefl _ this
  ·exact Rvs.up (fun a o ho nf=>⟨fun q=>nf (B.weak a q),ho⟩) _ rs
 exact listcomp_start rfl (loop _ rfl) (B.self 0 _ _ _ B.st (loop _ rfl))
theorem dictcomp_start{prog:Program}{w:World}{A:Around}{R:Result→Shared→Prop}{s:Shared}{kx vx tgt iter:Expr}{ifs:List Expr}{scope:Scope}{pos:Pos}{it acc:Value}{env:Env}
  (h0:codeAny (model prog w) A (.compLoop (.DictComp kx vx [⟨tgt,iter,ifs,0⟩] scope pos) 0 it acc env) R s)
  (h:wpAny (model prog w) A (pyIter it) (fun it' s'=>codeAny (model prog w) A (.compLoop (.DictComp kx vx [⟨tgt,iter,ifs,0⟩] scope pos) 0 it' acc env) R s') noE s):
  codeAny (model prog w) A (.compStart (.DictComp kx vx [⟨tgt,iter,ifs,0⟩] scope pos) 0 it acc env) R s:=
 codeAny_compStart_dict h0 (aj h (fun Y Y x=>x) fun Y Y x=>x.elim)
theorem dictcomp_core{g:Gnd}{n N:Nat}(hnN:n≤N+1)(hI:SdI g n)(hC:∀m,m≤N→SdC g m)(hE:∀m,m≤N→SdE g m){cn:List Str}{ρ:Rho}{kx vx tgt iter:Expr}{ifs:List Expr}{scope:Scope}{pos:Pos}{items:List PV}{out:List (List Nat)×List PV}{env:Env}{F M:Addr→Prop}{A:Around}{E:Value→Shared→Prop}{s:Shared}
  (ok:AOk (n+g.K) A) (I:Inv g env ρ s.heap F M) (hcn:Cn env cn) (hsc:scopeOk scope cn=true) (hit:pit n cn ρ (isName tgt) iter=some items)
  (hnew:newT (filtR ρ scope.names) tgt=true) (hout:pdict n (cellNames scope.names) (okKind scope.names) (filtR ρ scope.names) kx vx tgt ifs items [] []=some out) (hlen:items.length<10000)
  {PP:Addr→Addr→Shared→Prop}
  (HP:∀D C h' t',Ext s.heap h'→s.heap.get? C=none→(∃m,h'.Ns C m)→Rv g.prog g.w h' (fun a=>F a∨a=C) (.dict out.1 out.2) (.ref D)→PP D C {s with heap:=h',toks:=t'}):
  ∃cl,closureFor scope env=pure cl∧(∀x,foldedSetIterable iter env x=pure x)∧
   wpAny (model g.prog g.w) A (eval iter env) (fun x s₁=>wpAny (model g.prog g.w) A (pyIter x) (fun it s₂=>wpAny (model g.prog g.w) A newDict (fun acc s₃=>
    wpAny (model g.prog g.w) A (newFunctionEnv scope env.globals cl [] env.qual none .none (some env)) (fun cenv s₄=>
     codeAny (model g.prog g.w) A (.compStart (.DictComp kx vx [⟨tgt,iter,ifs,0⟩] scope pos) 0 it acc {cenv with scope:=relabel scope env}) (fun r s'=>r= .ok .next∧∃D,acc= .ref D∧PP D cenv.locals s') s₄) E s₃) E s₂) E s₁) E s:=by
 obtain⟨cl,hcl,_⟩:=closureFor_ok (env:=env) (scope:=scope) fun x hx hxk=>by
  obtain⟨y,k⟩:=x
  cases hxk
  have:=Bool.and_eq_true_iff.mp (show(cn.contains y&&_)=true from bs.mp (Bool.and_eq_true_iff.mp hsc).2 _ hx)
  exact(hcn y (List.contains_iff_mem.mp this.1)).2
 have hi:=hI cn ρ iter tgt items env F M A E s (fun it s₂=>wpAny (model g.prog g.w) A newDict (fun acc s₃=>
    wpAny (model g.prog g.w) A (newFunctionEnv scope env.globals cl [] env.qual none .none (some env)) (fun cenv s₄=>
     codeAny (model g.prog g.w) A (.compStart (.DictComp kx vx [⟨tgt,iter,ifs,0⟩] scope pos) 0 it acc {cenv with scope:=relabel scope env}) (fun r s'=>r= .ok .next∧∃D,acc= .ref D∧PP D cenv.locals s') s₄) E s₃) E s₂) hit ok I hcn (newT_shape hnew) fun hb it h1 t1 xb x1 io=>?_
 ·exact⟨cl,hcl,hi.2,hi.1⟩
 refine xEA (begin_ok I hcn hsc xb x1 io {cls:= .type "dict",data:= .dict #[] } rfl) fun cl' hcl' Y=>?_;refine xEE Y fun II fp Y1=>?_;refine xEE Y1 fun wr P Y2=>?_;refine xEEEEA Y2 fun Md St F' Fo Y3 B=>?_;subst Y3
 have ecl:cl'=cl:=by
  have e:(pure cl':Sem _)=pure cl:=hcl'.symm.trans hcl
  injection e
 subst ecl
 unfold newDict
 refine ac (wpAny_alloc (ah ?_))
 refine newEnv_comp ?_
 have hsz:(h1.push {cls:= .type "dict",data:= .dict #[] }).objs.size=h1.objs.size+1:=Heap.size_push ..
 show codeAny _ A (.compStart _ 0 (.ref II) (.ref h1.objs.size) (compEnvC scope (cellsFrom ((h1.push {cls:= .type "dict",data:= .dict #[] }).objs.size+1) scope.names cl') (h1.push {cls:= .type "dict",data:= .dict #[] }).objs.size env)) _ _
 rw[hsz]
 have fill:FillD g (compEnvC scope (cellsFrom (h1.objs.size+1+1) scope.names cl') (h1.objs.size+1) env) (filtR ρ scope.names) F' Fo h1.objs.size [] [] (pushCells ((h1.push {cls:= .type "dict",data:= .dict #[] }).push {cls:= .type "dict",data:= .dict #[] }) scope.names):=
  ⟨B.inv,[],(Heap.DictOf.new h1).keep fun b o e=>pushCells_keeps _ _ _ _ (bd _ e),rfl,Rvs.nil⟩
 have loop:∀s':Shared,s'= {s with heap:=pushCells ((h1.push {cls:= .type "dict",data:= .dict #[] }).push {cls:= .type "dict",data:= .dict #[] }) scope.names,toks:=t1}→
   codeAny (model g.prog g.w) A (.compLoop (.DictComp kx vx [⟨tgt,iter,ifs,0⟩] scope pos) 0 (.ref II) (.ref h1.objs.size) (compEnvC scope (cellsFrom (h1.objs.size+1+1) scope.names cl') (h1.objs.size+1) env))
    (fun r s'=>r= .ok .next∧∃D,Value.ref h1.objs.size= .ref D∧PP D (h1.objs.size+1) s') s':=by
  rintro s' rfl
  refine sdD_of hC hE n hnN _ _ _ kx vx tgt iter ifs items [] [] out scope pos _ h1.objs.size II fp wr P Md St items 0 hb F Fo F' Fo A _ _ hout hnew ok B.blk filtR_noOwn (by simpa using hlen) B.way rfl (Nat.zero_le _) B.st (fun a o ho nf=>B.keep a o ho) fill fun h' t' f' m'=>⟨rfl,_,rfl,?_⟩
  refine HP _ _ h' t' (fun a o ho=>m' a o (B.ext a o ho) (B.old a o ho)) B.freshC f'.inv.loc ?_
  refine xEAA f'.dict fun kvs dk ek rs=>?_
  refine Rv.dict_iff.mpr ⟨_,kvs,rfl,?_,?_,dk,ek,?_⟩
  ·rintro (q|q)
   ·exact B.notF q
   ·exact B.dc q
  ·refine beq_eq_false_iff_ne.mpr fun q=>?_
   refine xEEA I.low fun a o l ho=>?_
   have:=Nat.lt_of_le_of_lt l (bh (x1 _ _ (xb _ _ (I.base _ _ ho))))
   rw[q]at this
   exact Nat.lt_irrefl _ this
  ·exact Rvs.up (fun a o ho nf=>⟨fun q=>nf (B.weak a q),ho⟩) _ rs
 exact dictcomp_start (loop _ rfl) (B.self 0 _ _ _ B.st (loop _ rfl))
set_option tactic.hygienic true in
theorem const_ok{g:Gnd}{c:Const}{k:Nat}{px:Pos}{p:PV}{env:Env}{F:Addr→Prop}{A:Around}{E:Value→Shared→Prop}{s:Shared}{Q:Value→Shared→Prop}
  (h:constPV c=some p) (H:Post g.prog g.w F p s Q):wpAny (model g.prog g.w) A (eval (.Constant c k px) env) Q E s:=by
 cases c<;>try exact nn h
 all_goals obtain rfl:=bn h
 ·exact ah (H.same Rv.none)
 ·exact ah (H.same Rv.bool)
 ·exact wpAny_Constant_int (H.tok Rv.int)
 ·rename_i x
  refine Constant_str (H.tok ?_)
  have:=(Rv.str:Rv g.prog g.w s.heap F (.str x.cps.toList) (.str (sv x.cps.toList) s.toks))
  rw[sv_of]at this
  exact this
theorem meth_ok{g:Gnd}{A:Around}{E:Value→Shared→Prop}{s:Shared}{F:Addr→Prop}{m:Str}{k:Meth}{x:List Nat}{t:Tok}{pos:Pos}{Q:Value→Shared→Prop}(hm:methOf m=some k)(h1:x.all (fun c=>c.blt 128)=true)(h2:x.length<10000)
  (H:Post g.prog g.w F (.str (methPV k x)) s Q):MethodOnS g.prog g.w A E m (.str (sv x) t) pos [] Q s:=by
 have hA:∀c∈(sv x).cps.toList,c<128:=fun c hc=>by
  rw[sv_cps]at hc
  simpa using bs.mp h1 c hc
 unfold methOf at hm
 by_cases e:(m==br "lower")=true
 ·rw[if_pos e]at hm
  obtain rfl:=bn hm
  rw[beq_iff_eq.mp e]
  have el:Txt.lower (sv x)=sv (x.map lo1):=by rw[lower_ascii hA];simp[sv]
  refine SB.lower ?_ ?_
  ·rw[el,sv_length,List.length_map];unfold Builtin.Str.tooLong sizeLine;exact decide_eq_false (by lia)
  ·rw[el];exact H.tok Rv.str
 ·rw[if_neg e]at hm
  refine if_inv hm fun e hm=>?_
  obtain rfl:=bn hm
  rw[beq_iff_eq.mp e]
  have el:Txt.upper (sv x)=sv (x.map up1):=by rw[upper_ascii hA];simp[sv]
  refine SB.upper ?_ ?_
  ·rw[el,sv_length,List.length_map];unfold Builtin.Str.tooLong sizeLine;exact decide_eq_false (by lia)
  ·rw[el];exact H.tok Rv.str
theorem base_notCall{o:Expr}{m:Str}{env:Env}(h:notCall o=true):attributeBase o m env (eval o env)=eval o env:=by
 cases o<;>first|rfl|exact ff h
theorem str_app(x y:List Nat):sv x++sv y=sv (x++y):=by show Str.mk _=_;simp[sv]
theorem join_nil(l:List (List Nat)):Txt.join (sv []) (l.map sv)=sv l.flatten:=by
 show Builtin.Str.glued _ _=_
 rw[StrLaws.glued_eq_join]
 induction l with
 |nil=>rfl
 |cons x r ih=>
  cases r with
  |nil=>simp[Str.join]
  |cons y r=>
   simp only[List.map_cons]at ih⊢
   unfold Str.join
   rw[ih,str_app,str_app]
   simp
theorem joinPV_ok{prog:Program}{w:World}{h:Heap}{F:Addr→Prop}:∀{ps:List PV} {vs:List Value} {y:List Nat},joinPV ps=some y→Rvs prog w h F ps vs→∃(l:List (Str×Tok)) (xs:List (List Nat)),vs=strValues l∧l.map (·.1)=xs.map sv∧xs.flatten=y
 |[],vs,y,e,r=>by
  have r:_=[]:=r;subst r
  exact⟨[],[],rfl,rfl,bn e⟩
 |p::ps,vs,y,e,r=>o2_inv e fun x z hx hz e=>by
  refine xEEAA r fun v rest Y a b=>?_;clear r;subst Y
  refine xE (Rv.str_iff.mp (isS_eq hx▸a)) fun t Y=>?_;subst Y
  refine xEEAA (joinPV_ok hz b) fun l xs Y h2 h3=>?_;subst Y
  exact⟨(sv x,t)::l,x::xs,rfl,by rw[List.map_cons,h2];rfl,by rw[List.flatten_cons,h3];exact bn e⟩
theorem join_ok{g:Gnd}{A:Around}{E:Value→Shared→Prop}{s:Shared}{F:Addr→Prop}{ps:List PV}{y:List Nat}{t:Tok}{pos:Pos}{a:Sem Value}{Q:Value→Shared→Prop}(h1:joinPV ps=some y)(h2:y.length<10000)
  (ha:∀(Q':Value→Shared→Prop),Post g.prog g.w F (.list ps) s Q'→wpAny (model g.prog g.w) A a Q' E s)
  (H:∀h' t',Ext s.heap h'→Post g.prog g.w F (.str y) {s with heap:=h',toks:=t'} Q):MethodOnS g.prog g.w A E "join" (.str (sv []) t) pos [(false,a)] Q s:=by
 refine SB.join (ha _ fun v h' t' x' r'=>?_)
 refine xEEAAAA (Rv.list_iff.mp r') fun D vs Y nf ns il rs=>?_;subst Y
 refine xEEAA (joinPV_ok h1 rs) fun l xs e1 e2 Y=>?_;subst Y
 refine⟨D,l,rfl,?_,_,e2,?_,fun t'' k=>?_⟩
 ·have:vs=(strValues l).toArray:=by apply Array.ext';rw[e1]
  rw[←this];exact il.isList
 ·unfold JoinOk
  rw[StrLaws.joinTotal]
  have:((xs.map sv).map (·.length)).sum=xs.flatten.length:=by
   rw[List.length_flatten];congr 1
   rw[List.map_map]
   exact List.map_congr_left fun z Y=>sv_length z
  rw[this,sv_length]
  unfold Builtin.Str.tooLong sizeLine
  rw[decide_eq_false (by simp only[List.length_nil,Nat.mul_zero];lia)];rfl
 ·rw[join_nil];exact(H h' t' x').tok Rv.str
theorem scope_facts{scope:Scope}{cn:List Str}(h:scopeOk scope cn=true):scope.kind= .function∧∀x∈scope.names,x.2= .local→scope.names.lookup x.1=some .local:=by
 have h1:=Bool.and_eq_true_iff.mp (Bool.and_eq_true_iff.mp h).1
 refine⟨?_,fun x hx hl=>?_⟩
 ·have:=h1.1
  cases h:scope.kind<;>rw[h]at this<;>first|rfl|exact ff this
 ·obtain⟨y,k⟩:=x
  cases hl
  exact lookup_of_mem h1.2 hx
theorem listcomp_ok{g:Gnd}{n:Nat}(hI:SdI g n)(hP:SdP g n){cn:List Str}{ρ:Rho}{elt tgt iter:Expr}{ifs:List Expr}{gs:List Comprehension}{scope:Scope}{pos:Pos}{items out:List PV}{env:Env}{F M:Addr→Prop}{A:Around}{E:Value→Shared→Prop}{s:Shared}{Q:Value→Shared→Prop}
  (ok:AOk (n+g.K) A) (I:Inv g env ρ s.heap F M) (hcn:Cn env cn) (hsc:scopeOk scope cn=true) (hall:(gs.all fun g=>g.is_async==0&&notSet g.iter)=true) (hit:pit n cn ρ (isName tgt) iter=some items)
  (hnew:newT (filtR ρ scope.names) tgt=true) (hout:pitems n (cellNames scope.names) (okKind scope.names) (filtR ρ scope.names) elt tgt ifs gs items=some out) (hlen:out.length<10000)
  (H:Post g.prog g.w F (.list out) s Q):wpAny (model g.prog g.w) A (eval (.ListComp elt (⟨tgt,iter,ifs,0⟩::gs) scope pos) env) Q E s:=by
 refine xEAA (listcomp_core (E:=E) (pos:=pos) hI hP ok I hcn hsc hall hit hnew hout hlen (PP:=fun D C s'=>∃m,s'.heap.Ns C m∧∀h',Heap.SameBut C s'.heap h'→Q (.ref D) {s' with heap:=h'}) fun D C h' t' x' fr Y r'=>xE Y fun m nm=>⟨m,nm,fun h'' hs=>by
   have U:Up h' (fun a=>F a∨a=C) h'' F:=fun a o ho nf=>⟨fun q=>nf (.inl q),hs.extBut a o (fun q=>nf (.inr q)) ho⟩
   exact H _ h'' t' (fun a o ho=>hs.extBut a o (fun q=>by subst q;rw[fr]at ho;exact nn ho) (x' a o ho)) (r'.up U _)⟩) fun cl hcl hf hw=>?_
 refine xA (scope_facts hsc) fun hk hn=>?_
 rw[eval_ListComp]
 refine wpAny_comprehension_free (use:=none) (g:=⟨tgt,iter,ifs,0⟩) (gs:=gs) rfl hf hcl hk hn ?_
 refine aj hw (fun x s₁ h₁=>aj h₁ (fun it s₂ h₂=>aj h₂ (fun acc s₃ h₃=>aj h₃ (fun cenv s₄ h₄=>codeAny_mono h₄ fun r s' hr=>?_) fun Y Y e=>e) fun Y Y e=>e) fun Y Y e=>e) fun Y Y e=>e
 obtain⟨rfl,D,rfl,hr⟩:=hr
 exact hr
theorem dictcomp_ok{g:Gnd}{n N:Nat}(hnN:n≤N+1)(hI:SdI g n)(hC:∀m,m≤N→SdC g m)(hE:∀m,m≤N→SdE g m){cn:List Str}{ρ:Rho}{kx vx tgt iter:Expr}{ifs:List Expr}{scope:Scope}{pos:Pos}{items:List PV}{out:List (List Nat)×List PV}{env:Env}{F M:Addr→Prop}{A:Around}{E:Value→Shared→Prop}{s:Shared}{Q:Value→Shared→Prop}
  (ok:AOk (n+g.K) A) (I:Inv g env ρ s.heap F M) (hcn:Cn env cn) (hsc:scopeOk scope cn=true) (hit:pit n cn ρ (isName tgt) iter=some items)
  (hnew:newT (filtR ρ scope.names) tgt=true) (hout:pdict n (cellNames scope.names) (okKind scope.names) (filtR ρ scope.names) kx vx tgt ifs items [] []=some out) (hlen:items.length<10000)
  (H:Post g.prog g.w F (.dict out.1 out.2) s Q):wpAny (model g.prog g.w) A (eval (.DictComp kx vx [⟨tgt,iter,ifs,0⟩] scope pos) env) Q E s:=by
 refine xEAA (dictcomp_core (E:=E) (pos:=pos) hnN hI hC hE ok I hcn hsc hit hnew hout hlen (PP:=fun D C s'=>∃m,s'.heap.Ns C m∧∀h',Heap.SameBut C s'.heap h'→Q (.ref D) {s' with heap:=h'}) fun D C h' t' x' fr Y r'=>xE Y fun m nm=>⟨m,nm,fun h'' hs=>by
   have U:Up h' (fun a=>F a∨a=C) h'' F:=fun a o ho nf=>⟨fun q=>nf (.inl q),hs.extBut a o (fun q=>nf (.inr q)) ho⟩
   exact H _ h'' t' (fun a o ho=>hs.extBut a o (fun q=>by subst q;rw[fr]at ho;exact nn ho) (x' a o ho)) (r'.up U _)⟩) fun cl hcl hf hw=>?_
 refine xA (scope_facts hsc) fun hk hn=>?_
 rw[show eval (.DictComp kx vx [⟨tgt,iter,ifs,0⟩] scope pos) env=comprehension (.DictComp kx vx [⟨tgt,iter,ifs,0⟩] scope pos) scope env iter.pos newDict false (eval iter env)from by rfl]
 refine wpAny_comprehension_free (use:=none) (g:=⟨tgt,iter,ifs,0⟩) (gs:=[]) rfl hf hcl hk hn ?_
 refine aj hw (fun x s₁ h₁=>aj h₁ (fun it s₂ h₂=>aj h₂ (fun acc s₃ h₃=>aj h₃ (fun cenv s₄ h₄=>codeAny_mono h₄ fun r s' hr=>?_) fun Y Y e=>e) fun Y Y e=>e) fun Y Y e=>e) fun Y Y e=>e
 obtain⟨rfl,D,rfl,hr⟩:=hr
 exact hr
theorem sub_shape{i:Expr}(h:slcOf i=none)(o k:Value):subscripted i false o k=operate [o,k] (getItem o k):=by
 cases i<;>first|rfl|exact nn h.symm
theorem nmC{e:Expr}{ρ:Rho}{xs:List PV}(h:pown ρ e=some xs){G:Prop}(k:∀x p,e= .Name x p→ρ.lookup x=some (.own xs)→G):G:=o1_inv h fun x hx h=>xE (nmOf_eq hx) fun p e=>k x p e (oOwn_inv h)
theorem own_read{g:Gnd}{env:Env}{ρ:Rho}{s:Shared}{A:Around}{E:Value→Shared→Prop}{F M:Addr→Prop}{v:Expr}{xs:List PV}(I:Inv g env ρ s.heap F M)(h:pown ρ v=some xs){Q:Value→Shared→Prop}
  (k:∀a vs,s.heap.PlainList a vs→xs.all flatPV=true→Rvs g.prog g.w s.heap F xs vs.toList→Q (.ref a) s):wpAny (model g.prog g.w) A (eval v env) Q E s:=nmC h fun x p1 e hx=>by
 subst e
 refine xA (I.ents x _ hx) fun Y hd=>?_;obtain⟨a,vs,va,m,l,c,ns,pl,hf,r⟩:=Y
 exact wpAny_Name (va.load I.kind (k a vs pl hf r)) hd
theorem idx_ok{g:Gnd}{A:Around}{E:Value→Shared→Prop}{s:Shared}{F:Addr→Prop}{a:Addr}{vs:Array Value}{xs:List PV}{i:Int}{p:PV}{t:Tok}{Q:Value→Shared→Prop}(h:idxL xs i=some p)(pl:s.heap.PlainList a vs)(rs:Rvs g.prog g.w s.heap F xs vs.toList)(H:∀u,Rv g.prog g.w s.heap F p u→Q u s):
  wpAny (model g.prog g.w) A (getItem (.ref a) (.int i t)) Q E s:=by
 refine xA (idxL_some h) fun hl hh=>?_
 have l1:=rs.length
 rcases hh with ⟨h0,h1',h2⟩|⟨h0,h1',h2⟩
 ·refine xEA (rs.get h2) fun u e1 e2=>?_
  exact wpAny_getItem_list pl.isList h0 (by lia) (by rw[←Array.getElem?_toList];exact e1) (H u e2)
 ·refine xEA (rs.get h2) fun u e1 e2=>?_
  exact wpAny_getItem_list_neg pl.isList h0 (by rw[←cp,l1];exact h1') (by lia) (by rw[←cp,l1,←Array.getElem?_toList];exact e1) (H u e2)
theorem sub_ok{g:Gnd}{n:Nat}(hE:SdE g n){cn:List Str}{ρ:Rho}{v i:Expr}{px:Pos}{p:PV}{env:Env}{F M:Addr→Prop}{A:Around}{E:Value→Shared→Prop}{s:Shared}{Q:Value→Shared→Prop}(hi:slcOf i=none)
  (h:psub (pown ρ v) (pe n cn ρ v) (pe n cn ρ i)=some p) (ok:AOk (n+g.K) A) (I:Inv g env ρ s.heap F M) (hcn:Cn env cn) (H:Post g.prog g.w F p s Q):wpAny (model g.prog g.w) A (eval (.Subscript v i px) env) Q E s:=by
 refine sub_gen (fun o k=> .inl (sub_shape hi o k)) ?_
 cases hown:pown ρ v with
 |some xs=>
  rw[hown]at h
  refine own_read I hown fun a vs pl hf r=>?_
  refine o1_inv (show o1 _ _=some p from h) fun k hk h=>o1_inv hk fun q hq hk=>?_
  refine hE cn ρ i q env F M A E s _ hq ok I hcn fun kv h1 t1 x1 r1=>?_
  refine xE (Rv.int_iff.mp (isI_eq hk▸r1)) fun t Y=>?_;subst Y
  have pl1:h1.PlainList a vs:=pl.at fun o ho=>x1 a o ho
  exact⟨idx_ok (s:= {s with heap:=h1,toks:=t1}) h pl1 (r.flat hf) fun u e2=>H u h1 t1 x1 e2,_,_,pl1.isList.typeIs,slot_list_getitem.lookup⟩
 |none=>
  rw[hown]at h
  refine o2_inv (show o2 _ _ _=some p from h) fun a b ha hb h=>?_
  refine hE cn ρ v a env F M A E s _ ha ok I hcn fun o h1 t1 x1 r1=>?_
  refine hE cn ρ i b env F M A E {s with heap:=h1,toks:=t1} _ hb ok (I.ext x1) hcn fun k h2 t2 x2 r2=>?_
  exact subPV_ok (s:= {s with heap:=h2,toks:=t2}) h (r1.up (x2.up F) _) r2 (H.later (x1.trans x2))
theorem pl_plain:∀{n:Nat} {cn:List Str} {ρ:Rho} {es:List Expr} {ps:List PV} {env:Env},pl n cn ρ es=some ps→((starEach es env).any fun x=>x.1)=false
 |0,_,_,_,_,_,h=>nn h
 |n+1,_,_,[],_,_,_=>rfl
 |n+1,cn,ρ,e::es,ps,env,h=>gd_inv h fun hp h=>o2_inv h fun Y Y Y h2 Y=>by rw[starEach_plain hp,List.any_cons,pl_plain h2];rfl
theorem pl_head:∀{n:Nat} {cn:List Str} {ρ:Rho} {e:Expr} {es:List Expr} {ps:List PV},pl n cn ρ (e::es)=some ps→plainArg e=true
 |0,_,_,_,_,_,h=>nn h
 |_+1,_,_,_,_,_,h=>gd_inv h fun hp Y=>hp
theorem backTo_any{px:Pos}{l:List (Bool×Sem Value)}:((backTo px l).any fun x=>x.1)=(l.any fun x=>x.1):=by
 unfold backTo
 rw[List.any_map];rfl
theorem bi_callWith{g:Gnd}{A:Around}{E:Value→Shared→Prop}{s:Shared}{env:Env}{px:Pos}{bf:BI}{a:Expr}{as:List Expr}{Q:Value→Shared→Prop}
  (key:wpAny (model g.prog g.w) A (spliced (backTo px (starEach (a::as) env))) (fun vs s₁=>wpAny (model g.prog g.w) A (call bf.val vs) Q E s₁) E s)
  (hst:starEach (a::as) env=(false,eval a env)::starEach as env) (hany:((backTo px (starEach as env)).any fun x=>x.fst)=false):
  wpAny (model g.prog g.w) A (callWith px bf.val [] (backTo px (starEach (a::as) env)) []) Q E s:=by
 cases bf
 ·exact PyProof.Rows.callWith_builtin1 key hst hany
 ·exact PyProof.Rows.callWith_type1 key hst hany
 ·exact PyProof.Rows.callWith_type1 key hst hany
 ·exact PyProof.Rows.callWith_builtin1 key hst hany
 ·exact PyProof.Rows.callWith_builtin1 key hst hany
 ·exact PyProof.Rows.callWith_builtin1 key hst hany
 ·exact PyProof.Rows.callWith_builtin1 key hst hany
 ·exact PyProof.Rows.callWith_builtin1 key hst hany
set_option maxHeartbeats 1000000 in
theorem sdE_call{g:Gnd}{n:Nat}(hEn:SdE g n)(hL:SdL g n){cn:List Str}{ρ:Rho}{f:Expr}{args:List Expr}{kws:List Keyword}{px:Pos}{p:PV}{env:Env}{F M:Addr→Prop}{A:Around}{E:Value→Shared→Prop}{s:Shared}{Q:Value→Shared→Prop}
  (h:pe (n+1) cn ρ (.Call f args kws px)=some p) (ok:AOk (n+1+g.K) A) (I:Inv g env ρ s.heap F M) (hcn:Cn env cn) (H:Post g.prog g.w F p s Q):wpAny (model g.prog g.w) A (eval (.Call f args kws px) env) Q E s:=by
 have hok:AOk (n+g.K) A:=ok.pr
 refine gd_inv (show gd kws.isEmpty _=some p from h) fun hkw h=>oe_inv h (fun x hx h=>gd_inv h fun hne h=>?_) fun h=>o1_inv h fun t ht h=>?_
 ·refine xE (nmOf_eq hx) fun p1 hf=>?_
  rw[hf,List.isEmpty_iff.mp hkw]
  cases args with
  |nil=>exact ff hne
  |cons a as=>
  refine callE_inv h (fun bf ps hx hps h=>?_) fun fp ps hx hps h=>?_
  ·refine xA (I.ents x _ hx) fun Y hd=>?_;obtain⟨hk,mg,mb,ng,en,nb,eb⟩:=Y
   refine ar (I.look_builtin hk hd ng en nb eb ?_)
   have hst:=starEach_plain (es:=as) (env:=env) (pl_head hps)
   refine bi_callWith (hL cn ρ (a::as) ps env F M A E s px _ hps hok I hcn fun vs h1 t1 x1 r1=>?_) hst ?_
   ·have I1:=I.ext x1
    exact callBI_ok (s:= {s with heap:=h1,toks:=t1}) h I1.size I1.fl hok.handled r1 (H.later x1)
   ·rw[backTo_any]
    have:=pl_plain (env:=env) hps
    rw[hst,List.any_cons]at this
    exact this
  ·refine xA (I.ents x _ hx) fun Y hd=>?_;obtain⟨hk,mg,a',o,fd,ng,e',ho,nf,hd',C⟩:=Y
   refine ar (I.look_global hk hd ng e' ?_)
   refine callWith_def hd' ?_ (starEach_plain (pl_head hps))
   refine hL cn ρ (a::as) ps env F M A E s px _ hps hok I hcn fun vs h1 t1 x1 r1=>⟨x1 _ _ ho,?_⟩
   have I1:=I.ext x1
   exact C A E {s with heap:=h1,toks:=t1} F ps vs p Q (hok.le (by lia)) I1.base I1.fl r1 h (H.later x1)
 ·rw[atOf_eq ht,List.isEmpty_iff.mp hkw]
  refine pmeth_inv h (fun k x ha hb hm ho h1 h2 er=>?_) fun a ps y ha hb hpa hm ho hp hy hl er=>?_
  ·rw[←er]at H
   rw[ha]
   rw[bp]at hb
   refine Call_method0 (base_notCall hb.1) hb.2 (hEn cn ρ t.1 _ env F M A E s _ ho hok I hcn fun v h1' t1 x1 r1=>?_)
   refine xE (Rv.str_iff.mp r1) fun u hv=>?_
   rw[hv]
   exact meth_ok (s:= {s with heap:=h1',toks:=t1}) hm h1 h2 (H.later x1)
  ·rw[←er]at H
   rw[ha,hm]
   rw[bp]at hb
   refine Call_method1 (base_notCall hb.1) (starEach_plain hpa) hb.2 (hEn cn ρ t.1 _ env F M A E s _ ho hok I hcn fun v h1 t1 x1 r1=>?_)
   refine xE (Rv.str_iff.mp r1) fun u hv=>?_
   rw[hv]
   exact join_ok (s:= {s with heap:=h1,toks:=t1}) hy hl (fun Q' H'=>hEn cn ρ a (.list ps) env F M A E {s with heap:=h1,toks:=t1} Q' hp hok (I.ext x1) hcn H') fun h2 t2 x2=>H.later (x1.trans x2)
set_option maxHeartbeats 1000000 in
theorem sdE_of{g:Gnd}{n:Nat}(hE:∀m,m≤n→SdE g m)(hT:SdT g n)(hC:∀m,m≤n→SdC g m)(hO:SdO g n)(hL:SdL g n)(hI:SdI g n)(hP:SdP g n):SdE g (n+1):=by
 intro cn ρ e p env F M A E s Q h ok I hcn H
 have hok:AOk (n+g.K) A:=ok.pr
 have hEn:=hE n (Nat.le_refl _)
 cases e with
 |Constant c k px=>exact const_ok h H
 |Name x px=>exact sdE_name h I H
 |BinOp l op r px=>
  refine o2_inv h fun a b h1 h2 h=>?_
  refine wpAny_BinOp (hEn cn ρ l a env F M A E s _ h1 hok I hcn fun v h3 t3 x3 r3=>?_)
  refine hEn cn ρ r b env F M A E {s with heap:=h3,toks:=t3} _ h2 hok (I.ext x3) hcn fun u h4 t4 x4 r4=>?_
  have I4:=(I.ext x3).ext x4
  exact binPV_ok (s:= {s with heap:=h4,toks:=t4}) h I4.size I4.fl (r3.up (x4.up F) _) r4 (H.later (x3.trans x4))
 |Compare l ops rs px=>
  refine map_inv h fun b h e=>pcmp_inv h fun op r a c e1 e2 hb h1 h2 hd hc=>?_
  subst e e1 e2
  exact wpAny_Compare1 (cmp_ok hEn h1 h2 hd hc hok I hcn fun h' t' x'=>H _ h' t' x' Rv.bool) hb
 |BoolOp op vs px=>
  refine o1_inv h fun z hz h=>o1_inv h fun a ha h=>o1_inv h fun t ht h=>?_
  rw[dbl_eq hz]
  have go:∀{v:Value} {h1:Heap},Ext s.heap h1→Rv g.prog g.w h1 F a v→∀{h2:Heap} {t2:Nat},Ext h1 h2→(sel op t=true→wpAny (model g.prog g.w) A (eval z.2 env) Q E {s with heap:=h2,toks:=t2})∧(sel op t=false→Q v {s with heap:=h2,toks:=t2}):=fun x1 r1 Y Y x2=>by
   refine⟨fun q=>?_,fun q=>?_⟩
   ·rw[q]at h;exact hEn cn ρ z.2 p env F M A E _ Q h hok ((I.ext x1).ext x2) hcn (H.later (x1.trans x2))
   ·rw[q]at h;exact H _ _ _ (x1.trans x2) (bn h▸r1.up (x2.up F) _)
  cases op with
  |And=>
   refine wpAny_And2 (hEn cn ρ z.1 a env F M A E s _ ha hok I hcn fun v h1 t1 x1 r1=>?_)
   refine truPV_ok (s:= {s with heap:=h1,toks:=t1}) ht r1 fun h2 t2 x2=>?_
   cases t with
   |true=>exact(go x1 r1 x2).1 rfl
   |false=>exact(go x1 r1 x2).2 rfl
  |Or=>
   refine wpAny_Or2 (hEn cn ρ z.1 a env F M A E s _ ha hok I hcn fun v h1 t1 x1 r1=>?_)
   refine truPV_ok (s:= {s with heap:=h1,toks:=t1}) ht r1 fun h2 t2 x2=>?_
   cases t with
   |true=>exact(go x1 r1 x2).2 rfl
   |false=>exact(go x1 r1 x2).1 rfl
 |IfExp t b o px=>
  refine o1_inv h fun c ht h=>?_
  refine wpAny_IfExp (hT cn ρ t c env F M A E s _ ht hok I hcn fun h1 t1 x1=>?_)
  cases c with
  |true=>exact hEn cn ρ b p env F M A E {s with heap:=h1,toks:=t1} Q h hok (I.ext x1) hcn (H.later x1)
  |false=>exact hEn cn ρ o p env F M A E {s with heap:=h1,toks:=t1} Q h hok (I.ext x1) hcn (H.later x1)
 |Subscript v i px=>
  refine oe_inv2 h (fun z hz h=>gd_inv h fun hst h=>o2_inv h fun a b h1 h2 h=>o1_inv h fun c h3 hr=>?_) fun hi h=>sub_ok hEn hi h hok I hcn H
  ·refine xE (slcOf_eq hz) fun pz hi=>?_
   rw[hi,Option.isNone_iff_eq_none.mp hst]
   refine sub_gen (fun o k=> .inr rfl) ?_
   refine hEn cn ρ v a env F M A E s _ h1 hok I hcn fun o h4 t4 x4 r4=>?_
   refine wpAny_Slice (hO cn ρ z.1 b env F M A E {s with heap:=h4,toks:=t4} _ h2 hok (I.ext x4) hcn fun vl h5 t5 x5 r5=>?_)
   refine hO cn ρ z.2.1 c env F M A E {s with heap:=h5,toks:=t5} _ h3 hok ((I.ext x4).ext x5) hcn fun vu h6 t6 x6 r6=>?_
   refine ah ?_
   have x7:Ext h6 (h6.push {cls:= .type "slice",data:= .fields #[vl,vu, .none] }):=Ext.push _ _
   have I7:=(((I.ext x4).ext x5).ext x6).ext x7
   exact slicePV_ok (s:= {s with heap:=h6.push {cls:= .type "slice",data:= .fields #[vl,vu, .none] },toks:=t6}) hr I7.size I7.fl (r4.up ((x5.trans (x6.trans x7)).up F) _) (r5.up ((x6.trans x7).up F) _) (r6.up (x7.up F) _)
    (bc _ rfl) (H.later (x4.trans (x5.trans (x6.trans x7))))
 |List elts px=>
  refine o1_inv h fun ps hps h=>gd_inv h fun hl h=>?_
  obtain rfl:=bn h
  have hl:=blt_lt hl
  refine wpAny_List_spliced (hL cn ρ elts ps env F M A E s px _ hps hok I hcn fun vs h1 t1 x1 r1=>?_)
  refine⟨by rw[r1.length];unfold sizeLine;lia,H _ _ _ (x1.trans (Ext.push _ _)) ?_⟩
  have I1:=I.ext x1
  exact new_list (s:= {s with heap:=h1,toks:=t1}) I1.size I1.fl r1
 |ListComp elt gens scope px=>
  cases gens with
  |nil=>exact nn h
  |cons gn gs=>
  obtain⟨tgt,iter,ifs,a⟩:=gn
  refine gd_inv (show gd (_&&newT (filtR ρ scope.names) tgt) (o1 (pit n cn ρ (isName tgt) iter) _)=some p from h) fun hc h=>o1_inv h fun items hit h=>o1_inv h fun ps hps h=>gd_inv h fun hl h=>?_
  obtain rfl:=bn h
  rw[bp,bp,bp]at hc
  refine xA hc fun Y hnew=>?_;obtain⟨⟨ha,hsc⟩,hall⟩:=Y
  obtain rfl:=beq_iff_eq.mp ha
  exact listcomp_ok hI hP hok I hcn hsc hall hit hnew hps (blt_lt hl) H
 |DictComp kx vx gens scope px=>
  refine o1_inv h fun gn hg h=>?_
  obtain⟨tgt,iter,ifs,a⟩:=gn
  obtain rfl:=sgl_eq hg
  refine gd_inv h fun hc h=>o1_inv h fun items hit h=>gd_inv h fun hl h=>o1_inv h fun z hps h=>?_
  obtain rfl:=bn h
  rw[bp,bp]at hc
  refine xA hc fun Y hnew=>?_;obtain⟨ha,hsc⟩:=Y
  obtain rfl:=beq_iff_eq.mp ha
  exact dictcomp_ok (Nat.le_succ n) hI hC hE hok I hcn hsc hit hnew hps (blt_lt hl) H
 |Call f args kws px=>exact sdE_call hEn hL h ok I hcn H
 |_=>exact nn h
structure SdAll(g:Gnd)(n:Nat):Prop where
 e:SdE g n
 t:SdT g n
 a:SdA g n
 c:SdC g n
 o:SdO g n
 l:SdL g n
 i:SdI g n
 p:SdP g n
 q:SdG g n
theorem sd_zero(g:Gnd):SdAll g 0:=by
 refine⟨?_,?_,?_,?_,?_,?_,?_,?_,?_⟩
 ·intro cn ρ e p env F M A E s Q h;exact nn h
 ·intro cn ρ e p env F M A E s Q h;exact nn h
 ·intro cn ρ op e p env F M A E s Q h;exact nn h
 ·intro cn ρ e p env F M A E s Q h;exact nn h
 ·intro cn ρ e p env F M A E s Q h;exact nn h
 ·intro cn ρ e p env F M A E s pos Q h;exact nn h
 ·intro cn ρ e tgt items env F M A E s Q h;exact nn h
 ·intro cn bk ρ elt tgt iter ifs gs rest out gens scope pos k env D I fp wr P Md St its i hb F₀ F' F M A R s acc h;exact nn h
 ·intro cn bk ρ elt gs out gens scope pos k it env D F M A R s acc h;exact nn h
theorem sd_upto(g:Gnd):∀n m,m≤n→SdAll g m
 |0,m,h=>by obtain rfl:=Nat.le_zero.mp h;exact sd_zero g
 |n+1,m,h=>by
  rcases Nat.lt_or_eq_of_le h with q|rfl
  ·exact sd_upto g n m (Nat.le_of_lt_succ q)
  ·have ih:=sd_upto g n
   have hn:=ih n (Nat.le_refl n)
   exact⟨sdE_of (fun m hm=>(ih m hm).e) hn.t (fun m hm=>(ih m hm).c) hn.o hn.l hn.i hn.p,sdT_of hn.e hn.t hn.a,sdA_of hn.t hn.a,sdC_of hn.t hn.c,sdO_of hn.e,sdL_of hn.e hn.l,sdI_of hn.e,sdP_of hn.c hn.q hn.p,sdG_of hn.e hn.i hn.p⟩
theorem sound(g:Gnd)(n:Nat):SdAll g n:=sd_upto g n n (Nat.le_refl n)
structure SC where
 cn:List Str
 bk:Str→Bool
 kl:Str→Bool
 own:Str
inductive SR where
 |next (ρ:Rho)
 |ret (p:PV)
noncomputable def augI(a b:Int):Operator→Option PV
 | .Add=>some (.int (a+b))
 | .Sub=>some (.int (a-b))
 |_=>none
noncomputable def augPV(op:Operator)(p q:PV):Option PV:=o2 (isI p) (isI q) fun a b=>augI a b op
noncomputable def compScope:Expr→Option (Scope×Nat):=pick k1 k4 k1 k1 k2 k3 k3 k3 (fun Y Y s p=>some (s,p.line)) (fun s p=>some (s,p.line)) k3 k3 none
noncomputable def swaps(sc:SC)(value:Expr)(x:Str)(px:Pos):Bool:=match compScope value with
 |some (s,ln)=>sc.kl x&&px.line==ln&&!(s.names.any fun (n,k)=>n==x&&(k== .local||k== .cell))
 |none=>false
noncomputable def swapTup(sc:SC)(x y:Str)(l1 l2:Nat)(e1 e2:Expr):Bool:=
 sc.kl x&&sc.kl y&&l1==l2&&!(x==y)&&plainArg e1&&plainArg e2&&!([e1,e2].all (foldedForSure 8))&&!([e1,e2].all (constantsAlone 8))
noncomputable def subOf:Expr→Option (Expr×Expr):=pick k1 k4 k1 k1 (fun o i=>some (o,i)) k3 k3 k3 k4 k2 k3 k3 none
theorem subOf_eq{e:Expr}{z:Expr×Expr}(h:subOf e=some z):∃p,e= .Subscript z.1 z.2 p:=
 pick_inv h n2 n4 n3 n2 (fun Y Y p q r=>⟨p,q.trans (congrArg (fun z:Expr×Expr=>Expr.Subscript z.1 z.2 p) (bn r))⟩) n4 n3 n4 n4 n4 n4
noncomputable def oVal(y:Option Ent):Option PV:=match y with
 |some (.val p)=>some p
 |_=>none
theorem oVal_inv{y:Option Ent}{p:PV}(h:oVal y=some p):y=some (.val p):=by
 rcases y with _|e
 ·exact nn h
 ·cases e<;>first|exact nn h|exact congrArg (fun z=>some (Ent.val z)) (bn h)
noncomputable def isLst:BI→Bool
 | .list=>true
 |_=>false
noncomputable def isBL(y:Option Ent):Bool:=match y with
 |some (.bi f)=>isLst f
 |_=>false
set_option tactic.hygienic true in
theorem isBL_eq{y:Option Ent}(h:isBL y=true):y=some (.bi .list):=by
 rcases y with _|e
 ·exact ff h
 ·cases e<;>try exact ff h
  rename_i f
  cases f<;>first|exact ff h|rfl
noncomputable def lisOf:Expr→Option (List Expr):=pick k1 k4 k1 some k2 k3 k3 k3 k4 k2 k3 k3 none
theorem lisOf_eq{e:Expr}{z:List Expr}(h:lisOf e=some z):∃p,e= .List z p:=
 pick_inv h n2 n4 n3 (fun Y p q r=>⟨p,q.trans (congrArg (fun z=>Expr.List z p) (bn r))⟩) n3 n4 n3 n4 n4 n4 n4
noncomputable def frR(r:Int×Int×Int):Option (List PV):=gd (okR r) (some (rangeL r.1 r.2.2 (Builtin.Range.rangeSize r.1 r.2.1 r.2.2).toNat))
noncomputable def pfresh(n:Nat)(sc:SC)(ρ:Rho)(e:Expr):Option (List PV):=oe (lisOf e) (pl n sc.cn ρ)<|o1 (calOf e) fun c=>o1 (nmOf c.1) fun x=>o1 (sgl c.2.1) fun a=>gd (plainArg a&&c.2.2.1.isEmpty) (gd (isBL (ρ.lookup x)) (o1 (o1 (pe n sc.cn ρ a) isR) frR))
noncomputable def okL(xs:List PV):Bool:=xs.all flatPV&&xs.length.blt 10000
noncomputable def pA1(n:Nat)(sc:SC)(ρ:Rho)(value:Expr)(x:Str):Option SR:=gd (sc.bk x)<|sl (x==sc.own) (o1 (pfresh n sc ρ value) fun xs=>gd (okL xs) (some (.next (setR ρ x (.own xs))))) (o1 (pe n sc.cn ρ value) fun p=>some (.next (setR ρ x (.val p))))
noncomputable def okI(xs:List PV)(q:PV)(k:Int):Bool:=flatPV q&&decide (0≤k)&&decide (k<xs.length)&&xs.length.blt 10000
noncomputable def pAI(n:Nat)(sc:SC)(ρ:Rho)(value o i:Expr):Option SR:=o1 (nmOf o) fun x=>gd (compScope value).isNone (o1 (oOwn (ρ.lookup x)) fun xs=>o2 (pe n sc.cn ρ value) (o1 (pe n sc.cn ρ i) isI) fun q k=>gd (okI xs q k) (some (.next (setR ρ x (.own (xs.set k.toNat q))))))
noncomputable def okS(sc:SC)(x y:Str):Bool:=sc.bk x&&sc.bk y&&!(x==sc.own)&&!(y==sc.own)
noncomputable def pAT(n:Nat)(sc:SC)(ρ:Rho)(value:Expr)(elts:List Expr):Option SR:=o1 (dbl elts) fun t=>o1 (tupOf value) fun vs=>o1 (dbl vs) fun e=>o1 (nmOf t.1) fun x=>o1 (nmOf t.2) fun y=>
 gd (swapTup sc x y t.1.pos.line t.2.pos.line e.1 e.2&&okS sc x y) (o2 (pe n sc.cn ρ e.1) (pe n sc.cn ρ e.2) fun a b=>some (.next (setR (setR ρ y (.val b)) x (.val a))))
noncomputable def pA2(n:Nat)(sc:SC)(ρ:Rho)(value:Expr)(ts:List Expr):Option SR:=o1 (nm2 ts) fun z=>gd (okS sc z.1 z.2) (o1 (pe n sc.cn ρ value) fun p=>some (.next (setR (setR ρ z.1 (.val p)) z.2 (.val p))))
noncomputable def pAs(n:Nat)(sc:SC)(ρ:Rho)(value:Expr)(ts:List Expr):Option SR:=oe (sgl ts) (fun t=>oe (nmOf t) (pA1 n sc ρ value)<|oe (subOf t) (fun z=>pAI n sc ρ value z.1 z.2)<|o1 (tupOf t) (pAT n sc ρ value)) (pA2 n sc ρ value ts)
noncomputable def pAug(n:Nat)(sc:SC)(ρ:Rho)(op:Operator)(value t:Expr):Option SR:=o1 (nmOf t) fun x=>gd (sc.bk x) (o2 (oVal (ρ.lookup x)) (pe n sc.cn ρ value) fun a b=>o1 (augPV op a b) fun c=>some (.next (setR ρ x (.val c))))
noncomputable def pApp(n:Nat)(sc:SC)(ρ:Rho)(f:Expr)(args:List Expr)(kws:List Keyword)(cpos:Pos):Option SR:=o1 (atOf f) fun t=>o1 (sgl args) fun a=>o1 (nmOf t.1) fun x=>gd (kws.isEmpty&&(t.2.1==br "append")&&(t.2.2.endLine==cpos.line)&&plainArg a)
 (o2 (oOwn (ρ.lookup x)) (pe n sc.cn ρ a) fun xs q=>gd (flatPV q&&xs.length.blt 10000) (some (.next (setR ρ x (.own (xs++[q]))))))
noncomputable def okT(tgt:Expr):Bool:=(nmOf tgt).isSome||(o1 (tupOf tgt) nm2).isSome
noncomputable def nxt(r:SR)(f:Rho→Option SR):Option SR:=match r with
 | .next ρ=>f ρ
 | .ret p=>some (.ret p)
mutual
noncomputable def px:Nat→SC→Rho→Stmt→Option SR
 |0,_,_,_=>none
 |n+1,sc,ρ,st=>match st with
  | .Assign ts value _=>pAs n sc ρ value ts
  | .AugAssign t op value _=>pAug n sc ρ op value t
  | .Expr e _=>o1 (calOf e) fun c=>pApp n sc ρ c.1 c.2.1 c.2.2.1 c.2.2.2
  | .If t b o _=>o1 (pt n sc.cn ρ t) fun c=>sl c (pxs n sc ρ b) (pxs n sc ρ o)
  | .While t b o _=>gd o.isEmpty (pwh n sc ρ t b)
  | .For tgt iter b o _=>gd (o.isEmpty&&okT tgt) (o1 (pit n sc.cn ρ (isName tgt) iter) fun items=>pfo n sc ρ tgt b items)
  | .Return v _=>o1 v fun e=>o1 (pe n sc.cn ρ e) fun p=>some (.ret p)
  |_=>none
noncomputable def pxs:Nat→SC→Rho→List Stmt→Option SR
 |0,_,_,_=>none
 |_+1,_,ρ,[]=>some (.next ρ)
 |n+1,sc,ρ,st::rest=>o1 (px n sc ρ st) fun r=>nxt r fun ρ'=>pxs n sc ρ' rest
noncomputable def pwh:Nat→SC→Rho→Expr→List Stmt→Option SR
 |0,_,_,_,_=>none
 |n+1,sc,ρ,t,b=>o1 (pt n sc.cn ρ t) fun c=>sl c (o1 (pxs n sc ρ b) fun r=>nxt r fun ρ'=>pwh n sc ρ' t b) (some (.next ρ))
noncomputable def pfo:Nat→SC→Rho→Expr→List Stmt→List PV→Option SR
 |0,_,_,_,_,_=>none
 |_+1,_,ρ,_,_,[]=>some (.next ρ)
 |n+1,sc,ρ,tgt,b,p::ps=>o1 (bindT (fun x=>sc.bk x&&!(x==sc.own)) tgt p ρ) fun ρ'=>o1 (pxs n sc ρ' b) fun r=>nxt r fun ρ''=>pfo n sc ρ'' tgt b ps
end
def OwnIs(ρ:Rho)(o:Str):Prop:=∀x xs,ρ.lookup x=some (.own xs)→x=o
structure SOk(g:Gnd)(env:Env)(sc:SC):Prop where
 cn:Cn env sc.cn
 bind:Bindable env sc.bk
 kl:∀x,env.kindOf x=some .local↔sc.kl x=true
 inter:interactive env=false
structure Nx(g:Gnd)(env:Env)(sc:SC)(h:Heap)(F M:Addr→Prop)(ρ':Rho)(h':Heap)(F' M':Addr→Prop):Prop where
 inv:Inv g env ρ' h' F' M'
 own:OwnIs ρ' sc.own
 m0:∀a,M' a→g.h₀.get? a=none
 fsub:∀a,F a→F' a
 fnew:∀a,F' a→F a∨h.get? a=none
 msub:∀a,M a→M' a
 mnew:∀a,M' a→M a∨h.get? a=none
 mod:Mod M h h'
theorem Nx.trans{g:Gnd}{env:Env}{sc:SC}{h h' h'':Heap}{F M F' M' F'' M'':Addr→Prop}{ρ' ρ'':Rho}(x:Nx g env sc h F M ρ' h' F' M')(y:Nx g env sc h' F' M' ρ'' h'' F'' M'')(live:∀a o,h.get? a=some o→∃o',h'.get? a=some o'):Nx g env sc h F M ρ'' h'' F'' M'':=
 {inv:=y.inv,own:=y.own,m0:=y.m0
  fsub:=fun a q=>y.fsub a (x.fsub a q)
  fnew:=fun a q=>by
   refine Or.elim (y.fnew a q) (fun q=>?_) fun q=>?_
   ·exact x.fnew a q
   ·refine .inr ?_
    cases e:h.get? a with
    |none=>rfl
    |some o=>refine xE (live a o e) fun o' ho'=>?_;rw[q]at ho';cases ho'
  msub:=fun a q=>y.msub a (x.msub a q)
  mnew:=fun a q=>by
   refine Or.elim (y.mnew a q) (fun q=>?_) fun q=>?_
   ·exact x.mnew a q
   ·refine .inr ?_
    cases e:h.get? a with
    |none=>rfl
    |some o=>refine xE (live a o e) fun o' ho'=>?_;rw[q]at ho';cases ho'
  mod:=fun a o ho nm=>y.mod a o (x.mod a o ho nm) fun q=>by
   refine Or.elim (x.mnew a q) (fun q=>?_) fun q=>?_
   ·exact nm q
   ·rw[ho]at q;exact sn q}
theorem Nx.live{g:Gnd}{env:Env}{sc:SC}{h h':Heap}{F M F' M':Addr→Prop}{ρ ρ':Rho}(x:Nx g env sc h F M ρ' h' F' M')(hM:∀a,M a→F a):∀a o,h.get? a=some o→∃o',h'.get? a=some o':=fun a o ho=>by
 by_cases q:M a
 ·exact x.inv.fl a (x.fsub a (hM a q))
 ·exact⟨o,x.mod a o ho q⟩
theorem Nx.ext{g:Gnd}{env:Env}{sc:SC}{ρ:Rho}{h h':Heap}{F M:Addr→Prop}(I:Inv g env ρ h F M)(o:OwnIs ρ sc.own)(m0:∀a,M a→g.h₀.get? a=none)(x:Ext h h'):Nx g env sc h F M ρ h' F M:=
 ⟨I.ext x,o,m0,fun Y q=>q,fun Y q=> .inl q,fun Y q=>q,fun Y q=> .inl q,x.mod M⟩
def PostS(g:Gnd)(env:Env)(sc:SC)(F M:Addr→Prop)(r:SR)(s:Shared)(Q:Flow→Shared→Prop):Prop:=match r with
 | .next ρ'=>∀h' t' F' M',Nx g env sc s.heap F M ρ' h' F' M'→Q .next {s with heap:=h',toks:=t'}
 | .ret p=>∀v h' t',Mod M s.heap h'→FL h' F→Rv g.prog g.w h' F p v→Q (.ret v) {s with heap:=h',toks:=t'}
def SxS(g:Gnd)(n:Nat):Prop:=∀(sc:SC) (ρ:Rho) (st:Stmt) (r:SR) (env:Env) (F M:Addr→Prop) (A:Around) (E:Value→Shared→Prop) (s:Shared) (Q:Flow→Shared→Prop),
 px n sc ρ st=some r→AOk (n+g.K) A→SOk g env sc→Inv g env ρ s.heap F M→OwnIs ρ sc.own→(∀a,M a→g.h₀.get? a=none)→PostS g env sc F M r s Q→wpAny (model g.prog g.w) A (exec st env) Q E s
def SxL(g:Gnd)(n:Nat):Prop:=∀(sc:SC) (ρ:Rho) (sts:List Stmt) (r:SR) (env:Env) (F M:Addr→Prop) (A:Around) (E:Value→Shared→Prop) (s:Shared) (Q:Flow→Shared→Prop),
 pxs n sc ρ sts=some r→AOk (n+g.K) A→SOk g env sc→Inv g env ρ s.heap F M→OwnIs ρ sc.own→(∀a,M a→g.h₀.get? a=none)→PostS g env sc F M r s Q→wpAny (model g.prog g.w) A (execs sts env) Q E s
theorem PostS.after{g:Gnd}{env:Env}{sc:SC}{F M F' M':Addr→Prop}{ρ':Rho}{r:SR}{s:Shared}{h':Heap}{t':Nat}{Q:Flow→Shared→Prop}(H:PostS g env sc F M r s Q)(hM:∀a,M a→F a)(x:Nx g env sc s.heap F M ρ' h' F' M'):PostS g env sc F' M' r {s with heap:=h',toks:=t'} Q:=by
 have lv:=x.live (ρ:=ρ') hM
 cases r with
 |next ρ''=>exact fun h'' t'' F'' M'' y=>H h'' t'' F'' M'' (x.trans y lv)
 |ret p=>
  intro v h'' t'' m fl r
  have U:Up h'' F' h'' F:=fun a o ho nf=>⟨fun q=>nf (x.fsub a q),ho⟩
  refine H v h'' t'' (fun a o ho nm=>m a o (x.mod a o ho nm) fun q=>?_) (fun a q=>fl a (x.fsub a q)) (r.up U _)
  refine Or.elim (x.mnew a q) (fun q=>?_) fun q=>?_
  ·exact nm q
  ·rw[ho]at q;cases q
theorem sxL_of{g:Gnd}{n:Nat}(hS:SxS g n)(hL:SxL g n):SxL g (n+1):=by
 intro sc ρ sts r env F M A E s Q h ok S I o m0 H
 have hok:AOk (n+g.K) A:=ok.pr
 cases sts with
 |nil=>
  obtain rfl:=bn h
  exact ag (H s.heap s.toks F M (Nx.ext I o m0 (Ext.refl _)))
 |cons st rest=>
  refine o1_inv h fun r1 hst h=>?_
  cases r1 with
  |next ρ'=>
   refine af (hS sc ρ st (.next ρ') env F M A E s _ hst hok S I o m0 fun h' t' F' M' x=>?_)
   exact hL sc ρ' rest r env F' M' A E {s with heap:=h',toks:=t'} Q h hok S x.inv x.own x.m0 (H.after I.sub x)
  |ret p=>
   obtain rfl:=bn h
   exact af (hS sc ρ st (.ret p) env F M A E s _ hst hok S I o m0 fun v h' t' m fl r=>H v h' t' m fl r)
theorem OwnIs.setVal{ρ:Rho}{o:Str}(h:OwnIs ρ o){x:Str}{p:PV}:OwnIs (setR ρ x (.val p)) o:=fun y ys e=>by
 rw[setR_lookup]at e
 by_cases q:y=x
 ·rw[if_pos q]at e;cases e
 ·rw[if_neg q]at e;exact h y ys e
theorem OwnIs.setOwn{ρ:Rho}{o:Str}(h:OwnIs ρ o){xs:List PV}:OwnIs (setR ρ o (.own xs)) o:=fun y ys e=>by
 rw[setR_lookup]at e
 by_cases q:y=o
 ·exact q
 ·rw[if_neg q]at e;exact h y ys e
theorem st_store{g:Gnd}{env:Env}{sc:SC}{ρ:Rho}{s:Shared}{A:Around}{E:Value→Shared→Prop}{F M:Addr→Prop}(S:SOk g env sc)(I:Inv g env ρ s.heap F M)(o:OwnIs ρ sc.own)(m0:∀a,M a→g.h₀.get? a=none){x:Str}{v:Value}{p:PV}{Q:Unit→Shared→Prop}
  (hx:sc.bk x=true) (r:Rv g.prog g.w s.heap F p v) (H:∀h' t',Nx g env sc s.heap F M (setR ρ x (.val p)) h' F M→Q () {s with heap:=h',toks:=t'}):wpAny (model g.prog g.w) A (storeName env x v) Q E s:=by
 have oM:∀a,Own env sc.bk a→M a:=fun a q=>by
  rcases q with rfl|⟨n,_,q⟩
  ·exact I.mloc
  ·exact(I.cel n a q).1
 exact store_own I S.bind hx (fun a q=>m0 a (oM a q)) r fun h' t' m I'=>H h' t' ⟨I',o.setVal,m0,fun Y q=>q,fun Y q=> .inl q,fun Y q=>q,fun Y q=> .inl q,m.mono oM⟩
theorem swaps_eq{g:Gnd}{env:Env}{sc:SC}{ρ:Rho}{h:Heap}{F M:Addr→Prop}(S:SOk g env sc)(I:Inv g env ρ h F M)(value:Expr)(x:Str)(p1:Pos)(ln:Nat):swapsWith value (some (.Name x p1)) ln env=pure (swaps sc value x p1):=by
 have hb:(env.blockKind== .function)=true:=by unfold Env.blockKind;rw[I.kind];rfl
 have hk:(env.kindOf x==some .local)=sc.kl x:=by
  rw[Bool.eq_iff_iff,beq_iff_eq];exact S.kl x
 unfold swapsWith swaps compScope
 cases value<;>first
  |rfl
  |(show(pure (env.blockKind== .function&&env.kindOf x==some .local&&_&&_):Sem Bool)=_
    rw[hb,hk]
    simp only[Bool.true_and]
    rfl)
theorem use_ok{g:Gnd}{n:Nat}{cn:List Str}{ρ:Rho}{value:Expr}{p:PV}{env:Env}{F M:Addr→Prop}{A:Around}{E:Value→Shared→Prop}{s:Shared}{u:Value→Sem Unit}{Q:Unit→Shared→Prop}(hc:(compScope value).isSome=true)
  (h:pe n cn ρ value=some p) (ok:AOk (n+g.K) A) (I:Inv g env ρ s.heap F M) (hcn:Cn env cn)
  (H:∀D C h' t',Ext s.heap h'→s.heap.get? C=none→(∃m,h'.Ns C m)→Rv g.prog g.w h' (fun a=>F a∨a=C) p (.ref D)→
   wpAny (model g.prog g.w) A (u (.ref D)) (fun Y s''=>∃m,s''.heap.Ns C m∧∀h'',Heap.SameBut C s''.heap h''→Q () {s'' with heap:=h''}) E {s with heap:=h',toks:=t'}):
  wpAny (model g.prog g.w) A (evalThenUse value env u) Q E s:=by
 cases n with
 |zero=>exact nn h
 |succ n=>
 have hok:AOk (n+g.K) A:=ok.pr
 have al:=sound g n
 cases value with
 |ListComp elt gens scope px=>
  cases gens with
  |nil=>exact nn h
  |cons gn gs=>
  obtain⟨tgt,iter,ifs,a⟩:=gn
  refine gd_inv (show gd (_&&newT (filtR ρ scope.names) tgt) (o1 (pit n cn ρ (isName tgt) iter) _)=some p from h) fun hc h=>o1_inv h fun items hit h=>o1_inv h fun ps hps h=>gd_inv h fun hl h=>?_
  obtain rfl:=bn h
  rw[bp,bp,bp]at hc
  refine xA hc fun Y hnew=>?_;refine xA Y fun Y hall=>?_;obtain⟨ha,hsc⟩:=Y
  obtain rfl:=beq_iff_eq.mp ha
  refine xEAA (listcomp_core (E:=E) (pos:=px) al.i al.p hok I hcn hsc hall hit hnew hps (blt_lt hl) (PP:=fun D C s'=>wpAny (model g.prog g.w) A (u (.ref D)) (fun Y s''=>∃m,s''.heap.Ns C m∧∀h'',Heap.SameBut C s''.heap h''→Q () {s'' with heap:=h''}) E s') H) fun cl hcl hf hw=>?_
  refine xA (scope_facts hsc) fun hk hn=>?_
  show wpAny _ A (comprehension (.ListComp elt (⟨tgt,iter,ifs,0⟩::gs) scope px) scope env iter.pos (newList []) false (eval iter env) (some u)>>=fun Y=>pure ()) Q E s
  refine ac (wpAny_comprehension_free (use:=some u) (Q:=fun Y s'=>wpAny (model g.prog g.w) A (pure ():Sem Unit) Q E s') (g:=⟨tgt,iter,ifs,0⟩) (gs:=gs) rfl hf hcl hk hn ?_)
  refine aj hw (fun x s₁ h₁=>aj h₁ (fun it s₂ h₂=>aj h₂ (fun acc s₃ h₃=>aj h₃ (fun cenv s₄ h₄=>codeAny_mono h₄ fun r s' hr=>?_) fun Y Y e=>e) fun Y Y e=>e) fun Y Y e=>e) fun Y Y e=>e
  obtain⟨rfl,D,rfl,hr⟩:=hr
  exact aj hr (fun _ s'' Y=>xEA Y fun m a b=>⟨m,a,fun h' hs=>ah (b h' hs)⟩) fun Y Y e=>e
 |SetComp=>exact nn h
 |DictComp kx vx gens scope px=>
  refine o1_inv h fun gn hg h=>?_
  obtain⟨tgt,iter,ifs,a⟩:=gn
  obtain rfl:=sgl_eq hg
  refine gd_inv h fun hc h=>o1_inv h fun items hit h=>gd_inv h fun hl h=>o1_inv h fun z hps h=>?_
  obtain rfl:=bn h
  rw[bp,bp]at hc
  refine xA hc fun Y hnew=>?_;refine xA Y fun ha hsc=>?_
  obtain rfl:=beq_iff_eq.mp ha
  refine xEAA (dictcomp_core (E:=E) (pos:=px) (N:=n) (Nat.le_succ n) al.i (fun m Y=>(sound g m).c) (fun m Y=>(sound g m).e) hok I hcn hsc hit hnew hps (blt_lt hl) (PP:=fun D C s'=>wpAny (model g.prog g.w) A (u (.ref D)) (fun Y s''=>∃m,s''.heap.Ns C m∧∀h'',Heap.SameBut C s''.heap h''→Q () {s'' with heap:=h''}) E s') H) fun cl hcl hf hw=>?_
  refine xA (scope_facts hsc) fun hk hn=>?_
  show wpAny _ A (comprehension (.DictComp kx vx [⟨tgt,iter,ifs,0⟩] scope px) scope env iter.pos newDict false (eval iter env) (some u)>>=fun Y=>pure ()) Q E s
  refine ac (wpAny_comprehension_free (use:=some u) (Q:=fun Y s'=>wpAny (model g.prog g.w) A (pure ():Sem Unit) Q E s') (g:=⟨tgt,iter,ifs,0⟩) (gs:=[]) rfl hf hcl hk hn ?_)
  refine aj hw (fun x s₁ h₁=>aj h₁ (fun it s₂ h₂=>aj h₂ (fun acc s₃ h₃=>aj h₃ (fun cenv s₄ h₄=>codeAny_mono h₄ fun r s' hr=>?_) fun Y Y e=>e) fun Y Y e=>e) fun Y Y e=>e) fun Y Y e=>e
  obtain⟨rfl,D,rfl,hr⟩:=hr
  exact aj hr (fun _ s'' Y=>xEA Y fun m a b=>⟨m,a,fun h' hs=>ah (b h' hs)⟩) fun Y Y e=>e
 |_=>exact ff hc
theorem assign_val{g:Gnd}{n:Nat}{env:Env}{sc:SC}{ρ:Rho}{value:Expr}{x:Str}{p1 pos:Pos}{p:PV}{F M:Addr→Prop}{A:Around}{E:Value→Shared→Prop}{s:Shared}{Q:Flow→Shared→Prop}(h:pe n sc.cn ρ value=some p)(hx:sc.bk x=true)
  (ok:AOk (n+g.K) A) (S:SOk g env sc) (I:Inv g env ρ s.heap F M) (o:OwnIs ρ sc.own) (m0:∀a,M a→g.h₀.get? a=none)
  (H:∀h' t',Nx g env sc s.heap F M (setR ρ x (.val p)) h' F M→Q .next {s with heap:=h',toks:=t'}):wpAny (model g.prog g.w) A (exec (.Assign [.Name x p1] value pos) env) Q E s:=by
 have hs:=swaps_eq S I value x p1 pos.line
 cases hsw:swaps sc value x p1 with
 |false=>
  rw[hsw]at hs
  refine aq ((sound g n).e sc.cn ρ value p env F M A E s _ h ok I S.cn fun v h1 t1 x1 r1=>?_) hs
  exact st_store (s:= {s with heap:=h1,toks:=t1}) S (I.ext x1) o m0 hx r1 fun h2 t2 nx=>H h2 t2 ((Nx.ext I o m0 x1).trans nx fun a o' ho=>⟨o',x1 a o' ho⟩)
 |true=>
  rw[hsw]at hs
  rw[exec_Assign_Name_used x p1 value pos hs]
  have hcs:(compScope value).isSome=true:=by
   unfold swaps at hsw
   cases hq:compScope value with
   |none=>rw[hq]at hsw;exact ff hsw
   |some=>rfl
  refine ac (aw (ac (use_ok hcs h ok I S.cn fun D C h1 t1 x1 fr Y r1=>xE Y fun m nm=>?_)))
  let F1:Addr→Prop:=fun a=>F a∨a=C
  have hCM:¬M C:=fun q=>by refine xE (I.fl C (I.sub C q)) fun o' ho=>?_;rw[fr]at ho;cases ho
  have I1:Inv g env ρ h1 F1 M:=I.grow x1 (fun a q=> .inl q) (fun a o' ho nf=>by
   rintro (q|q)
   ·exact nf q
   ·subst q;rw[fr]at ho;exact nn ho) (by
   rintro a (q|q)
   ·exact(I.fl.ext x1) a q
   ·subst q;refine xEEEA nm fun o' Y Y ho Y=>?_;exact⟨o',ho⟩) (fun Y q=>q) fun a q=> .inl (I.sub a q)
  refine wpAny_assign_Name (st_store (s:= {s with heap:=h1,toks:=t1}) S I1 o m0 hx r1 fun h2 t2 nx=>⟨m,nm.at' fun o' ho=>nx.mod C o' ho hCM,fun h3 hs3=>ah (H h3 t2 ?_)⟩)
  have k3:∀a o',a≠C→h2.get? a=some o'→h3.get? a=some o':=fun a o' ne ho=>hs3.extBut a o' ne ho
  have fl3:FL h3 F:=fun a q=>by
   refine xE (nx.inv.fl a (.inl q)) fun o' ho=>?_
   refine⟨o',k3 a o' (fun e=>?_) ho⟩
   subst e
   refine xE (I.fl _ q) fun o'' ho''=>?_;rw[fr]at ho'';cases ho''
  have hC0:g.h₀.get? C=none:=by
   cases e:g.h₀.get? C with
   |none=>rfl
   |some o'=>rw[I.base C o' e]at fr;cases fr
  refine⟨nx.inv.chgM (fun a o' ho nf=>⟨fun q=>nf (.inl q),k3 a o' (fun e=>nf (.inr e)) ho⟩) (fun a q o' ho=>k3 a o' (fun e=>hCM (e▸q)) ho) (fun a o' ho=>k3 a o' (fun e=>by rw[e,hC0]at ho;exact nn ho) (nx.inv.base a o' ho)) fl3 (fun Y q=>q) I.sub,nx.own,m0,fun Y q=>q,fun Y q=> .inl q,fun Y q=>q,fun Y q=> .inl q,fun a o' ho nm'=>?_⟩
  exact k3 a o' (fun e=>by subst e;rw[fr]at ho;exact nn ho) (nx.mod a o' (x1 a o' ho) nm')
theorem own_change{g:Gnd}{env:Env}{sc:SC}{ρ:Rho}{h h':Heap}{F M:Addr→Prop}{x:Str}{xs xs':List PV}{a:Addr}{vs':Array Value}(I:Inv g env ρ h F M)(o:OwnIs ρ sc.own)(m0:∀a,M a→g.h₀.get? a=none)
  (hx:ρ.lookup x=some (.own xs)) (va:VarAt h env x (.ref a)) (hma:M a) (hal:a≠env.locals) (hac:∀n c,env.cells.lookup n=some c→a≠c) (hsm:(a==sysModules)=false) (pl:h'.PlainList a vs') (hs:Heap.SameBut a h h') (hf:xs'.all flatPV=true) (r:Rvs g.prog g.w h' F xs' vs'.toList):
  Nx g env sc h F M (setR ρ x (.own xs')) h' F M:=by
 have hxo:=o x xs hx
 have kp:∀b o',b≠a→h.get? b=some o'→h'.get? b=some o':=fun b o' ne ho=>hs.extBut b o' ne ho
 have hF:=I.sub a hma
 have U:Up h F h' F:=fun b o' ho nf=>⟨nf,kp b o' (fun q=>nf (q▸hF)) ho⟩
 have fl':FL h' F:=fun b q=>by
  by_cases e:b=a
  ·subst e;refine xE pl fun n ho=>?_;exact⟨_,ho⟩
  ·refine xE (I.fl b q) fun o' ho=>?_;exact⟨o',kp b o' e ho⟩
 have hO:∀b,(b=env.locals∨∃n,env.cells.lookup n=some b)→∀o',h.get? b=some o'→h'.get? b=some o':=fun b q o' ho=>kp b o' (fun e=>by
  subst e
  refine Or.elim q (fun q=>?_) fun Y=>xE Y fun n q=>?_
  ·exact hal q
  ·exact hac n _ q rfl) ho
 have hB:Ext g.h₀ h':=fun b o' ho=>kp b o' (fun e=>by rw[e,m0 a hma]at ho;exact nn ho) (I.base b o' ho)
 refine⟨I.re U hO hB fl' (fun Y q=>q) I.sub fun y e hy=>?_,by rw[hxo];exact o.setOwn,m0,fun Y q=>q,fun Y q=> .inl q,fun Y q=>q,fun Y q=> .inl q,fun b o' ho nm=>kp b o' (fun e=>nm (e▸hma)) ho⟩
 rw[setR_lookup]at hy
 by_cases q:y=x
 ·subst q
  rw[if_pos rfl]at hy
  obtain rfl:=bn hy
  exact⟨⟨a,vs',va.keep hO,hma,hal,hac,hsm,pl,hf,r⟩,(I.ents _ _ hx).2⟩
 ·rw[if_neg q]at hy
  refine xA (I.ents y e hy) fun ok hd=>?_
  exact⟨ok.keep (by cases e<;>first|rfl|exact absurd ((o y _ hy).trans hxo.symm) q) U I.glob I.blt fun v=>VarAt.keep hO,hd⟩
theorem fresh_ok{g:Gnd}{n:Nat}{env:Env}{sc:SC}{ρ:Rho}{value:Expr}{xs:List PV}{F M:Addr→Prop}{A:Around}{E:Value→Shared→Prop}{s:Shared}{Q:Value→Shared→Prop}(h:pfresh n sc ρ value=some xs)
  (hl:xs.length<10000) (ok:AOk (n+g.K) A) (S:SOk g env sc) (I:Inv g env ρ s.heap F M)
  (H:∀a vs h' t',Ext s.heap h'→s.heap.get? a=none→sysModules<a→h'.PlainList a vs→Rvs g.prog g.w h' F xs vs.toList→Q (.ref a) {s with heap:=h',toks:=t'}):
  compScope value=none∧wpAny (model g.prog g.w) A (eval value env) Q E s:=by
 have size:∀{h1:Heap},Ext s.heap h1→sysModules<h1.objs.size:=fun x1=>by
  refine xEEA I.low fun b o' l ho=>?_
  exact Nat.lt_of_le_of_lt l (bh (x1 _ _ (I.base _ _ ho)))
 have none1:∀{h1:Heap},Ext s.heap h1→s.heap.get? h1.objs.size=none:=fun {h1} x1=>by
  cases e:s.heap.get? h1.objs.size with
  |none=>rfl
  |some o'=>exact absurd (bh (x1 _ _ e)) (Nat.lt_irrefl _)
 refine oe_inv h (fun elts he h=>?_) fun h=>o1_inv h fun c hcl h=>?_
 ·refine xE (lisOf_eq he) fun px he=>?_
  rw[he]
  refine⟨rfl,wpAny_List_spliced ((sound g n).l sc.cn ρ elts xs env F M A E s px _ h ok I S.cn fun vs h1 t1 x1 r1=>?_)⟩
  refine⟨by rw[r1.length];unfold sizeLine;lia,H _ vs.toArray _ _ (x1.trans (Ext.push _ _)) (none1 x1) (size x1) ⟨0,bc _ rfl⟩ ?_⟩
  exact Rvs.up ((Ext.push _ _).up F) _ r1
 ·rw[calOf_eq hcl]
  refine⟨rfl,?_⟩
  refine o1_inv h fun x hf h=>o1_inv h fun a ha h=>gd_inv h fun hc h=>gd_inv h fun hx h=>o1_inv h fun r hr h=>gd_inv h fun hk h=>o1_inv hr fun q hq hr=>?_
  obtain rfl:=bn h
  refine xE (nmOf_eq hf) fun p1 hf=>?_
  rw[bp]at hc
  refine xA hc fun hpa hkw=>?_
  rw[hf,sgl_eq ha,List.isEmpty_iff.mp hkw]
  simp only[okR,bp,decide_eq_true_eq]at hk
  refine xA hk fun Y h3=>?_;refine xA Y fun h1 h2=>?_
  refine xA (I.ents x _ (isBL_eq hx)) fun Y hd=>?_;refine xA Y fun hk Y=>?_;refine xEEAAA Y fun mg mb ng en nb eb=>?_
  refine ar (I.look_builtin hk hd ng en nb eb ?_)
  rw[starEach_plain hpa]
  refine PySem.callWith_type1 ((sound g n).e sc.cn ρ a _ env F M A E s _ hq ok I S.cn fun v h4 t4 x4 r4=>?_)
  refine xEEEEAA (Rv.range_iff.mp (isR_eq hr▸r4)) fun q t u z Y nf ir=>?_;subst Y
  refine call_list_range (s:= {s with heap:=h4,toks:=t4}) (n:=(Builtin.Range.rangeSize r.1 r.2.1 r.2.2).toNat) ok.handled ir h1 (by lia) (by lia) (fun h' tk acc' c' hk' ho hi=>?_)
  refine H _ acc' h' tk (x4.trans hk') (none1 x4) (size x4) ⟨c',ho⟩ (Rvs.of_get (by rw[cp,hi.1,rangeL_length]) fun i' p v h5 h6=>?_)
  rw[Array.getElem?_toList]at h6
  refine xE (hi.2 i' v h6) fun u' Y=>?_;subst Y
  rw[rangeL_get _ _ _ _ _ h5]
  exact Rv.int
theorem assign_own{g:Gnd}{n:Nat}{env:Env}{sc:SC}{ρ:Rho}{value:Expr}{p1 pos:Pos}{xs:List PV}{F M:Addr→Prop}{A:Around}{E:Value→Shared→Prop}{s:Shared}{Q:Flow→Shared→Prop}(h:pfresh n sc ρ value=some xs)(hx:sc.bk sc.own=true)
  (hf:xs.all flatPV=true) (hl:xs.length<10000) (ok:AOk (n+g.K) A) (S:SOk g env sc) (I:Inv g env ρ s.heap F M) (o:OwnIs ρ sc.own) (m0:∀a,M a→g.h₀.get? a=none)
  (H:∀h' t' F' M',Nx g env sc s.heap F M (setR ρ sc.own (.own xs)) h' F' M'→Q .next {s with heap:=h',toks:=t'}):wpAny (model g.prog g.w) A (exec (.Assign [.Name sc.own p1] value pos) env) Q E s:=by
 have hs:=swaps_eq S I value sc.own p1 pos.line
 obtain⟨hcs,hw⟩:=fresh_ok (E:=E) (Q:=fun v s₁=>wpAny (model g.prog g.w) A (storeName env sc.own v) (fun Y=>Q .next) E s₁) h hl ok S I fun a vs h1 t1 x1 fr hsm pl r1=>by
  let F1:Addr→Prop:=fun b=>F b∨b=a
  let M1:Addr→Prop:=fun b=>M b∨b=a
  have live:h1.get? a≠none:=by refine xE pl fun n' ho=>?_;rw[ho];exact fun q=>nomatch q
  have na:∀b,(∃o',s.heap.get? b=some o')→a≠b:=fun b Y e=>xE Y fun o' ho=>by subst e;rw[fr]at ho;cases ho
  have I1:Inv g env ρ h1 F1 M1:=I.grow x1 (fun b q=> .inl q) (fun b o' ho nf=>by
   rintro (q|q)
   ·exact nf q
   ·subst q;rw[fr]at ho;exact nn ho) (by
   rintro b (q|q)
   ·exact(I.fl.ext x1) b q
   ·subst q;refine xE pl fun n' ho=>?_;exact⟨_,ho⟩) (fun b q=> .inl q) (by
   rintro b (q|q)
   ·exact .inl (I.sub b q)
   ·exact .inr q)
  have hal:a≠env.locals:=by refine xEEEEA I.loc fun m o' Y Y ho Y=>?_;exact na _ ⟨o',ho⟩
  have hac:∀n c,env.cells.lookup n=some c→a≠c:=fun n c hc=>by refine xAAE (I.cel n c hc) fun Y9 Y9 v Y=>?_;refine xEA Y fun o' ho Y9=>?_;exact na _ ⟨o',ho⟩
  have a0:g.h₀.get? a=none:=by
   cases e:g.h₀.get? a with
   |none=>rfl
   |some o'=>rw[I.base a o' e]at fr;cases fr
  have m1:∀b,M1 b→g.h₀.get? b=none:=by
   rintro b (q|q)
   ·exact m0 b q
   ·subst q;exact a0
  refine xA (S.bind _ hx) fun hk hd=>?_
  have fin:∀h' t' z,M z→Heap.SameBut z h1 h'→(z=env.locals∨env.cells.lookup sc.own=some z)→(∃m',h'.Ns env.locals m'∧∀m,h1.Ns env.locals m→∀y,y≠sc.own→m' y=m y)→(∀c,env.cells.lookup sc.own=some c→∃v,h'.IsCell c v)→VarAt h' env sc.own (.ref a)→
    Q .next {s with heap:=h',toks:=t'}:=fun h' t' z hz hsb hzl hloc hcel va=>by
   have haz:a≠z:=by
    rcases hzl with q|q
    ·exact q▸hal
    ·exact hac _ _ q
   have pl':h'.PlainList a vs:=pl.at fun o' ho=>hsb.extBut a o' haz ho
   refine H h' t' F1 M1 ⟨I1.store (v:= .ref a) hzl hsb (m0 z hz) hd hloc hcel ⟨a,vs,va, .inr rfl,hal,hac,beq_eq_false_iff_ne.mpr (Nat.ne_of_gt hsm),pl',hf,r1.flat hf⟩,o.setOwn,m1,fun b q=> .inl q,?_,fun b q=> .inl q,?_,fun b o' ho nm=>hsb.extBut b o' (fun e=>nm (e▸hz)) (x1 b o' ho)⟩
   ·rintro b (q|q)
    ·exact .inl q
    ·subst q;exact .inr fr
   ·rintro b (q|q)
    ·exact .inl q
    ·subst q;exact .inr fr
  refine Or.elim hk (fun hk=>?_) fun Y=>xA Y fun hk hc=>?_
  ·refine xE I1.loc fun m nn=>?_
   refine wpAny_storeName_local (s:= {s with heap:=h1,toks:=t1}) hk nn (fun h' n' hsb=>?_) (by rw[I.kind];rfl)
   exact fin h' _ _ I.mloc hsb (.inl rfl) ⟨_,n',fun m₂ n₂ y hy=>by rw[if_neg hy];exact nn.agree n₂ y⟩ (fun c hc=>let ⟨_,b,u,i⟩:=I1.cel _ c hc;⟨u,i.sameBut hsb b⟩) (.inl ⟨hk,_,n',by simp⟩)
  ·refine xE (Option.isSome_iff_exists.mp hc) fun c hc=>?_
   refine xAAE (I1.cel _ c hc) fun ma b u i=>?_
   refine xE I1.loc fun m nn=>?_
   refine wpAny_storeName_cell (s:= {s with heap:=h1,toks:=t1}) I.kind hk hc i fun h' i' hsb=>?_
   exact fin h' _ _ (I.cel _ c hc).1 hsb (.inr hc) ⟨m,nn.sameBut hsb (Ne.symm b),fun m₂ n₂ y hy=>nn.agree n₂ y⟩ (fun c' hc'=>by rw[hc]at hc';cases hc';exact⟨_,i'⟩) (.inr (.inl ⟨hk,c,hc,i'⟩))
 refine aq hw (hs.trans ?_)
 unfold swaps;rw[hcs]
theorem Rvs.set{prog:Program}{w:World}{h:Heap}{F:Addr→Prop}{ps:List PV}{vs:List Value}{k:Nat}{p:PV}{v:Value}(r:Rvs prog w h F ps vs)(rv:Rv prog w h F p v):Rvs prog w h F (ps.set k p) (vs.set k v):=by
 refine Rvs.of_get (by simp[r.length]) fun i q u h1 h2=>?_
 rw[List.getElem?_set]at h1 h2
 by_cases e:k=i
 ·subst e
  simp only[if_true]at h1 h2
  split at h1
  ·rename_i hk
   rw[if_pos (by rw[r.length];exact hk)]at h2
   cases h1;cases h2;exact rv
  ·exact nn h1
 ·rw[if_neg e]at h1 h2
  refine xEA (r.get h1) fun u' a b=>?_
  rw[a]at h2;cases h2;exact b
theorem all_set{p:PV→Bool}:∀{xs:List PV} {k:Nat} {q:PV},xs.all p=true→p q=true→(xs.set k q).all p=true
 |[],_,_,_,_=>rfl
 |x::xs,0,q,h,hq=>by simp only[List.all_cons,bp,List.set_cons_zero]at h⊢;exact⟨hq,h.2⟩
 |x::xs,k+1,q,h,hq=>by simp only[List.all_cons,bp,List.set_cons_succ]at h⊢;exact⟨h.1,all_set h.2 hq⟩
theorem assign_item{g:Gnd}{n:Nat}{env:Env}{sc:SC}{ρ:Rho}{value i:Expr}{x:Str}{p1 p2 pos:Pos}{xs:List PV}{q:PV}{k:Int}{F M:Addr→Prop}{A:Around}{E:Value→Shared→Prop}{s:Shared}{Q:Flow→Shared→Prop}
  (hx:ρ.lookup x=some (.own xs)) (h1:pe n sc.cn ρ value=some q) (h2:pe n sc.cn ρ i=some (.int k)) (hq:flatPV q=true) (h0:0≤k) (hk:k<xs.length) (hl:xs.length<10000)
  (ok:AOk (n+g.K) A) (S:SOk g env sc) (I:Inv g env ρ s.heap F M) (o:OwnIs ρ sc.own) (m0:∀a,M a→g.h₀.get? a=none)
  (H:∀h' t',Nx g env sc s.heap F M (setR ρ x (.own (xs.set k.toNat q))) h' F M→Q .next {s with heap:=h',toks:=t'}):wpAny (model g.prog g.w) A (exec (.Assign [.Subscript (.Name x p1) i p2] value pos) env) Q E s:=by
 refine wpAny_Assign_Subscript ((sound g n).e sc.cn ρ value q env F M A E s _ h1 ok I S.cn fun v h3 t3 x3 r3=>?_) ?_
 ·have I3:=I.ext x3
  refine xA (I3.ents x _ hx) fun Y hd=>?_;refine xEEAAAA Y fun a vs va ma hal hac Y=>?_;refine xAAA Y fun hsm pl hf r=>?_
  refine wpAny_Name (va.load I.kind ?_) hd
  refine(sound g n).e sc.cn ρ i (.int k) env F M A E {s with heap:=h3,toks:=t3} _ h2 ok I3 S.cn fun kv h4 t4 x4 r4=>?_
  refine xE (Rv.int_iff.mp r4) fun t Y=>?_;subst Y
  have I4:=I3.ext x4
  refine xE (pl.at fun o' ho=>x4 a o' ho:h4.PlainList a vs) fun nn ho=>?_
  have l1:=r.length
  have hsz:vs.size=xs.length:=by rw[←cp,l1]
  refine ki_setAt (s:= {s with heap:=h4,toks:=t4}) ho h0 (by lia) (by rw[hsz];exact hk) ?_
  have hsb:Heap.SameBut a h4 (h4.update a (Obj.mapSeq (·.setIfInBounds k.toNat v))):=Heap.SameBut.update ..
  have pl5:(h4.update a (Obj.mapSeq (·.setIfInBounds k.toNat v))).PlainList a (vs.setIfInBounds k.toNat v):=by
   refine⟨nn,?_⟩
   have e:Obj.mapSeq (·.setIfInBounds k.toNat v) (W.listOf vs nn)= {cls:= .type "list",data:= .seq (vs.setIfInBounds k.toNat v) nn}:=by simp[Obj.mapSeq,W.listOf]
   rw[Heap.get?_update_self _ ho (by rw[e];rfl),e]
  have nx:=own_change (sc:=sc) (xs':=xs.set k.toNat q) I4 o m0 hx (va.ext x4) ma hal hac hsm pl5 hsb (all_set hf hq) (by
   rw[Array.toList_setIfInBounds]
   exact(r.flat hf).set (r3.flat hq))
  exact H _ _ ((Nx.ext I o m0 (x3.trans x4)).trans nx fun b o' hb=>⟨o',(x3.trans x4) b o' hb⟩)
 ·unfold swapsWith
  cases value<;>rfl
theorem append_own{g:Gnd}{n:Nat}{env:Env}{sc:SC}{ρ:Rho}{a:Expr}{x:Str}{p1 apos cpos pos:Pos}{xs:List PV}{q:PV}{F M:Addr→Prop}{A:Around}{E:Value→Shared→Prop}{s:Shared}{Q:Flow→Shared→Prop}
  (hx:ρ.lookup x=some (.own xs)) (h1:pe n sc.cn ρ a=some q) (hq:flatPV q=true) (hl:xs.length<10000) (hline:(apos.endLine==cpos.line)=true) (hpa:plainArg a=true)
  (ok:AOk (n+g.K) A) (S:SOk g env sc) (I:Inv g env ρ s.heap F M) (o:OwnIs ρ sc.own) (m0:∀a,M a→g.h₀.get? a=none)
  (H:∀h' t',Nx g env sc s.heap F M (setR ρ x (.own (xs++[q]))) h' F M→Q .next {s with heap:=h',toks:=t'}):wpAny (model g.prog g.w) A (exec (.Expr (.Call (.Attribute (.Name x p1) (br "append") apos) [a] [] cpos) pos) env) Q E s:=by
 refine ay ?_ S.inter rfl
 have hst:=starEach_plain (es:=[]) (env:=env) hpa
 refine xA (I.ents x _ hx) fun Y hd=>?_;refine xEEAAAA Y fun b vs va ma hal hac Y=>?_;refine xAAA Y fun hsm pl hf r=>?_
 refine xE (id pl) fun nn ho=>?_
 refine wpAny_Call_append rfl (by rw[hst];rfl) hline (by rw[hst];rfl) (wpAny_Name (va.load I.kind ⟨b,vs,rfl,⟨_,nn,ho,rfl,rfl,rfl⟩,?_⟩) hd)
 refine(sound g n).e sc.cn ρ a q env F M A E s _ h1 ok I S.cn fun v h3 t3 x3 r3=>?_
 have I3:=I.ext x3
 have pl3:h3.PlainList b vs:=pl.at fun o' ho=>x3 b o' ho
 refine wpAny_list_append_plain (s:= {s with heap:=h3,toks:=t3}) pl3 (fun h4 pl4 hsb=>?_) (by rw[←cp,r.length];unfold sizeLine;lia)
 have nx:=own_change (sc:=sc) (xs':=xs++[q]) I3 o m0 hx (va.ext x3) ma hal hac hsm pl4 hsb (by rw[List.all_append,hf];simpa using hq) (by
  rw[Array.toList_push]
  exact(r.flat hf).append (Rvs.one (r3.flat hq)))
 exact H _ _ ((Nx.ext I o m0 x3).trans nx fun b o' hb=>⟨o',x3 b o' hb⟩)
theorem assign_two{g:Gnd}{n:Nat}{env:Env}{sc:SC}{ρ:Rho}{value:Expr}{x y:Str}{p1 p2 pos:Pos}{p:PV}{F M:Addr→Prop}{A:Around}{E:Value→Shared→Prop}{s:Shared}{Q:Flow→Shared→Prop}(h:pe n sc.cn ρ value=some p)(hx:sc.bk x=true)(hy:sc.bk y=true)
  (ok:AOk (n+g.K) A) (S:SOk g env sc) (I:Inv g env ρ s.heap F M) (o:OwnIs ρ sc.own) (m0:∀a,M a→g.h₀.get? a=none)
  (H:∀h' t',Nx g env sc s.heap F M (setR (setR ρ x (.val p)) y (.val p)) h' F M→Q .next {s with heap:=h',toks:=t'}):wpAny (model g.prog g.w) A (exec (.Assign [.Name x p1, .Name y p2] value pos) env) Q E s:=by
 refine wpAny_Assign_two ((sound g n).e sc.cn ρ value p env F M A E s _ h ok I S.cn fun v h1 t1 x1 r1=>?_) rfl rfl
 refine wpAny_assign_Name (st_store (s:= {s with heap:=h1,toks:=t1}) S (I.ext x1) o m0 hx r1 fun h2 t2 n2=>?_)
 have r2:Rv g.prog g.w h2 F p v:=r1.up (n2.mod.up (I.ext x1).sub) _
 refine wpAny_assign_Name (st_store (s:= {s with heap:=h2,toks:=t2}) S n2.inv n2.own m0 hy r2 fun h3 t3 n3=>?_)
 exact H h3 t3 (((Nx.ext I o m0 x1).trans n2 fun b o' hb=>⟨o',x1 b o' hb⟩).trans n3 fun b o' hb=>n2.live (ρ:=ρ) I.sub b o' (x1 b o' hb))
theorem augPV_ok{g:Gnd}{A:Around}{E:Value→Shared→Prop}{s:Shared}{F:Addr→Prop}{op:Operator}{a b c:PV}{u v:Value}{Q:Value→Shared→Prop}(h:augPV op a b=some c)(ra:Rv g.prog g.w s.heap F a u)(rb:Rv g.prog g.w s.heap F b v)(H:Post g.prog g.w F c s Q):
  wpAny (model g.prog g.w) A (inplaceOp op u v) Q E s:=by
 refine o2_inv h fun x y hx hy h=>?_
 refine xE (Rv.int_iff.mp (isI_eq hx▸ra)) fun t1 Y=>?_;subst Y
 refine xE (Rv.int_iff.mp (isI_eq hy▸rb)) fun t2 Y=>?_;subst Y
 cases op<;>try exact nn h
 ·exact iadd_int (H.tok (bn h▸Rv.int))
 ·exact isub_int (H.tok (bn h▸Rv.int))
noncomputable def isStar:Expr→Bool
 | .Starred .. =>true
 |_=>false
theorem noStar{e:Expr}(h:plainArg e=true):isStar e=false:=by
 cases e<;>first|rfl|exact ff h
set_option maxHeartbeats 1000000 in
theorem swap_stores{env:Env}{e1 e2:Expr}{x y:Str}{k k':Nat}{p1 p2 p3 p4:Pos}(pa1:plainArg e1=true)(pa2:plainArg e2=true)(kx:env.kindOf x=some .local)(ky:env.kindOf y=some .local)(hln:p1.line=p2.line)(hne:x≠y)
  (hf1:[e1,e2].all (foldedForSure 8)=false) (hf2:[e1,e2].all (constantsAlone 8)=false) (hb:(env.blockKind != .function)=false):
  swappedStores [.Tuple [.Name x p1, .Name y p2] k p3] (.Tuple [e1,e2] k' p4) env=pure (some [x,y]):=by
 have hstar:([e1,e2].any isStar)=false:=by
  rw[List.any_cons,List.any_cons,List.any_nil]
  exact Bool.or_eq_false_iff.mpr ⟨noStar pa1,Bool.or_eq_false_iff.mpr ⟨noStar pa2,rfl⟩⟩
 have hl1:(Expr.Name x p1).pos.line=p1.line:=rfl
 have hyx:(y==x)=false:=by rw[beq_eq_false_iff_ne];exact fun q=>hne q.symm
 have e1':(env.kindOf x==some NameKind.local&&p1.line==(Expr.Name x p1).pos.line)=true:=by rw[kx,hl1];simp
 have e2':(env.kindOf y==some NameKind.local&&p2.line==(Expr.Name x p1).pos.line)=true:=by rw[ky,hl1,hln];simp
 unfold swappedStores
 simp only[bx,List.length_nil,hb,hstar,Bool.false_eq_true,if_false,List.head?_cons,Option.map_some,Option.getD_some,List.filterMap_cons,List.filterMap_nil,e1',e2',if_true,hf1,hf2]
 have hdup:[x,y].eraseDups=[x,y]:=by
  simp[List.eraseDups,List.eraseDupsBy,List.eraseDupsBy.loop,hyx]
 rw[hdup,if_neg (by decide)]
 refine(if_neg fun q=>?_).trans (if_neg (by simp))
 have q':([e1,e2].any isStar)=true:=q
 rw[hstar]at q'
 exact ff q'
theorem assign_swap{g:Gnd}{n:Nat}{env:Env}{sc:SC}{ρ:Rho}{e1 e2:Expr}{x y:Str}{k k':Nat}{p1 p2 p3 p4 pos:Pos}{a b:PV}{F M:Addr→Prop}{A:Around}{E:Value→Shared→Prop}{s:Shared}{Q:Flow→Shared→Prop}
  (hsw:swapTup sc x y p1.line p2.line e1 e2=true) (h1:pe n sc.cn ρ e1=some a) (h2:pe n sc.cn ρ e2=some b) (hx:sc.bk x=true) (hy:sc.bk y=true)
  (ok:AOk (n+g.K) A) (S:SOk g env sc) (I:Inv g env ρ s.heap F M) (o:OwnIs ρ sc.own) (m0:∀a,M a→g.h₀.get? a=none)
  (H:∀h' t',Nx g env sc s.heap F M (setR (setR ρ y (.val b)) x (.val a)) h' F M→Q .next {s with heap:=h',toks:=t'}):
  wpAny (model g.prog g.w) A (exec (.Assign [.Tuple [.Name x p1, .Name y p2] k p3] (.Tuple [e1,e2] k' p4) pos) env) Q E s:=by
 simp only[swapTup,bp,Bool.not_eq_true',beq_iff_eq,beq_eq_false_iff_ne]at hsw
 refine xA hsw fun Y hf2=>?_;refine xA Y fun Y hf1=>?_;obtain⟨⟨⟨⟨⟨k1,k2⟩,hln⟩,hne⟩,pa1⟩,pa2⟩:=Y
 have kx:=(S.kl x).mpr k1
 have ky:=(S.kl y).mpr k2
 have hb:(env.blockKind != .function)=false:=by unfold Env.blockKind;rw[I.kind];rfl
 have hst:∀es,starEach (e1::e2::es) env=(false,eval e1 env)::(false,eval e2 env)::starEach es env:=fun es=>by rw[starEach_plain pa1,starEach_plain pa2]
 have hw:swappedStores [.Tuple [.Name x p1, .Name y p2] k p3] (.Tuple [e1,e2] k' p4) env=pure (some [x,y]):=swap_stores pa1 pa2 kx ky hln hne hf1 hf2 hb
 refine Assign_Tuple_swapped (names:=[x,y]) ?_ rfl hw
 refine wpAny_Tuple_spliced ?_
 rw[hst []]
 show wpAny _ A (spliced [(false,eval e1 env),(false,eval e2 env)]) _ _ _
 refine Calls.spliced_cons ((sound g n).e sc.cn ρ e1 a env F M A E s _ h1 ok I S.cn fun v h3 t3 x3 r3=>?_)
 refine Calls.spliced_cons ((sound g n).e sc.cn ρ e2 b env F M A E {s with heap:=h3,toks:=t3} _ h2 ok (I.ext x3) S.cn fun u h4 t4 x4 r4=>?_)
 refine Calls.spliced_nil ⟨(by show 2≤sizeLine;unfold sizeLine;lia),?_⟩
 have x5:Ext h4 (h4.push {cls:= .type "tuple",data:= .seq [v,u].toArray}):=Ext.push _ _
 have hT:(h4.push {cls:= .type "tuple",data:= .seq [v,u].toArray}).IsTuple h4.objs.size [v,u].toArray:=⟨_,bc _ rfl,rfl,0,rfl⟩
 have key:=fun (Q':List Value→Shared→Prop) (H':∀h',Heap.ExtBut (h4.push {cls:= .type "tuple",data:= .seq [v,u].toArray}).objs.size (h4.push {cls:= .type "tuple",data:= .seq [v,u].toArray}) h'→Q' [v,u].toArray.toList {s with heap:=h',toks:=t4})=>
  wpAny_unpackItems_tuple (prog:=g.prog) (w:=g.w) (A:=A) (E:=E) (Q:=Q') (s:= {s with heap:=h4.push {cls:= .type "tuple",data:= .seq [v,u].toArray},toks:=t4}) ok.handled hT H'
 show wpAny _ A (unpackItems (.ref h4.objs.size) 2 none) _ E {s with heap:=h4.push {cls:= .type "tuple",data:= .seq [v,u].toArray},toks:=t4}
 refine key _ fun h6 hk6=>?_
 have x6:Ext (h4.push {cls:= .type "tuple",data:= .seq [v,u].toArray}) h6:=fun c o' ho=>hk6 c o' (Nat.ne_of_lt (bh ho)) ho
 have x36:Ext h4 h6:=x5.trans x6
 have I6:=((I.ext x3).ext x4).ext x36
 show wpAny _ A (assignInOrder [bindName env y,bindName env x] [u,v]) _ _ _
 unfold assignInOrder
 refine ac (ak (wpAny_bindName (st_store (s:= {s with heap:=h6,toks:=t4}) S I6 o m0 hy (r4.up (x36.up F) _) fun h7 t7 n7=>?_)))
 unfold assignInOrder
 refine ac (ak (wpAny_bindName (st_store (s:= {s with heap:=h7,toks:=t7}) S n7.inv n7.own m0 hx ((r3.up ((x4.trans x36).up F) _).up (n7.mod.up I6.sub) _) fun h8 t8 n8=>?_)))
 unfold assignInOrder
 have xall:Ext s.heap h6:=(x3.trans x4).trans x36
 exact ah (H h8 t8 (((Nx.ext I o m0 xall).trans n7 fun c o' hc=>⟨o',xall c o' hc⟩).trans n8 fun c o' hc=>n7.live (ρ:=ρ) I.sub c o' (xall c o' hc)))
theorem for_step{prog:Program}{w:World}{A:Around}{R:Result→Shared→Prop}{s:Shared}{target:Expr}{it:Value}{body:List Stmt}{env:Env}
  (turn:wpAny (model prog w) A (pyNext it) (fun r s₁=>match r with
   |none=>R (.ok .next) s₁
   |some v=>wpAny (model prog w) A (letOwnedTupleGo target it v) (fun Y s₂=>wpAny (model prog w) A (assign target env v) (fun Y s₃=>wpAny (model prog w) A (execs body env) (fun f s₄=>match f with
     | .next=>codeAny (model prog w) A (.forLoop target it body [] env) R s₄
     | .cont=>codeAny (model prog w) A (.forLoop target it body [] env) R s₄
     | .brk=>R (.ok .next) s₄
     | .ret v=>R (.ok (.ret v)) s₄) noE s₃) noE s₂) noE s₁) noE s):codeAny (model prog w) A (.forLoop target it body [] env) R s:=by
 refine codeAny_of_tree ?_
 have hA:A.under (.forLoop target it body [] env)=A:=by rfl
 rw[hA]
 show wpAny _ _ ((forTurn target it body [] env).onRaise (fun x=>do noteFrame x env;theTreesLotGoes x)) _ _ s
 refine wpAny_noted ?_
 simp only[forTurn]
 refine ac (aw (ac (wpAny_onRaise (aj turn (fun r s₁ h₁=>?_) fun Y Y h'=>h'.elim))))
 cases r with
 |none=>exact ah ⟨rfl,codeAny_block (ag h₁)⟩
 |some v=>
  refine ac (aj h₁ (fun Y s₂ h₂=>?_) fun Y Y h'=>h'.elim)
  refine ac (aj h₂ (fun Y s₃ h₃=>ac (aj h₃ (fun f s₄ h₄=>?_) fun Y Y h'=>h'.elim)) fun Y Y h'=>h'.elim)
  cases f with
  |next=>exact ah ⟨rfl,h₄⟩
  |cont=>exact ah ⟨rfl,h₄⟩
  |brk=>exact ah h₄
  |ret v=>exact ah h₄
theorem while_step{prog:Program}{w:World}{A:Around}{R:Result→Shared→Prop}{s:Shared}{test:Expr}{body:List Stmt}{env:Env}
  (turn:wpAny (model prog w) A (isTrue test env (eval test env)) (fun b s₂=>
    if b=true then wpAny (model prog w) A (execs body env) (fun f s₃=>match f with
      | .next=>codeAny (model prog w) A (.whileLoop test body [] env) R s₃
      | .cont=>codeAny (model prog w) A (.whileLoop test body [] env) R s₃
      | .brk=>R (.ok .next) s₃
      | .ret v=>R (.ok (.ret v)) s₃) noE s₂
    else R (.ok .next) s₂) noE s):codeAny (model prog w) A (.whileLoop test body [] env) R s:=by
 refine codeAny_of_tree ?_
 have hA:A.under (.whileLoop test body [] env)=A:=by rfl
 rw[hA]
 show wpAny _ A ((whileTurn test body [] env).onRaise (fun x=>do noteFrame x env;theTreesLotGoes x)) _ _ s
 refine wpAny_noted ?_
 simp only[whileTurn]
 refine ac (aj turn (fun b s₂ h₂=>?_) fun Y Y h'=>h'.elim)
 cases b with
 |false=>
  simp only[Bool.false_eq_true,if_false]at h₂⊢
  exact ac (ag (ah h₂))
 |true=>
  simp only[if_true]at h₂⊢
  refine ac (aj h₂ (fun f s₃ h₃=>?_) fun Y Y h'=>h'.elim)
  cases f with
  |next=>exact ah ⟨rfl,h₃⟩
  |cont=>exact ah ⟨rfl,h₃⟩
  |brk=>exact ah h₃
  |ret v=>exact ah h₃
def resOf(Q:Flow→Shared→Prop)(r:Result)(s:Shared):Prop:=match r with
 | .ok f=>Q f s
 | .error _=>False
def SxW(g:Gnd)(n:Nat):Prop:=∀(sc:SC) (ρ:Rho) (t:Expr) (b:List Stmt) (r:SR) (env:Env) (F M:Addr→Prop) (A:Around) (s:Shared) (Q:Flow→Shared→Prop),
 pwh n sc ρ t b=some r→AOk (n+g.K) A→SOk g env sc→Inv g env ρ s.heap F M→OwnIs ρ sc.own→(∀a,M a→g.h₀.get? a=none)→PostS g env sc F M r s Q→codeAny (model g.prog g.w) A (.whileLoop t b [] env) (resOf Q) s
theorem sxW_of{g:Gnd}{n:Nat}(hL:SxL g n)(hW:SxW g n):SxW g (n+1):=by
 intro sc ρ t b r env F M A s Q h ok S I o m0 H
 have hok:AOk (n+g.K) A:=ok.pr
 refine o1_inv h fun c ht h=>?_
 refine while_step ((sound g n).t sc.cn ρ t c env F M A _ s _ ht hok I S.cn fun h1 t1 x1=>?_)
 have nx1:=Nx.ext (sc:=sc) I o m0 x1
 cases c with
 |true=>
  refine o1_inv (show o1 (pxs n sc ρ b) _=some r from h) fun r1 hb h=>?_
  cases r1 with
  |next ρ'=>
   refine hL sc ρ b (.next ρ') env F M A _ {s with heap:=h1,toks:=t1} _ hb hok S (I.ext x1) o m0 fun h2 t2 F2 M2 n2=>?_
   have nx2:=nx1.trans n2 fun a o' ho=>⟨o',x1 a o' ho⟩
   exact hW sc ρ' t b r env F2 M2 A {s with heap:=h2,toks:=t2} Q h hok S n2.inv n2.own n2.m0 (H.after I.sub nx2)
  |ret p=>
   obtain rfl:=bn h
   refine hL sc ρ b (.ret p) env F M A _ {s with heap:=h1,toks:=t1} _ hb hok S (I.ext x1) o m0 fun v h2 t2 m2 fl2 r2=>?_
   exact H v h2 t2 (fun a o' ho nm=>m2 a o' (x1 a o' ho) nm) fl2 r2
 |false=>
  obtain rfl:=bn h
  exact H h1 t1 F M nx1
structure WayS(g:Gnd)(A:Around)(tgt:Expr)(I:Addr)(fp wr:List Addr)(P Md:Nat→Value→Heap→Prop)(St:Nat→Heap→Prop)(its:List PV)(hb:Heap)(F₀:Addr→Prop):Prop where
 turns:KTurns g.prog g.w A tgt I fp wr its.length P Md St
 live:∀i h,St i h→∀b∈fp,∃o,h.get? b=some o
 item:∀i v h p,P i v h→its[i]?=some p→ItemIs g.prog g.w tgt hb F₀ p v h
 wr0:∀b∈wr,g.h₀.get? b=none
structure FN(g:Gnd)(env:Env)(sc:SC)(h:Heap)(Fo M:Addr→Prop)(wr:List Addr)(ρ':Rho)(h':Heap)(F' M':Addr→Prop):Prop where
 inv:Inv g env ρ' h' F' M'
 own:OwnIs ρ' sc.own
 m0:∀a,M' a→g.h₀.get? a=none
 fsub:∀a,Fo a→F' a
 fnew:∀a,F' a→Fo a∨h.get? a=none
 msub:∀a,M a→M' a
 mnew:∀a,M' a→M a∨h.get? a=none
 mod:Mod (fun a=>M a∨a∈wr) h h'
def PostF(g:Gnd)(env:Env)(sc:SC)(Fo M:Addr→Prop)(wr:List Addr)(r:SR)(s:Shared)(Q:Flow→Shared→Prop):Prop:=match r with
 | .next ρ'=>∀h' t' F' M',FN g env sc s.heap Fo M wr ρ' h' F' M'→Q .next {s with heap:=h',toks:=t'}
 | .ret p=>∀v h' t',Mod (fun a=>M a∨a∈wr) s.heap h'→FL h' Fo→Rv g.prog g.w h' Fo p v→Q (.ret v) {s with heap:=h',toks:=t'}
def SxF(g:Gnd)(n:Nat):Prop:=∀(sc:SC) (ρ:Rho) (tgt:Expr) (b:List Stmt) (rest:List PV) (r:SR) (env:Env) (I:Addr) (fp wr:List Addr) (P Md:Nat→Value→Heap→Prop) (St:Nat→Heap→Prop) (its:List PV) (i:Nat) (hb:Heap) (F₀ Fo F M:Addr→Prop) (A:Around) (s:Shared) (Q:Flow→Shared→Prop),
 pfo n sc ρ tgt b rest=some r→AOk (n+g.K) A→SOk g env sc→Inv g env ρ s.heap F M→OwnIs ρ sc.own→(∀a,M a→g.h₀.get? a=none)→WayS g A tgt I fp wr P Md St its hb F₀→(∀a,F a↔Fo a∨a∈wr)→(∀a∈wr,¬Fo a)→(∀a,M a→Fo a)→(∀b∈fp,¬M b)→
 its.drop i=rest→i≤its.length→St i s.heap→(∀a o,hb.get? a=some o→¬F₀ a→¬F a∧s.heap.get? a=some o)→PostF g env sc Fo M wr r s Q→
 codeAny (model g.prog g.w) A (.forLoop tgt (.ref I) b [] env) (resOf Q) s
theorem OwnIs.bind{bk:Str→Bool}{tgt:Expr}{p:PV}{ρ ρ':Rho}{o:Str}(h:OwnIs ρ o)(e:bindT bk tgt p ρ=some ρ'):OwnIs ρ' o:=by
 exact bindT_inv e (fun Y Y Y Y e=>e▸h.setVal) fun Y Y Y Y Y Y Y Y Y Y Y Y e=>e▸h.setVal.setVal
theorem sxF_of{g:Gnd}{n:Nat}(hL:SxL g n)(hF:SxF g n):SxF g (n+1):=by
 intro sc ρ tgt b rest r env I fp wr P Md St its i hb F₀ Fo F M A s Q h ok S inv o m0 W eqF wrF hMo fpM hdrop hi st hkeep H
 have hok:AOk (n+g.K) A:=ok.pr
 have wrfp:∀b∈wr,b∈fp:=W.turns.sub
 have hwrF:∀a,a∈wr→F a:=fun a q=>(eqF a).mpr (.inr q)
 have hFoF:∀a,Fo a→F a:=fun a q=>(eqF a).mpr (.inl q)
 have wrM:∀a∈wr,¬M a:=fun a q m=>wrF a q (hMo a m)
 cases rest with
 |nil=>
  obtain rfl:=bn h
  have hil:i=its.length:=by
   have:=List.drop_eq_nil_iff.mp hdrop;lia
  subst hil
  refine for_step (W.turns.done s _ _ st fun h' tk hk=>?_)
  have fl':FL h' Fo:=fun a q=>by
   refine xE (inv.fl a (hFoF a q)) fun o' ho=>?_
   exact⟨o',hk a o' (fun hw=>wrF a hw q) ho⟩
  refine H h' tk Fo M ⟨inv.chgM (fun a o' ho nf=>⟨fun q=>nf (hFoF a q),hk a o' (fun q=>nf (hwrF a q)) ho⟩) (fun a q o' ho=>hk a o' (fun z=>wrM a z q) ho) (fun a o' ho=>hk a o' (fun z=>by rw[W.wr0 a z]at ho;exact nn ho) (inv.base a o' ho)) fl' (fun Y q=>q) hMo,
   o,m0,fun Y q=>q,fun Y q=> .inl q,fun Y q=>q,fun Y q=> .inl q,fun a o' ho nz=>hk a o' (fun q=>nz (.inr q)) ho⟩
 |cons p ps=>
  refine o1_inv h fun ρ' hρ' h=>o1_inv h fun r1 hb' h=>?_
  have hip:its[i]?=some p:=by
   have:=congrArg (·[0]?) hdrop
   simpa[List.getElem?_drop]using this
  have hlt:i<its.length:=(List.getElem?_eq_some_iff.mp hip).1
  have hdrop':its.drop (i+1)=ps:=by
   have:=congrArg List.tail hdrop
   simpa[List.tail_drop]using this
  refine for_step ?_
  refine W.turns.item i s _ _ hlt st fun v h1 tk1 hMd hk1=>?_
  refine W.turns.go i v {s with heap:=h1,toks:=tk1} _ _ hMd fun h2 hP2 hst2 hk2=>?_
  have k02:∀b o,b∉wr→s.heap.get? b=some o→h2.get? b=some o:=fun b o hb ho=>hk2 b o hb (hk1 b o hb ho)
  have fl2:FL h2 F:=fun a q=>by
   by_cases hw:a∈wr
   ·exact W.live _ _ hst2 a (wrfp a hw)
   ·refine xE (inv.fl a q) fun o' ho=>?_;exact⟨o',k02 a o' hw ho⟩
  have U02:Up s.heap F h2 F:=fun a o' ho nf=>⟨nf,k02 a o' (fun q=>nf (hwrF a q)) ho⟩
  have I2:Inv g env ρ h2 F M:=inv.chgM U02 (fun a q o' ho=>k02 a o' (fun z=>wrM a z q) ho) (fun a o' ho=>k02 a o' (fun z=>by rw[W.wr0 a z]at ho;exact nn ho) (inv.base a o' ho)) fl2 (fun Y q=>q) inv.sub
  have Uhb:Up hb F₀ h2 F:=fun a o' ho nf=>⟨(hkeep a o' ho nf).1,k02 a o' (fun q=>(hkeep a o' ho nf).1 (hwrF a q)) (hkeep a o' ho nf).2⟩
  have bnd:Bindable env (fun x=>sc.bk x&&!(x==sc.own)):=fun x hx=>S.bind x (by simp only[bp]at hx;exact hx.1)
  have oM:∀a,Own env (fun x=>sc.bk x&&!(x==sc.own)) a→M a:=fun a q=>by
   rcases q with rfl|⟨n',_,q⟩
   ·exact inv.mloc
   ·exact(inv.cel n' a q).1
  refine bind_ok (s:= {s with heap:=h2,toks:=tk1}) I2 bnd hok.handled hρ' (W.item i v h2 p hP2 hip) Uhb (fun a q=>m0 a (oM a q)) fun h3 t3 m3 I3=>?_
  have o3:=o.bind hρ'
  have m23:Mod M h2 h3:=m3.mono oM
  have fp3:∀b∈fp,∀o',h2.get? b=some o'→h3.get? b=some o':=fun b hb' o' ho=>m23 b o' ho (fpM b hb')
  have mod3:Mod (fun a=>M a∨a∈wr) s.heap h3:=fun a o' ho nz=>m23 a o' (k02 a o' (fun q=>nz (.inr q)) ho) fun q=>nz (.inl q)
  have live3:∀a o',s.heap.get? a=some o'→∃o'',h3.get? a=some o'':=fun a o' ho=>by
   by_cases q:M a∨a∈wr
   ·have:F a:=by
     refine Or.elim q (fun q=>?_) fun q=>?_
     ·exact inv.sub a q
     ·exact hwrF a q
    exact I3.fl a this
   ·exact⟨o',mod3 a o' ho q⟩
  cases r1 with
  |next ρ''=>
   refine hL sc ρ' b (.next ρ'') env F M A _ {s with heap:=h3,toks:=t3} _ hb' hok S I3 o3 m0 fun h4 t4 F4 M4 n4=>?_
   let Fo4:Addr→Prop:=fun a=>F4 a∧a∉wr
   have wr3:∀a∈wr,∃o',h3.get? a=some o':=fun a q=>by
    refine xE (W.live _ _ hst2 a (wrfp a q)) fun o' ho=>?_
    exact⟨o',fp3 a (wrfp a q) o' ho⟩
   have fp3l:∀b∈fp,∃o',h3.get? b=some o':=fun b q=>by
    refine xE (W.live _ _ hst2 b q) fun o' ho=>?_
    exact⟨o',fp3 b q o' ho⟩
   have fpM4:∀b∈fp,¬M4 b:=fun b q m=>by
    refine Or.elim (n4.mnew b m) (fun z=>?_) fun z=>?_
    ·exact fpM b q z
    ·refine xE (fp3l b q) fun o' ho=>?_;rw[z]at ho;cases ho
   refine hF sc ρ'' tgt b ps r env I fp wr P Md St its (i+1) hb F₀ Fo4 F4 M4 A {s with heap:=h4,toks:=t4} Q h hok S n4.inv n4.own n4.m0 W (fun a=>?_) (fun a q z=>z.2 q) (fun a m=>⟨n4.inv.sub a m,fun q=>fpM4 a (wrfp a q) m⟩) fpM4 hdrop' hlt
    (W.turns.frame _ _ _ hst2 fun b hb'' o' ho=>n4.mod b o' (fp3 b hb'' o' ho) (fpM b hb'')) (fun a o' ho nf=>?_) ?_
   ·constructor
    ·intro q
     by_cases hw:a∈wr
     ·exact .inr hw
     ·exact .inl ⟨q,hw⟩
    ·rintro (q|q)
     ·exact q.1
     ·exact n4.fsub a (hwrF a q)
   ·have z:=Uhb a o' ho nf
    have hnM:¬M a:=fun q=>z.1 (inv.sub a q)
    have z3:=m23 a o' z.2 hnM
    refine⟨fun q=>?_,n4.mod a o' z3 hnM⟩
    refine Or.elim (n4.fnew a q) (fun q=>?_) fun q=>?_
    ·exact z.1 q
    ·rw[z3]at q;exact sn q
   ·cases r with
    |next ρ₅=>
     intro h5 t5 F5 M5 n5
     refine H h5 t5 F5 M5 ⟨n5.inv,n5.own,n5.m0,fun a q=>n5.fsub a ⟨n4.fsub a (hFoF a q),fun hw=>wrF a hw q⟩,fun a q=>?_,fun a q=>n5.msub a (n4.msub a q),fun a q=>?_,fun a o' ho nz=>?_⟩
     ·have live4:∀o',s.heap.get? a=some o'→∃o'',h4.get? a=some o'':=fun o' ho=>by
       refine xE (live3 a o' ho) fun o'' ho''=>?_
       exact n4.live (ρ:=ρ') I3.sub a o'' ho''
      refine Or.elim (n5.fnew a q) (fun Y=>xA Y fun q hw=>?_) fun q=>?_
      ·refine Or.elim (n4.fnew a q) (fun q=>?_) fun q=>?_
       ·refine Or.elim ((eqF a).mp q) (fun q=>?_) fun q=>?_
        ·exact .inl q
        ·exact absurd q hw
       ·refine .inr ?_
        cases e:s.heap.get? a with
        |none=>rfl
        |some o'=>refine xE (live3 a o' e) fun o'' ho=>?_;rw[q]at ho;exact nn ho
      ·refine .inr ?_
       cases e:s.heap.get? a with
       |none=>rfl
       |some o'=>refine xE (live4 o' e) fun o'' ho=>?_;rw[q]at ho;exact nn ho
     ·refine Or.elim (n5.mnew a q) (fun q=>?_) fun q=>?_
      ·refine Or.elim (n4.mnew a q) (fun q=>?_) fun q=>?_
       ·exact .inl q
       ·refine .inr ?_
        cases e:s.heap.get? a with
        |none=>rfl
        |some o'=>refine xE (live3 a o' e) fun o'' ho=>?_;rw[q]at ho;exact nn ho
      ·refine .inr ?_
       cases e:s.heap.get? a with
       |none=>rfl
       |some o'=>
        refine xE (live3 a o' e) fun o'' ho=>?_
        refine xE (n4.live (ρ:=ρ') I3.sub a o'' ho) fun o3' ho3=>?_
        rw[q]at ho3;exact nn ho3
     ·refine n5.mod a o' (n4.mod a o' (mod3 a o' ho nz) fun q=>nz (.inl q)) ?_
      rintro (q|q)
      ·refine Or.elim (n4.mnew a q) (fun q=>?_) fun q=>?_
       ·exact nz (.inl q)
       ·rw[mod3 a o' ho nz]at q;exact sn q
      ·exact nz (.inr q)
    |ret p'=>
     intro v' h5 t5 m5 fl5 r5
     refine H v' h5 t5 (fun a o' ho nz=>m5 a o' (n4.mod a o' (mod3 a o' ho nz) fun q=>nz (.inl q)) ?_) (fun a q=>fl5 a ⟨n4.fsub a (hFoF a q),fun hw=>wrF a hw q⟩) (r5.up (fun a o' ho nf=>⟨fun q=>nf ⟨n4.fsub a (hFoF a q),fun hw=>wrF a hw q⟩,ho⟩) _)
     rintro (q|q)
     ·refine Or.elim (n4.mnew a q) (fun q=>?_) fun q=>?_
      ·exact nz (.inl q)
      ·rw[mod3 a o' ho nz]at q;exact sn q
     ·exact nz (.inr q)
  |ret p'=>
   obtain rfl:=bn h
   refine hL sc ρ' b (.ret p') env F M A _ {s with heap:=h3,toks:=t3} _ hb' hok S I3 o3 m0 fun v' h4 t4 m4 fl4 r4=>?_
   exact H v' h4 t4 (fun a o' ho nz=>m4 a o' (mod3 a o' ho nz) fun q=>nz (.inl q)) (fun a q=>fl4 a (hFoF a q)) (r4.up (fun a o' ho nf=>⟨fun q=>nf (hFoF a q),ho⟩) _)
theorem pAs_inv{n:Nat}{sc:SC}{ρ:Rho}{ts:List Expr}{value:Expr}{r:SR}(h:pAs n sc ρ value ts=some r){G:Prop}
  (k1:∀p1 xs,ts=[.Name sc.own p1]→pfresh n sc ρ value=some xs→sc.bk sc.own=true→xs.all flatPV=true→xs.length<10000→ .next (setR ρ sc.own (.own xs))=r→G)
  (k2:∀x p1 p,ts=[.Name x p1]→pe n sc.cn ρ value=some p→sc.bk x=true→ .next (setR ρ x (.val p))=r→G)
  (k3:∀x p1 i p2 xs q k,ts=[.Subscript (.Name x p1) i p2]→ρ.lookup x=some (.own xs)→pe n sc.cn ρ value=some q→pe n sc.cn ρ i=some (.int k)→flatPV q=true→0≤k→k<xs.length→xs.length<10000→ .next (setR ρ x (.own (xs.set k.toNat q)))=r→G)
  (k4:∀x y p1 p2 k p3 e1 e2 k' p4 a b,ts=[.Tuple [.Name x p1, .Name y p2] k p3]→value= .Tuple [e1,e2] k' p4→swapTup sc x y p1.line p2.line e1 e2=true→pe n sc.cn ρ e1=some a→pe n sc.cn ρ e2=some b→sc.bk x=true→sc.bk y=true→ .next (setR (setR ρ y (.val b)) x (.val a))=r→G)
  (k5:∀x y p1 p2 p,ts=[.Name x p1, .Name y p2]→pe n sc.cn ρ value=some p→sc.bk x=true→sc.bk y=true→ .next (setR (setR ρ x (.val p)) y (.val p))=r→G):G:=by
 have okS_inv:∀{x y},okS sc x y=true→sc.bk x=true∧sc.bk y=true:=fun h=>by
  rw[okS,bp,bp,bp]at h
  exact h.1.1
 refine oe_inv h (fun t ht h=>oe_inv h (fun x hx h=>gd_inv h fun hb h=>?_) fun h=>oe_inv h (fun z hz h=>o1_inv h fun x hx h=>gd_inv h fun hcs h=>o1_inv h fun xs hxs h=>o2_inv h fun q k h1 h2 h=>gd_inv h fun hc h=>o1_inv h2 fun k' hk h2=>?_)
  fun h=>o1_inv h fun elts he h=>o1_inv h fun t2 ht2 h=>o1_inv h fun vs hvs h=>o1_inv h fun e2 hv h=>o1_inv h fun x hx h=>o1_inv h fun y hy h=>gd_inv h fun hc h=>o2_inv h fun a b h1 h2 h=>?_) fun h=>o1_inv h fun z hz h=>nm2_eq hz fun p1 p2 hz=>gd_inv h fun hc h=>o1_inv h fun p hp h=>?_
 ·refine xE (nmOf_eq hx) fun p1 hx=>?_
  have ht:=hx▸sgl_eq ht
  cases ho:x==sc.own with
  |true=>
   rw[ho]at h
   refine o1_inv (show o1 (pfresh n sc ρ value) _=some r from h) fun xs hxs h=>gd_inv h fun hc h=>?_
   rw[okL,bp]at hc
   rw[beq_iff_eq.mp ho]at ht hb h
   exact k1 p1 xs ht hxs hb hc.1 (blt_lt hc.2) (bn h)
  |false=>
   rw[ho]at h
   exact o1_inv (show o1 (pe n sc.cn ρ value) _=some r from h) fun p hp h=>k2 x p1 p ht hp hb (bn h)
 ·refine xE (subOf_eq hz) fun p2 hz=>?_
  refine xE (nmOf_eq hx) fun p1 hx=>?_
  rw[okI,bp,bp,bp,decide_eq_true_eq,decide_eq_true_eq]at hc
  exact k3 x p1 z.2 p2 xs q k (by rw[sgl_eq ht,hz,hx]) (oOwn_inv hxs) h1 (isI_eq h2▸hk) hc.1.1.1 hc.1.1.2 hc.1.2 (blt_lt hc.2) (bn h)
 ·refine xEE (tupOf_eq he) fun k p3 he=>?_
  refine xEE (tupOf_eq hvs) fun k' p4 hvs=>?_
  refine xE (nmOf_eq hx) fun p1 hx=>?_
  refine xE (nmOf_eq hy) fun p2 hy=>?_
  rw[bp,hx,hy]at hc
  exact k4 x y p1 p2 k p3 e2.1 e2.2 k' p4 a b (by rw[sgl_eq ht,he,dbl_eq ht2,hx,hy]) (by rw[hvs,dbl_eq hv]) hc.1 h1 h2 (okS_inv hc.2).1 (okS_inv hc.2).2 (bn h)
 ·exact k5 _ _ p1 p2 p hz hp (okS_inv hc).1 (okS_inv hc).2 (bn h)
theorem sxAssign{g:Gnd}{n:Nat}{sc:SC}{ρ:Rho}{ts:List Expr}{value:Expr}{pos:Pos}{r:SR}{env:Env}{F M:Addr→Prop}{A:Around}{E:Value→Shared→Prop}{s:Shared}{Q:Flow→Shared→Prop}
  (h:px (n+1) sc ρ (.Assign ts value pos)=some r) (hok:AOk (n+g.K) A) (S:SOk g env sc) (I:Inv g env ρ s.heap F M) (o:OwnIs ρ sc.own) (m0:∀a,M a→g.h₀.get? a=none) (H:PostS g env sc F M r s Q):
  wpAny (model g.prog g.w) A (exec (.Assign ts value pos) env) Q E s:=by
 refine pAs_inv h (fun p1 xs e h1 h2 h3 h4 er=>?_) (fun x p1 p e h1 h2 er=>?_) (fun x p1 i p2 xs q k e h1 h2 h3 h4 h5 h6 h7 er=>?_) (fun x y p1 p2 k p3 e1 e2 k' p4 a b e ev h1 h2 h3 h4 h5 er=>?_) fun x y p1 p2 p e h1 h2 h3 er=>?_
 ·rw[←er]at H
  rw[e]
  exact assign_own h1 h2 h3 h4 hok S I o m0 H
 ·rw[←er]at H
  rw[e]
  exact assign_val h1 h2 hok S I o m0 fun h' t' nx=>H h' t' F M nx
 ·rw[←er]at H
  rw[e]
  exact assign_item h1 h2 h3 h4 h5 h6 h7 hok S I o m0 fun h' t' nx=>H h' t' F M nx
 ·rw[←er]at H
  rw[e,ev]
  exact assign_swap h1 h2 h3 h4 h5 hok S I o m0 fun h' t' nx=>H h' t' F M nx
 ·rw[←er]at H
  rw[e]
  exact assign_two h1 h2 h3 hok S I o m0 fun h' t' nx=>H h' t' F M nx
theorem pApp_inv{n:Nat}{sc:SC}{ρ:Rho}{f:Expr}{args:List Expr}{kws:List Keyword}{cpos:Pos}{r:SR}(h:pApp n sc ρ f args kws cpos=some r){G:Prop}
  (k:∀x p1 apos a xs q,f= .Attribute (.Name x p1) (br "append") apos→args=[a]→kws=[]→ρ.lookup x=some (.own xs)→pe n sc.cn ρ a=some q→(apos.endLine==cpos.line)=true→plainArg a=true→flatPV q=true→xs.length<10000→ .next (setR ρ x (.own (xs++[q])))=r→G):G:=by
 refine o1_inv h fun t hf h=>o1_inv h fun a ha h=>o1_inv h fun x ht h=>gd_inv h fun hc h=>o2_inv h fun xs q hx hq h=>gd_inv h fun hc2 h=>?_
 refine xE (nmOf_eq ht) fun p1 ht=>?_
 rw[bp,bp,bp]at hc
 rw[bp]at hc2
 exact k x p1 t.2.2 a xs q (by rw[atOf_eq hf,ht,beq_iff_eq.mp hc.1.1.2]) (sgl_eq ha) (List.isEmpty_iff.mp hc.1.1.1) (oOwn_inv hx) hq hc.1.2 hc.2 hc2.1 (blt_lt hc2.2) (bn h)
theorem pAug_inv{n:Nat}{sc:SC}{ρ:Rho}{op:Operator}{value t:Expr}{r:SR}(h:pAug n sc ρ op value t=some r){G:Prop}
  (k:∀x p1 a b c,t= .Name x p1→ρ.lookup x=some (.val a)→pe n sc.cn ρ value=some b→augPV op a b=some c→sc.bk x=true→ .next (setR ρ x (.val c))=r→G):G:=
 o1_inv h fun x ht h=>gd_inv h fun hbk h=>o2_inv h fun a b hx hb h=>o1_inv h fun c hc h=>xE (nmOf_eq ht) fun p1 e=>k x p1 a b c e (oVal_inv hx) hb hc hbk (bn h)
theorem okT_shape{tgt:Expr}(h:okT tgt=true):(∃x p,tgt= .Name x p)∨(∃elts k p,tgt= .Tuple elts k p):=tgt_shape (Bool.or_eq_true_iff.mp h)
theorem sxS_of{g:Gnd}{n:Nat}(hL:SxL g n)(hW:SxW g n)(hF:SxF g n):SxS g (n+1):=by
 intro sc ρ st r env F M A E s Q h ok S I o m0 H
 have hok:AOk (n+g.K) A:=ok.pr
 cases st with
 |Assign ts value pos=>exact sxAssign h hok S I o m0 H
 |AugAssign t op value pos=>
  refine pAug_inv h fun x p1 a b c e hx hb hc hbk er=>?_
  rw[←er]at H
  rw[e]
  refine xA (I.ents x _ hx) fun Y hd=>?_;refine xEA Y fun v va rv=>?_
  refine wpAny_AugAssign_Name (va.load I.kind ?_)
  refine(sound g n).e sc.cn ρ value b env F M A E s _ hb hok I S.cn fun u h1 t1 x1 r1=>?_
  refine augPV_ok (s:= {s with heap:=h1,toks:=t1}) hc (rv.up (x1.up F) _) r1 fun z h2 t2 x2 r2=>?_
  exact st_store (s:= {s with heap:=h2,toks:=t2}) S ((I.ext x1).ext x2) o m0 hbk r2 fun h3 t3 n3=>H h3 t3 F M ((Nx.ext I o m0 (x1.trans x2)).trans n3 fun b' o' hb'=>⟨o',(x1.trans x2) b' o' hb'⟩)
 |Expr e pos=>
  refine o1_inv h fun c hc h=>?_
  rw[calOf_eq hc]
  refine pApp_inv h fun x p1 apos a xs q e1 e2 e3 hx hq hln hpa hfq hl er=>?_
  rw[←er]at H
  rw[e1,e2,e3]
  exact append_own hx hq hfq hl hln hpa hok S I o m0 fun h' t' nx=>H h' t' F M nx
 |If t b el pos=>
  refine o1_inv h fun c ht h=>?_
  refine wpAny_If ((sound g n).t sc.cn ρ t c env F M A E s _ ht hok I S.cn fun h1 t1 x1=>?_)
  cases c with
  |true=>exact hL sc ρ b r env F M A E {s with heap:=h1,toks:=t1} Q h hok S (I.ext x1) o m0 (H.after I.sub (Nx.ext I o m0 x1))
  |false=>exact hL sc ρ el r env F M A E {s with heap:=h1,toks:=t1} Q h hok S (I.ext x1) o m0 (H.after I.sub (Nx.ext I o m0 x1))
 |While t b el pos=>
  refine gd_inv h fun he h=>?_
  obtain rfl:=List.isEmpty_iff.mp he
  refine wpAny_While (codeAny_mono (hW sc ρ t b r env F M A s Q h hok S I o m0 H) fun r' s' hr=>?_)
  cases r' with
  |ok f=>exact hr
  |error e=>exact hr.elim
 |For tgt iter b el pos=>
  refine gd_inv (show gd (el.isEmpty&&okT tgt) (o1 (pit n sc.cn ρ (isName tgt) iter) _)=some r from h) fun hc h=>o1_inv h fun items hit hp=>?_
  rw[bp]at hc
  obtain rfl:=List.isEmpty_iff.mp hc.1
  have shape:=okT_shape hc.2
  have hi:=(sound g n).i sc.cn ρ iter tgt items env F M A E s (fun it s₂=>codeAny (model g.prog g.w) A (.forLoop tgt it b [] env) (fun r s'=>match r with| .ok f=>Q f s'| .error e=>cameBackBy (model g.prog g.w) A env E e s') s₂) hit hok I S.cn shape fun hb it h1 t1 xb x1 io=>?_
  ·exact wpAny_For hi.1 hi.2
  obtain⟨II,fp,wr,P,Md,St,rfl,T,st,live,wrn,fpF,self,item⟩:=io
  let F1:Addr→Prop:=fun a=>F a∨a∈wr
  have xall:Ext s.heap h1:=xb.trans x1
  have base0:∀b,hb.get? b=none→s.heap.get? b=none:=fun b q=>by
   cases e:s.heap.get? b with
   |none=>rfl
   |some o'=>rw[xb b o' e]at q;cases q
  have new1:∀a o',s.heap.get? a=some o'→¬F a→¬F1 a:=fun a o' ho nf=>by
   rintro (q|q)
   ·exact nf q
   ·rw[base0 a (wrn a q)]at ho;cases ho
  have inv1:Inv g env ρ h1 F1 M:=I.grow xall (fun a q=> .inl q) new1 (by
   rintro a (q|q)
   ·exact(I.fl.ext xall) a q
   ·exact live _ _ st a (T.sub a q)) (fun Y q=>q) fun a q=> .inl (I.sub a q)
  have W:WayS g A tgt II fp wr P Md St items hb F:=⟨T,live,item,fun b q=>by
   cases e:g.h₀.get? b with
   |none=>rfl
   |some o'=>
    have:=base0 b (wrn b q)
    rw[I.base b o' e]at this;exact sn this⟩
  refine codeAny_mono (hF sc ρ tgt b items r env II fp wr P Md St items 0 hb F F F1 M A {s with heap:=h1,toks:=t1} Q hp hok S inv1 o m0 W (fun a=>Iff.rfl) (fun a q=>fpF a (T.sub a q)) I.sub (fun b q m=>fpF b q (I.sub b m)) rfl (Nat.zero_le _) st (fun a o' ho nf=>⟨?_,x1 a o' ho⟩) ?_) fun r' s' hr=>?_
  ·rintro (q|q)
   ·exact nf q
   ·rw[wrn a q]at ho;exact nn ho
  ·have back:∀a,h1.get? a=none→s.heap.get? a=none:=fun a q=>by
    cases e:s.heap.get? a with
    |none=>rfl
    |some o'=>rw[xall a o' e]at q;cases q
   cases r with
   |next ρ'=>
    intro h2 t2 F2 M2 n2
    refine H h2 t2 F2 M2 ⟨n2.inv,n2.own,n2.m0,n2.fsub,fun a q=>(n2.fnew a q).imp id (back a),n2.msub,fun a q=>(n2.mnew a q).imp id (back a),fun a o' ho nm=>n2.mod a o' (xall a o' ho) ?_⟩
    rintro (q|q)
    ·exact nm q
    ·rw[base0 a (wrn a q)]at ho;exact nn ho
   |ret p=>
    intro v h2 t2 m2 fl2 r2
    refine H v h2 t2 (fun a o' ho nm=>m2 a o' (xall a o' ho) ?_) fl2 r2
    rintro (q|q)
    ·exact nm q
    ·rw[base0 a (wrn a q)]at ho;exact nn ho
  ·cases r' with
   |ok f=>exact hr
   |error e=>exact hr.elim
 |Return v pos=>
  refine o1_inv h fun e hv h=>o1_inv h fun p hp h=>?_
  obtain rfl:=bn h
  subst hv
  refine wpAny_Return_some ((sound g n).e sc.cn ρ e p env F M A E s _ hp hok I S.cn fun v h1 t1 x1 r1=>?_)
  exact H v h1 t1 (x1.mod M) (I.fl.ext x1) r1
 |_=>exact nn h
structure SxAll(g:Gnd)(n:Nat):Prop where
 s:SxS g n
 l:SxL g n
 w:SxW g n
 f:SxF g n
theorem soundS(g:Gnd):∀n,SxAll g n
 |0=>by
  refine⟨?_,?_,?_,?_⟩
  ·intro sc ρ st r env F M A E s Q h;exact nn h
  ·intro sc ρ st r env F M A E s Q h;exact nn h
  ·intro sc ρ t b r env F M A s Q h;exact nn h
  ·intro sc ρ tgt b rest r env I fp wr P Md St its i hb F₀ Fo F M A s Q h;exact nn h
 |n+1=>by
  have ih:=soundS g n
  exact⟨sxS_of ih.l ih.w ih.f,sxL_of ih.s ih.l,sxW_of ih.l ih.w,sxF_of ih.l ih.f⟩
noncomputable def GlobOk(g:Gnd)(mg mb:Str→Option Value)(x:Str):Ent→Prop
 | .val _=>False
 | .own _=>False
 | .gv p=>flatPV p=true∧∃v,mg x=some v∧∀h F,Rv g.prog g.w h F p v
 | .bi f=>mg x=none∧mb x=some f.val
 | .en=>mg x=none∧mb x=some (.type "enumerate")
 | .fn f=>∃a o fd,mg x=some (.ref a)∧g.h₀.get? a=some o∧o.data= .func fd∧Contract g a f
 | .lgv p=>flatPV p=true∧∃v,mg x=some v∧∀h F,Rv g.prog g.w h F p v
 | .lbi f=>mg x=none∧mb x=some f.val
 | .len=>mg x=none∧mb x=some (.type "enumerate")
 | .lfn f=>∃a o fd,mg x=some (.ref a)∧g.h₀.get? a=some o∧o.data= .func fd∧Contract g a f
noncomputable def isLat:Ent→Bool
 | .lgv _=>true
 | .lbi _=>true
 | .len=>true
 | .lfn _=>true
 |_=>false
noncomputable def argsR:List Str→List PV→Rho→Rho
 |x::xs,p::ps,G=>(x, .val p)::argsR xs ps G
 |_,_,G=>G
noncomputable def globNames(names:List (Str×NameKind))(G:Rho):Bool:=G.all fun (x,e)=>(isLat e||match names.lookup x with|some .globalImplicit=>true|_=>false)&&!(x==br "__debug__")
noncomputable def parNames(names:List (Str×NameKind))(ps:List Str):Bool:=ps.all fun x=>(match names.lookup x with|some .local=>true|some .cell=>true|_=>false)&&!(x==br "__debug__")
noncomputable def uniqStr:List Str→Bool
 |[]=>true
 |x::r=>!(r.contains x)&&uniqStr r
noncomputable def cellNamesOf:List (Str×NameKind)→List Str
 |[]=>[]
 |(x,k)::r=>match k with
  | .cell=>x::cellNamesOf r
  |_=>cellNamesOf r
theorem cellNamesOf_mem:∀{l:List (Str×NameKind)} {x:Str},x∈cellNamesOf l→(x, .cell)∈l
 |(y,k)::r,x,h=>by
  unfold cellNamesOf at h
  split at h
  ·rcases bz.mp h with rfl|h
   ·exact cb ..
   ·exact bw _ (cellNamesOf_mem h)
  ·exact bw _ (cellNamesOf_mem h)
noncomputable def frameSC(names:List (Str×NameKind))(own:Str):SC:=
 {cn:=cellNamesOf names,bk:=fun x=>okKind names x,kl:=fun x=>(match names.lookup x with|some .local=>true|_=>false),own:=own}
theorem bindLC:∀(kindOf:Str→Option NameKind) (binds:List (Str×Value)) (m cm:Str→Option Value) (x:Str),(∀b∈binds,b.1≠x)→bindL kindOf binds m x=m x∧bindC kindOf binds cm x=cm x
 |_,[],m,cm,x,_=>⟨rfl,rfl⟩
 |k,(n,v)::r,m,cm,x,h=>by
  have hn:n≠x:=h (n,v) (cb ..)
  refine xA (bindLC k r (if k n=some .local then fun y=>if y=n then some v else m y else m) (if k n=some .local then cm else fun y=>if y=n then some v else cm y) x fun b hb=>h b (bw _ hb)) fun a b=>?_
  unfold bindL bindC
  rw[a,b]
  by_cases hk:k n=some .local
  ·rw[if_pos hk,if_pos hk];exact⟨if_neg (fun q=>hn q.symm),rfl⟩
  ·rw[if_neg hk,if_neg hk];exact⟨rfl,if_neg (fun q=>hn q.symm)⟩
theorem bind_at:∀(kindOf:Str→Option NameKind) (xs:List Str) (vs:List Value) (m cm:Str→Option Value) (x:Str) (v:Value),uniqStr xs=true→(xs.zip vs).lookup x=some v→
  (kindOf x=some .local→bindL kindOf (xs.zip vs) m x=some v)∧(kindOf x≠some .local→bindC kindOf (xs.zip vs) cm x=some v)
 |_,[],_,_,_,_,_,_,h=>by simp at h
 |_,_::_,[],_,_,_,_,_,h=>by simp at h
 |k,y::xs,u::vs,m,cm,x,v,hu,h=>by
  simp only[uniqStr,bp,Bool.not_eq_true']at hu
  simp only[List.zip_cons_cons,bt]at h
  simp only[List.zip_cons_cons]
  cases hb:x==y with
  |true=>
   rw[hb]at h
   cases h
   obtain rfl:=beq_iff_eq.mp hb
   have hn:∀b∈xs.zip vs,b.1≠x:=fun b hb' e=>by
    have:=(List.of_mem_zip (show(b.1,b.2)∈xs.zip vs from hb')).1
    rw[e]at this
    have:=List.contains_iff_mem.mpr this
    rw[hu.1]at this;cases this
   constructor
   ·intro hk
    unfold bindL
    rw[if_pos hk,(bindLC k (xs.zip vs) _ (fun Y=>none) x hn).1,if_pos rfl]
   ·intro hk
    unfold bindC
    rw[if_neg hk,(bindLC k (xs.zip vs) (fun Y=>none) _ x hn).2,if_pos rfl]
  |false=>
   rw[hb]at h
   unfold bindL bindC
   exact bind_at k xs vs _ _ x v hu.2 h
theorem argsR_lookup{prog:Program}{w:World}{h:Heap}{F:Addr→Prop}:∀{xs:List Str} {ps:List PV} {vs:List Value} {G:Rho} {x:Str} {e:Ent},xs.length=ps.length→Rvs prog w h F ps vs→(argsR xs ps G).lookup x=some e→
  (∃p v,e= .val p∧x∈xs∧(xs.zip vs).lookup x=some v∧Rv prog w h F p v)∨(x∉xs∧G.lookup x=some e)
 |[],ps,vs,G,x,e,hl,r,h=>by
  cases ps with
  |nil=>exact .inr ⟨by simp,h⟩
  |cons=>simp at hl
 |y::xs,[],_,_,_,_,hl,_,_=>by simp at hl
 |y::xs,p::ps,vs,G,x,e,hl,r,h=>by
  refine xEEAA r fun v rest Y r1 r2=>?_;clear r;subst Y
  rw[show argsR (y::xs) (p::ps) G=(y, .val p)::argsR xs ps G from rfl,bt]at h
  cases hb:x==y with
  |true=>
   rw[hb]at h
   cases h
   obtain rfl:=beq_iff_eq.mp hb
   exact .inl ⟨p,v,rfl,cb ..,by simp,r1⟩
  |false=>
   rw[hb]at h
   refine Or.elim (argsR_lookup (by simpa using hl) r2 h) (fun Y=>xEEAAA Y fun p' v' a b c d=>?_) fun Y=>xA Y fun a b=>?_
   ·exact .inl ⟨p',v',a,bw _ b,by simp only[List.zip_cons_cons,bt,hb];exact c,d⟩
   ·refine .inr ⟨fun q=>?_,b⟩
    rcases bz.mp q with rfl|q
    ·simp at hb
    ·exact a q
theorem def_contract{g:Gnd}{mg mb:Str→Option Value}{a:Addr}{o:Obj}{fd:FuncData}{body:List Stmt}{names:List Str}{G:Rho}{own:Str}{n:Nat}{f:List PV→Option PV}
  (ho:g.h₀.get? a=some o) (hd:o.data= .func fd) (hng:g.h₀.Ns fd.globals mg) (hnb:g.h₀.Ns fd.builtins mb) (hlim:g.h₀.NoLimit) (hcd:g.h₀.CodeRec fd.code fd.qualname) (low:∃a o,sysModules≤a∧g.h₀.get? a=some o)
  (hbody:fd.body= .stmts body) (hclo:fd.closure=[]) (hbind:∀vals:List Value,vals.length=names.length→bindArgs fd ⟨vals,[]⟩=pure (names.zip vals))
  (hco:fd.scope.isCoroutine=false) (hgen:fd.scope.isGenerator=false) (hk:fd.scope.kind= .function)
  (hG:∀x e,G.lookup x=some e→GlobOk g mg mb x e) (h1:globNames fd.scope.names G=true) (h2:parNames fd.scope.names names=true) (h3:uniqStr names=true) (h4:uniqNames fd.scope.names=true)
  (hf:∀ps p,f ps=some p→ps.length=names.length∧pxs n (frameSC fd.scope.names own) (argsR names ps G) body=some (.ret p)∧flatPV p=true):
  Contract {g with K:=n+g.K+1} a f:=by
 intro A E s F ps vs p Q ok base fl rs hp H
 refine xAA (hf ps p hp) fun hlen hpx hflat=>?_
 have hvl:vs.length=names.length:=by rw[rs.length,hlen]
 refine wpAny_call (codeAny_call_cells (ok.lim) (base _ _ ho) hd (hlim.keeps base) ?_ hbody (hbind vs hvl) hclo ?_ (fun s₁ C=>?_) hco hgen hk)
 ·refine xEEEEAAA hcd fun c o' vs' t e1 e2 e3 e4=>?_
  exact⟨c,o',vs',t,e1,base _ _ e2,e3,e4⟩
 ·intro x hx
  have hm:=(List.of_mem_zip (show(x.1,x.2)∈names.zip vs from hx)).1
  have:=bs.mp h2 x.1 hm
  simp only[bp]at this
  have hk':=this.1
  split at hk'
  ·rename_i e;exact .inl e
  ·rename_i e
   have facts:=cellsFrom_facts fd.scope.names (s.heap.push {cls:= .type "frame",data:= .dict #[] }) [] (s.heap.objs.size+1) (by rw[Heap.size_push];exact Nat.le_refl _) (fun Y Y e=>by simp at e) (fun Y Y Y e=>by simp at e)
   rw[show(s.heap.push {cls:= .type "frame",data:= .dict #[] }).objs.size=s.heap.objs.size+1 from Heap.size_push ..]at facts
   refine xE (facts.2.2.1 x.1 (mem_of_lookup e)) fun c hc=>?_
   exact .inr ⟨e,by rw[hc];rfl⟩
  ·exact ff hk'
 ·
  have hL:(callEnvC fd s.heap.objs.size a).locals=s.heap.objs.size:=rfl
  have hsc:(callEnvC fd s.heap.objs.size a).scope=fd.scope:=rfl
  have hkd:∀x,(callEnvC fd s.heap.objs.size a).kindOf x=fd.scope.names.lookup x:=fun x=>rfl
  obtain⟨hsame,hns,hkeep,hfresh⟩:=C.toInCall
  have hgb:(callEnvC fd s.heap.objs.size a).globals=fd.globals:=rfl
  have hbl:(callEnvC fd s.heap.objs.size a).builtins=fd.builtins:=rfl
  generalize henv:callEnvC fd s.heap.objs.size a=env at C hL hsc hkd hns hfresh hgb hbl⊢
  let F1:Addr→Prop:=fun b=>b=env.locals∨∃n,env.cells.lookup n=some b
  have liveLt:∀b,(∃o',s.heap.get? b=some o')→b<s.heap.objs.size:=fun b Y=>xE Y fun o' ho'=>bh ho'
  have notF1:∀b,(∃o',s.heap.get? b=some o')→¬F1 b:=fun b hb=>by
   have hlt:=liveLt b hb
   rintro (q|⟨n',q⟩)
   ·rw[q,hL]at hlt;exact Nat.lt_irrefl _ hlt
   ·have:=C.above n' b (mem_of_lookup q)
    rw[hL]at this
    exact Nat.lt_irrefl _ (Nat.lt_trans hlt this)
  have U:Up s.heap F s₁.heap F1:=fun b o' hb Y=>⟨notF1 b ⟨o',hb⟩,hkeep b o' hb⟩
  refine xEEEA (id hng) fun og esg epg hog Y=>?_
  refine xEEEA (id hnb) fun ob esb epb hob Y=>?_
  have hgLive:∃o',s.heap.get? env.globals=some o':=⟨og,hgb▸base _ _ hog⟩
  have hbLive:∃o',s.heap.get? env.builtins=some o':=⟨ob,hbl▸base _ _ hob⟩
  have ng1:s₁.heap.Ns env.globals mg:=hgb▸hng.at' fun o' e=>hkeep _ _ (base _ _ e)
  have nb1:s₁.heap.Ns env.builtins mb:=hbl▸hnb.at' fun o' e=>hkeep _ _ (base _ _ e)
  have f0:∀b,F1 b→g.h₀.get? b=none:=fun b q=>by
   cases e:g.h₀.get? b with
   |none=>rfl
   |some o'=>exact absurd q (notF1 b ⟨o',base b o' e⟩)
  have hcells:env.cells=cellsFrom (s.heap.objs.size+1) fd.scope.names []:=by rw[←henv];rfl
  have facts:=cellsFrom_facts fd.scope.names (s.heap.push {cls:= .type "frame",data:= .dict #[] }) [] (s.heap.objs.size+1) (by rw[Heap.size_push];exact Nat.le_refl _) (fun Y Y e=>by simp at e) (fun Y Y Y e=>by simp at e)
  rw[show(s.heap.push {cls:= .type "frame",data:= .dict #[] }).objs.size=s.heap.objs.size+1 from Heap.size_push ..,←hcells]at facts
  have inv:Inv g env (argsR names ps G) s₁.heap F1 F1:=by
   refine⟨by rw[hsc];exact hk,base.trans hkeep,low,?_,fun Y q=>q,notF1 _ hgLive,notF1 _ hbLive,⟨?_,?_⟩,⟨_,hns⟩, .inl rfl,fun n' c hc=>⟨.inr ⟨n',hc⟩,?_,_,C.cell n' c hc⟩,fun x y c hx hy=>name_of_addr C.apart (mem_of_lookup hx) (mem_of_lookup hy),fun x e hx=>?_⟩
   ·rintro b (q|⟨n',q⟩)
    ·subst q;refine xEEEA hns fun o' Y Y ho' Y=>?_;exact⟨o',ho'⟩
    ·refine xEA (C.cell n' b q) fun o' ho' Y=>?_;exact⟨o',ho'⟩
   ·refine xE hgLive fun o' ho'=>?_;exact⟨o',hkeep _ _ ho'⟩
   ·refine xE hbLive fun o' ho'=>?_;exact⟨o',hkeep _ _ ho'⟩
   ·exact Nat.ne_of_gt (C.above n' c (mem_of_lookup hc))
   ·rcases argsR_lookup hlen.symm rs hx with ⟨p',v,rfl,hm,hz,r⟩|⟨hm,hGx⟩
    ·have hpn:=bs.mp h2 x hm
     simp only[bp,Bool.not_eq_true']at hpn
     refine⟨⟨v,?_,r.up U _⟩,hpn.2⟩
     have hb:=bind_at env.kindOf names vs (fun Y=>none) (fun Y=>none) x v h3 hz
     have hk':=hpn.1
     split at hk'
     ·rename_i e
      have e':env.kindOf x=some .local:=(hkd x).trans e
      exact .inl ⟨e',_,hns,hb.1 e'⟩
     ·rename_i e
      have e':env.kindOf x=some .cell:=(hkd x).trans e
      refine xE (facts.2.2.1 x (mem_of_lookup e)) fun c hc=>?_
      refine .inr (.inl ⟨e',c,hc,?_⟩)
      have:=C.cell x c hc
      rwa [hb.2 (by rw[e'];exact fun q=>nomatch q)]at this
     ·exact ff hk'
    ·have hgn:=bs.mp h1 (x,e) (mem_of_lookup hGx)
     simp only[bp,Bool.not_eq_true']at hgn
     refine⟨?_,hgn.2⟩
     have ki:isLat e=false→env.kindOf x=some .globalImplicit:=fun hl=>by
      rw[hkd]
      have:=hgn.1
      rw[hl,Bool.false_or]at this
      split at this
      ·assumption
      ·cases this
     have ok':=hG x e hGx
     cases e with
     |val=>exact ok'.elim
     |own=>exact ok'.elim
     |gv q=>refine xAEA ok' fun a1 v a2 a3=>?_;exact⟨ki rfl,a1,mg,v,ng1,a2,a3 _ _⟩
     |bi q=>exact⟨ki rfl,mg,mb,ng1,ok'.1,nb1,ok'.2⟩
     |en=>exact⟨ki rfl,mg,mb,ng1,ok'.1,nb1,ok'.2⟩
     |fn q=>refine xEEEAAA ok' fun a' o' fd' a1 a2 a3 a4=>?_;exact⟨ki rfl,mg,a',o',fd',ng1,a1,hkeep _ _ (base _ _ a2),notF1 _ ⟨o',base _ _ a2⟩,a3,a4⟩
     |lgv q=>refine xAEA ok' fun a1 v a2 a3=>?_;exact⟨a1,mg,v,ng1,a2,a3 _ _⟩
     |lbi q=>exact⟨mg,mb,ng1,ok'.1,nb1,ok'.2⟩
     |len=>exact⟨mg,mb,ng1,ok'.1,nb1,ok'.2⟩
     |lfn q=>refine xEEEAAA ok' fun a' o' fd' a1 a2 a3 a4=>?_;exact⟨mg,a',o',fd',ng1,a1,hkeep _ _ (base _ _ a2),notF1 _ ⟨o',base _ _ a2⟩,a3,a4⟩
  have sok:SOk g env (frameSC fd.scope.names own):=by
   refine⟨fun x hx=>?_,fun x hx=>?_,fun x=>?_,?_⟩
   ·have hm:=cellNamesOf_mem hx
    have e':env.kindOf x=some .cell:=(hkd x).trans (lookup_of_mem h4 hm)
    refine xE (facts.2.2.1 x hm) fun c hc=>?_
    exact⟨.inl e',by rw[hc];rfl⟩
   ·refine xA (okKind_of hx) fun q1 q2=>?_
    refine⟨?_,q2⟩
    rcases q1 with q1|q1
    ·exact .inl ((hkd x).trans q1)
    ·refine xE (facts.2.2.1 x (mem_of_lookup q1)) fun c hc=>?_
     exact .inr ⟨(hkd x).trans q1,by rw[hc];rfl⟩
   ·rw[hkd]
    show _↔(match fd.scope.names.lookup x with|some .local=>true|_=>false)=true
    constructor
    ·intro e;rw[e]
    ·intro e
     split at e
     ·assumption
     ·exact ff e
   ·unfold interactive;rw[hsc,hk];rfl
  have hown:OwnIs (argsR names ps G) own:=fun x xs hx=>by
   refine Or.elim (argsR_lookup hlen.symm rs hx) (fun Y=>xEEA Y fun p' v e Y=>?_) fun Y=>xA Y fun Y hGx=>?_
   ·cases e
   ·exact(hG x _ hGx).elim
  have okd:AOk (n+g.K) (A.deeper env):=AOk.deeper ok env
  have run:=(soundS g n).l (frameSC fd.scope.names own) (argsR names ps G) body (.ret p) env F1 F1 (A.deeper env) noE s₁ (fun f' s'=>∃v h' t',f'= .ret v∧s'= {s₁ with heap:=h',toks:=t'}∧Mod F1 s₁.heap h'∧Rv g.prog g.w h' F1 p v) hpx okd sok inv hown f0
   (fun v h' t' m' fl' r'=>⟨v,h',t',rfl,rfl,m',r'⟩)
  refine aj run (fun f' s' Y=>xEEEAAA Y fun v h' t' e1 e2 m' r'=>?_) fun Y Y e=>e.elim
  subst e1 e2
  refine xEE hsame fun hh tk Y=>?_;clear hsame;subst Y
  exact H v h' t' (fun b o' hb=>m' b o' (hkeep b o' hb) (notF1 b ⟨o',hb⟩)) (r'.flat hflat)
namespace Q
set_option genInjectivity false in
structure P6(α:Type) where
 a:α
 b:α
 c:α
 d:α
 e:α
 f:α
structure Bk(α:Type) where
 get:P6 α→α
 set:P6 α→α→P6 α
noncomputable def bk{α:Type}(k:Nat):Bk α:=match k with
 |0=>⟨fun v=>v.a,fun v x=>match v with|⟨_,b,c,d,e,f⟩=>⟨x,b,c,d,e,f⟩⟩
 |1=>⟨fun v=>v.b,fun v x=>match v with|⟨a,_,c,d,e,f⟩=>⟨a,x,c,d,e,f⟩⟩
 |2=>⟨fun v=>v.c,fun v x=>match v with|⟨a,b,_,d,e,f⟩=>⟨a,b,x,d,e,f⟩⟩
 |3=>⟨fun v=>v.d,fun v x=>match v with|⟨a,b,c,_,e,f⟩=>⟨a,b,c,x,e,f⟩⟩
 |4=>⟨fun v=>v.e,fun v x=>match v with|⟨a,b,c,d,_,f⟩=>⟨a,b,c,d,x,f⟩⟩
 |_=>⟨fun v=>v.f,fun v x=>match v with|⟨a,b,c,d,e,_⟩=>⟨a,b,c,d,e,x⟩⟩
noncomputable abbrev Sl:=P6 (P6 (Option Ent))
structure CK where
 get:Sl→Option Ent
structure CW where
 put:Sl→Ent→Sl
noncomputable def getB(f:Bk (P6 (Option Ent)))(g:Bk (Option Ent)):CK:=match f,g with
 |⟨f,_⟩,⟨g,_⟩=>⟨fun v=>g (f v)⟩
noncomputable def getK(k:Nat):CK:=match Nat.blt k 36 with
 |true=>getB (bk (k/6)) (bk (k% 6))
 |false=>⟨fun Y=>none⟩
noncomputable def setB(f:Bk (P6 (Option Ent)))(g:Bk (Option Ent)):CW:=match f,g with
 |⟨f,f'⟩,⟨_,g'⟩=>⟨fun v x=>f' v (g' (f v) (some x))⟩
noncomputable def setK(k:Nat):CW:=setB (bk (k/6)) (bk (k% 6))
theorem bk_put{α:Type}(v:P6 α)(x:α):∀i<6,∀j<6,(bk i).get ((bk j).set v x)=if i=j then x else(bk i).get v:=
 below6 (P:=fun i=>∀j<6,(bk i).get ((bk j).set v x)=if i=j then x else(bk i).get v) (below6 (P:=fun j=>(bk 0).get ((bk j).set v x)=if 0=j then x else(bk 0).get v) rfl rfl rfl rfl rfl rfl) (below6 (P:=fun j=>(bk 1).get ((bk j).set v x)=if 1=j then x else(bk 1).get v) rfl rfl rfl rfl rfl rfl) (below6 (P:=fun j=>(bk 2).get ((bk j).set v x)=if 2=j then x else(bk 2).get v) rfl rfl rfl rfl rfl rfl) (below6 (P:=fun j=>(bk 3).get ((bk j).set v x)=if 3=j then x else(bk 3).get v) rfl rfl rfl rfl rfl rfl) (below6 (P:=fun j=>(bk 4).get ((bk j).set v x)=if 4=j then x else(bk 4).get v) rfl rfl rfl rfl rfl rfl) (below6 (P:=fun j=>(bk 5).get ((bk j).set v x)=if 5=j then x else(bk 5).get v) rfl rfl rfl rfl rfl rfl)
theorem get_put(k:Nat)(hk:k<32)(j:Nat)(v:Sl)(x:Ent):(getK j).get ((setK k).put v x)=if j=k then some x else(getK j).get v:=by
 unfold getK
 by_cases h:j<36
 ·rw[show Nat.blt j 36=true from by simpa using h]
  show(bk (j% 6)).get ((bk (j/6)).get ((bk (k/6)).set v ((bk (k% 6)).set ((bk (k/6)).get v) (some x))))=if j=k then some x else(bk (j% 6)).get ((bk (j/6)).get v)
  rw[bk_put v _ _ (by lia) _ (by lia)]
  by_cases q:j/6=k/6
  ·rw[if_pos q,bk_put _ _ _ (by lia) _ (by lia),q]
   by_cases q':j% 6=k% 6
   ·rw[if_pos q',if_pos (by lia)]
   ·rw[if_neg q',if_neg (by lia)]
  ·rw[if_neg q,if_neg (by lia)]
 ·rw[show Nat.blt j 36=false from Bool.eq_false_iff.mpr (by simpa using h),if_neg (by lia)]
noncomputable def s60:P6 (Option Ent):=⟨none,none,none,none,none,none⟩
noncomputable def sl0:Sl:=⟨s60,s60,s60,s60,s60,s60⟩
theorem bk_same{α:Type}(x:α):∀i,(bk i).get (⟨x,x,x,x,x,x⟩:P6 α)=x
 |0|1|2|3|4|_+5=>rfl
theorem get_sl0(j:Nat):(getK j).get sl0=none:=by
 unfold getK
 cases Nat.blt j 36 with
 |true=>
  show(bk (j% 6)).get ((bk (j/6)).get sl0)=none
  unfold sl0 s60
  rw[bk_same,bk_same]
 |false=>rfl
end Q
namespace Q
inductive Tag where
 |any|val|glob|late|never
noncomputable abbrev Lay:=List (Str×Nat×Tag)
structure C(α:Type) where
 run:Sl→α
structure CI where
 run:Sl→List PV→Option (List PV)
structure CD where
 run:Sl→List PV→List (List Nat)→List PV→Option (List (List Nat)×List PV)
inductive SQ where
 |next (v:Sl)
 |ret (p:PV)
structure CF where
 run:Sl→List PV→Option SQ
structure CB where
 run:PV→Sl→Option Sl
noncomputable abbrev CP:=C (Option PV)
noncomputable abbrev CL:=C (Option (List PV))
noncomputable abbrev CT:=C (Option Bool)
noncomputable abbrev CS:=C (Option SQ)
structure St where
 cn:List Str
 L:Lay
set_option genInjectivity false in
structure R where
 e:St→Expr→CP
 o:St→Option Expr→CP
 l:St→List Expr→CL
 t:St→Expr→CT
 a:St→BoolOp→List Expr→CT
 it:St→Bool→Expr→CL
 items:St→(Str→Bool)→Expr→Expr→List Expr→List Comprehension→CI
 gen:St→(Str→Bool)→Expr→List Comprehension→CL
 dict:St→(Str→Bool)→Expr→Expr→Expr→List Expr→CD
 x:SC→Lay→Stmt→CS
 xs:SC→Lay→List Stmt→CS
 wh:SC→Lay→Expr→List Stmt→CS
 fo:SC→Lay→Expr→List Stmt→CF
noncomputable def onlyV(e:Option Ent):Option Ent:=match e with
 |some (.val p)=>some (.val p)
 |_=>none
noncomputable def onlyG(e:Option Ent):Option Ent:=match e with
 |some e=>unl e
 |none=>none
noncomputable def onlyL(e:Option Ent):Option Ent:=match e with
 |some e=>lat e
 |none=>none
noncomputable def tagK(t:Tag)(c:CK):CK:=match t with
 | .any=>c
 | .val=>⟨fun v=>onlyV (c.get v)⟩
 | .glob=>⟨fun v=>onlyG (c.get v)⟩
 | .late=>⟨fun v=>onlyL (c.get v)⟩
 | .never=>⟨fun _=>none⟩
noncomputable def slotK(y:Option (Nat×Tag)):CK:=match y with
 |some (k,t)=>tagK t (getK k)
 |none=>⟨fun _=>none⟩
noncomputable def cLook(L:Lay)(x:Str):CK:=slotK (L.lookup x)
noncomputable def tagV(t:Tag):Tag:=match t with
 | .any=> .val
 | .val=> .val
 |_=> .never
noncomputable def tagG(t:Tag):Tag:=match t with
 | .any=> .glob
 | .glob=> .glob
 | .late=> .glob
 |_=> .never
noncomputable def tagL(t:Tag):Tag:=match t with
 | .any=> .late
 | .glob=> .late
 | .late=> .late
 |_=> .never
noncomputable def filt1L(L:Lay):List (Str×NameKind)→Lay→Lay
 |[],t=>t
 |(x,k)::r,t=>match k with
  | .free=>match L.lookup x with
   |some (j,a)=>(x,j,tagV a)::filt1L L r t
   |none=>filt1L L r t
  | .globalImplicit=>match L.lookup x with
   |some (j,a)=>(x,j,tagG a)::filt1L L r t
   |none=>filt1L L r t
  |_=>filt1L L r t
noncomputable def latsL(L:Lay)(l:List (Str×NameKind)):Lay→Lay
 |[]=>[]
 |(x,_)::r=>match hasN l x with
  |true=>latsL L l r
  |false=>match L.lookup x with
   |some (j,a)=>(x,j,tagL a)::latsL L l r
   |none=>latsL L l r
noncomputable def filtL(L:Lay)(l:List (Str×NameKind)):Lay:=filt1L L l (latsL L l L)
noncomputable def freshK(L:Lay):Nat:=L.foldl (fun m e=>max m (e.2.1+1)) 0
structure BX where
 L:Lay
 b:CB
noncomputable def no{α:Type}:C (Option α):=⟨fun _=>none⟩
noncomputable def c1{α β:Type}(x:Option α)(f:α→C (Option β)):C (Option β):=match x with
 |some a=>f a
 |none=>no
noncomputable def ce{α β:Type}(x:Option α)(f:α→C (Option β))(g:C (Option β)):C (Option β):=match x with
 |some a=>f a
 |none=>g
noncomputable def cg{α:Type}(b:Bool)(c:C (Option α)):C (Option α):=match b with
 |true=>c
 |false=>no
noncomputable def cB2(bk:Str→Bool)(L:Lay)(k:Nat)(x y:Str):Option BX:=gd (bk x&&bk y&&(L.lookup x).isNone&&(L.lookup y).isNone&&!(x==y)&&(k+1).blt 32)
 (some ⟨(y,k+1, .any)::(x,k, .any)::L,⟨fun p v=>o1 (isT p) fun a=>some ((setK (k+1)).put ((setK k).put v (.val a.1)) (.val a.2))⟩⟩)
noncomputable def cB1(bk:Str→Bool)(L:Lay)(k:Nat)(x:Str):Option BX:=gd (bk x&&(L.lookup x).isNone&&k.blt 32) (some ⟨(x,k, .any)::L,⟨fun p v=>some ((setK k).put v (.val p))⟩⟩)
noncomputable def cB(bk:Str→Bool)(L:Lay)(tgt:Expr):Option BX:=oe (nmOf tgt) (cB1 bk L (freshK L))<|o1 (tupOf tgt) fun elts=>o1 (nm2 elts) fun z=>cB2 bk L (freshK L) z.1 z.2
noncomputable def eCmp(n:Nat)(r:R)(st:St)(l:Expr)(ops:List CmpOp)(rs:List Expr):CT:=c1 (sgl ops) fun op=>c1 (sgl rs) fun y=>cg (!behindInMarks op y) ⟨fun u=>o2 ((r.e st l).run u) ((r.e st y).run u) (cmpN n op)⟩
noncomputable def eSub(L:Lay)(v i:CP)(e:Expr):CP:=ce (nmOf e) (fun x=>⟨fun u=>psub (oOwn ((cLook L x).get u)) (v.run u) (i.run u)⟩) ⟨fun u=>psub none (v.run u) (i.run u)⟩
noncomputable def newL(L:Lay)(tgt:Expr):Bool:=match nmOf tgt with
 |some x=>(L.lookup x).isNone
 |none=>(o1 (tupOf tgt) nm2).any fun z=>(L.lookup z.1).isNone&&(L.lookup z.2).isNone&&!(z.1==z.2)
noncomputable def eMeth(b:Bool)(m:Str)(o:CP)(args:List Expr)(f:Expr→CP):CP:=match args with
 |[]=>cg b (c1 (methOf m) fun k=>⟨fun u=>o1 (o1 (o.run u) isS) (meth0 k)⟩)
 |a::r=>cg (b&&r.isEmpty&&plainArg a&&(m==br "join")) ⟨fun u=>o2 (o1 (o.run u) isS) (o1 ((f a).run u) isL) join1⟩
noncomputable def eLC(r:R)(st st':St)(elt:Expr)(g:Comprehension)(gs:List Comprehension)(bk:Str→Bool):CP:=⟨fun u=>o1 ((r.it st (isName g.target) g.iter).run u) fun items=>o1 ((r.items st' bk elt g.target g.ifs gs).run u items) lstP⟩
noncomputable def eDC(r:R)(st st':St)(k v:Expr)(g:Comprehension)(bk:Str→Bool):CP:=⟨fun u=>o1 ((r.it st (isName g.target) g.iter).run u) fun items=>gd (items.length.blt 10000) (o1 ((r.dict st' bk k v g.target g.ifs).run u items [] []) fun z=>some (.dict z.1 z.2))⟩
noncomputable def sE(n:Nat)(r:R)(st:St)(e:Expr):CP:=match e with
 | .Constant c _ _=>⟨fun _=>constPV c⟩
 | .Name x _=>⟨fun u=>eName ((cLook st.L x).get u)⟩
 | .BinOp l op y _=>⟨fun u=>o2 ((r.e st l).run u) ((r.e st y).run u) (binPV op)⟩
 | .Compare l ops rs _=>⟨fun u=>((eCmp n r st l ops rs).run u).map .bool⟩
 | .BoolOp op vs _=>c1 (dbl vs) fun z=>⟨fun u=>o1 ((r.e st z.1).run u) fun a=>o1 (truPV a) fun t=>sl (sel op t) ((r.e st z.2).run u) (some a)⟩
 | .IfExp t b o _=>⟨fun u=>o1 ((r.t st t).run u) fun c=>sl c ((r.e st b).run u) ((r.e st o).run u)⟩
 | .Subscript v i _=>ce (slcOf i) (fun z=>cg z.2.2.isNone ⟨fun u=>o2 ((r.e st v).run u) ((r.o st z.1).run u) fun a b=>o1 ((r.o st z.2.1).run u) (slicePV a b)⟩) (eSub st.L (r.e st v) (r.e st i) v)
 | .List elts _=>⟨fun u=>o1 ((r.l st elts).run u) lstP⟩
 | .ListComp elt gens scope _=>match gens with
  |g::gs=>cg (g.is_async==0&&scopeOk scope st.cn&&gs.all (fun g=>g.is_async==0&&notSet g.iter)&&newL (filtL st.L scope.names) g.target) (eLC r st ⟨cellNames scope.names,filtL st.L scope.names⟩ elt g gs (okKind scope.names))
  |[]=>no
 | .DictComp k v gens scope _=>c1 (sgl gens) fun g=>cg (g.is_async==0&&scopeOk scope st.cn&&newL (filtL st.L scope.names) g.target) (eDC r st ⟨cellNames scope.names,filtL st.L scope.names⟩ k v g (okKind scope.names))
 | .Call f args kws pos=>cg kws.isEmpty (ce (nmOf f) (fun x=>cg (!args.isEmpty) ⟨fun u=>callE ((cLook st.L x).get u) ((r.l st args).run u)⟩)<|c1 (atOf f) fun t=>eMeth (notCall t.1&&(t.2.2.endLine==pos.line)) t.2.1 (r.e st t.1) args fun a=>r.e st a)
 |_=>no
noncomputable def sO(r:R)(st:St)(e:Option Expr):CP:=match e with
 |none=>⟨fun _=>some .none⟩
 |some e=>r.e st e
noncomputable def sL(r:R)(st:St)(es:List Expr):CL:=match es with
 |[]=>⟨fun _=>some []⟩
 |e::es=>cg (plainArg e) ⟨fun u=>o2 ((r.e st e).run u) ((r.l st es).run u) fun p ps=>some (p::ps)⟩
noncomputable def sT(n:Nat)(r:R)(st:St)(e:Expr):CT:=match e with
 | .UnaryOp op x _=>match op with
  | .Not=>⟨fun u=>((r.t st x).run u).map (!·)⟩
  |_=>no
 | .BoolOp op vs _=>r.a st op vs
 | .IfExp .. =>no
 | .Compare l ops rs _=>eCmp n r st l ops rs
 |e=>⟨fun u=>o1 ((r.e st e).run u) truPV⟩
noncomputable def sA(r:R)(st:St)(op:BoolOp)(es:List Expr):CT:=match es with
 |[]=>⟨fun _=>some (sel op true)⟩
 |e::es=>⟨fun u=>o1 ((r.t st e).run u) fun b=>sl (sel op b) ((r.a st op es).run u) (some b)⟩
noncomputable def sIt(r:R)(st:St)(nm:Bool)(e:Expr):CL:=sl nm (cg (notSet e) ⟨fun u=>o1 ((r.e st e).run u) iterPV⟩)<|c1 (calOf e) fun c=>c1 (nmOf c.1) fun x=>c1 (sgl c.2.1) fun a=>cg (plainArg a&&c.2.2.1.isEmpty) ⟨fun u=>gd (isEn ((cLook st.L x).get u)) (o1 (o1 ((r.e st a).run u) isL) enP)⟩
noncomputable def items0(b:CB)(i:CT)(g:CL)(nx:CI)(u:Sl)(ps:List PV):Option (List PV):=match ps with
 |[]=>some []
 |p::ps=>o1 (b.run p u) fun u'=>o1 (i.run u') fun c=>sl c (o2 (g.run u') (nx.run u ps) fun a b=>some (a++b)) (nx.run u ps)
noncomputable def itemsB(r:R)(st:St)(bk:Str→Bool)(elt tgt:Expr)(ifs:List Expr)(gs:List Comprehension)(b:Option BX):CI:=match b with
 |some b=>⟨fun u ps=>items0 b.b (r.a ⟨st.cn,b.L⟩ .And ifs) (r.gen ⟨st.cn,b.L⟩ bk elt gs) (r.items st bk elt tgt ifs gs) u ps⟩
 |none=>⟨fun _ _=>none⟩
noncomputable def sItems(r:R)(st:St)(bk:Str→Bool)(elt tgt:Expr)(ifs:List Expr)(gs:List Comprehension):CI:=itemsB r st bk elt tgt ifs gs (cB bk st.L tgt)
noncomputable def sGen(r:R)(st:St)(bk:Str→Bool)(elt:Expr)(gs:List Comprehension):CL:=match gs with
 |[]=>⟨fun u=>o1 ((r.e st elt).run u) fun p=>some [p]⟩
 |g::gs=>cg (newL st.L g.target) ⟨fun u=>o1 ((r.it st (isName g.target) g.iter).run u) ((r.items st bk elt g.target g.ifs gs).run u)⟩
noncomputable def dict3(nx:CD)(u:Sl)(ps:List PV)(y:List (List Nat)×List PV):Option (List (List Nat)×List PV):=match y with
 |(ks,vs)=>nx.run u ps ks vs
noncomputable def dict0(b:CB)(i:CT)(k v:CP)(nx:CD)(u:Sl)(ps:List PV)(ks:List (List Nat))(vs:List PV):Option (List (List Nat)×List PV):=match ps with
 |[]=>some (ks,vs)
 |p::ps=>o1 (b.run p u) fun u'=>o1 (i.run u') fun c=>sl c (o2 (o1 (k.run u') isS) (v.run u') fun x q=>dict3 nx u ps (putK ks vs x q)) (nx.run u ps ks vs)
noncomputable def dictB(r:R)(st:St)(bk:Str→Bool)(k v tgt:Expr)(ifs:List Expr)(b:Option BX):CD:=match b with
 |some b=>⟨fun u ps ks vs=>dict0 b.b (r.a ⟨st.cn,b.L⟩ .And ifs) (r.e ⟨st.cn,b.L⟩ k) (r.e ⟨st.cn,b.L⟩ v) (r.dict st bk k v tgt ifs) u ps ks vs⟩
 |none=>⟨fun _ _ _ _=>none⟩
noncomputable def sDict(r:R)(st:St)(bk:Str→Bool)(k v tgt:Expr)(ifs:List Expr):CD:=dictB r st bk k v tgt ifs (cB bk st.L tgt)
noncomputable def wK(y:Option (Nat×Tag)):Option CW:=match y with
 |some (k,t)=>match t with
  | .any=>gd (k.blt 32) (some (setK k))
  |_=>none
 |none=>none
noncomputable def cW(L:Lay)(x:Str):Option CW:=wK (L.lookup x)
noncomputable def fresh(r:R)(st:St)(e:Expr):CL:=ce (lisOf e) (r.l st)<|c1 (calOf e) fun c=>c1 (nmOf c.1) fun x=>c1 (sgl c.2.1) fun a=>cg (plainArg a&&c.2.2.1.isEmpty) ⟨fun u=>gd (isBL ((cLook st.L x).get u)) (o1 (o1 ((r.e st a).run u) isR) frR)⟩
noncomputable def asg1(r:R)(sc:SC)(st:St)(value:Expr)(x:Str):CS:=cg (sc.bk x)<|c1 (cW st.L x) fun w=>sl (x==sc.own) ⟨fun u=>o1 ((fresh r st value).run u) fun xs=>gd (okL xs) (some (.next (w.put u (.own xs))))⟩
 ⟨fun u=>o1 ((r.e st value).run u) fun p=>some (.next (w.put u (.val p)))⟩
noncomputable def asgI(r:R)(st:St)(value o i:Expr):CS:=c1 (nmOf o) fun x=>cg (compScope value).isNone<|c1 (cW st.L x) fun w=>⟨fun u=>o1 (oOwn ((cLook st.L x).get u)) fun xs=>o2 ((r.e st value).run u) (o1 ((r.e st i).run u) isI) fun q k=>gd (okI xs q k) (some (.next (w.put u (.own (xs.set k.toNat q)))))⟩
noncomputable def asgT(r:R)(sc:SC)(st:St)(value:Expr)(elts:List Expr):CS:=c1 (dbl elts) fun t=>c1 (tupOf value) fun vs=>c1 (dbl vs) fun e=>c1 (nmOf t.1) fun x=>c1 (nmOf t.2) fun y=>cg (swapTup sc x y t.1.pos.line t.2.pos.line e.1 e.2&&okS sc x y)<|
 c1 (cW st.L x) fun wx=>c1 (cW st.L y) fun wy=>⟨fun u=>o2 ((r.e st e.1).run u) ((r.e st e.2).run u) fun a b=>some (.next (wx.put (wy.put u (.val b)) (.val a)))⟩
noncomputable def asg2(r:R)(sc:SC)(st:St)(value:Expr)(ts:List Expr):CS:=c1 (nm2 ts) fun z=>cg (okS sc z.1 z.2)<|c1 (cW st.L z.1) fun wx=>c1 (cW st.L z.2) fun wy=>⟨fun u=>o1 ((r.e st value).run u) fun p=>some (.next (wy.put (wx.put u (.val p)) (.val p)))⟩
noncomputable def asg(r:R)(sc:SC)(st:St)(value:Expr)(ts:List Expr):CS:=ce (sgl ts) (fun t=>ce (nmOf t) (asg1 r sc st value)<|ce (subOf t) (fun z=>asgI r st value z.1 z.2)<|c1 (tupOf t) (asgT r sc st value)) (asg2 r sc st value ts)
noncomputable def aug(r:R)(sc:SC)(st:St)(op:Operator)(value t:Expr):CS:=c1 (nmOf t) fun x=>cg (sc.bk x)<|c1 (cW st.L x) fun w=>⟨fun u=>o2 (oVal ((cLook st.L x).get u)) ((r.e st value).run u) fun a b=>o1 (augPV op a b) fun c=>some (.next (w.put u (.val c)))⟩
noncomputable def apd(r:R)(st:St)(f:Expr)(args:List Expr)(kws:List Keyword)(cpos:Pos):CS:=c1 (atOf f) fun t=>c1 (sgl args) fun a=>c1 (nmOf t.1) fun x=>cg (kws.isEmpty&&(t.2.1==br "append")&&(t.2.2.endLine==cpos.line)&&plainArg a)<|
 c1 (cW st.L x) fun w=>⟨fun u=>o2 (oOwn ((cLook st.L x).get u)) ((r.e st a).run u) fun xs q=>gd (flatPV q&&xs.length.blt 10000) (some (.next (w.put u (.own (xs++[q])))))⟩
noncomputable def nxtS(r:SQ)(f:Sl→Option SQ):Option SQ:=match r with
 | .next u=>f u
 | .ret p=>some (.ret p)
noncomputable def sX(r:R)(sc:SC)(L:Lay)(st:Stmt):CS:=match st with
 | .Assign ts value _=>asg r sc ⟨sc.cn,L⟩ value ts
 | .AugAssign t op value _=>aug r sc ⟨sc.cn,L⟩ op value t
 | .Expr e _=>c1 (calOf e) fun c=>apd r ⟨sc.cn,L⟩ c.1 c.2.1 c.2.2.1 c.2.2.2
 | .If t b o _=>⟨fun u=>o1 ((r.t ⟨sc.cn,L⟩ t).run u) fun c=>sl c ((r.xs sc L b).run u) ((r.xs sc L o).run u)⟩
 | .While t b o _=>cg o.isEmpty (r.wh sc L t b)
 | .For tgt iter b o _=>cg (o.isEmpty&&okT tgt) ⟨fun u=>o1 ((r.it ⟨sc.cn,L⟩ (isName tgt) iter).run u) ((r.fo sc L tgt b).run u)⟩
 | .Return v _=>c1 v fun e=>⟨fun u=>o1 ((r.e ⟨sc.cn,L⟩ e).run u) fun p=>some (.ret p)⟩
 |_=>no
noncomputable def sXs(r:R)(sc:SC)(L:Lay)(l:List Stmt):CS:=match l with
 |[]=>⟨fun u=>some (.next u)⟩
 |st::rest=>⟨fun u=>o1 ((r.x sc L st).run u) fun q=>nxtS q (r.xs sc L rest).run⟩
noncomputable def sWh(r:R)(sc:SC)(L:Lay)(t:Expr)(b:List Stmt):CS:=⟨fun u=>o1 ((r.t ⟨sc.cn,L⟩ t).run u) fun c=>sl c (o1 ((r.xs sc L b).run u) fun q=>nxtS q (r.wh sc L t b).run) (some (.next u))⟩
noncomputable def fo0(t:CB)(b:CS)(nx:CF)(u:Sl)(ps:List PV):Option SQ:=match ps with
 |[]=>some (.next u)
 |p::ps=>o1 (t.run p u) fun u=>o1 (b.run u) fun q=>nxtS q fun u=>nx.run u ps
noncomputable def b1{α:Type}(x:Option α)(f:α→CB):CB:=match x with
 |some a=>f a
 |none=>⟨fun _ _=>none⟩
noncomputable def bg(b:Bool)(c:CB):CB:=match b with
 |true=>c
 |false=>⟨fun _ _=>none⟩
noncomputable def be{α:Type}(x:Option α)(f:α→CB)(g:CB):CB:=match x with
 |some a=>f a
 |none=>g
noncomputable def fB(bk:Str→Bool)(L:Lay)(tgt:Expr):CB:=be (nmOf tgt) (fun x=>bg (bk x) (b1 (cW L x) fun w=>⟨fun p u=>some (w.put u (.val p))⟩))<|b1 (tupOf tgt) fun elts=>b1 (nm2 elts) fun z=>bg (bk z.1&&bk z.2)<|
 b1 (cW L z.1) fun wx=>b1 (cW L z.2) fun wy=>⟨fun p u=>o1 (isT p) fun a=>some (wy.put (wx.put u (.val a.1)) (.val a.2))⟩
noncomputable def sFo(r:R)(sc:SC)(L:Lay)(tgt:Expr)(b:List Stmt):CF:=
 ⟨fun u ps=>fo0 (fB (fun x=>sc.bk x&&!(x==sc.own)) L tgt) (r.xs sc L b) (r.fo sc L tgt b) u ps⟩
noncomputable def bot:R:=⟨fun _ _=>no,fun _ _=>no,fun _ _=>no,fun _ _=>no,fun _ _ _=>no,fun _ _ _=>no,fun _ _ _ _ _ _=>⟨fun _ _=>none⟩,fun _ _ _ _=>no,fun _ _ _ _ _ _=>⟨fun _ _ _ _=>none⟩,fun _ _ _=>no,fun _ _ _=>no,fun _ _ _ _=>no,fun _ _ _ _=>⟨fun _ _=>none⟩⟩
noncomputable def step(n:Nat)(r:R):R:=⟨sE n r,sO r,sL r,sT n r,sA r,sIt r,sItems r,sGen r,sDict r,sX r,sXs r,sWh r,sFo r⟩
noncomputable def ev:Nat→R
 |0=>bot
 |n+1=>step n (ev n)
noncomputable def layOf:Nat→List Str→Lay
 |_,[]=>[]
 |k,x::r=>(x,k, .any)::layOf (k+1) r
noncomputable def fillS(ρ:Rho):Lay→Sl→Sl
 |[],u=>u
 |(x,k,_)::r,u=>match ρ.lookup x with
  |some e=>fillS ρ r ((setK k).put u e)
  |none=>fillS ρ r u
end Q
namespace Q
structure Sim(L:Lay)(u:Sl)(ρ:Rho):Prop where
 up:∀x e,(cLook L x).get u=some e→ρ.lookup x=some e
 out:∀x,L.lookup x=none→ρ.lookup x=none
theorem onlyV_eq{y:Option Ent}{e:Ent}(h:onlyV y=some e):y=some e∧isVal e=true:=by
 rcases y with _|d
 ·exact nn h
 ·cases d<;>first|exact nn h|exact bn h▸⟨rfl,rfl⟩
theorem tagV_eq{t:Tag}{c:CK}{u:Sl}{e:Ent}(h:(tagK (tagV t) c).get u=some e):(tagK t c).get u=some e∧isVal e=true:=by
 cases t
 ·exact onlyV_eq h
 ·exact⟨h,(onlyV_eq h).2⟩
 all_goals cases h
theorem onlyG_eq{y:Option Ent}{e:Ent}(h:onlyG y=some e):∃d,y=some d∧unl d=some e:=by
 cases y with
 |none=>exact nn h
 |some d=>exact⟨d,rfl,h⟩
theorem onlyL_eq{y:Option Ent}{e:Ent}(h:onlyL y=some e):∃d,y=some d∧lat d=some e:=by
 cases y with
 |none=>exact nn h
 |some d=>exact⟨d,rfl,h⟩
theorem unl_unl{d e:Ent}(h:unl d=some e):unl e=some e:=by cases d<;>first|exact nn h|exact bn h▸rfl
theorem lat_lat{d e:Ent}(h:lat d=some e):lat e=some e:=by cases d<;>first|exact nn h|exact bn h▸rfl
theorem unl_lat{d e:Ent}(h:unl d=some e):∃d',lat d=some d'∧unl d'=some e:=by cases d<;>first|exact nn h|exact⟨_,rfl,h⟩
theorem lat_unl{d e:Ent}(h:lat d=some e):∃d',unl d=some d'∧lat d'=some e:=by cases d<;>first|exact nn h|exact⟨_,rfl,h⟩
theorem tagG_eq{t:Tag}{c:CK}{u:Sl}{e:Ent}(h:(tagK (tagG t) c).get u=some e):∃d,(tagK t c).get u=some d∧unl d=some e:=by
 cases t
 ·exact onlyG_eq h
 ·exact nn h
 ·refine xEA (onlyG_eq h) fun d a b=>?_
  refine⟨e,?_,unl_unl b⟩
  show onlyG (c.get u)=some e
  rw[a];exact b
 ·refine xEA (onlyG_eq h) fun d a b=>?_
  refine xEA (unl_lat b) fun d' q q'=>?_
  refine⟨d',?_,q'⟩
  show onlyL (c.get u)=some d'
  rw[a];exact q
 ·cases h
theorem tagL_eq{t:Tag}{c:CK}{u:Sl}{e:Ent}(h:(tagK (tagL t) c).get u=some e):∃d,(tagK t c).get u=some d∧lat d=some e:=by
 cases t
 ·exact onlyL_eq h
 ·exact nn h
 ·refine xEA (onlyL_eq h) fun d a b=>?_
  refine xEA (lat_unl b) fun d' q q'=>?_
  refine⟨d',?_,q'⟩
  show onlyG (c.get u)=some d'
  rw[a];exact q
 ·refine xEA (onlyL_eq h) fun d a b=>?_
  refine⟨e,?_,lat_lat b⟩
  show onlyL (c.get u)=some e
  rw[a];exact b
 ·cases h
theorem lats_has{ρ:Rho}{l:List (Str×NameKind)}{x:Str}{d e:Ent}(hx:ρ.lookup x=some d)(hl:lat d=some e)(hn:hasN l x=false):∀{t:Rho} {f:Ent},t.lookup x=some f→(lats ρ l t).lookup x=some e
 |(y,k)::r,f,h=>by
  unfold lats
  by_cases hy:x=y
  ·subst hy
   simp[hn,hx,hl,bt]
  ·have hb:(x==y)=false:=by simpa using hy
   rw[bt,hb]at h
   have ih:=lats_has hx hl hn h
   split
   ·exact ih
   ·split
    ·split
     ·rw[bt,hb];exact ih
     ·exact ih
    ·exact ih
theorem filt1_skip{ρ t:Rho}:∀{l:List (Str×NameKind)} {x:Str},hasN l x=false→(filt1 ρ l t).lookup x=t.lookup x
 |[],x,_=>rfl
 |(y,k)::r,x,h=>by
  simp only[hasN,Bool.or_eq_false_iff]at h
  have hb:(x==y)=false:=by
   have:=h.1
   simp only[beq_eq_false_iff_ne]at this⊢
   exact fun q=>this q.symm
  have ih:=filt1_skip (ρ:=ρ) (t:=t) h.2
  unfold filt1
  cases k<;>simp only<;>try exact ih
  ·split
   ·split
    ·rw[bt,hb];exact ih
    ·exact ih
   ·exact ih
  ·split
   ·split
    ·rw[bt,hb];exact ih
    ·exact ih
   ·exact ih
theorem filt1_has{ρ t:Rho}:∀{l:List (Str×NameKind)} {x:Str} {d e:Ent},ρ.lookup x=some d→((isVal d=true∧d=e∧(x, .free)∈l)∨(unl d=some e∧(x, .globalImplicit)∈l))→(filt1 ρ l t).lookup x=some e
 |[],x,d,e,_,h=>by refine Or.elim h (fun Y=>xAA Y fun Y Y h=>?_) fun Y=>xA Y fun Y h=>?_<;>cases h
 |(y,k)::r,x,d,e,hx,h=>by
  by_cases hy:y=x
  ·subst hy
   have tl:k≠ .free∨isVal d=false→k≠ .globalImplicit∨unl d=none→((isVal d=true∧d=e∧(y, .free)∈r)∨(unl d=some e∧(y, .globalImplicit)∈r)):=fun a b=>by
    refine Or.elim h (fun Y=>xAA Y fun p q m=>?_) fun Y=>xA Y fun p m=>?_
    ·rcases bz.mp m with m|m
     ·cases m
      rcases a with a|a
      ·exact absurd rfl a
      ·rw[p]at a;exact tf a
     ·exact .inl ⟨p,q,m⟩
    ·rcases bz.mp m with m|m
     ·cases m
      rcases b with b|b
      ·exact absurd rfl b
      ·rw[p]at b;exact sn b
     ·exact .inr ⟨p,m⟩
   unfold filt1
   cases k<;>simp only
   case free=>
    rw[hx]
    cases hv:isVal d
    ·simp only[hv,Bool.false_eq_true,if_false]
     exact filt1_has hx (tl (.inr hv) (.inl nofun))
    ·have:d=e:=by
      rcases h with h|h
      ·exact h.2.1
      ·cases d<;>first|(cases hv;done)|cases h.1
     subst this
     simp[hv,bt]
   case globalImplicit=>
    rw[hx]
    cases hv:unl d with
    |none=>simp only[hv];exact filt1_has hx (tl (.inl nofun) (.inr hv))
    |some f=>
     have:f=e:=by
      rcases h with h|h
      ·cases d<;>first|(cases h.1;done)|exact nn hv
      ·rw[hv]at h;exact bn h.1
     subst this
     simp[hv,bt]
   all_goals exact filt1_has hx (tl (.inl nofun) (.inl nofun))
  ·have h':(isVal d=true∧d=e∧(x, .free)∈r)∨(unl d=some e∧(x, .globalImplicit)∈r):=by
    refine Or.elim h (fun Y=>xAA Y fun a q b=>?_) fun Y=>xA Y fun a b=>?_
    ·rcases bz.mp b with b|b
     ·cases b;exact absurd rfl hy
     ·exact .inl ⟨a,q,b⟩
    ·rcases bz.mp b with b|b
     ·cases b;exact absurd rfl hy
     ·exact .inr ⟨a,b⟩
   have ih:=filt1_has (t:=t) (l:=r) hx h'
   have hb:(x==y)=false:=by simpa using fun q:x=y=>hy q.symm
   unfold filt1
   cases k<;>simp only<;>try exact ih
   all_goals
    split
    ·split
     ·simpa only[bt,hb]using ih
     ·exact ih
    ·exact ih
theorem filtR_has{ρ:Rho}{l:List (Str×NameKind)}{x:Str}{d e:Ent}(hx:ρ.lookup x=some d)(h:(isVal d=true∧d=e∧(x, .free)∈l)∨(unl d=some e∧(x, .globalImplicit)∈l)∨(lat d=some e∧hasN l x=false)):(filtR ρ l).lookup x=some e:=by
 refine Or.elim h (fun h=>?_) fun Y=>Or.elim Y (fun h=>?_) fun Y=>xA Y fun h hn=>?_
 ·exact filt1_has hx (.inl h)
 ·exact filt1_has hx (.inr h)
 ·unfold filtR;rw[filt1_skip hn];exact lats_has hx h hn hx
set_option tactic.hygienic true in
theorem latsL_some{L:Lay}{l:List (Str×NameKind)}:∀{t:Lay} {x:Str} {j:Nat} {a:Tag},(latsL L l t).lookup x=some (j,a)→∃a',L.lookup x=some (j,a')∧a=tagL a'∧hasN l x=false
 |[],x,j,a,h=>by simp[latsL]at h
 |(y,_,_)::r,x,j,a,h=>by
  unfold latsL at h
  split at h
  ·exact latsL_some h
  ·rename_i hn
   split at h
   ·rename_i j' a' e
    rw[bt]at h
    cases hb:x==y with
    |true=>rw[hb]at h;cases h;obtain rfl:=beq_iff_eq.mp hb;exact⟨a',e,rfl,hn⟩
    |false=>rw[hb]at h;exact latsL_some h
   ·exact latsL_some h
set_option tactic.hygienic true in
theorem filt1L_some{L t0:Lay}:∀{l:List (Str×NameKind)} {x:Str} {j:Nat} {t:Tag},(filt1L L l t0).lookup x=some (j,t)→(∃t',L.lookup x=some (j,t')∧((t=tagV t'∧(x, .free)∈l)∨(t=tagG t'∧(x, .globalImplicit)∈l)))∨t0.lookup x=some (j,t)
 |[],x,j,t,h=> .inr h
 |(y,k)::r,x,j,t,h=>by
  have go:∀{j t},(filt1L L r t0).lookup x=some (j,t)→(∃t',L.lookup x=some (j,t')∧((t=tagV t'∧(x, .free)∈(y,k)::r)∨(t=tagG t'∧(x, .globalImplicit)∈(y,k)::r)))∨t0.lookup x=some (j,t):=fun h=>by
   refine Or.elim (filt1L_some h) (fun Y=>xEA Y fun t' a b=>?_) fun h=>?_
   ·exact .inl ⟨t',a,b.imp (fun q=>⟨q.1,bw _ q.2⟩) fun q=>⟨q.1,bw _ q.2⟩⟩
   ·exact .inr h
  unfold filt1L at h
  cases k<;>simp only at h<;>try exact go h
  case free=>
   split at h
   ·rename_i j' t' e
    rw[bt]at h
    by_cases hy:x=y
    ·subst hy
     simp only[beq_self_eq_true]at h
     cases h
     exact .inl ⟨_,e, .inl ⟨rfl,cb ..⟩⟩
    ·have hb:(x==y)=false:=by simpa using hy
     rw[hb]at h
     exact go h
   ·exact go h
  case globalImplicit=>
   split at h
   ·rename_i j' t' e
    rw[bt]at h
    by_cases hy:x=y
    ·subst hy
     simp only[beq_self_eq_true]at h
     cases h
     exact .inl ⟨_,e, .inr ⟨rfl,cb ..⟩⟩
    ·have hb:(x==y)=false:=by simpa using hy
     rw[hb]at h
     exact go h
   ·exact go h
theorem filtL_some{L:Lay}{l:List (Str×NameKind)}{x:Str}{j:Nat}{t:Tag}(h:(filtL L l).lookup x=some (j,t)):∃t',L.lookup x=some (j,t')∧((t=tagV t'∧(x, .free)∈l)∨(t=tagG t'∧(x, .globalImplicit)∈l)∨(t=tagL t'∧hasN l x=false)):=by
 refine Or.elim (filt1L_some h) (fun Y=>xEA Y fun t' a b=>?_) fun h=>?_
 ·exact⟨t',a,b.imp id .inl⟩
 ·refine xEAA (latsL_some h) fun a' q1 q2 q3=>?_
  exact⟨a',q1, .inr (.inr ⟨q2,q3⟩)⟩
theorem filt1L_none{L t0:Lay}:∀{l:List (Str×NameKind)} {x:Str},(filt1L L l t0).lookup x=none→((x, .free)∈l∨(x, .globalImplicit)∈l→L.lookup x=none)∧t0.lookup x=none
 |[],x,h=>⟨fun m=>(by refine Or.elim m (fun h=>?_) fun h=>?_<;>cases h),h⟩
 |(y,k)::r,x,h=>by
  have go:(filt1L L r t0).lookup x=none∧((k= .free∨k= .globalImplicit)→x=y→L.lookup x=none):=by
   unfold filt1L at h
   cases k<;>simp only at h<;>try exact⟨h,fun q=>by refine Or.elim q (fun q=>?_) fun q=>?_<;>contradiction⟩
   all_goals
    split at h
    ·rw[bt]at h
     cases hb:x==y with
     |true=>rw[hb]at h;exact sn h
     |false=>rw[hb]at h;exact⟨h,fun Y q=>by subst q;simp at hb⟩
    ·rename_i e
     exact⟨h,fun Y q=>by subst q;exact e⟩
  refine xA (filt1L_none go.1) fun ih it=>?_
  refine⟨fun m=>?_,it⟩
  refine Or.elim m (fun m=>?_) fun m=>?_<;>refine Or.elim (bz.mp m) (fun m=>?_) fun m=>?_
  ·cases m;exact go.2 (.inl rfl) rfl
  ·exact ih (.inl m)
  ·cases m;exact go.2 (.inr rfl) rfl
  ·exact ih (.inr m)
theorem latsL_none{L:Lay}{l:List (Str×NameKind)}{x:Str}(hn:hasN l x=false):∀{t:Lay},(latsL L l t).lookup x=none→L.lookup x=none∨t.lookup x=none
 |[],_=> .inr rfl
 |(y,_,_)::r,h=>by
  unfold latsL at h
  by_cases hy:x=y
  ·subst hy
   rw[hn]at h
   simp only at h
   split at h
   ·simp[bt]at h
   ·rename_i e;exact .inl e
  ·have hb:(x==y)=false:=by simpa using hy
   have:(latsL L l r).lookup x=none:=by
    split at h
    ·exact h
    ·split at h
     ·rw[bt,hb]at h;exact h
     ·exact h
   refine Or.elim (latsL_none hn this) (fun q=>?_) fun q=>?_
   ·exact .inl q
   ·exact .inr (by rw[bt,hb];exact q)
theorem Sim.filt{L:Lay}{u:Sl}{ρ:Rho}(S:Sim L u ρ)(l:List (Str×NameKind)):Sim (filtL L l) u (filtR ρ l):=by
 constructor
 ·intro x e h
  unfold cLook at h
  cases hl:(filtL L l).lookup x with
  |none=>rw[hl]at h;exact nn h
  |some jt=>
   obtain⟨j,t⟩:=jt
   rw[hl]at h
   refine xEA (filtL_some hl) fun t' a b=>?_
   rcases b with ⟨rfl,m⟩|⟨rfl,m⟩|⟨rfl,m⟩
   ·refine xA (tagV_eq (c:=getK j) h) fun c d=>?_
    exact filtR_has (S.up x e (by unfold cLook;rw[a];exact c)) (.inl ⟨d,rfl,m⟩)
   ·refine xEA (tagG_eq (c:=getK j) h) fun f c d=>?_
    exact filtR_has (S.up x f (by unfold cLook;rw[a];exact c)) (.inr (.inl ⟨d,m⟩))
   ·refine xEA (tagL_eq (c:=getK j) h) fun f c d=>?_
    exact filtR_has (S.up x f (by unfold cLook;rw[a];exact c)) (.inr (.inr ⟨d,m⟩))
 ·intro x h
  cases hl:(filtR ρ l).lookup x with
  |none=>rfl
  |some e=>
   refine xEA (filtR_lookup hl) fun d a b=>?_
   refine xA (filt1L_none h) fun n1 n2=>?_
   have:L.lookup x=none:=by
    refine Or.elim b (fun b=>?_) fun Y=>Or.elim Y (fun b=>?_) fun b=>?_
    ·exact n1 (.inl b.2.2)
    ·exact n1 (.inr b.2)
    ·refine Or.elim (latsL_none b.2 n2) (fun q=>?_) fun q=>?_<;>exact q
   have:=S.out x this
   rw[a]at this;cases this
end Q
namespace Q
theorem foldMax:∀(L:Lay) (m:Nat),m≤L.foldl (fun m e=>max m (e.2.1+1)) m∧∀x j t,L.lookup x=some (j,t)→j<L.foldl (fun m e=>max m (e.2.1+1)) m
 |[],m=>⟨Nat.le_refl _,fun Y Y Y h=>by simp at h⟩
 |(y,i,t)::r,m=>by
  refine xA (foldMax r (max m (i+1))) fun a b=>?_
  refine⟨Nat.le_trans (Nat.le_max_left ..) a,fun x j t' h=>?_⟩
  rw[bt]at h
  split at h
  ·cases h
   exact Nat.lt_of_lt_of_le (Nat.lt_succ_self _) (Nat.le_trans (Nat.le_max_right m _) a)
  ·exact b x j t' h
theorem fresh_lt{L:Lay}{x:Str}{j:Nat}{t:Tag}(h:L.lookup x=some (j,t)):j<freshK L:=(foldMax L 0).2 x j t h
theorem tagK_put{t:Tag}{j k:Nat}(hk:k<32)(n:j≠k)(v:Sl)(x:Ent):(tagK t (getK j)).get ((setK k).put v x)=(tagK t (getK j)).get v:=by
 have:(getK j).get ((setK k).put v x)=(getK j).get v:=by rw[get_put k hk,if_neg n]
 cases t
 ·exact this
 ·show onlyV _=onlyV _;rw[this]
 ·show onlyG _=onlyG _;rw[this]
 ·show onlyL _=onlyL _;rw[this]
 ·rfl
theorem look_put{L:Lay}{x:Str}{k:Nat}(hk:k<32)(n:∀j t,L.lookup x=some (j,t)→j≠k)(v:Sl)(e:Ent):(cLook L x).get ((setK k).put v e)=(cLook L x).get v:=by
 unfold cLook
 cases h:L.lookup x with
 |none=>rfl
 |some jt=>exact tagK_put hk (n jt.1 jt.2 h) v e
theorem Sim.new{L:Lay}{u:Sl}{ρ:Rho}(S:Sim L u ρ){x:Str}{k:Nat}(hk:k<32)(n:freshK L≤k)(e:Ent):Sim ((x,k, .any)::L) ((setK k).put u e) (setR ρ x e):=by
 constructor
 ·intro y d h
  rw[setR_lookup]
  unfold cLook at h
  rw[bt]at h
  by_cases q:y=x
  ·subst q
   simp only[beq_self_eq_true]at h
   rw[if_pos rfl]
   have:(getK k).get ((setK k).put u e)=some d:=h
   rw[get_put k hk,if_pos rfl]at this
   exact this
  ·have hb:(y==x)=false:=by simpa using q
   rw[hb]at h
   rw[if_neg q]
   refine S.up y d ?_
   rw[←look_put hk (fun j t hj=>?_) u e]
   ·exact h
   ·have:=fresh_lt hj;lia
 ·intro y h
  rw[bt]at h
  rw[setR_lookup]
  by_cases q:y=x
  ·subst q;simp at h
  ·have hb:(y==x)=false:=by simpa using q
   rw[hb]at h
   rw[if_neg q]
   exact S.out y h
theorem freshK_cons(L:Lay)(x:Str)(k:Nat)(t:Tag)(h:freshK L≤k+1):freshK ((x,k,t)::L)=k+1:=by
 have key:∀(L:Lay) (a b:Nat),L.foldl (fun m e=>max m (e.2.1+1)) (max a b)=max a (L.foldl (fun m e=>max m (e.2.1+1)) b):=by
  intro L
  induction L with
  |nil=>intro a b;rfl
  |cons z r ih=>
   intro a b
   simp only[List.foldl_cons]
   rw[Nat.max_assoc,ih]
 unfold freshK at h⊢
 simp only[List.foldl_cons]
 rw[Nat.max_comm,key]
 lia
def SlotsOk(L:Lay):Prop:=∀x y k t t',L.lookup x=some (k,t)→L.lookup y=some (k,t')→x=y
theorem cW_eq{L:Lay}{x:Str}{w:CW}(h:cW L x=some w):∃k,L.lookup x=some (k, .any)∧k<32∧w=setK k:=by
 unfold cW at h
 cases hl:L.lookup x with
 |none=>rw[hl]at h;exact nn h
 |some z=>
  obtain⟨k,t⟩:=z
  rw[hl]at h
  cases t<;>first|exact nn h|exact gd_inv h fun hk e=>⟨k,rfl,blt_lt hk,(bn e).symm⟩
theorem Sim.put{L:Lay}{u:Sl}{ρ:Rho}(S:Sim L u ρ)(D:SlotsOk L){x:Str}{w:CW}(hw:cW L x=some w)(e:Ent):Sim L (w.put u e) (setR ρ x e):=by
 refine xEAA (cW_eq hw) fun k hx hk Y=>?_;subst Y
 constructor
 ·intro y d h
  rw[setR_lookup]
  by_cases q:y=x
  ·subst q
   rw[if_pos rfl]
   unfold cLook at h
   rw[hx]at h
   have:(getK k).get ((setK k).put u e)=some d:=h
   rw[get_put k hk,if_pos rfl]at this
   exact this
  ·rw[if_neg q]
   refine S.up y d ?_
   rw[←look_put hk (fun j t hj=>?_) u e]
   ·exact h
   ·rintro rfl;exact q (D _ _ _ _ _ hj hx)
 ·intro y h
  rw[setR_lookup]
  by_cases q:y=x
  ·subst q;rw[hx]at h;exact sn h
  ·rw[if_neg q];exact S.out y h
theorem b1_inv{α:Type}{x:Option α}{f:α→CB}{p:PV}{u u':Sl}(h:(b1 x f).run p u=some u'){G:Prop}(k:∀a,x=some a→(f a).run p u=some u'→G):G:=by
 cases x with
 |none=>exact nn h
 |some a=>exact k a rfl h
theorem bg_inv{b:Bool}{c:CB}{p:PV}{u u':Sl}(h:(bg b c).run p u=some u'){G:Prop}(k:b=true→c.run p u=some u'→G):G:=by
 cases b with
 |false=>exact nn h
 |true=>exact k rfl h
theorem Sim.newL{L:Lay}{u:Sl}{ρ:Rho}(S:Sim L u ρ){tgt:Expr}(h:Q.newL L tgt=true):newT ρ tgt=true:=by
 have nn':∀x,(L.lookup x).isNone=true→(ρ.lookup x).isNone=true:=fun x h=>by
  rw[S.out x (Option.isNone_iff_eq_none.mp h)];rfl
 unfold Q.newL at h
 unfold newT
 cases hn:nmOf tgt with
 |some x=>rw[hn]at h;exact nn' _ h
 |none=>
  rw[hn]at h
  cases ht:o1 (tupOf tgt) nm2 with
  |none=>rw[ht]at h;exact ff h
  |some z=>
   rw[ht]at h
   have h:((L.lookup z.1).isNone&&(L.lookup z.2).isNone&&!(z.1==z.2))=true:=h
   show((ρ.lookup z.1).isNone&&(ρ.lookup z.2).isNone&&!(z.1==z.2))=true
   rw[bp,bp]at h⊢
   exact⟨⟨nn' _ h.1.1,nn' _ h.1.2⟩,h.2⟩
theorem Sim.cB{L:Lay}{u u':Sl}{ρ:Rho}(S:Sim L u ρ){bk:Str→Bool}{tgt:Expr}{b:BX}{p:PV}(h:Q.cB bk L tgt=some b)(r:b.b.run p u=some u'):∃ρ',bindT bk tgt p ρ=some ρ'∧Sim b.L u' ρ':=by
 refine oe_inv2 h (fun x hx h=>gd_inv h fun c h=>?_) fun hx h=>o1_inv h fun elts he h=>o1_inv h fun z hz h=>gd_inv h fun c h=>?_
 ·rw[bp,bp]at c
  rw[←bn h]at r⊢
  exact⟨_,oe_mk hx (gd_mk c.1.1 rfl),bn r▸S.new (blt_lt c.2) (Nat.le_refl _) _⟩
 ·simp only[bp]at c
  rw[←bn h]at r⊢
  refine o1_inv r fun a ha r=>?_
  have hk:freshK L+1<32:=blt_lt c.2
  refine⟨_,oe_no hx (o1_mk he (o1_mk hz (gd_mk (by rw[c.1.1.1.1.1,c.1.1.1.1.2];rfl) (o1_mk ha rfl)))),bn r▸(S.new (by lia) (Nat.le_refl _) _).new hk ?_ _⟩
  rw[freshK_cons _ _ _ _ (by lia)]
  exact Nat.le_refl _
theorem Sim.fB{L:Lay}{u u':Sl}{ρ:Rho}(S:Sim L u ρ)(D:SlotsOk L){bk:Str→Bool}{tgt:Expr}{p:PV}(r:(Q.fB bk L tgt).run p u=some u'):∃ρ',bindT bk tgt p ρ=some ρ'∧Sim L u' ρ':=by
 unfold Q.fB at r
 cases hx:nmOf tgt with
 |some x=>
  rw[hx]at r
  exact bg_inv r fun hb r=>b1_inv r fun w hw r=>⟨_,oe_mk hx (gd_mk hb rfl),bn r▸S.put D hw _⟩
 |none=>
  rw[hx]at r
  exact b1_inv r fun elts he r=>b1_inv r fun z hz r=>bg_inv r fun hb r=>b1_inv r fun wx h1 r=>b1_inv r fun wy h2 r=>o1_inv r fun a ha r=>
   ⟨_,oe_no hx (o1_mk he (o1_mk hz (gd_mk hb (o1_mk ha rfl)))),bn r▸(S.put D h1 _).put D h2 _⟩
end Q
section
namespace Q
structure SimAll(n:Nat):Prop where
 e:∀st u ρ ex p,Sim st.L u ρ→((ev n).e st ex).run u=some p→pe n st.cn ρ ex=some p
 o:∀st u ρ ex p,Sim st.L u ρ→((ev n).o st ex).run u=some p→po n st.cn ρ ex=some p
 l:∀st u ρ ex p,Sim st.L u ρ→((ev n).l st ex).run u=some p→pl n st.cn ρ ex=some p
 t:∀st u ρ ex p,Sim st.L u ρ→((ev n).t st ex).run u=some p→pt n st.cn ρ ex=some p
 a:∀st u ρ op ex p,Sim st.L u ρ→((ev n).a st op ex).run u=some p→pa n st.cn ρ op ex=some p
 it:∀st u ρ nm ex p,Sim st.L u ρ→((ev n).it st nm ex).run u=some p→pit n st.cn ρ nm ex=some p
 items:∀st u ρ bk elt tgt ifs gs ps p,Sim st.L u ρ→((ev n).items st bk elt tgt ifs gs).run u ps=some p→pitems n st.cn bk ρ elt tgt ifs gs ps=some p
 gen:∀st u ρ bk elt gs p,Sim st.L u ρ→((ev n).gen st bk elt gs).run u=some p→pgen n st.cn bk ρ elt gs=some p
 dict:∀st u ρ bk k v tgt ifs ps ks vs p,Sim st.L u ρ→((ev n).dict st bk k v tgt ifs).run u ps ks vs=some p→pdict n st.cn bk ρ k v tgt ifs ps ks vs=some p
section
variable{α β γ:Type}{x x':Option α}{f f':α→Option β}{c d:Bool}{u:Sl}{r:β}
theorem o1_s(h:o1 x f=some r)(hx:∀a,x=some a→x'=some a)(k:∀a,f a=some r→f' a=some r):o1 x' f'=some r:=o1_inv h fun a e h=>o1_mk (hx a e) (k a h)
theorem o2_s{y y':Option γ}{f f':α→γ→Option β}(h:o2 x y f=some r)(hx:∀a,x=some a→x'=some a)(hy:∀a,y=some a→y'=some a)(k:∀a b,f a b=some r→f' a b=some r):o2 x' y' f'=some r:=o2_inv h fun a b e1 e2 h=>by
 rw[hx a e1,hy b e2];exact k a b h
theorem map_s{f:α→β}(h:x.map f=some r)(hx:∀a,x=some a→x'=some a):x'.map f=some r:=map_inv h fun a e h=>by rw[hx a e];exact congrArg some h
theorem c1_inv{f:α→C (Option β)}(h:(c1 x f).run u=some r){G:Prop}(k:∀a,x=some a→(f a).run u=some r→G):G:=by
 cases x with
 |none=>exact nn h
 |some a=>exact k a rfl h
theorem c1_s{f:α→C (Option β)}(h:(c1 x f).run u=some r)(k:∀a,(f a).run u=some r→f' a=some r):o1 x f'=some r:=c1_inv h fun a e h=>o1_mk e (k a h)
theorem cg_inv{y:C (Option β)}(h:(cg c y).run u=some r){G:Prop}(k:c=true→y.run u=some r→G):G:=by
 cases c with
 |false=>exact nn h
 |true=>exact k rfl h
theorem cg_s{y:C (Option β)}{z:Option β}(h:(cg c y).run u=some r)(k:y.run u=some r→z=some r):gd c z=some r:=cg_inv h fun e h=>gd_mk e (k h)
theorem ce_inv{f:α→C (Option β)}{g:C (Option β)}(h:(ce x f g).run u=some r){G:Prop}(k:∀a,x=some a→(f a).run u=some r→G)(l:x=none→g.run u=some r→G):G:=by
 cases x with
 |none=>exact l rfl h
 |some a=>exact k a rfl h
theorem ce_s{f:α→C (Option β)}{g:C (Option β)}{g':Option β}(h:(ce x f g).run u=some r)(k:∀a,(f a).run u=some r→f' a=some r)(l:g.run u=some r→g'=some r):oe x f' g'=some r:=ce_inv h (fun a e h=>oe_mk e (k a h)) fun e h=>oe_no e (l h)
theorem gd_s{y z:Option β}(h:gd c y=some r)(hc:c=true→d=true)(k:y=some r→z=some r):gd d z=some r:=gd_inv h fun e h=>gd_mk (hc e) (k h)
theorem sl_s{y y' z z':Option β}(h:sl c y z=some r)(k:y=some r→y'=some r)(l:z=some r→z'=some r):sl c y' z'=some r:=by
 cases c with
 |false=>exact l h
 |true=>exact k h
theorem slc_s{y z:C (Option β)}{y' z':Option β}(h:(sl c y z).run u=some r)(k:y.run u=some r→y'=some r)(l:z.run u=some r→z'=some r):sl c y' z'=some r:=by
 cases c with
 |false=>exact l h
 |true=>exact k h
end
variable{n:Nat}{st:St}{u:Sl}{ρ:Rho}
theorem eName_s(S:Sim st.L u ρ){x:Str}{p:PV}(h:eName ((cLook st.L x).get u)=some p):eName (ρ.lookup x)=some p:=by
 refine Or.elim (eName_inv h) (fun e=>?_) fun e=>?_
 ·rw[S.up _ _ e];rfl
 ·rw[S.up _ _ e];rfl
theorem oOwn_s{L:Lay}(S:Sim L u ρ){x:Str}{p:List PV}(h:oOwn ((cLook L x).get u)=some p):oOwn (ρ.lookup x)=some p:=by rw[S.up _ _ (oOwn_inv h)];rfl
theorem oVal_s{L:Lay}(S:Sim L u ρ){x:Str}{p:PV}(h:oVal ((cLook L x).get u)=some p):oVal (ρ.lookup x)=some p:=by rw[S.up _ _ (oVal_inv h)];rfl
theorem isEn_s{L:Lay}(S:Sim L u ρ){x:Str}(h:isEn ((cLook L x).get u)=true):isEn (ρ.lookup x)=true:=by rw[S.up _ _ (isEn_eq h)];rfl
theorem isBL_s{L:Lay}(S:Sim L u ρ){x:Str}(h:isBL ((cLook L x).get u)=true):isBL (ρ.lookup x)=true:=by rw[S.up _ _ (isBL_eq h)];rfl
theorem callE_s(S:Sim st.L u ρ){x:Str}{ps ps':Option (List PV)}{p:PV}(h:callE ((cLook st.L x).get u) ps=some p)(hp:∀q,ps=some q→ps'=some q):callE (ρ.lookup x) ps'=some p:=
 callE_inv h (fun f l e hl h=>by rw[S.up _ _ e,hp _ hl];exact h) fun f l e hl h=>by rw[S.up _ _ e,hp _ hl];exact h
theorem eCmp_s(H:SimAll n)(S:Sim st.L u ρ){l:Expr}{ops:List CmpOp}{rs:List Expr}{p:Bool}(h:(eCmp n (ev n) st l ops rs).run u=some p):pcmp n ops rs (pe n st.cn ρ l) (fun r=>pe n st.cn ρ r)=some p:=
 c1_s h fun Y h=>c1_s h fun Y h=>cg_s h fun h=>o2_s h (fun Y=>H.e _ _ _ _ _ S) (fun Y=>H.e _ _ _ _ _ S) fun Y Y h=>h
theorem eSub_s(H:SimAll n)(S:Sim st.L u ρ){v i:Expr}{p:PV}(h:(eSub st.L ((ev n).e st v) ((ev n).e st i) v).run u=some p):psub (pown ρ v) (pe n st.cn ρ v) (pe n st.cn ρ i)=some p:=by
 have two:pown ρ v=none→o2 (((ev n).e st v).run u) (((ev n).e st i).run u) subPV=some p→psub (pown ρ v) (pe n st.cn ρ v) (pe n st.cn ρ i)=some p:=fun e h=>by
  rw[e];exact o2_s h (fun Y=>H.e _ _ _ _ _ S) (fun Y=>H.e _ _ _ _ _ S) fun Y Y h=>h
 refine ce_inv h (fun x hx h=>?_) fun hx h=>two (by unfold pown;rw[hx];rfl) h
 have hp:pown ρ v=oOwn (ρ.lookup x):=by unfold pown;rw[hx];rfl
 have h:psub (oOwn ((cLook st.L x).get u)) (((ev n).e st v).run u) (((ev n).e st i).run u)=some p:=h
 cases ho:oOwn ((cLook st.L x).get u)with
 |some xs=>
  rw[ho]at h
  rw[hp,oOwn_s S ho]
  exact o1_s (show o1 _ _=some p from h) (fun Y h=>o1_s h (fun Y=>H.e _ _ _ _ _ S) fun Y h=>h) fun Y h=>h
 |none=>
  rw[ho]at h
  refine two ?_ h
  rw[hp]
  refine o2_inv (show o2 _ _ _=some p from h) fun a Y ha Y Y=>?_
  refine xE (nmOf_eq hx) fun px Y=>?_;subst Y
  have:=H.e _ _ _ _ _ S ha
  cases n with
  |zero=>exact nn this
  |succ m=>refine Or.elim (eName_inv this) (fun e=>?_) fun e=>?_<;>(rw[e];rfl)
end Q
end
section
namespace Q
variable{n:Nat}{st:St}{u:Sl}{ρ:Rho}
theorem eLC_s(H:SimAll n)(S:Sim st.L u ρ){elt:Expr}{g:Comprehension}{gs:List Comprehension}{scope:Scope}{p:PV}(h:(eLC (ev n) st ⟨cellNames scope.names,filtL st.L scope.names⟩ elt g gs (okKind scope.names)).run u=some p):
  o1 (pit n st.cn ρ (isName g.target) g.iter) (fun items=>o1 (pitems n (cellNames scope.names) (okKind scope.names) (filtR ρ scope.names) elt g.target g.ifs gs items) lstP)=some p:=
 o1_s h (fun Y=>H.it _ _ _ _ _ _ S) fun Y h=>o1_s h (fun Y=>H.items ⟨cellNames scope.names,filtL st.L scope.names⟩ u _ _ _ _ _ _ _ _ (S.filt scope.names)) fun Y h=>h
theorem eDC_s(H:SimAll n)(S:Sim st.L u ρ){k v:Expr}{g:Comprehension}{scope:Scope}{p:PV}(h:(eDC (ev n) st ⟨cellNames scope.names,filtL st.L scope.names⟩ k v g (okKind scope.names)).run u=some p):
  o1 (pit n st.cn ρ (isName g.target) g.iter) (fun items=>gd (items.length.blt 10000) (o1 (pdict n (cellNames scope.names) (okKind scope.names) (filtR ρ scope.names) k v g.target g.ifs items [] []) fun z=>some (.dict z.1 z.2)))=some p:=
 o1_s h (fun Y=>H.it _ _ _ _ _ _ S) fun Y h=>gd_s h id fun h=>o1_s h (fun Y=>H.dict ⟨cellNames scope.names,filtL st.L scope.names⟩ u _ _ _ _ _ _ _ _ _ _ (S.filt scope.names)) fun Y h=>h
theorem eMeth_s(H:SimAll n)(S:Sim st.L u ρ){b:Bool}{m:Str}{o:Expr}{args:List Expr}{p:PV}(h:(eMeth b m ((ev n).e st o) args fun a=>(ev n).e st a).run u=some p):pmeth b m (pe n st.cn ρ o) args (fun a=>pe n st.cn ρ a)=some p:=by
 cases args with
 |nil=>exact cg_s h fun h=>c1_s h fun Y h=>o1_s h (fun Y h=>o1_s h (fun Y=>H.e _ _ _ _ _ S) fun Y h=>h) fun Y h=>h
 |cons a r=>exact cg_s h fun h=>o2_s h (fun Y h=>o1_s h (fun Y=>H.e _ _ _ _ _ S) fun Y h=>h) (fun Y h=>o1_s h (fun Y=>H.e _ _ _ _ _ S) fun Y h=>h) fun Y Y h=>h
theorem new_and{a b c:Bool}(i:b=true→c=true)(h:(a&&b)=true):(a&&c)=true:=by
 rw[bp]at h⊢;exact⟨h.1,i h.2⟩
theorem e_ok(H:SimAll n)(S:Sim st.L u ρ){ex:Expr}{p:PV}(h:(sE n (ev n) st ex).run u=some p):pe (n+1) st.cn ρ ex=some p:=by
 cases ex with
 |Constant=>exact h
 |Name=>exact eName_s S h
 |BinOp=>exact o2_s h (fun Y=>H.e _ _ _ _ _ S) (fun Y=>H.e _ _ _ _ _ S) fun Y Y h=>h
 |Compare=>exact map_s h fun Y=>eCmp_s H S
 |BoolOp=>exact c1_s h fun Y h=>o1_s h (fun Y=>H.e _ _ _ _ _ S) fun Y h=>o1_s h (fun Y h=>h) fun Y h=>sl_s h (H.e _ _ _ _ _ S) id
 |IfExp=>exact o1_s h (fun Y=>H.t _ _ _ _ _ S) fun Y h=>sl_s h (H.e _ _ _ _ _ S) (H.e _ _ _ _ _ S)
 |Subscript=>exact ce_s h (fun Y h=>cg_s h fun h=>o2_s h (fun Y=>H.e _ _ _ _ _ S) (fun Y=>H.o _ _ _ _ _ S) fun Y Y h=>o1_s h (fun Y=>H.o _ _ _ _ _ S) fun Y h=>h) (eSub_s H S)
 |List=>exact o1_s h (fun Y=>H.l _ _ _ _ _ S) fun Y h=>h
 |ListComp elt gens scope pos=>
  cases gens with
  |nil=>exact nn h
  |cons g gs=>exact cg_inv h fun hc h=>gd_mk (new_and (S.filt scope.names).newL hc) (eLC_s H S h)
 |DictComp k v gens scope pos=>exact c1_s h fun g h=>cg_inv h fun hc h=>gd_mk (new_and (S.filt scope.names).newL hc) (eDC_s H S h)
 |Call=>exact cg_s h fun h=>ce_s h (fun Y h=>cg_s h fun h=>callE_s S h fun Y=>H.l _ _ _ _ _ S) fun h=>c1_s h fun Y h=>eMeth_s H S h
 |_=>exact nn h
end Q
end
section
namespace Q
variable{n:Nat}{st:St}{u:Sl}{ρ:Rho}
theorem o_ok(H:SimAll n)(S:Sim st.L u ρ){ex:Option Expr}{p:PV}(h:(sO (ev n) st ex).run u=some p):po (n+1) st.cn ρ ex=some p:=by
 cases ex with
 |none=>exact h
 |some e=>exact H.e _ _ _ _ _ S h
theorem l_ok(H:SimAll n)(S:Sim st.L u ρ){es:List Expr}{p:List PV}(h:(sL (ev n) st es).run u=some p):pl (n+1) st.cn ρ es=some p:=by
 cases es with
 |nil=>exact h
 |cons e es=>exact cg_s h fun h=>o2_s h (fun Y=>H.e _ _ _ _ _ S) (fun Y=>H.l _ _ _ _ _ S) fun Y Y h=>h
theorem t_ok(H:SimAll n)(S:Sim st.L u ρ){ex:Expr}{p:Bool}(h:(sT n (ev n) st ex).run u=some p):pt (n+1) st.cn ρ ex=some p:=by
 cases ex with
 |UnaryOp op x px=>cases op<;>first|exact nn h|exact map_s h fun Y=>H.t _ _ _ _ _ S
 |BoolOp=>exact H.a _ _ _ _ _ _ S h
 |IfExp=>exact nn h
 |Compare=>exact eCmp_s H S h
 |_=>exact o1_s h (fun Y=>H.e _ _ _ _ _ S) fun Y h=>h
theorem a_ok(H:SimAll n)(S:Sim st.L u ρ){op:BoolOp}{es:List Expr}{p:Bool}(h:(sA (ev n) st op es).run u=some p):pa (n+1) st.cn ρ op es=some p:=by
 cases es with
 |nil=>exact h
 |cons e es=>exact o1_s h (fun Y=>H.t _ _ _ _ _ S) fun Y h=>sl_s h (H.a _ _ _ _ _ _ S) id
theorem it_ok(H:SimAll n)(S:Sim st.L u ρ){nm:Bool}{ex:Expr}{p:List PV}(h:(sIt (ev n) st nm ex).run u=some p):pit (n+1) st.cn ρ nm ex=some p:=
 slc_s h (fun h=>cg_s h fun h=>o1_s h (fun Y=>H.e _ _ _ _ _ S) fun Y h=>h) fun h=>c1_s h fun Y h=>c1_s h fun Y h=>c1_s h fun Y h=>cg_s h fun h=>gd_s h (isEn_s S) fun h=>o1_s h (fun Y h=>o1_s h (fun Y=>H.e _ _ _ _ _ S) fun Y h=>h) fun Y h=>h
theorem items_ok(H:SimAll n)(S:Sim st.L u ρ){bk:Str→Bool}{elt tgt:Expr}{ifs:List Expr}{gs:List Comprehension}{ps p:List PV}(h:(sItems (ev n) st bk elt tgt ifs gs).run u ps=some p):pitems (n+1) st.cn bk ρ elt tgt ifs gs ps=some p:=by
 unfold sItems at h
 cases hb:cB bk st.L tgt with
 |none=>rw[hb]at h;exact nn h
 |some b=>
  rw[hb]at h
  cases ps with
  |nil=>exact h
  |cons q ps=>
   refine o1_inv h fun u' hu h=>?_
   refine xEA (S.cB hb hu) fun ρ' e1 S'=>?_
   exact o1_mk e1 (o1_s h (fun Y=>H.a ⟨st.cn,b.L⟩ _ _ _ _ _ S') fun Y h=>sl_s h (fun h=>o2_s h (fun Y=>H.gen ⟨st.cn,b.L⟩ _ _ _ _ _ _ S') (fun Y=>H.items _ _ _ _ _ _ _ _ _ _ S) fun Y Y h=>h) (H.items _ _ _ _ _ _ _ _ _ _ S))
theorem gen_ok(H:SimAll n)(S:Sim st.L u ρ){bk:Str→Bool}{elt:Expr}{gs:List Comprehension}{p:List PV}(h:(sGen (ev n) st bk elt gs).run u=some p):pgen (n+1) st.cn bk ρ elt gs=some p:=by
 cases gs with
 |nil=>exact o1_s h (fun Y=>H.e _ _ _ _ _ S) fun Y h=>h
 |cons g gs=>exact cg_inv h fun hn h=>gd_mk (S.newL hn) (o1_s h (fun Y=>H.it _ _ _ _ _ _ S) fun Y=>H.items _ _ _ _ _ _ _ _ _ _ S)
theorem dict_ok(H:SimAll n)(S:Sim st.L u ρ){bk:Str→Bool}{k v tgt:Expr}{ifs:List Expr}{ps:List PV}{ks:List (List Nat)}{vs:List PV}{p:List (List Nat)×List PV}(h:(sDict (ev n) st bk k v tgt ifs).run u ps ks vs=some p):pdict (n+1) st.cn bk ρ k v tgt ifs ps ks vs=some p:=by
 unfold sDict at h
 cases hb:cB bk st.L tgt with
 |none=>rw[hb]at h;exact nn h
 |some b=>
  rw[hb]at h
  cases ps with
  |nil=>exact h
  |cons q ps=>
   refine o1_inv h fun u' hu h=>?_
   refine xEA (S.cB hb hu) fun ρ' e1 S'=>?_
   exact o1_mk e1 (o1_s h (fun Y=>H.a ⟨st.cn,b.L⟩ _ _ _ _ _ S') fun Y h=>sl_s h (fun h=>o2_s h (fun Y h=>o1_s h (fun Y=>H.e ⟨st.cn,b.L⟩ _ _ _ _ S') fun Y h=>h) (fun Y=>H.e ⟨st.cn,b.L⟩ _ _ _ _ S') fun Y Y=>H.dict _ _ _ _ _ _ _ _ _ _ _ _ S) (H.dict _ _ _ _ _ _ _ _ _ _ _ _ S))
theorem simAll:∀n,SimAll n
 |0=>⟨fun Y Y Y Y Y Y h=>nn h,fun Y Y Y Y Y Y h=>nn h,fun Y Y Y Y Y Y h=>nn h,fun Y Y Y Y Y Y h=>nn h,fun Y Y Y Y Y Y Y h=>nn h,fun Y Y Y Y Y Y Y h=>nn h,fun Y Y Y Y Y Y Y Y Y Y Y h=>nn h,fun Y Y Y Y Y Y Y Y h=>nn h,fun Y Y Y Y Y Y Y Y Y Y Y Y Y h=>nn h⟩
 |n+1=>⟨fun Y Y Y Y Y S h=>e_ok (simAll n) S h,fun Y Y Y Y Y S h=>o_ok (simAll n) S h,fun Y Y Y Y Y S h=>l_ok (simAll n) S h,fun Y Y Y Y Y S h=>t_ok (simAll n) S h,fun Y Y Y Y Y Y S h=>a_ok (simAll n) S h,fun Y Y Y Y Y Y S h=>it_ok (simAll n) S h,
   fun Y Y Y Y Y Y Y Y Y Y S h=>items_ok (simAll n) S h,fun Y Y Y Y Y Y Y S h=>gen_ok (simAll n) S h,fun Y Y Y Y Y Y Y Y Y Y Y Y S h=>dict_ok (simAll n) S h⟩
end Q
end
section
namespace Q
def AgS(L:Lay)(y:Option SR)(r:SQ):Prop:=match r with
 | .next u'=>∃ρ',y=some (.next ρ')∧Sim L u' ρ'
 | .ret p=>y=some (.ret p)
structure SimSt(n:Nat):Prop where
 x:∀sc L u ρ s r,Sim L u ρ→SlotsOk L→((ev n).x sc L s).run u=some r→AgS L (px n sc ρ s) r
 xs:∀sc L u ρ s r,Sim L u ρ→SlotsOk L→((ev n).xs sc L s).run u=some r→AgS L (pxs n sc ρ s) r
 wh:∀sc L u ρ t b r,Sim L u ρ→SlotsOk L→((ev n).wh sc L t b).run u=some r→AgS L (pwh n sc ρ t b) r
 fo:∀sc L u ρ tgt b ps r,Sim L u ρ→SlotsOk L→((ev n).fo sc L tgt b).run u ps=some r→AgS L (pfo n sc ρ tgt b ps) r
section
variable{α γ:Type}{x x':Option α}{f':α→Option SR}{c:Bool}{u:Sl}{r:SQ}{L:Lay}
theorem o1_g{f:α→Option SQ}(h:o1 x f=some r)(hx:∀a,x=some a→x'=some a)(k:∀a,f a=some r→AgS L (f' a) r):AgS L (o1 x' f') r:=o1_inv h fun a e h=>by rw[hx a e];exact k a h
theorem o2_g{y y':Option γ}{f:α→γ→Option SQ}{f':α→γ→Option SR}(h:o2 x y f=some r)(hx:∀a,x=some a→x'=some a)(hy:∀a,y=some a→y'=some a)(k:∀a b,f a b=some r→AgS L (f' a b) r):AgS L (o2 x' y' f') r:=o2_inv h fun a b e1 e2 h=>by
 rw[hx a e1,hy b e2];exact k a b h
theorem c1_g{f:α→CS}(h:(c1 x f).run u=some r)(k:∀a,(f a).run u=some r→AgS L (f' a) r):AgS L (o1 x f') r:=c1_inv h fun a e h=>by rw[e];exact k a h
theorem cg_g{y:CS}{z:Option SR}(h:(cg c y).run u=some r)(k:y.run u=some r→AgS L z r):AgS L (gd c z) r:=cg_inv h fun e h=>by rw[e];exact k h
theorem gd_g{y:Option SQ}{z:Option SR}(h:gd c y=some r)(k:y=some r→AgS L z r):AgS L (gd c z) r:=gd_inv h fun e h=>by rw[e];exact k h
theorem ce_g{f:α→CS}{g:CS}{g':Option SR}(h:(ce x f g).run u=some r)(k:∀a,(f a).run u=some r→AgS L (f' a) r)(l:g.run u=some r→AgS L g' r):AgS L (oe x f' g') r:=by
 cases x with
 |none=>exact l h
 |some a=>exact k a h
theorem sl_g{y z:Option SQ}{y' z':Option SR}(h:sl c y z=some r)(k:y=some r→AgS L y' r)(l:z=some r→AgS L z' r):AgS L (sl c y' z') r:=by
 cases c with
 |false=>exact l h
 |true=>exact k h
theorem slc_g{y z:CS}{y' z':Option SR}(h:(sl c y z).run u=some r)(k:y.run u=some r→AgS L y' r)(l:z.run u=some r→AgS L z' r):AgS L (sl c y' z') r:=by
 cases c with
 |false=>exact l h
 |true=>exact k h
theorem nxt_g{y:Option SR}{q:SQ}{f:Sl→Option SQ}{f':Rho→Option SR}(h:nxtS q f=some r)(A:AgS L y q)(k:∀u' ρ',Sim L u' ρ'→f u'=some r→AgS L (f' ρ') r):AgS L (o1 y fun r'=>nxt r' f') r:=by
 cases q with
 |next u'=>refine xEA A fun ρ' e S=>?_;rw[e];exact k u' ρ' S h
 |ret p=>rw[show y=some (.ret p)from A];exact bn h▸rfl
theorem nx_g{u':Sl}{ρ':Rho}(h:some (SQ.next u')=some r)(S:Sim L u' ρ'):AgS L (some (.next ρ')) r:=bn h▸⟨_,rfl,S⟩
end
variable{n:Nat}{sc:SC}{L:Lay}{u:Sl}{ρ:Rho}
theorem fresh_s(S:Sim L u ρ){e:Expr}{xs:List PV}(h:(fresh (ev n) ⟨sc.cn,L⟩ e).run u=some xs):pfresh n sc ρ e=some xs:=by
 have H:=simAll n
 exact ce_s h (fun Y=>H.l ⟨sc.cn,L⟩ _ _ _ _ S) fun h=>c1_s h fun Y h=>c1_s h fun Y h=>c1_s h fun Y h=>cg_s h fun h=>gd_s h (isBL_s S) fun h=>o1_s h (fun Y h=>o1_s h (fun Y=>H.e ⟨sc.cn,L⟩ _ _ _ _ S) fun Y h=>h) fun Y h=>h
theorem asg1_g(S:Sim L u ρ)(D:SlotsOk L){x:Str}{value:Expr}{r:SQ}(h:(asg1 (ev n) sc ⟨sc.cn,L⟩ value x).run u=some r):AgS L (pA1 n sc ρ value x) r:=
 cg_g h fun h=>c1_inv h fun Y hw h=>slc_g h (fun h=>o1_g h (fun Y=>fresh_s S) fun Y h=>gd_g h fun h=>nx_g h (S.put D hw _)) fun h=>o1_g h (fun Y=>(simAll n).e ⟨sc.cn,L⟩ _ _ _ _ S) fun Y h=>nx_g h (S.put D hw _)
theorem asgI_g(S:Sim L u ρ)(D:SlotsOk L){o i value:Expr}{r:SQ}(h:(asgI (ev n) ⟨sc.cn,L⟩ value o i).run u=some r):AgS L (pAI n sc ρ value o i) r:=by
 have H:=simAll n
 exact c1_g h fun Y h=>cg_g h fun h=>c1_inv h fun Y hw h=>o1_g h (fun Y=>oOwn_s S) fun Y h=>o2_g h (fun Y=>H.e ⟨sc.cn,L⟩ _ _ _ _ S) (fun Y h=>o1_s h (fun Y=>H.e ⟨sc.cn,L⟩ _ _ _ _ S) fun Y h=>h) fun Y Y h=>gd_g h fun h=>nx_g h (S.put D hw _)
theorem asgT_g(S:Sim L u ρ)(D:SlotsOk L){elts:List Expr}{value:Expr}{r:SQ}(h:(asgT (ev n) sc ⟨sc.cn,L⟩ value elts).run u=some r):AgS L (pAT n sc ρ value elts) r:=by
 have H:=simAll n
 exact c1_g h fun Y h=>c1_g h fun Y h=>c1_g h fun Y h=>c1_g h fun Y h=>c1_g h fun Y h=>cg_g h fun h=>c1_inv h fun Y hx h=>c1_inv h fun Y hy h=>o2_g h (fun Y=>H.e ⟨sc.cn,L⟩ _ _ _ _ S) (fun Y=>H.e ⟨sc.cn,L⟩ _ _ _ _ S) fun Y Y h=>nx_g h ((S.put D hy _).put D hx _)
theorem asg_g(S:Sim L u ρ)(D:SlotsOk L){ts:List Expr}{value:Expr}{r:SQ}(h:(asg (ev n) sc ⟨sc.cn,L⟩ value ts).run u=some r):AgS L (pAs n sc ρ value ts) r:=
 ce_g h (fun Y h=>ce_g h (fun Y=>asg1_g S D) fun h=>ce_g h (fun Y=>asgI_g S D) fun h=>c1_g h fun Y=>asgT_g S D) fun h=>c1_g h fun Y h=>cg_g h fun h=>c1_inv h fun Y hx h=>c1_inv h fun Y hy h=>o1_g h (fun Y=>(simAll n).e ⟨sc.cn,L⟩ _ _ _ _ S) fun Y h=>nx_g h ((S.put D hx _).put D hy _)
theorem aug_g(S:Sim L u ρ)(D:SlotsOk L){t:Expr}{op:Operator}{value:Expr}{r:SQ}(h:(aug (ev n) sc ⟨sc.cn,L⟩ op value t).run u=some r):AgS L (pAug n sc ρ op value t) r:=
 c1_g h fun Y h=>cg_g h fun h=>c1_inv h fun Y hw h=>o2_g h (fun Y=>oVal_s S) (fun Y=>(simAll n).e ⟨sc.cn,L⟩ _ _ _ _ S) fun Y Y h=>o1_g h (fun Y h=>h) fun Y h=>nx_g h (S.put D hw _)
theorem apd_g(S:Sim L u ρ)(D:SlotsOk L){f:Expr}{args:List Expr}{kws:List Keyword}{cpos:Pos}{r:SQ}(h:(apd (ev n) ⟨sc.cn,L⟩ f args kws cpos).run u=some r):AgS L (pApp n sc ρ f args kws cpos) r:=
 c1_g h fun Y h=>c1_g h fun Y h=>c1_g h fun Y h=>cg_g h fun h=>c1_inv h fun Y hw h=>o2_g h (fun Y=>oOwn_s S) (fun Y=>(simAll n).e ⟨sc.cn,L⟩ _ _ _ _ S) fun Y Y h=>gd_g h fun h=>nx_g h (S.put D hw _)
end Q
end
section
namespace Q
variable{n:Nat}{sc:SC}{L:Lay}{u:Sl}{ρ:Rho}
theorem x_ok(T:SimSt n)(S:Sim L u ρ)(D:SlotsOk L){s:Stmt}{r:SQ}(h:(sX (ev n) sc L s).run u=some r):AgS L (px (n+1) sc ρ s) r:=by
 have H:=simAll n
 cases s with
 |Return v=>exact c1_g h fun Y h=>o1_g h (fun Y=>H.e ⟨sc.cn,L⟩ _ _ _ _ S) fun Y h=>bn h▸rfl
 |Assign=>exact asg_g S D h
 |AugAssign=>exact aug_g S D h
 |Expr=>exact c1_g h fun Y=>apd_g S D
 |For=>exact cg_g h fun h=>o1_g h (fun Y=>H.it ⟨sc.cn,L⟩ _ _ _ _ _ S) fun Y=>T.fo _ _ _ _ _ _ _ _ S D
 |While=>exact cg_g h (T.wh _ _ _ _ _ _ _ S D)
 |If=>exact o1_g h (fun Y=>H.t ⟨sc.cn,L⟩ _ _ _ _ S) fun Y h=>sl_g h (T.xs _ _ _ _ _ _ S D) (T.xs _ _ _ _ _ _ S D)
 |_=>exact nn h
theorem xs_ok(T:SimSt n)(S:Sim L u ρ)(D:SlotsOk L){l:List Stmt}{r:SQ}(h:(sXs (ev n) sc L l).run u=some r):AgS L (pxs (n+1) sc ρ l) r:=by
 cases l with
 |nil=>exact nx_g h S
 |cons s rest=>exact o1_inv h fun q hq h=>nxt_g h (T.x _ _ _ _ _ _ S D hq) fun u' ρ' S'=>T.xs _ _ _ _ _ _ S' D
theorem wh_ok(T:SimSt n)(S:Sim L u ρ)(D:SlotsOk L){t:Expr}{b:List Stmt}{r:SQ}(h:(sWh (ev n) sc L t b).run u=some r):AgS L (pwh (n+1) sc ρ t b) r:=
 o1_g h (fun Y=>(simAll n).t ⟨sc.cn,L⟩ _ _ _ _ S) fun Y h=>sl_g h (fun h=>o1_inv h fun q hq h=>nxt_g h (T.xs _ _ _ _ _ _ S D hq) fun u' ρ' S'=>T.wh _ _ _ _ _ _ _ S' D) fun h=>nx_g h S
theorem fo_ok(T:SimSt n)(S:Sim L u ρ)(D:SlotsOk L){tgt:Expr}{b:List Stmt}{ps:List PV}{r:SQ}(h:(sFo (ev n) sc L tgt b).run u ps=some r):AgS L (pfo (n+1) sc ρ tgt b ps) r:=by
 cases ps with
 |nil=>exact nx_g h S
 |cons p ps=>
  refine o1_inv h fun u' hu h=>?_
  refine xEA (S.fB D hu) fun ρ' e' S'=>?_
  show AgS L (o1 (bindT _ tgt p ρ) _) r
  rw[e']
  exact o1_inv h fun q hq h=>nxt_g h (T.xs _ _ _ _ _ _ S' D hq) fun u2 ρ2 S2=>T.fo _ _ _ _ _ _ _ _ S2 D
theorem simSt:∀n,SimSt n
 |0=>⟨fun Y Y Y Y Y Y Y Y h=>nn h,fun Y Y Y Y Y Y Y Y h=>nn h,fun Y Y Y Y Y Y Y Y Y h=>nn h,fun Y Y Y Y Y Y Y Y Y Y h=>nn h⟩
 |n+1=>⟨fun Y Y Y Y Y Y S D h=>x_ok (simSt n) S D h,fun Y Y Y Y Y Y S D h=>xs_ok (simSt n) S D h,fun Y Y Y Y Y Y Y S D h=>wh_ok (simSt n) S D h,fun Y Y Y Y Y Y Y Y S D h=>fo_ok (simSt n) S D h⟩
end Q
end
namespace Q
theorem layOf_look:∀(l:List Str) (k:Nat) (x:Str) (j:Nat) (t:Tag),(layOf k l).lookup x=some (j,t)→t= .any∧k≤j∧j<k+l.length∧l[j-k]?=some x
 |[],_,_,_,_,h=>by simp[layOf]at h
 |y::r,k,x,j,t,h=>by
  unfold layOf at h
  rw[bt]at h
  by_cases q:x=y
  ·subst q
   simp only[beq_self_eq_true]at h
   cases h
   exact⟨rfl,Nat.le_refl _,by simp,by simp⟩
  ·have hb:(x==y)=false:=by simpa using q
   rw[hb]at h
   refine xAAA (layOf_look r (k+1) x j t h) fun a b c d=>?_
   refine⟨a,by lia,by simp only[bx];lia,?_⟩
   have:j-k=(j-(k+1))+1:=by lia
   rw[this,List.getElem?_cons_succ];exact d
theorem slotsOk_layOf(l:List Str):SlotsOk (layOf 0 l):=fun x y k t t' hx hy=>by
 refine xAAA (layOf_look _ _ _ _ _ hx) fun Y Y Y a=>?_
 refine xAAA (layOf_look _ _ _ _ _ hy) fun Y Y Y b=>?_
 rw[a]at b;injection b
theorem layOf_mem:∀(l:List Str) (k:Nat) (x:Str),(layOf k l).lookup x=none→x∉l
 |[],_,_,_,m=>by cases m
 |y::r,k,x,h,m=>by
  unfold layOf at h
  rw[bt]at h
  by_cases q:x=y
  ·subst q;simp at h
  ·have hb:(x==y)=false:=by simpa using q
   rw[hb]at h
   refine Or.elim (bz.mp m) (fun m=>?_) fun m=>?_
   ·exact q m
   ·exact layOf_mem r _ x h m
theorem fillS_get(ρ:Rho):∀(l:List Str) (k:Nat) (u:Sl) (j:Nat),k+l.length≤32→(getK j).get (fillS ρ (layOf k l) u)=if k≤j∧j<k+l.length then(match l[j-k]? with|some x=>(match ρ.lookup x with|some e=>some e|none=>(getK j).get u)|none=>(getK j).get u)else(getK j).get u
 |[],k,u,j,_=>by
  simp only[layOf,fillS,List.length_nil]
  rw[if_neg (by lia)]
 |y::r,k,u,j,hk=>by
  simp only[bx]at hk⊢
  unfold layOf fillS
  have key:∀u',(getK j).get (fillS ρ (layOf (k+1) r) u')=if k+1≤j∧j<k+1+r.length then(match r[j-(k+1)]? with|some x=>(match ρ.lookup x with|some e=>some e|none=>(getK j).get u')|none=>(getK j).get u')else(getK j).get u':=fun u'=>fillS_get ρ r (k+1) u' j (by lia)
  by_cases q:j=k
  ·subst q
   have hz:(y::r)[j-j]?=some y:=by simp
   rw[if_pos (by lia),hz]
   cases hx:ρ.lookup y with
   |none=>simp only[hx];rw[key,if_neg (by lia)]
   |some e=>simp only[hx];rw[key,if_neg (by lia),get_put j (by lia),if_pos rfl]
  ·have same:∀e,(getK j).get ((setK k).put u e)=(getK j).get u:=fun e=>by rw[get_put k (by lia),if_neg q]
   have goal:∀u',(getK j).get u'=(getK j).get u→(getK j).get (fillS ρ (layOf (k+1) r) u')=if k≤j∧j<k+(r.length+1)then(match (y::r)[j-k]? with|some x=>(match ρ.lookup x with|some e=>some e|none=>(getK j).get u)|none=>(getK j).get u)else(getK j).get u:=fun u' hu=>by
    rw[key,hu]
    by_cases c:k+1≤j∧j<k+1+r.length
    ·rw[if_pos c,if_pos (by lia)]
     have:j-k=(j-(k+1))+1:=by lia
     rw[this,List.getElem?_cons_succ]
    ·rw[if_neg c,if_neg (by lia)]
   cases hx:ρ.lookup y with
   |none=>exact goal _ rfl
   |some e=>exact goal _ (same e)
theorem fillS_sim(ρ:Rho)(l:List Str)(hl:l.length≤32)(hm:ρ.all (fun e=>l.contains e.1)=true):Sim (layOf 0 l) (fillS ρ (layOf 0 l) sl0) ρ:=by
 constructor
 ·intro x e h
  unfold cLook at h
  cases hx:(layOf 0 l).lookup x with
  |none=>rw[hx]at h;exact nn h
  |some jt=>
   obtain⟨j,t⟩:=jt
   rw[hx]at h
   refine xAAA (layOf_look _ _ _ _ _ hx) fun Y a b c=>?_;subst Y
   have h':(getK j).get (fillS ρ (layOf 0 l) sl0)=some e:=h
   rw[fillS_get ρ l 0 sl0 j (by lia),if_pos ⟨a,b⟩,c,get_sl0]at h'
   simp only at h'
   cases hr:ρ.lookup x with
   |none=>rw[hr]at h';exact nn h'
   |some d=>rw[hr]at h';exact h'
 ·intro x h
  have nm:=layOf_mem _ _ _ h
  cases hr:ρ.lookup x with
  |none=>rfl
  |some d=>
   have:(x,d)∈ρ:=by
    have:=List.lookup_eq_some_iff.mp hr
    refine xEEA this fun l1 l2 e Y=>?_
    rw[e];simp
   have:=bs.mp hm _ this
   exact absurd (by simpa using this) nm
noncomputable def runC(n:Nat)(sc:SC)(l:List Str)(ρ:Rho)(body:List Stmt):Option SQ:=
 match l.length.ble 32&&ρ.all (fun e=>l.contains e.1)with
 |true=>((ev n).xs sc (layOf 0 l) body).run (fillS ρ (layOf 0 l) sl0)
 |false=>none
noncomputable def retP(r:Option SQ):Option PV:=match r with
 |some (.ret p)=>some p
 |_=>none
set_option tactic.hygienic true in
theorem runC_ret{n:Nat}{sc:SC}{l:List Str}{ρ:Rho}{body:List Stmt}{p:PV}(h:retP (runC n sc l ρ body)=some p):pxs n sc ρ body=some (.ret p):=by
 unfold retP at h
 split at h
 ·rename_i q e
  cases h
  unfold runC at e
  split at e
  ·rename_i c
   simp only[bp]at c
   exact(simSt n).xs _ _ _ _ _ _ (fillS_sim ρ l (by simpa using c.1) c.2) (slotsOk_layOf l) e
  ·exact nn e
 ·cases h
end Q
structure Base(g:Gnd)(mg mb:Str→Option Value):Prop where
 ng:g.h₀.Ns mainNs mg
 nb:g.h₀.Ns builtinsNs mb
 lim:g.h₀.NoLimit
 low:∃a o,sysModules≤a∧g.h₀.get? a=some o
structure FnAt(g:Gnd)(a:Addr)(fd:FuncData)(body:List Stmt):Prop where
 at_:∃o,g.h₀.get? a=some o∧o.data= .func fd
 body:fd.body= .stmts body
 clo:fd.closure=[]
 glob:fd.globals=mainNs
 blt:fd.builtins=builtinsNs
 code:g.h₀.CodeRec fd.code fd.qualname
 co:fd.scope.isCoroutine=false
 kind:fd.scope.kind= .function
def OwnOf(env:Env)(a:Addr):Prop:=a=env.locals∨∃n,env.cells.lookup n=some a
structure Frm(g:Gnd)(fd:FuncData)(a:Addr)(own:Str)(env:Env)(ρ:Rho)(F:Addr→Prop)(hs h:Heap):Prop where
 ext:Ext hs h
 inv:Inv g env ρ h (fun b=>F b∨OwnOf env b) (OwnOf env)
 new:∀b,OwnOf env b→hs.get? b=none
 sok:SOk g env (frameSC fd.scope.names own)
 ownIs:OwnIs ρ own
 scope:env.scope=fd.scope
 func:env.func=some a
 code:env.code=fd.code
 qual:env.qual=fd.qualname++ ".<locals>."
 glob:env.globals=mainNs
 blt:env.builtins=builtinsNs
 cells:env.cells=cellsFrom (env.locals+1) fd.scope.names []
theorem binds_ok{fd:FuncData}{names:List Str}{vals:List Value}{s:Shared}(h2:parNames fd.scope.names names=true):
  ∀x∈names.zip vals,fd.scope.names.lookup x.1=some .local∨(fd.scope.names.lookup x.1=some .cell∧((cellsFrom (s.heap.objs.size+1) fd.scope.names []).lookup x.1).isSome=true):=by
 intro x hx
 have hm:=(List.of_mem_zip (show(x.1,x.2)∈names.zip vals from hx)).1
 have:=bs.mp h2 x.1 hm
 simp only[bp]at this
 have hk':=this.1
 split at hk'
 ·rename_i e;exact .inl e
 ·rename_i e
  have facts:=cellsFrom_facts fd.scope.names (s.heap.push {cls:= .type "frame",data:= .dict #[] }) [] (s.heap.objs.size+1) (by rw[Heap.size_push];exact Nat.le_refl _) (fun Y Y e=>by simp at e) (fun Y Y Y e=>by simp at e)
  rw[show(s.heap.push {cls:= .type "frame",data:= .dict #[] }).objs.size=s.heap.objs.size+1 from Heap.size_push ..]at facts
  refine xE (facts.2.2.1 x.1 (mem_of_lookup e)) fun c hc=>?_
  exact .inr ⟨e,by rw[hc];rfl⟩
 ·cases hk'
theorem mk_frm{g:Gnd}{mg mb:Str→Option Value}(B:Base g mg mb){a:Addr}{fd:FuncData}{body:List Stmt}(X:FnAt g a fd body){names:List Str}{G:Rho}{own:Str}
  (hG:∀x e,G.lookup x=some e→GlobOk g mg mb x e) (h1:globNames fd.scope.names G=true) (h2:parNames fd.scope.names names=true) (h3:uniqStr names=true) (h4:uniqNames fd.scope.names=true)
  {s s₁:Shared} {F:Addr→Prop} {ps:List PV} {vals:List Value}
  (base:Ext g.h₀ s.heap) (fl:FL s.heap F) (hFg:¬F mainNs) (hFb:¬F builtinsNs) (hF0:∀b,F b→g.h₀.get? b=none)
  (rs:Rvs g.prog g.w s.heap F ps vals) (hlen:ps.length=names.length)
  (C:InCallC s (callEnvC fd s.heap.objs.size a).locals (bindL (callEnvC fd s.heap.objs.size a).kindOf (names.zip vals) fun Y=>none) (callEnvC fd s.heap.objs.size a).cells (bindC (callEnvC fd s.heap.objs.size a).kindOf (names.zip vals) fun Y=>none) s₁):
  ∃h t,s₁= {s with heap:=h,toks:=t}∧Frm g fd a own (callEnvC fd s.heap.objs.size a) (argsR names ps G) F s.heap h:=by
 have hL:(callEnvC fd s.heap.objs.size a).locals=s.heap.objs.size:=rfl
 have hsc:(callEnvC fd s.heap.objs.size a).scope=fd.scope:=rfl
 have hkd:∀x,(callEnvC fd s.heap.objs.size a).kindOf x=fd.scope.names.lookup x:=fun x=>rfl
 have hfn:(callEnvC fd s.heap.objs.size a).func=some a:=rfl
 have hcode:(callEnvC fd s.heap.objs.size a).code=fd.code:=rfl
 have hqual:(callEnvC fd s.heap.objs.size a).qual=fd.qualname++ ".<locals>." :=rfl
 have hgb:(callEnvC fd s.heap.objs.size a).globals=mainNs:=X.glob
 have hbl:(callEnvC fd s.heap.objs.size a).builtins=builtinsNs:=X.blt
 have hcells:(callEnvC fd s.heap.objs.size a).cells=cellsFrom (s.heap.objs.size+1) fd.scope.names []:=rfl
 obtain⟨hsame,hns,hkeep,hfresh⟩:=C.toInCall
 generalize henv:callEnvC fd s.heap.objs.size a=env at C hL hsc hkd hns hfresh hgb hbl hfn hcode hqual hcells⊢
 refine xEE hsame fun hh tk Y=>?_;clear hsame;subst Y
 have liveLt:∀b,(∃o',s.heap.get? b=some o')→b<s.heap.objs.size:=fun b Y=>xE Y fun o' ho'=>bh ho'
 have notOwn:∀b,(∃o',s.heap.get? b=some o')→¬OwnOf env b:=fun b hb=>by
  have hlt:=liveLt b hb
  rintro (q|⟨n',q⟩)
  ·rw[q,hL]at hlt;exact Nat.lt_irrefl _ hlt
  ·have:=C.above n' b (mem_of_lookup q)
   rw[hL]at this
   exact Nat.lt_irrefl _ (Nat.lt_trans hlt this)
 have new:∀b,OwnOf env b→s.heap.get? b=none:=fun b q=>by
  cases e:s.heap.get? b with
  |none=>rfl
  |some o'=>exact absurd q (notOwn b ⟨o',e⟩)
 refine xEEEA (id B.ng) fun og esg epg hog Y=>?_
 refine xEEEA (id B.nb) fun ob esb epb hob Y=>?_
 have hgLive:∃o',s.heap.get? env.globals=some o':=⟨og,hgb▸base _ _ hog⟩
 have hbLive:∃o',s.heap.get? env.builtins=some o':=⟨ob,hbl▸base _ _ hob⟩
 have ng1:hh.Ns env.globals mg:=hgb▸B.ng.at' fun o' e=>hkeep _ _ (base _ _ e)
 have nb1:hh.Ns env.builtins mb:=hbl▸B.nb.at' fun o' e=>hkeep _ _ (base _ _ e)
 have facts:=cellsFrom_facts fd.scope.names (s.heap.push {cls:= .type "frame",data:= .dict #[] }) [] (s.heap.objs.size+1) (by rw[Heap.size_push];exact Nat.le_refl _) (fun Y Y e=>by simp at e) (fun Y Y Y e=>by simp at e)
 rw[show(s.heap.push {cls:= .type "frame",data:= .dict #[] }).objs.size=s.heap.objs.size+1 from Heap.size_push ..,←hcells]at facts
 let F1:Addr→Prop:=fun b=>F b∨OwnOf env b
 have nF1:∀b,(∃o',s.heap.get? b=some o')→¬F b→¬F1 b:=fun b hb nf q=>q.elim nf (notOwn b hb)
 have U:Up s.heap F hh F1:=fun b o' hb nf=>⟨nF1 b ⟨o',hb⟩ nf,hkeep b o' hb⟩
 have inv:Inv g env (argsR names ps G) hh F1 (OwnOf env):=by
  refine⟨by rw[hsc];exact X.kind,base.trans hkeep,B.low,?_,fun Y q=> .inr q,nF1 _ hgLive (hgb▸hFg),nF1 _ hbLive (hbl▸hFb),⟨?_,?_⟩,⟨_,hns⟩, .inl rfl,fun n' c hc=>⟨.inr ⟨n',hc⟩,?_,_,C.cell n' c hc⟩,fun x y c hx hy=>name_of_addr C.apart (mem_of_lookup hx) (mem_of_lookup hy),fun x e hx=>?_⟩
  ·rintro b (q|q|⟨n',q⟩)
   ·refine xE (fl b q) fun o' ho'=>?_;exact⟨o',hkeep _ _ ho'⟩
   ·subst q;refine xEEEA hns fun o' Y Y ho' Y=>?_;exact⟨o',ho'⟩
   ·refine xEA (C.cell n' b q) fun o' ho' Y=>?_;exact⟨o',ho'⟩
  ·refine xE hgLive fun o' ho'=>?_;exact⟨o',hkeep _ _ ho'⟩
  ·refine xE hbLive fun o' ho'=>?_;exact⟨o',hkeep _ _ ho'⟩
  ·exact Nat.ne_of_gt (C.above n' c (mem_of_lookup hc))
  ·rcases argsR_lookup hlen.symm rs hx with ⟨p',v,rfl,hm,hz,r⟩|⟨hm,hGx⟩
   ·have hpn:=bs.mp h2 x hm
    simp only[bp,Bool.not_eq_true']at hpn
    refine⟨⟨v,?_,r.up U _⟩,hpn.2⟩
    have hb:=bind_at env.kindOf names vals (fun Y=>none) (fun Y=>none) x v h3 hz
    have hk':=hpn.1
    split at hk'
    ·rename_i e
     have e':env.kindOf x=some .local:=(hkd x).trans e
     exact .inl ⟨e',_,hns,hb.1 e'⟩
    ·rename_i e
     have e':env.kindOf x=some .cell:=(hkd x).trans e
     refine xE (facts.2.2.1 x (mem_of_lookup e)) fun c hc=>?_
     refine .inr (.inl ⟨e',c,hc,?_⟩)
     have:=C.cell x c hc
     rwa [hb.2 (by rw[e'];exact fun q=>nomatch q)]at this
    ·exact ff hk'
   ·have hgn:=bs.mp h1 (x,e) (mem_of_lookup hGx)
    simp only[bp,Bool.not_eq_true']at hgn
    refine⟨?_,hgn.2⟩
    have ki:isLat e=false→env.kindOf x=some .globalImplicit:=fun hl=>by
     rw[hkd]
     have:=hgn.1
     rw[hl,Bool.false_or]at this
     split at this
     ·assumption
     ·cases this
    have ok':=hG x e hGx
    cases e with
    |val=>exact ok'.elim
    |own=>exact ok'.elim
    |gv q=>refine xAEA ok' fun a1 v a2 a3=>?_;exact⟨ki rfl,a1,mg,v,ng1,a2,a3 _ _⟩
    |bi q=>exact⟨ki rfl,mg,mb,ng1,ok'.1,nb1,ok'.2⟩
    |en=>exact⟨ki rfl,mg,mb,ng1,ok'.1,nb1,ok'.2⟩
    |fn q=>
     refine xEEEAAA ok' fun a' o' fd' a1 a2 a3 a4=>?_
     refine⟨ki rfl,mg,a',o',fd',ng1,a1,hkeep _ _ (base _ _ a2),nF1 _ ⟨o',base _ _ a2⟩ (fun q=>?_),a3,a4⟩
     rw[hF0 _ q]at a2;exact nn a2
    |lgv q=>refine xAEA ok' fun a1 v a2 a3=>?_;exact⟨a1,mg,v,ng1,a2,a3 _ _⟩
    |lbi q=>exact⟨mg,mb,ng1,ok'.1,nb1,ok'.2⟩
    |len=>exact⟨mg,mb,ng1,ok'.1,nb1,ok'.2⟩
    |lfn q=>
     refine xEEEAAA ok' fun a' o' fd' a1 a2 a3 a4=>?_
     refine⟨mg,a',o',fd',ng1,a1,hkeep _ _ (base _ _ a2),nF1 _ ⟨o',base _ _ a2⟩ (fun q=>?_),a3,a4⟩
     rw[hF0 _ q]at a2;cases a2
 have sok:SOk g env (frameSC fd.scope.names own):=by
  refine⟨fun x hx=>?_,fun x hx=>?_,fun x=>?_,?_⟩
  ·have hm:=cellNamesOf_mem hx
   have e':env.kindOf x=some .cell:=(hkd x).trans (lookup_of_mem h4 hm)
   refine xE (facts.2.2.1 x hm) fun c hc=>?_
   exact⟨.inl e',by rw[hc];rfl⟩
  ·refine xA (okKind_of hx) fun q1 q2=>?_
   refine⟨?_,q2⟩
   rcases q1 with q1|q1
   ·exact .inl ((hkd x).trans q1)
   ·refine xE (facts.2.2.1 x (mem_of_lookup q1)) fun c hc=>?_
    exact .inr ⟨(hkd x).trans q1,by rw[hc];rfl⟩
  ·rw[hkd]
   show _↔(match fd.scope.names.lookup x with|some .local=>true|_=>false)=true
   constructor
   ·intro e;rw[e]
   ·intro e
    split at e
    ·assumption
    ·exact ff e
  ·unfold interactive;rw[hsc,X.kind];rfl
 have hown:OwnIs (argsR names ps G) own:=fun x xs hx=>by
  refine Or.elim (argsR_lookup hlen.symm rs hx) (fun Y=>xEEA Y fun p' v e Y=>?_) fun Y=>xA Y fun Y hGx=>?_
  ·cases e
  ·exact(hG x _ hGx).elim
 exact⟨hh,tk,rfl,hkeep,inv,new,sok,hown,hsc,hfn,hcode,hqual,hgb,hbl,by rw[hcells,hL]⟩
theorem enter_fn{g:Gnd}{mg mb:Str→Option Value}(B:Base g mg mb){a:Addr}{fd:FuncData}{body:List Stmt}(X:FnAt g a fd body){names:List Str}{G:Rho}{own:Str}
  (hgen:fd.scope.isGenerator=false)
  (hG:∀x e,G.lookup x=some e→GlobOk g mg mb x e) (h1:globNames fd.scope.names G=true) (h2:parNames fd.scope.names names=true) (h3:uniqStr names=true) (h4:uniqNames fd.scope.names=true)
  {k:Nat} {A:Around} {s:Shared} {F:Addr→Prop} {ps:List PV} {args:Args} {vals:List Value} {R:Result→Shared→Prop}
  (ok:AOk (k+1) A) (base:Ext g.h₀ s.heap) (fl:FL s.heap F) (hFg:¬F mainNs) (hFb:¬F builtinsNs) (hF0:∀b,F b→g.h₀.get? b=none)
  (hb:BindsTo s fd args (names.zip vals)) (rs:Rvs g.prog g.w s.heap F ps vals) (hlen:ps.length=names.length)
  (H:∀env h t,Frm g fd a own env (argsR names ps G) F s.heap h→AOk k (A.deeper env)→
   wpAny (model g.prog g.w) (A.deeper env) (execs body env) (fun f s'=>R (.ok (.ret (match f with| .ret v=>v|_=> .none))) s') noE {s with heap:=h,toks:=t}):
  codeAny (model g.prog g.w) A (.call (.ref a) args) R s:=by
 refine xEA X.at_ fun o ho hd=>?_
 have hcd':s.heap.CodeRec fd.code fd.qualname:=by
  refine xEEEEAAA X.code fun c o' vs' t e1 e2 e3 e4=>?_
  exact⟨c,o',vs',t,e1,base _ _ e2,e3,e4⟩
 refine codeAny_call_function ok.lim (base _ _ ho) hd X.co hgen X.body hcd' (hb _ _ _ _ ?_)
 rw[X.clo]
 refine wpAny_newFunctionEnv_cells X.kind (binds_ok h2) fun env he s₁ C=>?_
 subst he
 refine⟨(B.lim.keeps base).keeps C.toInCall.keep,codeAny_func ?_⟩
 change InCallC s (callEnvC fd s.heap.objs.size a).locals (bindL (callEnvC fd s.heap.objs.size a).kindOf (names.zip vals) fun Y=>none) (callEnvC fd s.heap.objs.size a).cells (bindC (callEnvC fd s.heap.objs.size a).kindOf (names.zip vals) fun Y=>none) s₁ at C
 refine xEEA (mk_frm (own:=own) B X hG h1 h2 h3 h4 base fl hFg hFb hF0 rs hlen C) fun hh tk Y fr=>?_;subst Y
 show wpAny (model g.prog g.w) (A.deeper (callEnvC fd s.heap.objs.size a)) (execs body (callEnvC fd s.heap.objs.size a)) _ _ _
 refine aj (H _ hh tk fr (AOk.deeper ok _)) (fun Y Y z=>z) fun Y Y z=>z.elim
theorem enter_gen{g:Gnd}{mg mb:Str→Option Value}(B:Base g mg mb){a:Addr}{fd:FuncData}{body:List Stmt}(X:FnAt g a fd body){names:List Str}{G:Rho}{own:Str}
  (hgen:fd.scope.isGenerator=true)
  (hG:∀x e,G.lookup x=some e→GlobOk g mg mb x e) (h1:globNames fd.scope.names G=true) (h2:parNames fd.scope.names names=true) (h3:uniqStr names=true) (h4:uniqNames fd.scope.names=true)
  {k:Nat} {A:Around} {s:Shared} {F:Addr→Prop} {ps:List PV} {args:Args} {vals:List Value} {R:Result→Shared→Prop}
  (ok:AOk (k+1) A) (base:Ext g.h₀ s.heap) (fl:FL s.heap F) (hFg:¬F mainNs) (hFb:¬F builtinsNs) (hF0:∀b,F b→g.h₀.get? b=none)
  (hb:BindsTo s fd args (names.zip vals)) (rs:Rvs g.prog g.w s.heap F ps vals) (hlen:ps.length=names.length)
  (H:∀env h t,Frm g fd a own env (argsR names ps G) F s.heap h→R (.ok (.ret (.ref h.objs.size)))
   {s with gens:=s.gens.push (.fresh (.func body env)),toks:=t+1+1,heap:=h.push {cls:= .type "generator",data:= .fields #[.int s.gens.size 0, .str fd.name t, .str fd.qualname (t+1)] } }):
  codeAny (model g.prog g.w) A (.call (.ref a) args) R s:=by
 refine xEA X.at_ fun o ho hd=>?_
 have hcd':s.heap.CodeRec fd.code fd.qualname:=by
  refine xEEEEAAA X.code fun c o' vs' t e1 e2 e3 e4=>?_
  exact⟨c,o',vs',t,e1,base _ _ e2,e3,e4⟩
 refine codeAny_call_generator ok.lim (base _ _ ho) hd X.co hgen X.body hcd' (hb _ _ _ _ ?_)
 rw[X.clo]
 refine wpAny_newFunctionEnv_cells X.kind (binds_ok h2) fun env he s₁ C=>?_
 subst he
 refine⟨(B.lim.keeps base).keeps C.toInCall.keep,?_⟩
 change InCallC s (callEnvC fd s.heap.objs.size a).locals (bindL (callEnvC fd s.heap.objs.size a).kindOf (names.zip vals) fun Y=>none) (callEnvC fd s.heap.objs.size a).cells (bindC (callEnvC fd s.heap.objs.size a).kindOf (names.zip vals) fun Y=>none) s₁ at C
 refine xEEA (mk_frm (own:=own) B X hG h1 h2 h3 h4 base fl hFg hFb hF0 rs hlen C) fun hh tk Y fr=>?_;subst Y
 exact H _ hh tk fr
section
open PySem.Builtin PySem.Builtin.ObjectAttr
def IDict(h:Heap)(d:Addr)(m:Str→Option Value)(k:Nat):Prop:=
 ∃es n,h.get? d=some (dictOf es n)∧es.length≤k∧(∀e∈es,∃x t,e.key= .str x t)∧∀x,(es.find? (·.key.isStr x)).map (·.val)=m x
theorem IDict.at'{h h':Heap}{d:Addr}{m:Str→Option Value}{k:Nat}(D:IDict h d m k)(H:∀o,h.get? d=some o→h'.get? d=some o):IDict h' d m k:=
 xEEAAA D fun es n a b c e=>⟨es,n,H _ a,b,c,e⟩
set_option tactic.hygienic true in
theorem getL_of{es:List DictEntry}(hk:∀e∈es,∃x t,e.key= .str x t)(x:Str):getL x es=some ((es.find? (·.key.isStr x)).map (·.val)):=by
 unfold getL
 split
 ·rename_i e he;rw[he];rfl
 ·rename_i he
  rw[he,if_neg]
  ·rfl
  ·intro q
   refine xEA (List.any_eq_true.mp q) fun e hm hr=>?_
   refine xEE (hk e hm) fun y t e'=>?_
   rw[DictEntry.refKey,e']at hr
   cases hr
theorem isStr_iff{y x:Str}{t:Tok}:(Value.str y t).isStr x=(y==x):=rfl
theorem putL_len(name:Str)(hsh:Int)(key v:Value):∀es:List DictEntry,(putL name hsh key v es).length=if es.any (·.key.isStr name)then es.length else es.length+1
 |[]=>rfl
 |e::r=>by
  unfold putL
  cases h:e.key.isStr name with
  |true=>simp[h]
  |false=>
   simp only[Bool.false_eq_true,if_false,bx,List.any_cons,h,Bool.false_or,putL_len name hsh key v r]
   split<;>rfl
theorem putL_keys(name:Str)(hsh:Int)(t:Tok)(v:Value):∀{es:List DictEntry},(∀e∈es,∃x t,e.key= .str x t)→∀e∈putL name hsh (.str name t) v es,∃x t,e.key= .str x t
 |[],_,e,he=>by
  simp only[putL,cf]at he
  subst he;exact⟨_,_,rfl⟩
 |d::r,h,e,he=>by
  unfold putL at he
  split at he
  ·rcases bz.mp he with rfl|he
   ·exact h d (cb ..)
   ·exact h e (bw _ he)
  ·rcases bz.mp he with rfl|he
   ·exact h _ (cb ..)
   ·exact putL_keys name hsh t v (fun e he=>h e (bw _ he)) e he
theorem putL_get(name:Str)(hsh:Int)(t:Tok)(v:Value)(x:Str):∀{es:List DictEntry},(∀e∈es,∃x t,e.key= .str x t)→
  ((putL name hsh (.str name t) v es).find? (·.key.isStr x)).map (·.val)=if x=name then some v else(es.find? (·.key.isStr x)).map (·.val)
 |[],_=>by
  simp only[putL,List.find?_cons,List.find?_nil,isStr_iff]
  by_cases q:x=name
  ·subst q;simp
  ·have:(name==x)=false:=by simpa using Ne.symm q
   simp[this,q]
 |d::r,h=>by
  refine xEE (h d (cb ..)) fun y u e=>?_
  unfold putL
  rw[show d.key.isStr name=(y==name) by rw[e];rfl]
  by_cases q:y=name
  ·subst q
   simp only[beq_self_eq_true,if_true,List.find?_cons]
   rw[show d.key.isStr x=(y==x) by rw[e];rfl]
   by_cases q:x=y
   ·subst q;simp
   ·have:(y==x)=false:=by simpa using Ne.symm q
    simp[this,q]
  ·have hb:(y==name)=false:=by simpa using q
   simp only[hb,Bool.false_eq_true,if_false,List.find?_cons]
   rw[show d.key.isStr x=(y==x) by rw[e];rfl]
   by_cases q':y=x
   ·subst q';simp[q]
   ·have:(y==x)=false:=by simpa using q'
    simp only[this]
    exact putL_get name hsh t v x fun e he=>h e (bw _ he)
theorem IDict.put{P:Params}{es:List DictEntry}{n k:Nat}{m:Str→Option Value}{h':Heap}{d:Addr}{name:Str}{v:Value}{t:Tok}(hk:∀e∈es,∃x t,e.key= .str x t)(hm:∀x,(es.find? (·.key.isStr x)).map (·.val)=m x)(hl:es.length≤k)
  (e:h'.get? d=some (dictOf (putL name (PyData.keyHash P name) (.str name t) v es) n)):IDict h' d (fun x=>if x=name then some v else m x) (if(m name).isSome then k else k+1):=by
 refine⟨_,n,e,?_,putL_keys _ _ _ _ hk,fun x=>by rw[putL_get _ _ _ _ _ hk,hm]⟩
 rw[putL_len]
 have:es.any (·.key.isStr name)=(m name).isSome:=by
  rw[←hm,Option.isSome_map]
  clear hm hl e
  induction es with
  |nil=>rfl
  |cons d r ih=>
   have ih:=ih fun e he=>hk e (bw _ he)
   rw[List.any_cons,List.find?_cons]
   cases d.key.isStr name with
   |true=>rfl
   |false=>simpa using ih
 rw[this]
 split<;>lia
section
variable{prog:Program}{w:World}{A:Around}{E:Value→Shared→Prop}{s:Shared}{K:Frag}{x C dx:Addr}{m:Str→Option Value}{k:Nat}{sl:Array (Option Value)}{name:Str}
theorem getA{expr:Bool}{attr:Option Value}{v:Value}{Q:Value→Shared→Prop}(X:K.In s.heap)(hx:s.heap.get? x=some ⟨.ref C,some dx, .plain,sl⟩)(D:IDict s.heap dx m k)(hg:plainGet K C name=true)(hh:hasDictIn K C=true)
  (ha:findIn K (.ref C) name=some attr) (hn:noGet K attr=true) (hm:m name=some v) (hv:handedIn v=true) (H:Q v {s with toks:=s.toks+1}):wpAny (model prog w) A (getAttr (.ref x) name expr) Q E s:=by
 refine xEEAAA D fun es n hd hl hk hf=>?_
 exact get_value X ⟨hx,rfl,rfl,hd⟩ (plainGet_of hg).1 (findObj_own hh ha hn (by rw[lookIn_dict,getL_of hk,hf,hm])) hv H
theorem getM{pl:Sem Bool}{f:Addr}{Q:Value×List Value→Shared→Prop}(X:K.In s.heap)(hx:s.heap.get? x=some ⟨.ref C,some dx, .plain,sl⟩)(D:IDict s.heap dx m k)(hg:plainGet K C name=true)
  (hf:findIn K (.ref C) name=some (some (.ref f))) (ht:isFn K (.ref f)=true) (hm:m name=none) (H:Q (.ref f,[.ref x]) s):wpAny (model prog w) A (getMethod (.ref x) name pl) Q E s:=by
 refine xEEAAA D fun es n hd hl hk hf'=>?_
 exact method_fn (od:=some (dictOf es n)) X ⟨hx,rfl,rfl,hd⟩ (plainGet_of hg).1 (plainGet_of hg).2 hf (beq_iff_eq.mp ht) (by show(lookIn name (dictOf es n)).map _=_;rw[lookIn_dict,getL_of hk,hf',hm];rfl) H
theorem osaA{v:Value}{tk:Tok}{R:Result→Shared→Prop}(X:K.In s.heap)(hx:s.heap.get? x=some ⟨.ref C,some dx, .plain,sl⟩)(D:IDict s.heap dx m k)(hk:k<900)
  (hp:plainOver K C=true) (ht:takerIn K C name=some none) (hh:hasDictIn K C=true)
  (H:∀h',IDict h' dx (fun y=>if y=name then some v else m y) (if(m name).isSome then k else k+1)→Heap.SameBut dx s.heap h'→R (.ok (.ret .none)) {s with heap:=h',toks:=s.toks+1}):
  codeAny (model prog w) A (.call (.builtin "object.__setattr__") ⟨[.ref x, .str name tk,v],[]⟩) R s:=by
 refine xEEAAA D fun es n hd hl hks hf=>?_
 have I:InstAt s.heap x ⟨.ref C,some dx, .plain,sl⟩ C (some (dictOf es n)):=⟨hx,rfl,rfl,hd⟩
 refine osa_open X I hp ht fun b=>?_
 refine xEA (any_some hh) fun cd hc hd'=>?_
 have e:Obj.putName name (PyData.keyHash w.params name) (.str name s.toks) v (dictOf es n)=dictOf (putL name (PyData.keyHash w.params name) (.str name s.toks) v es) (putN name es n):=putName_dict ..
 have D':(s.heap.update dx (Obj.putName name (PyData.keyHash w.params name) (.str name s.toks) v)).get? dx=some (dictOf (putL name (PyData.keyHash w.params name) (.str name s.toks) v es) (putN name es n)):=by
  rw[←e]
  exact Heap.get?_update_self _ hd (by rw[e];rfl)
 refine ac (ah (ac (ac (wpAny_loadPart hx (ac ((looks_clsIn X hc).here ?_))))))
 rw[hd']
 refine ah (a:=some dx) (ac (ah (ac ?_)))
 unfold nsSet
 refine ac (ac (wpAny_askSetting (ah (ac (wpAny_mkText (ac (wpAny_loadPart hd ?_)))))))
 dsimp only
 have c:(!es.toArray.any (·.key.isStr name)&&es.toArray.any (·.refKey))=false:=by
  have:es.toArray.any (·.refKey)=false:=by
   rw[←Array.any_toList,Bool.eq_false_iff]
   intro q
   refine xEA (List.any_eq_true.mp q) fun d hm hr=>?_
   refine xEE (hks d hm) fun y t e'=>?_
   rw[DictEntry.refKey,e']at hr
   cases hr
  rw[this,Bool.and_false]
 rw[aRefKeyMayBeTheName_at,c]
 refine wpAny_updatePart hd ?_
 refine ac (wpAny_lookBehind D' (pastItsLine_dict (by rw[List.size_toArray,putL_len,bb];split<;>lia)) ?_)
 exact ah (H _ (IDict.put hks hf hl D') (Heap.SameBut.update ..))
theorem setA{v:Value}{Q:Unit→Shared→Prop}(X:K.In s.heap)(hx:s.heap.get? x=some ⟨.ref C,some dx, .plain,sl⟩)(D:IDict s.heap dx m k)(hk:k<900)
  (hs:findIn K (.ref C) "__setattr__" =some (some (.builtin "object.__setattr__"))) (hp:plainOver K C=true) (ht:takerIn K C name=some none) (hh:hasDictIn K C=true)
  (H:∀h',IDict h' dx (fun y=>if y=name then some v else m y) (if(m name).isSome then k else k+1)→Heap.SameBut dx s.heap h'→Q () {s with heap:=h',toks:=s.toks+2}):
  wpAny (model prog w) A (setAttr (.ref x) name v) Q E s:=by
 have D₀:=D
 refine xEEAAA D fun es n hd hl hks hf=>?_
 exact set_plain (od:=some (dictOf es n)) X ⟨hx,rfl,rfl,hd⟩ hs (osaA (s:= {s with toks:=s.toks+1}) X hx D₀ hk hp ht hh H)
end
end
section
open PySem.Builtin PySem.Builtin.ObjectAttr
noncomputable def KW(P:Params):Frag:=[(3,ob3 P),(0,ob0 P),(237,ob237 P),(238,ob238 P),(155,ob155 P),(163,ob163 P),(178,ob178 P),(194,ob194 P),(208,ob208 P),(214,ob214 P),(221,ob221 P),(228,ob228 P),
 (154,ob154 P),(162,ob162 P),(177,ob177 P),(207,ob207 P),(213,ob213 P),(220,ob220 P),(227,ob227 P),(148,ob148 P),(156,ob156 P),(171,ob171 P),(209,ob209 P),(132,ob132 P),(249,ob249 P),(248,ob248 P),(263,ob263 P),(262,ob262 P)]
section
variable(P:Params)
theorem has_dict:hasDictIn (KW P) 238=true:=by kernel_rfl
theorem plain_over:plainOver (KW P) 238=true:=by kernel_rfl
theorem own_set:findIn (KW P) (.ref 238) "__setattr__" =some (some (.builtin "object.__setattr__")):=by kernel_rfl
theorem pg(name:Str):plainGet (KW P) 238 name=true:=by
 have h1:findIn (KW P) (.ref 238) "__getattribute__" =some (some (.builtin "object.__getattribute__")):=by kernel_rfl
 have h2:findIn (KW P) (.ref 238) "__getattr__" =some none:=by kernel_rfl
 unfold plainGet;rw[h1,h2];rfl
noncomputable def wattrs:List Str:=["_write","_data","_with_comments","_strip_text","_exclude_attrs","_exclude_tags","_rewrite_prefixes","_qname_aware_tags","_find_qname_aware_attrs","_declared_ns_stack","_ns_stack","_prefix_map","_preserve_space","_pending_start","_root_seen","_root_done","_ignored_depth"]
theorem no_attr:∀x∈wattrs,findIn (KW P) (.ref 238) x=some none:=by
 unfold wattrs
 simp only[List.forall_mem_cons,cj,false_imp_iff,implies_true,and_true]
 refine⟨?_,?_,?_,?_,?_,?_,?_,?_,?_,?_,?_,?_,?_,?_,?_,?_,?_⟩<;>kernel_rfl
theorem no_taker:∀x∈wattrs,takerIn (KW P) 238 x=some none:=fun x hx=>by
 unfold takerIn;rw[no_attr P x hx];rfl
theorem f_start:findIn (KW P) (.ref 238) "start" =some (some (.ref 208)):=by kernel_rfl
theorem f__start:findIn (KW P) (.ref 238) "_start" =some (some (.ref 214)):=by kernel_rfl
theorem f_end:findIn (KW P) (.ref 238) "end" =some (some (.ref 221)):=by kernel_rfl
theorem f_qname:findIn (KW P) (.ref 238) "_qname" =some (some (.ref 178)):=by kernel_rfl
theorem f_iter:findIn (KW P) (.ref 238) "_iter_namespaces" =some (some (.ref 163)):=by kernel_rfl
theorem f_comment:findIn (KW P) (.ref 238) "comment" =some (some (.ref 228)):=by kernel_rfl
theorem f_init:findIn (KW P) (.ref 238) "__init__" =some (some (.ref 155)):=by kernel_rfl
theorem is_fn:∀f∈[155,163,178,194,208,214,221,228,249,263],isFn (KW P) (.ref f)=true:=by
 simp only[List.forall_mem_cons,cj,false_imp_iff,implies_true,and_true]
 refine⟨?_,?_,?_,?_,?_,?_,?_,?_,?_,?_⟩<;>kernel_rfl
end
end
section
open PySem.W.X
section
variable{prog:Program}{w:World}{A:Around}{c:Code}{fs:List Frame}{P:End→Shared→Prop}{s:Shared}{α β:Type}
theorem sx_cmd{m:Sem α}{K:α→Sem Fin}{H:Value→Sem Fin}{gd lv}(h:wpAny (model prog w) (A.over c fs) m (fun a s'=>SegX (model prog w) A c (K a) fs s' P) (fun x s'=>SegX (model prog w) A c (H x) fs s' P) s):
  SegX (model prog w) A c (m.wrap K H gd lv) fs s P:=by
 rintro Γ p rfl hΓ
 refine xEEA (runs_wrap_of_wp (Φ:=fun e s'=>e.quiet=true∧P e s') K H gd lv m (h (Γ.over fs) p (hΓ.over fs)) (fun a p' s' h'=>h' Γ p' rfl hΓ) (fun x p' s' h'=>h' Γ p' rfl hΓ)) fun e s' hr hq=>?_
 exact⟨e,s',hr,hq⟩
theorem sx_bind{m:Sem α}{f:α→Sem β}{K:β→Sem Fin}{H:Value→Sem Fin}{gd lv}(h:wpAny (model prog w) (A.over c fs) m (fun a s'=>SegX (model prog w) A c ((f a).wrap K H gd lv) fs s' P) (fun x s'=>SegX (model prog w) A c (H x) fs s' P) s):
  SegX (model prog w) A c ((m>>=f).wrap K H gd lv) fs s P:=by
 rw[Sem.bind_eq_wrap',Sem.wrap_wrap];exact sx_cmd h
theorem sx_bind0{m:Sem α}{f:α→Sem Fin}(h:wpAny (model prog w) (A.over c fs) m (fun a s'=>SegX (model prog w) A c (f a) fs s' P) (fun x s'=>SegX (model prog w) A c (.raise x) fs s' P) s):
  SegX (model prog w) A c (m>>=f) fs s P:=by
 rw[Sem.bind_eq_wrap'];exact sx_cmd h
theorem sx_bindW{m:Sem α}{f:α→Sem β}{K:β→Sem Fin}{H:Value→Sem Fin}{gd lv}(h:SegX (model prog w) A c (m.wrap (fun a=>(f a).wrap K H gd lv) H (fun g=>gd g) (fun l=>lv l)) fs s P):
  SegX (model prog w) A c ((m>>=f).wrap K H gd lv) fs s P:=by
 rw[Sem.bind_eq_wrap',Sem.wrap_wrap];exact h
theorem sx_onRaiseW{m:Sem α}{r:Value→Sem Unit}{K:α→Sem Fin}{H:Value→Sem Fin}{gd lv}
  (h:SegX (model prog w) A c (m.wrap K (fun e=>((r e).bind fun Y=> .raise e).wrap K H gd lv) (fun g=>gd g) (fun l=>lv l)) fs s P):
  SegX (model prog w) A c ((m.onRaise r).wrap K H gd lv) fs s P:=by
 rw[Sem.onRaise_eq_wrap,Sem.wrap_wrap];exact h
theorem resume_any{Q:α→Shared→Prop}{E:Value→Shared→Prop}{g:Nat}{gs:GenState}{r:Resume}{l:List Value}{k:GenResult→Sem α}{c₀:Code}{t₀:Sem Fin}{fs₀:List Frame}(hg:s.gens[g]?=some gs)
  (hgs:(gs= .fresh c₀∧r= .send .none∧t₀=denote table c₀∧fs₀=[])∨(∃k₀ l₀ p₀ cl,gs= .suspended k₀ l₀ c₀ p₀ fs₀ cl∧t₀=k₀ r))
  (x:SegX (model prog w) A c₀ t₀ fs₀ (s.setGen g .running) (fun e s₁=>wpAny (model prog w) A (k e.result) Q E (s₁.setGen g e.genState))):wpAny (model prog w) A (.resume g r l k) Q E s:=fun Γ p hΓ=>
 wake_any α prog w hg hgs (fun Γ=>Γ.In A) (fun Y h=>h) x Γ p hΓ
theorem next_gen{E:Value→Shared→Prop}{a:Addr}{g:Nat}{gs:GenState}{Q:Option Value→Shared→Prop}{c₀:Code}{t₀:Sem Fin}{fs₀:List Frame}(hh:A.handled=none)(hl:s.heap.NoLimit)(hroom:A.depth<recursionLimit)
  (hg:s.heap.IsGen a g) (hgs:s.gens[g]?=some gs)
  (hst:(gs= .fresh c₀∧t₀=denote table c₀∧fs₀=[])∨(∃k₀ l₀ p₀ cl,gs= .suspended k₀ l₀ c₀ p₀ fs₀ cl∧t₀=k₀ (.send .none)))
  (x:SegX (model prog w) A.in1 c₀ t₀ fs₀ (s.setGen g .running) (fun e s₁=>match e with
   | .ret (.ok (.ret .none))=>∀h',Ext s₁.heap h'→Q none {s₁.setGen g .finished with heap:=h'}
   | .susp v gd l k c p fs=>Q (some v) (s₁.setGen g (.suspended k l c p fs (gd||fs.any Frame.guarded)))
   |_=>False)):wpAny (model prog w) A (pyNext (.ref a)) Q E s:=by
 unfold pyNext
 refine ac (wpAny_attempt (wpAny_callSpecial?_slot (name:=br "__next__") hg.typeIs slot_gen_next
  (wpAny_call_entry slot_gen_next hg.typeIs entry_gen_next ?_ (args_gen_next _))))
 show wpAny _ _ (Builtin.Generator.genWake (.ref a) (.send .none)) _ _ s
 unfold Builtin.Generator.genWake
 refine ac (ak (wpAny_genNumber hg (ac (wpAny_genState hgs ?_))))
 have hst':(gs= .fresh c₀∧Resume.send Value.none= .send .none∧t₀=denote table c₀∧fs₀=[])∨(∃k₀ l₀ p₀ cl,gs= .suspended k₀ l₀ c₀ p₀ fs₀ cl∧t₀=k₀ (.send .none)):=by
  refine Or.elim hst (fun Y=>xAA Y fun a b c=>?_) fun h=>?_
  ·exact .inl ⟨a,rfl,b,c⟩
  ·exact .inr h
 rcases hst with ⟨rfl,rfl,rfl⟩|⟨k₀,l₀,p₀,cl,rfl,rfl⟩
 all_goals
  refine ac (wpAny_roomToWake hl hroom ?_)
  show wpAny _ _ (.resume g (.send .none) [] _) _ _ s
  refine resume_any hgs hst' (SegX.mono x fun e s₁ he=>?_)
  split at he
  ·show wpAny _ _ (newExc (.type "StopIteration") [] >>=_) _ _ _
   refine ac ?_
   simp only[newExc,newTuple]
   refine ac (wpAny_newObj_type ?_ (by size_fits))
   refine ac (m:=firstArgMember _ _) (wpAny_of_eq (a:=Value.none) (by first|rfl|(simp only[firstArgMember];rfl)) ?_)
   refine wpAny_newObj_type ?_ (by size_fits)
   simp only[raiseNew]
   refine ac (ac (wpAny_handled ?_))
   rw[show A.in1.handled=none from hh]
   refine wpAny_throw ?_
   refine ac (wpAny_isInstance (T:= "StopIteration") (b:=true) ⟨_,bc _ rfl,rfl⟩ isSubtype_stop ?_)
   exact ah (he _ fun b o hb=>bd _ (bd _ hb))
  ·exact ah ⟨_,rfl,ah he⟩
  ·exact he.elim
end
end
section
open PySem.W.X
section
variable{prog:Program}{w:World}{A:Around}{E:Value→Shared→Prop}{s:Shared}
theorem nxt_item{it l:Addr}{i:Nat}{items:Array Value}{x:Value}{Q:Option Value→Shared→Prop}(hit:s.heap.IsListIter it l i)(hl:s.heap.IsList l items)(hx:items[i]?=some x)
  (hQ:∀h',h'.IsListIter it l (i+1)→Heap.SameBut it s.heap h'→Q (some x) {s with heap:=h'}):
  wpAny (model prog w) A (callSpecial? (.ref it) "__next__") Q E s:=by
 refine xEAA (id hit) fun o ho hc hd=>?_
 refine xEAA hl fun ol hol Y9 Y=>?_;refine xE Y fun nl hdl=>?_
 refine wpAny_callSpecial?_slot (name:=br "__next__") hit.typeIs slot_listiter_next
  (wpAny_call_entry slot_listiter_next hit.typeIs entry_listiter_next ?_ (args_listiter_next _))
 show wpAny _ _ (field (.ref it) 0>>=_) _ _ s
 refine ac (wpAny_field ho hd (x:= .ref l) rfl ?_)
 show wpAny _ _ (if(Value.ref l==Value.none)=true then _ else _) _ _ s
 refine wn (show¬((Value.ref l==Value.none)=true)from bq) ?_
 show wpAny _ _ (field (.ref it) 1>>=_) _ _ s
 refine ac (wpAny_field ho hd (x:= .int i 0) rfl ?_)
 show wpAny _ _ (seqItems? (.ref l)>>=_) _ _ s
 refine ac (wpAny_seqItems hol hdl ?_)
 simp only[Int.toNat_natCast,hx]
 refine ac (wpAny_setField ho hd (by simp) (ah ⟨x,rfl,hQ _ ?_ (Heap.SameBut.update ..)⟩))
 exact⟨_,Heap.get?_update_self _ ho (Obj.isFreed_of_fields (Obj.data_mapFields hd _)),(Obj.cls_mapFields ..).trans hc,by
  rw[Obj.data_mapFields hd];simp[rawInt]⟩
def IsStop(h:Heap)(e:Addr):Prop:=∃o vs,h.get? e=some o∧o.cls= .type "StopIteration"∧o.data= .fields vs∧vs[5]?=some .none
theorem nxt_end{it l:Addr}{i:Nat}{items:Array Value}{Q:Option Value→Shared→Prop}(hh:A.handled=none)
  (hit:s.heap.IsListIter it l i) (hl:s.heap.IsList l items) (hx:items[i]?=none)
  (hE:∀e h',Heap.ExtBut it s.heap h'→IsStop h' e→E (.ref e) {s with heap:=h'}):wpAny (model prog w) A (callSpecial? (.ref it) "__next__") Q E s:=by
 refine xEAA (id hit) fun o ho hc hd=>?_
 refine xEAA hl fun ol hol Y9 Y=>?_;refine xE Y fun nl hdl=>?_
 refine wpAny_callSpecial?_slot (name:=br "__next__") hit.typeIs slot_listiter_next
  (wpAny_call_entry slot_listiter_next hit.typeIs entry_listiter_next ?_ (args_listiter_next _))
 show wpAny _ _ (field (.ref it) 0>>=_) _ _ s
 refine ac (wpAny_field ho hd (x:= .ref l) rfl ?_)
 show wpAny _ _ (if(Value.ref l==Value.none)=true then _ else _) _ _ s
 refine wn (show¬((Value.ref l==Value.none)=true)from bq) ?_
 show wpAny _ _ (field (.ref it) 1>>=_) _ _ s
 refine ac (wpAny_field ho hd (x:= .int i 0) rfl ?_)
 show wpAny _ _ (seqItems? (.ref l)>>=_) _ _ s
 refine ac (wpAny_seqItems hol hdl ?_)
 simp only[Int.toNat_natCast,hx]
 refine ac (wpAny_rule (ac (wpAny_setField ho hd (by simp) ?_)))
 show wpAny _ _ (newExc (.type "StopIteration") [] >>=_) _ _ _
 refine ac ?_
 simp only[newExc,newTuple]
 refine ac (wpAny_newObj_type ?_ (by size_fits))
 refine ac (m:=firstArgMember _ _) (wpAny_of_eq (a:=Value.none) (by first|rfl|(simp only[firstArgMember];rfl)) ?_)
 refine wpAny_newObj_type ?_ (by size_fits)
 simp only[raiseNew]
 refine ac (wpAny_handled ?_)
 rw[show A.in1.handled=none from hh]
 refine ac (ah (wpAny_throw (hE _ _ (((Heap.SameBut.update ..).extBut.push _).push _) ⟨_,_,bc _ rfl,rfl,rfl,rfl⟩)))
theorem den_b{id:String}{b:Builtin}(h:entryFor table id=some b)(args:Args):denote table (.builtin id args)=b args:=by
 show(match entryFor table id with|some b=>b args|none=>_)=_
 rw[h]
theorem entry_yf:entryFor table "proto.yield_from" =some Builtin.«proto.yield_from»:=entryFor_of_tree (by kernel_rfl)
end
section
variable{prog:Program}{w:World}{A:Around}{fs:List Frame}{P:End→Shared→Prop}{s:Shared}
theorem yf_item{it l:Addr}{i:Nat}{items:Array Value}{x:Value}(hit:s.heap.IsListIter it l i)(hl:s.heap.IsList l items)(hx:items[i]?=some x)(hfs:splitAtGen fs=none)(hfg:fs.any Frame.guarded=false)
  (H:∀p l' k h',h'.IsListIter it l (i+1)→Heap.SameBut it s.heap h'→
   (∀A' s' P',SegX (model prog w) A' (.builtin "proto.yield_from" ⟨[.ref it, .bool false, .none],[]⟩) (denote table (.builtin "proto.yield_from" ⟨[.ref it, .bool false, .none],[]⟩)) fs s' P'→
    s'.heap.IsListIter it l (i+1)→SegX (model prog w) A' (.builtin "proto.yield_from" ⟨[.ref it, .bool false, .none],[]⟩) (k (.send .none)) fs s' P')→
   P (.susp x false l' k (.builtin "proto.yield_from" ⟨[.ref it, .bool false, .none],[]⟩) p fs) {s with heap:=h'}):
  SegX (model prog w) A (.builtin "proto.yield_from" ⟨[.ref it, .bool false, .none],[]⟩) (denote table (.builtin "proto.yield_from" ⟨[.ref it, .bool false, .none],[]⟩)) fs s P:=by
 refine s_eq _ _ _ _ _ _ _ _ _ (den_b entry_yf _) ?_
 unfold Builtin.«proto.yield_from»
 refine sx_bind0 (ah ?_)
 refine sx_bind0 (wpAny_attempt (ak ?_))
 show wpAny _ _ (rule "yield-from.next" >>=_) _ _ _
 refine ac (wpAny_rule (ac (nxt_item hit hl hx fun h' hit' hs'=>ah ?_)))
 refine xEAA (id hit') fun o ho hc hd=>?_
 have T:∀{A':Around} {E:Value→Shared→Prop} {s':Shared} {Q:Value→Shared→Prop},s'.heap.IsListIter it l (i+1)→Q (.type "list_iterator") s'→wpAny (model prog w) A' (typeOf (.ref it)) Q E s':=fun h q=>by
  refine xEAA h fun o ho hc hd=>?_
  refine ac (wpAny_load ho (ah ?_))
  rw[hc];exact q
 have Z:∀{A':Around} {E:Value→Shared→Prop} {s':Shared} {Q:Unit→Shared→Prop} {b:Bool},s'.heap.IsListIter it l (i+1)→Q () s'→wpAny (model prog w) A' (Builtin.Generator.sleptOver (.ref it) b) Q E s':=fun h q=>by
  refine xEAA h fun o ho hc hd=>?_
  unfold Builtin.Generator.sleptOver
  refine ac (wpAny_load ho ?_)
  rw[hc]
  exact ah q
 have L:typeLookup (.type "list_iterator") "close" =pure none:=by rw[typeLookup_type,builtinLookup_eq_fast];kernel_rfl
 refine sx_bind0 (T (s':= {s with heap:=h'}) hit' ?_)
 refine sx_bind0 (wpAny_of_eq L ?_)
 refine sx_bind0 (ah ?_)
 refine sx_bind0 (Z (s':= {s with heap:=h'}) hit' ?_)
 show SegX _ _ _ (.yield x false [] fun woken=>Builtin.Generator.sleptOver (.ref it) false>>=fun Y=>_) _ _ _
 refine s_yield _ _ _ _ _ _ _ _ _ _ hfs hfg fun p=>H p _ _ h' hit' hs' fun A' s' P' X hit''=>?_
 refine sx_bind0 (Z hit'' ?_)
 refine sx_bind0 (wpAny_of_eq (a:= .none) rfl ?_)
 exact s_again _ _ _ _ _ _ _ _ (Code.quiet_builtin _ (by decide+kernel)) X
theorem isSub_stop2:isSubtype (.type "StopIteration") (.type "StopIteration")=pure true:=by rw[isSubtype_type];kernel_rfl
theorem yf_end{it l:Addr}{i:Nat}{items:Array Value}(hh:∀c,(A.over c fs).handled=none)(hit:s.heap.IsListIter it l i)(hl:s.heap.IsList l items)(hx:items[i]?=none)
  (H:∀h',Heap.ExtBut it s.heap h'→SegX (model prog w) A (.builtin "proto.yield_from" ⟨[.ref it, .bool false, .none],[]⟩) (leafOf (.ok (.ret .none))) fs {s with heap:=h'} P):
  SegX (model prog w) A (.builtin "proto.yield_from" ⟨[.ref it, .bool false, .none],[]⟩) (denote table (.builtin "proto.yield_from" ⟨[.ref it, .bool false, .none],[]⟩)) fs s P:=by
 refine s_eq _ _ _ _ _ _ _ _ _ (den_b entry_yf _) ?_
 unfold Builtin.«proto.yield_from»
 refine sx_bind0 (ah ?_)
 refine sx_bind0 (wpAny_attempt (ak ?_))
 show wpAny _ _ (rule "yield-from.next" >>=_) _ _ _
 refine ac (wpAny_rule (ac (nxt_end (hh _) hit hl hx fun e h' hs' he=>?_)))
 refine xEEAAA he fun o vs ho hc hd h5=>?_
 refine sx_bind0 ?_
 unfold Builtin.Generator.endsTheTurnAsAValue Builtin.Generator.isStopAndMetaclass
 have T:Shared.TypeIs {s with heap:=h'} (.ref e) "StopIteration" :=⟨o,ho,hc⟩
 refine ac (ac (wpAny_typeOf T (ac (wpAny_of_eq isSub_stop2 (ac ?_)))))
 refine wpAny_of_eq (a:= .type "type") rfl (ah (ah ?_))
 refine sx_bind0 (wpAny_rule ?_)
 refine sx_bind0 (wpAny_field ho hd h5 ?_)
 exact H h' hs'
end
end
section
open PySem.W.X
section
variable{prog:Program}{w:World}{A:Around}{fs:List Frame}{P:End→Shared→Prop}{s:Shared}
theorem sx_cmdN{α:Type}{c:Code}{m:Sem α}{K:α→Sem Fin}{H:Value→Sem Fin}{gd lv}(h:wpAny (model prog w) (A.over c fs) m (fun a s'=>SegX (model prog w) A c (K a) fs s' P) noE s):
  SegX (model prog w) A c (m.wrap K H gd lv) fs s P:=sx_cmd (aj h (fun Y Y z=>z) fun Y Y z=>z.elim)
theorem sx_bindN{α β:Type}{c:Code}{m:Sem α}{f:α→Sem β}{K:β→Sem Fin}{H:Value→Sem Fin}{gd lv}(h:wpAny (model prog w) (A.over c fs) m (fun a s'=>SegX (model prog w) A c ((f a).wrap K H gd lv) fs s' P) noE s):
  SegX (model prog w) A c ((m>>=f).wrap K H gd lv) fs s P:=sx_bind (aj h (fun Y Y z=>z) fun Y Y z=>z.elim)
noncomputable def forK(target:Expr)(it:Value)(body orelse:List Stmt)(env:Env):Flow→Sem Fin
 | .next| .cont=>again (.forLoop target it body orelse env)
 | .brk=>pure (.done .next)
 | .ret v=>pure (.done (.ret v))
theorem seg_for{target:Expr}{it:Value}{body orelse:List Stmt}{env:Env}
  (h:wpAny (model prog w) (A.over (.forLoop target it body orelse env) fs) (pyNext it) (fun r s'=>match r with
   |none=>SegX (model prog w) A (.block orelse env) (denote table (.block orelse env)) fs s' P
   |some v=>wpAny (model prog w) (A.over (.forLoop target it body orelse env) fs) (letOwnedTupleGo target it v>>=fun Y=>assign target env v) (fun Y s''=>
     ∀H,SegX (model prog w) A (.forLoop target it body orelse env) ((execs body env).wrap (forK target it body orelse env) H id id) fs s'' P) noE s') noE s):
  SegX (model prog w) A (.forLoop target it body orelse env) (denote table (.forLoop target it body orelse env)) fs s P:=by
 show SegX _ _ _ ((forTurn target it body orelse env).onRaise _) _ _ _
 rw[Sem.onRaise_eq_wrap]
 unfold forTurn
 refine sx_bindN (aw ?_)
 refine sx_bindN (wpAny_onRaise (aj h (fun r s' hr=>?_) fun Y Y z=>z.elim))
 cases r with
 |none=>exact s_again _ _ _ _ _ _ _ _ rfl hr
 |some v=>
  have e:∀(K:Sem Fin),(letOwnedTupleGo target it v>>=fun Y=>assign target env v>>=fun Y=>K)=((letOwnedTupleGo target it v>>=fun Y=>assign target env v)>>=fun Y=>K):=fun K=>by
   simp only[bind_assoc]
  show SegX _ _ _ (Sem.wrap _ _ _ _ (letOwnedTupleGo target it v>>=fun Y=>assign target env v>>=fun Y=>_)) _ _ _
  rw[e]
  refine sx_bindN (aj hr (fun Y s'' hs=>?_) fun Y Y z=>z.elim)
  refine sx_bindW ?_
  rw[Sem.wrap_congr (execs body env) _ _ (K':=forK target it body orelse env) (fun f=>by cases f<;>rfl) (fun Y=>rfl)]
  exact hs _
end
structure Fine(n:Nat)(fs:List Frame):Prop where
 split:splitAtGen fs=none
 guard:fs.any Frame.guarded=false
 marks:(marksOver fs (none,none))=(none,none)
 depth:frameCount (fs.map Frame.where_)≤n
 units:unitsOf (fs.map Frame.where_)≤8*n
theorem Fine.nil:Fine 0 []:=⟨rfl,rfl,rfl,Nat.le_refl _,Nat.le_refl _⟩
theorem Fine.cons{n:Nat}{fs:List Frame}(x:Fine n fs){k:Result→Sem Fin}{l:List Value}{c:Code}{p:Pos}{kp:List Value}(h1:c.weight≤1)(h2:c.cUnits≤8):Fine (n+1) (.ret k none false l c p kp::fs):=by
 refine⟨?_,?_,?_,?_,?_⟩
 ·show(splitAtGen fs).map _=none
  rw[x.split];rfl
 ·rw[List.any_cons,x.guard];rfl
 ·show Frame.marks (.ret k none false l c p kp) (marksOver fs (none,none))=_
  rw[x.marks];rfl
 ·rw[List.map_cons]
  show frameCount ((c,p)::_)≤_
  rw[frameCount_cons];have:=x.depth;lia
 ·rw[List.map_cons]
  show unitsOf ((c,p)::_)≤_
  rw[unitsOf_cons];have:=x.units;lia
theorem wt_for(t:Expr)(i:Value)(b o:List Stmt)(env:Env):(Code.forLoop t i b o env).weight≤1∧(Code.forLoop t i b o env).cUnits≤8:=⟨Nat.le_of_ble_eq_true rfl,Nat.le_of_ble_eq_true rfl⟩
theorem wt_func(b:List Stmt)(env:Env):(Code.func b env).weight≤1∧(Code.func b env).cUnits≤8:=⟨Nat.le_of_ble_eq_true rfl,Nat.le_of_ble_eq_true rfl⟩
end
section
open PySem.W.X
section
variable{prog:Program}{w:World}{A:Around}{fs:List Frame}{P:End→Shared→Prop}{s:Shared}
theorem seg_yf_stmt{n m:Nat}{c:Code}{x:Str}{px p1 p2:Pos}{K:Flow→Sem Fin}{H:Value→Sem Fin}{env:Env}{l:Addr}{v:Value}
  (hk:env.scope.kind= .function) (hv:VarAt s.heap env x (.ref l)) (hdb:(x==br "__debug__")=false) (hi:interactive env=false) (hl:s.heap.IsList l #[v]) (F:Fine n fs) (wc:c.weight≤1∧c.cUnits≤8) (ok:AOk (m+n+2) A)
  (HP:∀p lv k it h' fs2,h'.IsListIter it l 1→Ext s.heap h'→s.heap.get? it=none→fs2.any Frame.guarded=false→
   (∀A' s2 P2 m',AOk (m'+n+2) A'→s2.heap.IsListIter it l 1→s2.heap.IsList l #[v]→(∀h2,Heap.ExtBut it s2.heap h2→SegX (model prog w) A' c (K .next) fs {s2 with heap:=h2} P2)→
    SegX (model prog w) A' (.builtin "proto.yield_from" ⟨[.ref it, .bool false, .none],[]⟩) (k (.send .none)) fs2 s2 P2)→
   P (.susp v false lv k (.builtin "proto.yield_from" ⟨[.ref it, .bool false, .none],[]⟩) p fs2) {s with heap:=h'}):
  SegX (model prog w) A c ((execs [.Expr (.YieldFrom (.Name x px) p1) p2] env).wrap K H id id) fs s P:=by
 rw[execs_cons_wrap,exec_Expr env _ _ hi rfl]
 refine sx_bindN (aw ?_)
 refine sx_bindW ?_
 rw[arm_eval_YieldFrom]
 refine sx_bindN (wpAny_Name (hv.load hk ?_) hdb)
 refine sx_bindN (aw ?_)
 unfold yieldFrom
 refine xEAA (id hl) fun ol hol hcl Y=>?_;refine xE Y fun nl hdl=>?_
 refine sx_bindN (wpAny_typeOf (T:= "list") ⟨ol,hol,hcl⟩ ?_)
 rw[if_neg (show¬((Value.type "list" ==Value.type "coroutine")=true) by decide+kernel)]
 refine sx_bindN (ak (wpAny_pyIter_list hl ?_))
 unfold runValue
 refine sx_bindW ?_
 show SegX _ _ _ (.call (.builtin "proto.yield_from" ⟨[.ref s.heap.objs.size, .bool false, .none],[]⟩) none false [] _) _ _ _
 have F2:∀(k:Result→Sem PySem.Fin) (l:List Value) (p:Pos) (kp:List Value),Fine (n+1) (.ret k none false l c p kp::fs):=fun k l p kp=>F.cons wc.1 wc.2
 have hit0:(s.heap.push {cls:= .type "list_iterator",data:= .fields #[.ref l, .int 0 0] }).IsListIter s.heap.objs.size l 0:=⟨_,bc _ rfl,rfl,rfl⟩
 have X0:Ext s.heap (s.heap.push {cls:= .type "list_iterator",data:= .fields #[.ref l, .int 0 0] }):=Ext.push _ _
 have hne:l≠s.heap.objs.size:=fun q=>by rw[q,get?_size]at hol;cases hol
 refine s_call _ _ _ _ _ _ _ _ _ _ _ _ fun p=>yf_item (i:=0) (items:= #[v]) hit0 ⟨ol,X0 _ _ hol,hcl,nl,hdl⟩ rfl (F2 _ _ _ _).split (F2 _ _ _ _).guard fun p' l' k h' hit' hs' wake=>?_
 refine HP p' l' k _ h' _ hit' (fun a o ho=>hs'.extBut a o (fun q=>by rw[q,get?_size]at ho;exact nn ho) (X0 a o ho)) (get?_size _) (F2 _ _ _ _).guard fun A' s2 P2 m' ok' hit2 hl2 H2=>?_
 refine wake A' s2 P2 (yf_end (i:=1) (items:= #[v]) (fun c'=>?_) hit2 hl2 rfl fun h2 hx2=>?_) hit2
 ·show(marksOver (_::fs) (A'.handled,A'.handled)).1=none
  rw[ok'.handled,(F2 _ _ _ _).marks]
 ·refine s_pop _ _ _ _ _ _ _ _ _ rfl _ _ _ _ _ _ _ ?_
  exact H2 h2 hx2
end
end
section
open PySem.W.X
theorem Rv.obj_iff{prog:Program}{w:World}{h:Heap}{F:Addr→Prop}{u v:Value}:Rv prog w h F (.obj u) v↔v=u:=Iff.rfl
theorem Own.of{env:Env}{bk:Str→Bool}{a:Addr}(x:Own env bk a):OwnOf env a:=by
 refine Or.elim x (fun q=>?_) fun Y=>xEA Y fun n Y q=>?_
 ·exact .inl q
 ·exact .inr ⟨n,q⟩
theorem Inv.other{g:Gnd}{env:Env}{ρ:Rho}{h h':Heap}{F M:Addr→Prop}{z:Addr}(I:Inv g env ρ h F M)(hs:Heap.ExtBut z h h')(hz:F z)(nz:¬M z)(z0:g.h₀.get? z=none)(lz:∃o,h'.get? z=some o):Inv g env ρ h' F M:=by
 have k:∀a o,a≠z→h.get? a=some o→h'.get? a=some o:=fun a o ne ho=>hs a o ne ho
 refine I.chgM (fun a o ho nf=>⟨nf,k a o (fun q=>nf (q▸hz)) ho⟩) (fun a q o ho=>k a o (fun e=>nz (e▸q)) ho) (fun a o ho=>k a o (fun e=>by rw[e,z0]at ho;exact nn ho) (I.base a o ho)) (fun a q=>?_) (fun Y q=>q) I.sub
 by_cases e:a=z
 ·subst e;exact lz
 ·refine xE (I.fl a q) fun o ho=>?_;exact⟨o,k a o e ho⟩
def WaitAt(g:Gnd)(c:Code)(K:Flow→Sem PySem.Fin)(fs:List Frame)(it l:Addr)(v:Value)(k:Resume→Sem PySem.Fin)(fs2:List Frame)(n:Nat):Prop:=
 ∀A' s2 P2 m',AOk (m'+n+2) A'→s2.heap.IsListIter it l 1→s2.heap.IsList l #[v]→(∀h2,Heap.ExtBut it s2.heap h2→SegX (model g.prog g.w) A' c (K .next) fs {s2 with heap:=h2} P2)→
  SegX (model g.prog g.w) A' (.builtin "proto.yield_from" ⟨[.ref it, .bool false, .none],[]⟩) (k (.send .none)) fs2 s2 P2
theorem Inv.varO{g:Gnd}{env:Env}{ρ:Rho}{h:Heap}{F M:Addr→Prop}(I:Inv g env ρ h F M){x:Str}{v:Value}(hx:ρ.lookup x=some (.val (.obj v))):VarAt h env x v:=by
 refine xA (I.ents x _ hx) fun Y Y9=>?_;refine xEA Y fun u va r=>?_
 rw[Rv.obj_iff.mp r]at va;exact va
theorem setR_self{ρ:Rho}{x:Str}{e:Ent}:(setR ρ x e).lookup x=some e:=by rw[setR_lookup,if_pos rfl]
theorem seg_loop{g:Gnd}{A:Around}{fs:List Frame}{P:End→Shared→Prop}{n m:Nat}{env:Env}{F:Addr→Prop}{bk:Str→Bool}{x:Str}{tp px pi p1 p2 p3:Pos}{itr ld t0:Addr}{es:List Addr}{v:Value}{h0:Heap}{s0:Shared}
  (hbk:Bindable env bk) (hx:bk x=true) (hdb:(x==br "__debug__")=false) (hi:interactive env=false) (hm:∀a,OwnOf env a→g.h₀.get? a=none)
  (Ff:Fine n fs) (ok:AOk (m+n+3) A) (hl:h0.IsList ld ((t0::es).map Value.ref).toArray) (h1:∀e∈es,h0.IsList e #[]) (h2:h0.IsList t0 #[v]) (hn0:h0.get? itr=none)
  (no:∀a,a=ld∨a=t0∨a∈es→¬OwnOf env a) (nit:¬OwnOf env itr) (hF:F itr) (hg0:g.h₀.get? itr=none)
  (HP:∀p lv k it h' t' fs2,Mod (OwnOf env) h0 h'→h'.IsListIter it t0 1→h0.get? it=none→it≠itr→h'.IsRevIter itr ld (-1)→fs2.any Frame.guarded=false→
   WaitAt g (.forLoop (.Name x tp) (.ref itr) [.If (.Name x pi) [.Expr (.YieldFrom (.Name x px) p1) p2] [] p3] [] env) (forK (.Name x tp) (.ref itr) [.If (.Name x pi) [.Expr (.YieldFrom (.Name x px) p1) p2] [] p3] [] env) fs it t0 v k fs2 n→
   P (.susp v false lv k (.builtin "proto.yield_from" ⟨[.ref it, .bool false, .none],[]⟩) p fs2) {s0 with heap:=h',toks:=t'}):
  ∀(i:Nat),i≤es.length→∀(ρ:Rho) (h:Heap) (t:Nat),Inv g env ρ h F (OwnOf env)→Mod (OwnOf env) h0 h→h.IsRevIter itr ld i→
   SegX (model g.prog g.w) A (.forLoop (.Name x tp) (.ref itr) [.If (.Name x pi) [.Expr (.YieldFrom (.Name x px) p1) p2] [] p3] [] env)
    (denote table (.forLoop (.Name x tp) (.ref itr) [.If (.Name x pi) [.Expr (.YieldFrom (.Name x px) p1) p2] [] p3] [] env)) fs {s0 with heap:=h,toks:=t} P:=by
 have IsL:∀{h h':Heap} {a:Addr} {xs:Array Value},h.IsList a xs→¬OwnOf env a→Mod (OwnOf env) h h'→h'.IsList a xs:=fun Y na hM=>xEA Y fun o ho r=>⟨o,hM _ o ho na,r⟩
 have hne:∀a o,h0.get? a=some o→a≠itr:=fun a o ho q=>by rw[q,hn0]at ho;cases ho
 intro i
 induction i with
 |zero=>
  intro hle ρ h t I hM hit
  refine seg_for ?_
  refine wpAny_pyNext_rev_item (s:= {s0 with heap:=h,toks:=t}) (i:=0) hit (IsL hl (no _ (.inl rfl)) hM) (x:= .ref t0) rfl fun h' hit' hs'=>?_
  have I1:Inv g env ρ h' F (OwnOf env):=I.other hs'.extBut hF nit hg0 (xEA hit' fun o ho Y=>⟨o,ho⟩)
  have M1:Mod (OwnOf env) h0 h':=fun a o ho na=>hs'.extBut a o (hne a o ho) (hM a o ho na)
  refine ac (ah ?_)
  refine wpAny_assign_Name (store_own (s:= {s0 with heap:=h',toks:=t}) I1 hbk hx (fun a q=>hm a q.of) (p:= .obj (.ref t0)) (Rv.obj_iff.mpr rfl) fun h'' t' m' I2=>fun H=>?_)
  have M2:Mod (OwnOf env) h0 h'':=M1.trans (m'.mono fun a q=>q.of)
  have hit2:h''.IsRevIter itr ld (-1):=hit'.at fun o ho=>m' itr o ho fun q=>nit q.of
  have L2:h''.IsList t0 #[v]:=IsL h2 (no _ (.inr (.inl rfl))) M2
  rw[execs_cons_wrap,exec_If]
  refine sx_bindN (aw ?_)
  refine sx_bindN (wpAny_isTrue_value (wpAny_Name ((I2.varO setR_self).load I2.kind (wpAny_truthy_list L2 (by show((1:Nat):Int)<2^63;decide) ?_)) hdb))
  rw[if_pos (show(!(#[v]:Array Value).isEmpty)=true from rfl)]
  refine seg_yf_stmt (s:= {s0 with heap:=h'',toks:=_}) (n:=n) (m:=m+1) I2.kind (I2.varO setR_self) hdb hi L2 Ff (wt_for ..) (ok.le (by lia)) fun p lv k it h3 fs2 a1 a2 a3 a4 a5=>?_
  refine HP p lv k it h3 _ fs2 (fun a o ho na=>a2 _ _ (M2 a o ho na)) a1 ?_ ?_ ?_ a4 ?_
  ·cases e:h0.get? it with
   |none=>rfl
   |some o=>
    have:¬OwnOf env it∨OwnOf env it:=Classical.em _|>.symm
    refine Or.elim this (fun na=>?_) fun na=>?_
    ·have:=M2 it o e na;simp only at a3;rw[a3]at this;exact nn this
    ·have:=(I2.fl it (I2.sub it na));refine xE this fun o' ho'=>?_;simp only at a3;rw[a3]at ho';exact nn ho'
  ·rintro rfl
   refine xEA hit2 fun o' ho' Y=>?_;simp only at a3;rw[a3]at ho';exact nn ho'
  ·exact hit2.at fun o ho=>a2 _ _ ho
  ·intro A' s2 P2 m' ok' b1 b2 b3
   exact a5 A' s2 P2 m' ok' b1 b2 b3
 |succ i ih=>
  intro hle ρ h t I hM hit
  refine seg_for ?_
  have hitem:((t0::es).map Value.ref).toArray[i+1]?=some (.ref (es[i]'(by lia))):=by simp[List.getElem?_eq_getElem (show i<es.length by lia)]
  refine wpAny_pyNext_rev_item (s:= {s0 with heap:=h,toks:=t}) (i:=i+1) hit (IsL hl (no _ (.inl rfl)) hM) hitem fun h' hit' hs'=>?_
  have he:es[i]'(by lia)∈es:=List.getElem_mem _
  generalize es[i]'(by lia)=e at he
  have I1:Inv g env ρ h' F (OwnOf env):=I.other hs'.extBut hF nit hg0 (xEA hit' fun o ho Y=>⟨o,ho⟩)
  have M1:Mod (OwnOf env) h0 h':=fun a o ho na=>hs'.extBut a o (hne a o ho) (hM a o ho na)
  refine ac (ah ?_)
  refine wpAny_assign_Name (store_own (s:= {s0 with heap:=h',toks:=t}) I1 hbk hx (fun a q=>hm a q.of) (p:= .obj (.ref e)) (Rv.obj_iff.mpr rfl) fun h'' t' m' I2=>fun H=>?_)
  have M2:Mod (OwnOf env) h0 h'':=M1.trans (m'.mono fun a q=>q.of)
  have hit2:h''.IsRevIter itr ld i:=by
   have z:h''.IsRevIter itr ld (((i+1:Nat):Int)-1):=hit'.at fun o ho=>m' itr o ho fun q=>nit q.of
   rwa [show((i+1:Nat):Int)-1=i by lia]at z
  have L2:h''.IsList e #[]:=IsL (h1 e he) (no _ (.inr (.inr he))) M2
  refine sx_cmdN (af (wpAny_If (wpAny_isTrue_value (wpAny_Name ((I2.varO setR_self).load I2.kind (wpAny_truthy_list L2 (by decide) ?_)) hdb))))
  refine pn (show¬((!(#[]:Array Value).isEmpty)=true) by decide) ?_
  refine ag (ag ?_)
  exact s_again _ _ _ _ _ _ _ _ rfl (ih (by lia) _ h'' _ I2 M2 hit2)
end
section
open PySem.W.X
def Ends(g:Gnd)(gs:GenState)(it itr ld t0:Addr)(v:Value):Prop:=
 ∃k l c p fs cl,gs= .suspended k l c p fs cl∧gs.bare=true∧∀A (s:Shared) (P:End→Shared→Prop),AOk 4 A→s.heap.IsListIter it t0 1→s.heap.IsList t0 #[v]→s.heap.IsRevIter itr ld (-1)→it≠itr→
  (∀h',(∀a o,s.heap.get? a=some o→a≠it→a≠itr→h'.get? a=some o)→P (.ret (.ok (.ret .none))) {s with heap:=h'})→SegX (model g.prog g.w) A c (k (.send .none)) fs s P
theorem gen_first{g:Gnd}{A:Around}{P:End→Shared→Prop}{env:Env}{F:Addr→Prop}{ρ:Rho}{bk:Str→Bool}{x r y:Str}{tp px pi p1 p2 p3 pr py pc pf:Pos}{ld t0:Addr}{es:List Addr}{v:Value}{s:Shared}
  (hbk:Bindable env bk) (hx:bk x=true) (hdb:(x==br "__debug__")=false) (hdr:(r==br "__debug__")=false) (hdy:(y==br "__debug__")=false) (hi:interactive env=false) (hm:∀a,OwnOf env a→g.h₀.get? a=none)
  (ok:AOk 8 A) (I:Inv g env ρ s.heap F (OwnOf env)) (hr:ρ.lookup r=some (.val (.obj (.type "reversed")))) (hy:ρ.lookup y=some (.val (.obj (.ref ld))))
  (hl:s.heap.IsList ld ((t0::es).map Value.ref).toArray) (h1:∀e∈es,s.heap.IsList e #[]) (h2:s.heap.IsList t0 #[v])
  (no:∀a,a=ld∨a=t0∨a∈es→¬OwnOf env a)
  (HP:∀p lv k c h' t' fs2 it itr,Mod (OwnOf env) s.heap h'→h'.IsListIter it t0 1→s.heap.get? it=none→s.heap.get? itr=none→it≠itr→h'.IsRevIter itr ld (-1)→
   Ends g (.suspended k lv c p fs2 false) it itr ld t0 v→fs2.any Frame.guarded=false→P (.susp v false lv k c p fs2) {s with heap:=h',toks:=t'}):
  SegX (model g.prog g.w) A (.func [.For (.Name x tp) (.Call (.Name r pr) [.Name y py] [] pc) [.If (.Name x pi) [.Expr (.YieldFrom (.Name x px) p1) p2] [] p3] [] pf] env)
   (denote table (.func [.For (.Name x tp) (.Call (.Name r pr) [.Name y py] [] pc) [.If (.Name x pi) [.Expr (.YieldFrom (.Name x px) p1) p2] [] p3] [] pf] env)) [] s P:=by
 show SegX _ _ _ (point>>=fun Y=>(execs _ env).onRaise (leaving env)>>=_) _ _ _
 refine sx_bind0 (wpAny_point ?_)
 rw[Sem.bind_eq_wrap',Sem.onRaise_eq_wrap,Sem.wrap_wrap,execs_cons_wrap,exec_For]
 refine sx_bindN (aw ?_)
 refine sx_bindN (ar (wpAny_Name ((I.varO hr).load I.kind ?_) hdr))
 rw[starEach_plain (by rfl)]
 refine PySem.callWith_type1 (wpAny_Name ((I.varO hy).load I.kind ?_) hdy)
 refine call_reversed_list hl ?_
 rw[show(((t0::es).map Value.ref).toArray.size:Int)-1=((es.length:Nat):Int) by simp]
 have hn0:s.heap.get? s.heap.objs.size=none:=get?_size _
 have X0:Ext s.heap (s.heap.push (revObj ld ((es.length:Nat):Int))):=Ext.push _ _
 have hit0:(s.heap.push (revObj ld ((es.length:Nat):Int))).IsRevIter s.heap.objs.size ld (es.length:Nat):=⟨_,bc _ rfl,rfl,rfl⟩
 have hg0:g.h₀.get? s.heap.objs.size=none:=by
  cases e:g.h₀.get? s.heap.objs.size with
  |none=>rfl
  |some o=>rw[I.base _ _ e]at hn0;cases hn0
 have nit:¬OwnOf env s.heap.objs.size:=fun q=>by
  refine xE (I.fl _ (I.sub _ q)) fun o ho=>?_;rw[hn0]at ho;cases ho
 have I1:Inv g env ρ (s.heap.push (revObj ld ((es.length:Nat):Int))) (fun a=>F a∨a=s.heap.objs.size) (OwnOf env):=
  I.grow X0 (fun a q=> .inl q) (fun a o ho nf q=>q.elim nf fun q=>by rw[q,hn0]at ho;exact nn ho) (fun a q=>q.elim (fun q=>(I.fl.ext X0) a q) fun q=>⟨_,q▸bc _ rfl⟩) (fun Y q=>q) fun a q=> .inl (I.sub a q)
 refine sx_bindN (wpAny_of_eq (a:= .ref s.heap.objs.size) rfl ?_)
 refine sx_bindN (aw ?_)
 refine sx_bindN (ak (wpAny_pyIter_revIter hit0 ?_))
 unfold runOwn
 refine sx_onRaiseW ?_
 show SegX _ _ _ (.call (.forLoop _ _ _ _ _) none false [] _) _ _ _
 refine s_call _ _ _ _ _ _ _ _ _ _ _ _ fun p0=>?_
 refine seg_loop (s0:=s) (n:=1) (m:=4) hbk hx hdb hi hm (Fine.nil.cons (wt_func ..).1 (wt_func ..).2) ok hl h1 h2 hn0 no nit (.inr rfl) hg0 ?_ es.length (Nat.le_refl _) ρ _ _ I1 (X0.mod _) hit0
 intro p lv k it h' t' fs2 a1 a2 a3 a4 a5 a6 a7
 refine HP p lv k _ h' t' fs2 it s.heap.objs.size a1 a2 a3 hn0 a4 a5 ⟨k,lv,_,p,fs2,false,rfl,rfl,fun A' s2 P2 ok' b1 b2 b3 b4 H2=>?_⟩ a6
 refine a7 A' s2 P2 1 ok' b1 b2 fun h3 hx3=>?_
 refine s_again _ _ _ _ _ _ _ _ rfl (seg_for (wpAny_pyNext_rev_end ?_ (b3.at fun o ho=>hx3 _ _ (Ne.symm b4) ho) fun h4 hx4=>?_))
 ·show(marksOver _ (A'.handled,A'.handled)).1=none
  rw[ok'.handled];rfl
 ·refine s_pop _ _ _ _ _ _ _ (.ok .next) _ rfl _ _ _ _ _ _ _ ?_
  refine s_end _ _ _ _ _ _ (.ok (.ret .none)) _ rfl (H2 h4 fun a o ho n1 n2=>hx4 _ _ n2 (hx3 _ _ n1 ho))
end
set_option genInjectivity false in
structure WA where
 wr:Addr
 wd:Addr
 bm:Addr
 lp:Addr
 lda:Addr
 ld:Addr
 t0:Addr
 tp:Addr
 ln:Addr
 lps:Addr
 pm:Addr
 sl:Array (Option Value)
set_option genInjectivity false in
structure WD where
 ps:List (List Nat)
 es:List Addr
 ns:List Value
 lv:Nat
 seen:Bool
 done:Bool
noncomputable def wlist(W:WA)(D:WD)(ig:Tok):List (Str×Value):=[("_ignored_depth", .int 0 ig),("_root_done", .bool D.done),("_root_seen", .bool D.seen),("_pending_start", .none),("_preserve_space", .ref W.lps),("_prefix_map", .ref W.pm),("_ns_stack", .ref W.ln),("_declared_ns_stack", .ref W.ld),
 ("_find_qname_aware_attrs", .none),("_qname_aware_tags", .none),("_rewrite_prefixes", .bool false),("_exclude_tags", .none),("_exclude_attrs", .none),("_strip_text", .bool false),("_with_comments", .bool true),("_data", .ref W.lda),("_write", .ref W.bm)]
noncomputable def wmap(W:WA)(D:WD)(ig:Tok)(x:Str):Option Value:=(wlist W D ig).lookup x
def WM(W:WA)(a:Addr):Prop:=a=W.wd∨a=W.lp∨a=W.ld∨a=W.ln∨a=W.lps∨a=211
theorem wm6{W:WA}{a:Addr}{P:Addr→Prop}(h:WM W a)(h1:P W.wd)(h2:P W.lp)(h3:P W.ld)(h4:P W.ln)(h5:P W.lps)(h6:P 211):P a:=
 match h with
 | .inl q=>q▸h1
 | .inr (.inl q)=>q▸h2
 | .inr (.inr (.inl q))=>q▸h3
 | .inr (.inr (.inr (.inl q)))=>q▸h4
 | .inr (.inr (.inr (.inr (.inl q))))=>q▸h5
 | .inr (.inr (.inr (.inr (.inr q))))=>q▸h6
theorem or5{α:Type}{a b c d e x:α}{P:α→Prop}(h:x=a∨x=b∨x=c∨x=d∨x=e)(h1:P a)(h2:P b)(h3:P c)(h4:P d)(h5:P e):P x:=
 match h with
 | .inl q=>q▸h1
 | .inr (.inl q)=>q▸h2
 | .inr (.inr (.inl q))=>q▸h3
 | .inr (.inr (.inr (.inl q)))=>q▸h4
 | .inr (.inr (.inr (.inr q)))=>q▸h5
theorem sepN{α:Type}{l:List α}(h:l.Nodup)(i j:Nat){a b:α}(hi:l[i]?=some a)(hj:l[j]?=some b)(n:(i==j)=false):a≠b:=fun e=>
 ne_of_beq_false n ((List.getElem?_inj (List.getElem?_eq_some_iff.mp hi).1 h).mp (by rw[hi,hj,e]))
def WR(W:WA)(a:Addr):Prop:=a=W.wr∨a=W.bm∨a=W.lda∨a=W.t0∨a=W.tp
noncomputable def lamPos:Pos:=⟨246,71,246,96⟩
noncomputable def lamQual:Str:= "C14NWriterTarget._start.<locals>.<lambda>"
def WC(h:Heap)(a:Addr):Prop:=∃ps,h.get? 211=some (tabObj ps)∧codeAmong lamPos ps.toList=some (.ref a)
def WAll(h:Heap)(W:WA)(D:WD)(a:Addr):Prop:=WM W a∨WR W a∨a∈D.es∨WC h a
structure WSt(g:Gnd)(h:Heap)(W:WA)(D:WD):Prop where
 inst:h.get? W.wr=some ⟨.ref 238,some W.wd, .plain,W.sl⟩
 dict:∃ig,IDict h W.wd (wmap W D ig) 30
 bm:h.get? W.bm=some ⟨.type "builtin_function_or_method",none, .fields #[.builtin "list.append", .ref W.lp], #[]⟩
 lp:∃vs,h.PlainList W.lp vs∧Rvs g.prog g.w h (fun Y=>False) (D.ps.map PV.str) vs.toList
 lda:h.PlainList W.lda #[]
 ld:h.PlainList W.ld ((W.t0::D.es).map Value.ref).toArray
 t0:h.PlainList W.t0 #[.ref W.tp]
 tp:∃t t',h.IsTuple W.tp #[.str "http://www.w3.org/XML/1998/namespace" t, .str "xml" t']
 es:∀e∈D.es,h.PlainList e #[]
 ln:h.PlainList W.ln D.ns.toArray
 lps:h.PlainList W.lps (List.replicate D.lv (Value.bool false)).toArray
 esb:D.es.length≤1000
 lvb:D.lv≤1000
 nsb:D.ns.length≤1000
 psb:D.ps.length≤100000
 tab:∃ps,h.get? 211=some (tabObj ps)∧TriplesOk ps.toList∧(codeAmong lamPos ps.toList=none∨∃c,codeAmong lamPos ps.toList=some (.ref c)∧h.CodeRec (.ref c) lamQual∧¬WM W c)
 wm0:∀a,WM W a→g.h₀.get? a=none
 sep:[W.wd,W.lp,W.ld,W.ln,W.lps,211,W.wr,W.bm,W.lda,W.t0,W.tp].Nodup
 sepe:∀e∈D.es,¬WM W e
theorem WSt.live{g:Gnd}{h:Heap}{W:WA}{D:WD}(x:WSt g h W D):∀a,WAll h W D a→∃o,h.get? a=some o:=by
 rintro a ((rfl|rfl|rfl|rfl|rfl|rfl)|(rfl|rfl|rfl|rfl|rfl)|q|q)
 ·refine xEEEA x.dict fun Y es n ho Y=>?_;exact⟨_,ho⟩
 ·refine xEA x.lp fun Y9 Y Y9=>?_;refine xE Y fun n ho=>?_;exact⟨_,ho⟩
 ·refine xE x.ld fun n ho=>?_;exact⟨_,ho⟩
 ·refine xE x.ln fun n ho=>?_;exact⟨_,ho⟩
 ·refine xE x.lps fun n ho=>?_;exact⟨_,ho⟩
 ·refine xEA x.tab fun ps ho Y=>?_;exact⟨_,ho⟩
 ·exact⟨_,x.inst⟩
 ·exact⟨_,x.bm⟩
 ·refine xE x.lda fun n ho=>?_;exact⟨_,ho⟩
 ·refine xE x.t0 fun n ho=>?_;exact⟨_,ho⟩
 ·refine xEEEA x.tp fun Y Y o ho Y=>?_;exact⟨o,ho⟩
 ·refine xE (x.es a q) fun n ho=>?_;exact⟨_,ho⟩
 ·refine xEA q fun ps hp hc=>?_
  refine xEAA x.tab fun ps' hp' Y hh=>?_
  rw[hp']at hp
  have:ps'=ps:=by
   have:=congrArg (fun o:Option Obj=>match o with|some ⟨_,_, .fields v,_⟩=>some v|_=>none) hp
   simpa[tabObj]using this
  subst this
  rcases hh with e|⟨c,e,⟨c',o,vs,t,e1,e2,_⟩,_⟩
  ·rw[e]at hc;exact nn hc
  ·rw[e]at hc;cases hc;cases e1;exact⟨o,e2⟩
theorem WSt.mod{g:Gnd}{h h':Heap}{W:WA}{D:WD}{Z:Addr→Prop}(x:WSt g h W D)(m:Mod Z h h')(hz:∀a,WAll h W D a→¬Z a):WSt g h' W D:=by
 have k:∀a o,WAll h W D a→h.get? a=some o→h'.get? a=some o:=fun a o q ho=>m a o ho (hz a q)
 refine⟨k _ _ (.inr (.inl (.inl rfl))) x.inst,?_,k _ _ (.inr (.inl (.inr (.inl rfl)))) x.bm,?_,x.lda.at fun o=>k _ o (.inr (.inl (.inr (.inr (.inl rfl))))),x.ld.at fun o=>k _ o (.inl (.inr (.inr (.inl rfl)))),
  x.t0.at fun o=>k _ o (.inr (.inl (.inr (.inr (.inr (.inl rfl)))))),?_,fun e he=>(x.es e he).at fun o=>k _ o (.inr (.inr (.inl he))),x.ln.at fun o=>k _ o (.inl (.inr (.inr (.inr (.inl rfl))))),
  x.lps.at fun o=>k _ o (.inl (.inr (.inr (.inr (.inr (.inl rfl)))))),x.esb,x.lvb,x.nsb,x.psb,?_,x.wm0,x.sep,x.sepe⟩
 ·refine xE x.dict fun ig d=>?_;exact⟨ig,d.at' fun o=>k _ o (.inl (.inl rfl))⟩
 ·refine xEA x.lp fun vs p r=>?_
  exact⟨vs,p.at fun o=>k _ o (.inl (.inr (.inl rfl))),Rvs.flat (by simp[flatPV]) r⟩
 ·refine xEEEA x.tp fun t t' o ho r=>?_
  exact⟨t,t',o,k _ o (.inr (.inl (.inr (.inr (.inr (.inr rfl)))))) ho,r⟩
 ·refine xEAA x.tab fun ps hp ht hh=>?_
  refine⟨ps,k _ _ (.inl (.inr (.inr (.inr (.inr (.inr rfl)))))) hp,ht,?_⟩
  rcases hh with e|⟨c,e,⟨c',o,vs,t,e1,e2,e3⟩,nm⟩
  ·exact .inl e
  ·cases e1;exact .inr ⟨c,e,⟨c,o,vs,t,rfl,k _ _ (.inr (.inr (.inr ⟨ps,hp,e⟩))) e2,e3⟩,nm⟩
theorem WSt.ext{g:Gnd}{h h':Heap}{W:WA}{D:WD}(x:WSt g h W D)(e:Ext h h'):WSt g h' W D:=x.mod (Z:=fun Y=>False) (fun a o ho Y=>e a o ho) fun Y Y q=>q
structure Ground'(g:Gnd)(mg mb:Str→Option Value):Prop extends Base g mg mb where
 K:(KW g.w.params).In g.h₀
 bi:g.h₀.BuiltinsAt mg 211
theorem WSt.turn{g:Gnd}{h h':Heap}{W:WA}{D D':WD}{z:Addr}(x:WSt g h W D)(hz:WM W z)(k:∀a o,a≠z→h.get? a=some o→h'.get? a=some o)
  (c1:(W.wd≠z∧D'.seen=D.seen∧D'.done=D.done)∨∃ig,IDict h' W.wd (wmap W D' ig) 30)
  (c2:(W.lp≠z∧D'.ps=D.ps)∨(D'.ps.length≤100000∧∃vs,h'.PlainList W.lp vs∧Rvs g.prog g.w h' (fun Y=>False) (D'.ps.map PV.str) vs.toList))
  (c3:(W.ld≠z∧D'.es=D.es)∨(D'.es.length≤1000∧h'.PlainList W.ld ((W.t0::D'.es).map Value.ref).toArray∧∀e∈D'.es,h'.PlainList e #[]∧¬WM W e))
  (c4:(W.ln≠z∧D'.ns=D.ns)∨(D'.ns.length≤1000∧h'.PlainList W.ln D'.ns.toArray))
  (c5:(W.lps≠z∧D'.lv=D.lv)∨(D'.lv≤1000∧h'.PlainList W.lps (List.replicate D'.lv (Value.bool false)).toArray))
  (c6:211≠z∨∃ps,h'.get? 211=some (tabObj ps)∧TriplesOk ps.toList∧(codeAmong lamPos ps.toList=none∨∃c,codeAmong lamPos ps.toList=some (.ref c)∧h'.CodeRec (.ref c) lamQual∧¬WM W c)):WSt g h' W D':=by
 have nz:∀a,¬WM W a→a≠z:=fun a q e=>q (e▸hz)
 have nw:∀a,a=W.wr∨a=W.bm∨a=W.lda∨a=W.t0∨a=W.tp→¬WM W a:=fun a q r=>by
  refine wm6 (P:=fun b=>a≠b) r ?_ ?_ ?_ ?_ ?_ ?_ rfl
  ·exact or5 (P:=fun b=>b≠W.wd) q (sepN x.sep 6 0 rfl rfl rfl) (sepN x.sep 7 0 rfl rfl rfl) (sepN x.sep 8 0 rfl rfl rfl) (sepN x.sep 9 0 rfl rfl rfl) (sepN x.sep 10 0 rfl rfl rfl)
  ·exact or5 (P:=fun b=>b≠W.lp) q (sepN x.sep 6 1 rfl rfl rfl) (sepN x.sep 7 1 rfl rfl rfl) (sepN x.sep 8 1 rfl rfl rfl) (sepN x.sep 9 1 rfl rfl rfl) (sepN x.sep 10 1 rfl rfl rfl)
  ·exact or5 (P:=fun b=>b≠W.ld) q (sepN x.sep 6 2 rfl rfl rfl) (sepN x.sep 7 2 rfl rfl rfl) (sepN x.sep 8 2 rfl rfl rfl) (sepN x.sep 9 2 rfl rfl rfl) (sepN x.sep 10 2 rfl rfl rfl)
  ·exact or5 (P:=fun b=>b≠W.ln) q (sepN x.sep 6 3 rfl rfl rfl) (sepN x.sep 7 3 rfl rfl rfl) (sepN x.sep 8 3 rfl rfl rfl) (sepN x.sep 9 3 rfl rfl rfl) (sepN x.sep 10 3 rfl rfl rfl)
  ·exact or5 (P:=fun b=>b≠W.lps) q (sepN x.sep 6 4 rfl rfl rfl) (sepN x.sep 7 4 rfl rfl rfl) (sepN x.sep 8 4 rfl rfl rfl) (sepN x.sep 9 4 rfl rfl rfl) (sepN x.sep 10 4 rfl rfl rfl)
  ·exact or5 (P:=fun b=>b≠211) q (sepN x.sep 6 5 rfl rfl rfl) (sepN x.sep 7 5 rfl rfl rfl) (sepN x.sep 8 5 rfl rfl rfl) (sepN x.sep 9 5 rfl rfl rfl) (sepN x.sep 10 5 rfl rfl rfl)
 refine⟨k _ _ (nz _ (nw _ (.inl rfl))) x.inst,?_,k _ _ (nz _ (nw _ (.inr (.inl rfl)))) x.bm,?_,x.lda.at fun o=>k _ o (nz _ (nw _ (.inr (.inr (.inl rfl))))),?_,x.t0.at fun o=>k _ o (nz _ (nw _ (.inr (.inr (.inr (.inl rfl)))))),?_,?_,?_,?_,?_,?_,?_,?_,?_,x.wm0,x.sep,?_⟩
 ·refine Or.elim c1 (fun Y=>xAA Y fun n a b=>?_) fun q=>?_
  ·refine xE x.dict fun ig d=>?_
   have:wmap W D' ig=wmap W D ig:=by unfold wmap wlist;rw[a,b]
   exact⟨ig,this▸d.at' fun o=>k _ o n⟩
  ·exact q
 ·refine Or.elim c2 (fun Y=>xA Y fun n a=>?_) fun Y=>xA Y fun Y q=>?_
  ·refine xEA x.lp fun vs p r=>?_
   exact⟨vs,p.at fun o=>k _ o n,a▸Rvs.flat (by simp[flatPV]) r⟩
  ·exact q
 ·refine Or.elim c3 (fun Y=>xA Y fun n a=>?_) fun Y=>xAA Y fun Y q Y=>?_
  ·exact a▸x.ld.at fun o=>k _ o n
  ·exact q
 ·refine xEEEA x.tp fun t t' o ho r=>?_
  exact⟨t,t',o,k _ _ (nz _ (nw _ (.inr (.inr (.inr (.inr rfl)))))) ho,r⟩
 ·refine Or.elim c3 (fun Y=>xA Y fun Y a=>?_) fun Y=>xAA Y fun Y Y q=>?_
  ·rw[a];exact fun e he=>(x.es e he).at fun o=>k _ o (nz _ (x.sepe e he))
  ·exact fun e he=>(q e he).1
 ·refine Or.elim c4 (fun Y=>xA Y fun n a=>?_) fun Y=>xA Y fun Y q=>?_
  ·exact a▸x.ln.at fun o=>k _ o n
  ·exact q
 ·refine Or.elim c5 (fun Y=>xA Y fun n a=>?_) fun Y=>xA Y fun Y q=>?_
  ·exact a▸x.lps.at fun o=>k _ o n
  ·exact q
 ·refine Or.elim c3 (fun Y=>xA Y fun Y a=>?_) fun Y=>xA Y fun q Y=>?_
  ·rw[a];exact x.esb
  ·exact q
 ·refine Or.elim c5 (fun Y=>xA Y fun Y a=>?_) fun Y=>xA Y fun q Y=>?_
  ·rw[a];exact x.lvb
  ·exact q
 ·refine Or.elim c4 (fun Y=>xA Y fun Y a=>?_) fun Y=>xA Y fun q Y=>?_
  ·rw[a];exact x.nsb
  ·exact q
 ·refine Or.elim c2 (fun Y=>xA Y fun Y a=>?_) fun Y=>xA Y fun q Y=>?_
  ·rw[a];exact x.psb
  ·exact q
 ·refine Or.elim c6 (fun n=>?_) fun q=>?_
  ·refine xEAA x.tab fun ps hp ht hh=>?_
   refine⟨ps,k _ _ n hp,ht,?_⟩
   rcases hh with e|⟨c,e,⟨c',o,vs,t,e1,e2,e3⟩,nm⟩
   ·exact .inl e
   ·cases e1;exact .inr ⟨c,e,⟨c,o,vs,t,rfl,k _ _ (nz _ nm) e2,e3⟩,nm⟩
  ·exact q
 ·refine Or.elim c3 (fun Y=>xA Y fun Y a=>?_) fun Y=>xAA Y fun Y Y q=>?_
  ·rw[a];exact x.sepe
  ·exact fun e he=>(q e he).2
theorem WSt.getA{g:Gnd}{mg mb:Str→Option Value}(B:Ground' g mg mb){A:Around}{E:Value→Shared→Prop}{s:Shared}{W:WA}{D:WD}(x:WSt g s.heap W D)(base:Ext g.h₀ s.heap){name:Str}{expr:Bool}{v:Value}{Q:Value→Shared→Prop}
  (hw:name∈wattrs) (hm:∀ig,wmap W D ig name=some v) (hv:handedIn v=true) (H:Q v {s with toks:=s.toks+1}):wpAny (model g.prog g.w) A (getAttr (.ref W.wr) name expr) Q E s:=by
 refine xE x.dict fun ig d=>?_
 exact Mine.Internal.getA (K:=KW g.w.params) (B.K.keeps base) x.inst d (pg _ _) (has_dict _) (no_attr _ _ hw) rfl (hm ig) hv H
theorem WSt.getM{g:Gnd}{mg mb:Str→Option Value}(B:Ground' g mg mb){A:Around}{E:Value→Shared→Prop}{s:Shared}{W:WA}{D:WD}(x:WSt g s.heap W D)(base:Ext g.h₀ s.heap){name:Str}{pl:Sem Bool}{f:Addr}{Q:Value×List Value→Shared→Prop}
  (hf:findIn (KW g.w.params) (.ref 238) name=some (some (.ref f))) (hfn:f∈[155,163,178,194,208,214,221,228,249,263]) (hm:∀ig,wmap W D ig name=none) (H:Q (.ref f,[.ref W.wr]) s):wpAny (model g.prog g.w) A (getMethod (.ref W.wr) name pl) Q E s:=by
 refine xE x.dict fun ig d=>?_
 exact Mine.Internal.getM (K:=KW g.w.params) (B.K.keeps base) x.inst d (pg _ _) hf (is_fn _ f hfn) (hm ig) H
section
section
variable{g:Gnd}{env:Env}{ρ:Rho}{F M:Addr→Prop}{A:Around}{E:Value→Shared→Prop}{s:Shared}{x:Str}{px:Pos}{Q:Value→Shared→Prop}
theorem nmP(I:Inv g env ρ s.heap F M){p:PV}(hx:ρ.lookup x=some (.val p))(H:∀v,Rv g.prog g.w s.heap F p v→Q v s):wpAny (model g.prog g.w) A (eval (.Name x px) env) Q E s:=by
 refine xA (I.ents x _ hx) fun Y hd=>?_;refine xEA Y fun v va r=>?_
 exact wpAny_Name (va.load I.kind (H v r)) hd
theorem nmO(I:Inv g env ρ s.heap F M){v:Value}(hx:ρ.lookup x=some (.val (.obj v)))(H:Q v s):wpAny (model g.prog g.w) A (eval (.Name x px) env) Q E s:=
 nmP I hx fun u r=>by rw[Rv.obj_iff.mp r];exact H
theorem nmN(I:Inv g env ρ s.heap F M)(hx:ρ.lookup x=some (.val .none))(H:Q .none s):wpAny (model g.prog g.w) A (eval (.Name x px) env) Q E s:=
 nmP I hx fun u r=>by rw[Rv.none_iff.mp r];exact H
theorem nmS(I:Inv g env ρ s.heap F M){y:List Nat}(hx:ρ.lookup x=some (.val (.str y)))(H:∀t,Q (.str (sv y) t) s):wpAny (model g.prog g.w) A (eval (.Name x px) env) Q E s:=
 nmP I hx fun u r=>by refine xE (Rv.str_iff.mp r) fun t Y=>?_;subst Y;exact H t
theorem nmB{mg mb:Str→Option Value}(B:Base g mg mb)(I:Inv g env ρ s.heap F M)(hg:env.globals=mainNs)(hb:env.builtins=builtinsNs)(hk:env.kindOf x=some .globalImplicit)(hd:(x==br "__debug__")=false)
  {v:Value} (e1:mg x=none) (e2:mb x=some v) (H:Q v s):wpAny (model g.prog g.w) A (eval (.Name x px) env) Q E s:=
 I.look_builtin hk hd (hg▸B.ng.at' fun o e=>I.base _ _ e) e1 (hb▸B.nb.at' fun o e=>I.base _ _ e) e2 H
theorem nmG{mg mb:Str→Option Value}(B:Base g mg mb)(I:Inv g env ρ s.heap F M)(hg:env.globals=mainNs)(hk:env.kindOf x=some .globalImplicit)(hd:(x==br "__debug__")=false)
  {v:Value} (e1:mg x=some v) (H:Q v s):wpAny (model g.prog g.w) A (eval (.Name x px) env) Q E s:=
 I.look_global hk hd (hg▸B.ng.at' fun o e=>I.base _ _ e) e1 H
end
theorem Inv.pushF{g:Gnd}{env:Env}{ρ:Rho}{h:Heap}{F M:Addr→Prop}(I:Inv g env ρ h F M)(o:Obj)(hf:o.isFreed=false):Inv g env ρ (h.push o) (fun a=>F a∨a=h.objs.size) M:=
 I.grow (Ext.push _ _) (fun a q=> .inl q) (fun a o ho nf q=>q.elim nf fun q=>by rw[q,get?_size]at ho;exact nn ho) (fun a q=>q.elim (fun q=>(I.fl.ext (Ext.push _ _)) a q) fun q=>⟨_,q▸bc _ hf⟩) (fun Y q=>q) fun a q=> .inl (I.sub a q)
theorem Inv.new0{g:Gnd}{env:Env}{ρ:Rho}{h:Heap}{F M:Addr→Prop}(I:Inv g env ρ h F M):g.h₀.get? h.objs.size=none:=by
 cases e:g.h₀.get? h.objs.size with
 |none=>rfl
 |some o=>have:=I.base _ _ e;rw[get?_size]at this;cases this
theorem Inv.newM{g:Gnd}{env:Env}{ρ:Rho}{h:Heap}{F M:Addr→Prop}(I:Inv g env ρ h F M):¬M h.objs.size:=fun q=>by
 refine xE (I.fl _ (I.sub _ q)) fun o ho=>?_;rw[get?_size]at ho;cases ho
section
variable{M:Model}{A:Around}{E:Value→Shared→Prop}{s:Shared}{env:Env}{pos:Pos}
theorem spl0{Q:List Value→Shared→Prop}(h:Q [] s):wpAny M A (spliced (backTo pos (starEach [] env))) Q E s:=ah h
theorem splC{e:Expr}{es:List Expr}{Q:List Value→Shared→Prop}(he:plainArg e=true)(h:wpAny M A (eval e env) (fun v s'=>wpAny M A (spliced (backTo pos (starEach es env))) (fun vs s''=>Q (v::vs) s'') E s') E s):
  wpAny M A (spliced (backTo pos (starEach (e::es) env))) Q E s:=by
 rw[starEach_plain he]
 show wpAny M A (eval e env>>=fun v=>(pure [v]:Sem (List Value))>>=fun here=>holding here (spliced (backTo pos (starEach es env)))>>=fun r=>pure (here++r)) Q E s
 refine ac (aj h (fun v s' z=>?_) fun Y Y z=>z)
 exact ac (ah (ac (ak (aj z (fun vs s'' q=>ah q) fun Y Y q=>q))))
end
theorem keep_fn(P:Params):∀f∈[155,163,178,194,208,214,221,228,249,263],keepIn (KW P) (.ref f)=true:=by
 simp only[List.forall_mem_cons,cj,false_imp_iff,implies_true,and_true]
 refine⟨?_,?_,?_,?_,?_,?_,?_,?_,?_,?_⟩<;>kernel_rfl
theorem callWith_fn{g:Gnd}{mg mb:Str→Option Value}(B:Ground' g mg mb){A:Around}{E:Value→Shared→Prop}{s:Shared}{env:Env}{pos:Pos}{f:Addr}{first:List Value}{e:Expr}{rest:List Expr}{Q:Value→Shared→Prop}(base:Ext g.h₀ s.heap)
  (hf:f∈[155,163,178,194,208,214,221,228,249,263]) (h:wpAny (model g.prog g.w) A (spliced (backTo pos (starEach (e::rest) env))) (fun vs s₁=>Ext g.h₀ s₁.heap∧wpAny (model g.prog g.w) A (call (.ref f) (first++vs)) Q E s₁) E s)
  (he:starEach (e::rest) env=(false,eval e env)::starEach rest env:=by rfl) (hpl:(backTo pos (starEach rest env)).any (·.1)=false:=by rfl):
  wpAny (model g.prog g.w) A (callWith pos (.ref f) first (backTo pos (starEach (e::rest) env)) []) Q E s:=by
 refine callWith_K (K:=KW g.w.params) (B.K.keeps base) (keep_fn _ f hf) ?_ he hpl
 exact aj h (fun vs s₁ Y=>xA Y fun b z=>⟨B.K.keeps b,z⟩) fun Y Y z=>z
end
noncomputable def KRd(P:Params):Frag:=[(60,ob60 P),(70,ob70 P),(69,ob69 P),(71,ob71 P),(116,ob116 P),(115,ob115 P),(117,ob117 P),(126,ob126 P),(125,ob125 P),(268,ob268 P),(267,ob267 P),(275,ob275 P),(274,ob274 P),(45,ob45 P),(44,ob44 P),(52,ob52 P),(51,ob51 P)]
structure GroundR(g:Gnd)(mg mb:Str→Option Value):Prop extends Base g mg mb where
 R:(KRd g.w.params).In g.h₀
noncomputable def b1L:List (Nat×Nat):=[(65024,343),(65025,344),(65026,345),(65027,346),(65028,347),(65029,348),(6150,329),(65030,349),(65031,350),(65032,351),(65033,352),(6155,330),(6156,331),(6157,332),(8203,333),(8204,334),(8205,335),(65034,353),(65035,354),(65036,355),(65037,356),(65038,357),(65039,358),(173,327),(847,328),(8288,336),(65279,337)]
noncomputable def b1S(k:Int):Bool:=b1L.any fun q=>(q.1:Int)==k
theorem b1_set{g:Gnd}{mg mb:Str→Option Value}(B:GroundR g mg mb){h:Heap}(base:Ext g.h₀ h):h.SetOf (intKind g.prog g.w) 60 b1S 27:=by
 have hb:∀q∈b1L,hashInt (q.1:Int)=(q.1:Int):=by decide+kernel
 refine⟨ob60 g.w.params,(b1L.map fun q=>((q.1:Int),vi q.1 q.2)).toArray,29,_,base _ _ (B.R 60 _ rfl),⟨rfl,rfl,rfl⟩,rfl,?_,?_,by decide,rfl,rfl⟩
 ·intro e he
  rw[List.mem_map]at he
  refine xEA he fun q hq Y=>?_;clear he;subst Y
  exact⟨⟨(q.1:Int),by simp[PySem.intKind,Value.isInt,vi],(hb q hq).symm⟩,rfl⟩
 ·intro k
  unfold b1S
  rw[List.any_eq_true]
  constructor
  ·rintro ⟨q,hq,e⟩
   exact⟨_,List.mem_map.mpr ⟨q,hq,rfl⟩,by rw[beq_iff_eq]at e;simp[PySem.intKind,Value.isInt,vi,e]⟩
  ·rintro ⟨e,he,hk⟩
   rw[List.mem_map]at he
   refine xEA he fun q hq Y=>?_;clear he;subst Y
   exact⟨q,hq,by simpa[PySem.intKind,Value.isInt,vi]using hk⟩
noncomputable def fnB1:FuncData:=fd (dT 10) (z "in_table_b1") 3 .none .none (vs "cpy313.stringprep" 325) (.ref 69) 0
theorem fnB1_at{g:Gnd}{mg mb:Str→Option Value}(B:GroundR g mg mb):FnAt g 70 fnB1 (dT 10).body:=by
 refine⟨⟨ob70 g.w.params,B.R _ _ rfl,rfl⟩,rfl,rfl,rfl,rfl,codeRec_of B.R (by kernel_rfl),rfl,rfl⟩
theorem lookup_one{x k:Str}{e d:Ent}(h:List.lookup x [(k,d)]=some e){G:Prop}(c:x=k→d=e→G):G:=by
 by_cases q:x=k
 ·rw[bt,beq_iff_eq.mpr q]at h;exact c q (bn h)
 ·rw[bt,beq_eq_false_iff_ne.mpr q]at h;exact nn h
noncomputable def oneS(ps:List PV):Option Nat:=o1 (o1 (sgl ps) isS) sgl
theorem oneS_eq{ps:List PV}{c:Nat}(h:oneS ps=some c):ps=[.str [c]]:=o1_inv h fun x hx hc=>o1_inv hx fun p hp hx=>by rw[sgl_eq hp,isS_eq hx,sgl_eq hc]
noncomputable def f_b1(ps:List PV):Option PV:=o1 (oneS ps) fun c=>some (.bool (b1S c))
theorem b1_ok{g:Gnd}{mg mb:Str→Option Value}(B:GroundR g mg mb)(ho1:mg "ord" =none)(ho2:mb "ord" =some (.builtin "ord"))(hb:mg "b1_set" =some (.ref 60)):Contract {g with K:=12+g.K} 70 f_b1:=by
 intro A E s F ps vs p Q ok base fl rs hp H
 refine o1_inv hp fun c hc hp=>?_
 ·obtain rfl:=bn hp
  rw[oneS_eq hc]at rs
  refine xEEAA rs fun v r Y rv Y1=>?_;clear rs;subst Y Y1
  refine wpAny_call (enter_fn (k:=11+g.K) (F:=fun Y=>False) (own:= "") (G:=[("ord", .bi .ord)]) (names:=["code"]) (ps:=[.str [c]]) (vals:=[v]) B.toBase (fnB1_at B) rfl ?hG (by kernel_rfl) (by kernel_rfl) (by kernel_rfl) (by kernel_rfl)
   (ok.le (by show 11+g.K+1≤12+g.K;lia)) base (fun Y q=>q.elim) (fun q=>q) (fun q=>q) (fun Y q=>q.elim) (BindsTo.of_eq (by rfl)) ?rs rfl fun env h t fr okd=>?_)
  case hG=>
   intro x e q
   exact lookup_one q fun hx he=>by rw[hx,←he];exact⟨ho1,ho2⟩
  case rs=>exact .cons (Rv.flat rfl rv) .nil
  have cn0:Cn env []:=fun Y q=>by cases q
  have kk:∀x,env.kindOf x=fnB1.scope.names.lookup x:=fun x=>by rw[←fr.scope];rfl
  refine af (wpAny_Return_some (wpAny_Compare1 ((sound g 6).e [] _ _ (.int c) env _ _ _ _ {s with heap:=h,toks:=t} _ ?pe (okd.lt) fr.inv cn0 fun v1 h1 t1 x1 r1=>nmG (s:= {s with heap:=h1,toks:=t1}) B.toBase (fr.inv.ext x1) fr.glob (by rw[kk];kernel_rfl) (by decide+kernel) hb ?_)))
  case pe=>rfl
  refine xE (Rv.int_iff.mp r1) fun k1 Y=>?_;subst Y
  refine wpAny_inSet_of (s:= {s with heap:=h1,toks:=t1}) (knd:=PySem.intKind g.prog g.w) (k:=(c:Int)) (by simp[PySem.intKind,Value.isInt]) rfl (b1_set B (fr.inv.ext x1).base) ?_
  exact H _ _ _ (fr.ext.trans x1) (Rv.bool_iff.mpr rfl)
theorem get1_of{prog:Program}{w:World}{K:Type}[DecidableEq K]{knd:PySem.KeyKind prog w K}{A:Around}{E:Value→Shared→Prop}{s:Shared}{env:Env}{pos:Pos}{d:Addr}{e:Expr}{Q:Value→Shared→Prop}(hd:(d==sysModules)=false)(he:starEach [e] env=[(false,eval e env)])
  (h:wpAny (model prog w) A (eval e env) (fun key s₁=>∃k f,knd.is k key=true∧s₁.heap.MapOf knd d f∧Q ((f k).getD .none) {s₁ with toks:=s₁.toks+1}) E s):
  wpAny (model prog w) A (callWith pos (.builtin "dict.get") [.ref d] (backTo pos (starEach [e] env)) []) Q E s:=by
 rw[he]
 first
  |exact wpAny_dict_get1 (knd:=knd) hd h
  |exact wpAny_dict_get1 (knd:=knd) hd (ac (aj h (fun v s₁ h₁=>ac (aw (ah h₁))) fun Y Y z=>z))
noncomputable def isIv:Int→Value→Bool:=Value.isInt
noncomputable def b3F(k:Int):Option Value:=(b3L.find? fun e=>isIv k e.key).map (·.val)
theorem b3_all:b3L.all (fun e=>match e.key with| .int k _=>e.hash==hashInt k|_=>false)=true:=by decide+kernel
set_option tactic.hygienic true in
theorem b3_map{g:Gnd}{mg mb:Str→Option Value}(B:GroundR g mg mb){h:Heap}(base:Ext g.h₀ h):h.MapOf (PySem.intKind g.prog g.w) 71 b3F:=by
 refine⟨ob71 g.w.params,b3L.toArray,650,base _ _ (B.R 71 _ rfl),⟨rfl,rfl,rfl⟩,rfl,?_,fun k=>?_⟩
 ·intro e he
  have:=bs.mp b3_all e (by simpa using he)
  split at this
  ·rename_i k t hk
   exact⟨k,by rw[hk];simp[PySem.intKind,Value.isInt],eq_of_beq this⟩
  ·exact ff this
 ·show(b3L.toArray.find? _).map _=_
  rw[List.find?_toArray]
  rfl
noncomputable def strV(v:Value):Option (Str×Tok):=match v with
 | .str x t=>some (x,t)
 |_=>none
theorem strV_eq{v:Value}{z:Str×Tok}(h:strV v=some z):v= .str z.1 z.2:=by cases v<;>first|exact nn h|exact congrArg (fun z:Str×Tok=>Value.str z.1 z.2) (bn h)
noncomputable def f_b3c(c:Nat):Option PV:=oe (b3F c) (fun v=>o1 (strV v) fun z=>some (.str z.1.cps.toList)) (gd (c.blt 128) (some (.str [lo1 c])))
noncomputable def f_b3(ps:List PV):Option PV:=o1 (oneS ps) f_b3c
noncomputable def fnB3:FuncData:=fd (dT 12) (z "map_table_b3") 3 .none .none (vs "cpy313.stringprep" 325) (.ref 115) 0
theorem fnB3_at{g:Gnd}{mg mb:Str→Option Value}(B:GroundR g mg mb):FnAt g 116 fnB3 (dT 12).body:=by
 refine⟨⟨ob116 g.w.params,B.R _ _ rfl,rfl⟩,rfl,rfl,rfl,rfl,codeRec_of B.R (by kernel_rfl),rfl,rfl⟩
noncomputable def fnQ:FuncData:=fd (dC 70 3) (z "C14NWriterTarget._qname") 3 (.ref 171) .none (vs "cpy313.xml.etree.ElementTree" 2557) (.ref 177) 0
theorem fnQ_at{g:Gnd}{mg mb:Str→Option Value}(B:Ground' g mg mb):FnAt g 178 fnQ (dC 70 3).body:=by
 refine⟨⟨ob178 g.w.params,B.K _ _ rfl,rfl⟩,rfl,rfl,rfl,rfl,codeRec_of B.K (by kernel_rfl),rfl,rfl⟩
theorem fnQ_bind{g:Gnd}{mg mb:Str→Option Value}(B:Ground' g mg mb){s:Shared}(base:Ext g.h₀ s.heap)(a b:Value):BindsTo s fnQ ⟨[a,b],[]⟩ ((["self","qname","uri"]:List Str).zip [a,b, .none]):=
 BindsTo.of_defaults (T:=171) (o:=ob171 g.w.params) (items:= #[.none]) (n:=0) rfl (base _ _ (B.K _ _ rfl)) rfl rfl rfl
def NmOk(nm:List Nat):Prop:=∃a r,nm=a::r∧r.length≤1∧(a==123)=false∧(∀c∈nm,(c==125)=false)
theorem nm_test{nm:List Nat}(h:NmOk nm){v:Value}{p1 p2 p3 p4 p5 p6:Pos}{G:Rho}:
  pt 8 [] (("self", .val (.obj v))::("qname", .val (.str nm))::G) (.Compare (.Subscript (.Name "qname" p1) (.Slice none (some (.Constant (.int 1) 0 p2)) none p3) p4) [.Eq] [.Constant (.str "{") 0 p5] p6)=some false:=by
 refine xEEAAA h fun a r Y hr ha Y9=>?_;clear h;subst Y
 match r,hr with
 |[],_=>
  show some (([a]:List Nat)==[123])=some false
  simp[ha]
 |[b],_=>
  show some (([a]:List Nat)==[123])=some false
  simp[ha]
noncomputable def fnI:FuncData:=fd (dC 70 1) (z "C14NWriterTarget._iter_namespaces") 3 (.ref 156) .none (vs "cpy313.xml.etree.ElementTree" 2557) (.ref 162) 0
theorem fnI_at{g:Gnd}{mg mb:Str→Option Value}(B:Ground' g mg mb):FnAt g 163 fnI (dC 70 1).body:=by
 refine⟨⟨ob163 g.w.params,B.K _ _ rfl,rfl⟩,rfl,rfl,rfl,rfl,codeRec_of B.K (by kernel_rfl),rfl,rfl⟩
theorem fnI_bind{g:Gnd}{mg mb:Str→Option Value}(B:Ground' g mg mb){s:Shared}(base:Ext g.h₀ s.heap)(a b:Value):BindsTo s fnI ⟨[a,b],[]⟩ ((["self","ns_stack","_reversed"]:List Str).zip [a,b, .type "reversed"]):=
 BindsTo.of_defaults (T:=156) (o:=ob156 g.w.params) (items:= #[.type "reversed"]) (n:=0) rfl (base _ _ (B.K _ _ rfl)) rfl rfl rfl
noncomputable def nsX:List Nat:=(br "http://www.w3.org/XML/1998/namespace").cps.toList
noncomputable def nsP:List Nat:=(br "xml").cps.toList
theorem lgo_gen{prog:Program}{w:World}{A:Around}{E:Value→Shared→Prop}{s:Shared}{elts:List Expr}{x1}{pos:Pos}{I T:Addr}{n:Nat}{Q:Unit→Shared→Prop}(hit:s.heap.IsGen I n)(hQ:Q () s):
  wpAny (model prog w) A (letOwnedTupleGo (.Tuple elts x1 pos) (.ref I) (.ref T)) Q E s:=by
 refine xEEEAAA hit fun o nm qn ho hc hd Y=>?_
 unfold letOwnedTupleGo
 refine ac (wpAny_load ho ?_)
 rw[hc,hd]
 show wpAny _ A (if(["enumerate","zip","dict_itemiterator","dict_reverseitemiterator","odict_iterator","itertools.zip_longest","itertools.pairwise"].contains "generator" &&
   (#[.int n 0,nm,qn]:Array Value)[0]?==some (rawInt T))=true then _ else _) Q E s
 refine wn (by
  rw[show(["enumerate","zip","dict_itemiterator","dict_reverseitemiterator","odict_iterator","itertools.zip_longest","itertools.pairwise"].contains "generator")=false by decide+kernel]
  simp) ?_
 exact ah hQ
theorem bare_set{gens:Array GenState}{g:GenState}{i:Nat}(x:AllBare gens)(hg:g.bare=true):AllBare (gens.setIfInBounds i g):=fun y hy=>by
 rcases Array.mem_or_eq_of_mem_setIfInBounds hy with h|rfl
 ·exact x y h
 ·exact hg
theorem Ends.run{g:Gnd}{k:Resume→Sem Fin}{l:List Value}{c:Code}{p:Pos}{fs:List Frame}{cl:Bool}{it itr ld t0:Addr}{v:Value}(a:Ends g (.suspended k l c p fs cl) it itr ld t0 v):
  ∀A (s:Shared) (P:End→Shared→Prop),AOk 4 A→s.heap.IsListIter it t0 1→s.heap.IsList t0 #[v]→s.heap.IsRevIter itr ld (-1)→it≠itr→
   (∀h',(∀a o,s.heap.get? a=some o→a≠it→a≠itr→h'.get? a=some o)→P (.ret (.ok (.ret .none))) {s with heap:=h'})→PySem.W.X.SegX (model g.prog g.w) A c (k (.send .none)) fs s P:=by
 refine xEE a fun k' l' Y=>?_;refine xEEEEAA Y fun c' p' fs' cl' e1 e2 e3=>?_
 have q:=GenState.suspended.inj e1
 rw[q.1,q.2.2.1,q.2.2.2.2.1]
 exact e3
theorem qname_body{g:Gnd}{mg mb:Str→Option Value}(B:Ground' g mg mb){A:Around}{s:Shared}{W:WA}{D:WD}{nm:List Nat}{t:Tok}{R:Result→Shared→Prop}
  (H:∀v h' g' t',Ext s.heap h'→Rv g.prog g.w h' (fun a=>∃o,s.heap.get? a=some o) (.tuple [.str nm, .str nm, .str []]) v→(AllBare s.gens→AllBare g')→R (.ok (.ret v)) {s with heap:=h',gens:=g',toks:=t'})
  (ok:AOk (30+g.K) A) (base:Ext g.h₀ s.heap) (x:WSt g s.heap W D) (hnm:NmOk nm) (hset1:mg "set" =none) (hset2:mb "set" =some (.type "set")):codeAny (model g.prog g.w) A (.call (.ref 178) ⟨[.ref W.wr, .str (sv nm) t],[]⟩) R s:=by
 refine enter_fn (k:=29+g.K) (F:=fun Y=>False) (own:= "") (G:=[]) (names:=["self","qname","uri"]) (ps:=[.obj (.ref W.wr), .str nm, .none]) B.toBase (fnQ_at B) rfl (fun Y Y e=>by simp at e) (by kernel_rfl) (by kernel_rfl) (by kernel_rfl) (by kernel_rfl)
  (ok.le (by lia)) base (fun Y q=>q.elim) (fun q=>q) (fun q=>q) (fun Y q=>q.elim) (fnQ_bind B base _ _) ?_ rfl fun env h t fr okd=>?_
 ·exact .cons rfl (.cons (Rv.str_iff.mpr ⟨_,rfl⟩) (.cons rfl .nil))
 ·have I:=fr.inv
  have cn:Cn env []:=fun Y q=>by cases q
  refine af (wpAny_If (az (nmN (s:= {s with heap:=h,toks:=t}) I rfl (ax (wpAny_is_self rfl (av ?_))))))
  refine py rfl ?_
  refine af (Assign_Tuple (wpAny_IfExp ((sound g 8).t [] _ _ false env _ _ _ _ _ _ (nm_test hnm) (okd.lt) I cn fun h1 t1 x1=>?_)))
  refine pn bq ?_
  have I1:=I.ext x1
  refine wpAny_Tuple ((sound g 8).l [] _ _ [.str [], .str nm] env _ _ _ _ {s with heap:=h1,toks:=t1} _ _ rfl (okd.lt) I1 cn fun vs h2 t2 x2 r2=>⟨by rw[r2.length];exact Nat.le_of_ble_eq_true rfl,?_⟩)
  have xT:Ext h2 (h2.push {cls:= .type "tuple",data:= .seq vs.toArray}):=Ext.push _ _
  have I2:=(I1.ext x2).ext xT
  refine xEEAA (Rvs.two_iff.mp r2) fun va vb Y ra rb=>?_;subst Y
  have hb:Bindable env (frameSC fnQ.scope.names "").bk:=fr.sok.bind
  have hm:∀a,OwnOf env a→g.h₀.get? a=none:=fun a q=>by
   cases e:g.h₀.get? a with
   |none=>rfl
   |some o=>have:=base a o e;rw[fr.new a q]at this;cases this
  refine bind_ok (s:= {s with heap:=h2.push _,toks:=t2}) I2 hb okd.handled (p:= .tuple [.str [], .str nm]) rfl ?it (Up.refl _ _) (fun a q=>hm a q.of) fun h3 t3 m3 I3=>?_
  case it=>exact⟨va,vb,_,_,_,rfl,rfl,⟨_,bc _ rfl,rfl,_,rfl⟩,ra.up (xT.up _) _,rb.up (xT.up _) _⟩
  have R3:Mod (OwnOf env) s.heap h3:=((((fr.ext.trans x1).trans x2).trans xT).mod _).trans (m3.mono fun a q=>q.of)
  refine ag ?_
  refine af (aq (ar (nmB (s:= {s with heap:=h3,toks:=t3}) B.toBase I3 fr.glob fr.blt (by rw[show env.kindOf _=fnQ.scope.names.lookup _ by rw[←fr.scope];rfl];kernel_rfl) (by decide+kernel) hset1 hset2 (callWith_type0 (call_set_0 fun led=>?_)))))
  have I4:=I3.pushF {cls:= .type "set",dict:=none,data:= .set #[] 0 (.fresh 0 0 led)} rfl
  have nS:=I3.newM
  have n0:=I3.new0
  have hS:(h3.push {cls:= .type "set",dict:=none,data:= .set #[] 0 (.fresh 0 0 led)}).get? h3.objs.size=some {cls:= .type "set",dict:=none,data:= .set #[] 0 (.fresh 0 0 led)}:=bc _ rfl
  have fS:s.heap.get? h3.objs.size=none:=by
   cases e:s.heap.get? h3.objs.size with
   |none=>rfl
   |some o=>have:=R3 _ _ e (fun q=>by rw[fr.new _ q]at e;exact nn e);rw[get?_size]at this;cases this
  have R4:Mod (OwnOf env) s.heap (h3.push {cls:= .type "set",dict:=none,data:= .set #[] 0 (.fresh 0 0 led)}):=R3.trans ((Ext.push _ _).mod _)
  generalize h3.objs.size=S at I4 nS n0 hS fS
  refine store_own (s:= {s with heap:=_,toks:=t3}) I4 hb (bk:=(frameSC fnQ.scope.names "").bk) rfl (fun a q=>hm a q.of) (p:= .obj (.ref S)) (Rv.obj_iff.mpr rfl) fun h5 t5 m5 I5=>?_
  have hS5:=m5 _ _ hS fun q=>nS q.of
  have R5:Mod (OwnOf env) s.heap h5:=R4.trans (m5.mono fun a q=>q.of)
  have E5:Ext s.heap h5:=fun a o ho=>R5 a o ho fun q=>by rw[fr.new a q]at ho;cases ho
  have x5:WSt g h5 W D:=x.ext E5
  have b5:Ext g.h₀ h5:=I5.base
  refine af (wpAny_For (bj (nmO (s:= {s with heap:=h5,toks:=t5}) I5 rfl (x5.getM (s:= {s with heap:=h5,toks:=t5}) B b5 (f_iter _) (by decide) (fun Y=>rfl)
   (callWith_fn (s:= {s with heap:=h5,toks:=t5}) B b5 (by decide) (splC (by rfl) (Attribute_name (nmO (s:= {s with heap:=h5,toks:=t5}) I5 rfl (x5.getA (s:= {s with heap:=h5,toks:=t5}) B b5 (by decide+kernel) (fun Y=>rfl) rfl (spl0 ⟨b5,?_⟩))))))))))
  refine wpAny_call (enter_gen (k:=28+g.K) (s:= {s with heap:=h5,toks:=t5+1}) (F:=fun Y=>False) (own:= "") (G:=[]) (names:=["self","ns_stack","_reversed"]) (ps:=[.obj (.ref W.wr), .obj (.ref W.ld), .obj (.type "reversed")]) B.toBase (fnI_at B) rfl (fun Y Y e=>by simp at e) (by kernel_rfl) (by kernel_rfl) (by kernel_rfl) (by kernel_rfl)
   (okd.le (by lia)) b5 (fun Y q=>q.elim) (fun q=>q) (fun q=>q) (fun Y q=>q.elim) (fnI_bind B b5 _ _) ?rs rfl fun env' h6 t6 fr'=>?_)
  case rs=>exact .cons rfl (.cons rfl (.cons rfl .nil))
  have hgI:Heap.IsGen (h6.push {cls:= .type "generator",data:= .fields #[.int s.gens.size 0, .str fnI.name t6, .str fnI.qualname (t6+1)] }) h6.objs.size s.gens.size:=⟨_,_,_,bc _ rfl,rfl,rfl,rfl⟩
  have X6:Ext h5 (h6.push {cls:= .type "generator",data:= .fields #[.int s.gens.size 0, .str fnI.name t6, .str fnI.qualname (t6+1)] }):=fr'.ext.trans (Ext.push _ _)
  have new':∀b,OwnOf env' b→h5.get? b=none:=fr'.new
  have IG:=fr'.inv.ext (Ext.push h6 {cls:= .type "generator",data:= .fields #[.int s.gens.size 0, .str fnI.name t6, .str fnI.qualname (t6+1)] })
  have n6:h5.get? h6.objs.size=none:=by
   cases e:h5.get? h6.objs.size with
   |none=>rfl
   |some o=>have:=fr'.ext _ _ e;rw[get?_size]at this;cases this
  have nga:=fr'.inv.newM
  generalize h6.objs.size=ga at hgI n6 nga⊢
  generalize (h6.push {cls:= .type "generator",data:= .fields #[.int s.gens.size 0, .str fnI.name t6, .str fnI.qualname (t6+1)] })=h7 at hgI X6 IG⊢
  have x7:WSt g h7 W D:=x5.ext X6
  refine wpAny_pyIter_gen hgI ?_
  refine for_step ?_
  refine next_gen (c₀:= .func (dC 70 1).body env') okd.handled (B.lim.keeps IG.base) okd.lim hgI (by simp) (.inl ⟨rfl,rfl,rfl⟩) ?_
  refine xEE x5.tp fun tx tx' hxp5=>?_
  have okg:AOk 8 (A.deeper env).in1:=(AOk.in1 (n:=28+g.K) (okd.le (by lia))).le (by lia)
  have nOw:∀a o,h5.get? a=some o→¬OwnOf env' a:=fun a o ho q=>by rw[new' a q]at ho;cases ho
  refine xE x5.ld fun n1 o1=>?_
  refine xE x5.t0 fun n2 o2=>?_
  refine gen_first (es:=D.es) (ld:=W.ld) (t0:=W.t0) (v:= .ref W.tp) (F:=_) fr'.sok.bind (by kernel_rfl) (by decide+kernel) (by decide+kernel) (by decide+kernel) fr'.sok.inter (fun a q=>?_) okg IG rfl rfl ?_ ?_ ?_ ?_ ?_
  ·cases e:g.h₀.get? a with
   |none=>rfl
   |some o=>have:=b5 a o e;rw[new' a q]at this;exact nn this
  ·exact x7.ld.isList
  ·exact fun e he=>(x7.es e he).isList
  ·exact x7.t0.isList
  ·rintro a (rfl|rfl|q)
   ·exact nOw _ _ o1
   ·exact nOw _ _ o2
   ·refine xE (x5.es a q) fun n3 o3=>?_;exact nOw _ _ o3
  intro p lv k c h8 t8 fs2 it itr M8 a1 a2 a3 a4 a5 a6 a7
  have X8:Ext h5 h8:=fun b o hb=>M8 _ _ (X6 _ _ hb) (nOw _ _ hb)
  have ni:h5.get? it=none:=by
   cases e:h5.get? it with
   |none=>rfl
   |some o=>have q:=X6 _ _ e;rw[show h7.get? it=none from a2]at q;cases q
  have nr:h5.get? itr=none:=by
   cases e:h5.get? itr with
   |none=>rfl
   |some o=>have q:=X6 _ _ e;rw[show h7.get? itr=none from a3]at q;cases q
  have I8:=I5.grow (F':=fun a=>((False∨OwnOf env a)∨a=S)∨a=it∨a=itr) X8 (fun a q=> .inl q) (fun a o ho nf q=>q.elim nf fun q=>by rcases q with rfl|rfl<;>simp_all)
   (fun a q=>by
    rcases q with q|rfl|rfl
    ·exact(I5.fl.ext X8) a q
    ·refine xEA a1 fun o ho Y=>?_;exact⟨o,ho⟩
    ·refine xEA a5 fun o ho Y=>?_;exact⟨o,ho⟩) (fun Y q=>q) fun a q=> .inl (I5.sub a q)
  have hg8:h8.IsGen ga s.gens.size:=by
   refine xEEEA hgI fun o nm qn ho r=>?_;exact⟨o,nm,qn,M8 _ _ ho nga,r⟩
  have hxp8:h8.IsTuple W.tp #[.str "http://www.w3.org/XML/1998/namespace" tx, .str "xml" tx']:=by
   refine xEA hxp5 fun o ho r=>?_;exact⟨o,X8 _ _ ho,r⟩
  refine lgo_gen hg8 ?_
  refine bind_ok (s:= {s with heap:=h8,toks:=t8,gens:=_}) I8 hb okd.handled (p:= .tuple [.str nsX, .str nsP]) rfl ?it2 (Up.refl _ _) (fun a q=>hm a q.of) fun h9 t9 m9 I9=>?_
  case it2=>exact⟨_,_,_,_,_,rfl,rfl,hxp8,⟨_,rfl⟩,⟨_,rfl⟩⟩
  refine af (wpAny_If ((sound g 8).t [] _ _ false env _ _ _ _ {s with heap:=h9,toks:=t9,gens:=_} _ (by kernel_rfl) (okd.lt) I9 cn fun h10 t10 x10=>?_))
  refine pn bq ?_
  refine ag ?_
  have I10:=I9.ext x10
  have hSo:Heap.SetOf (strKind g.prog g.w) h10 S (fun Y=>false) 0:=⟨_, #[],0,_,x10 _ _ (m9 _ _ (X8 _ _ hS5) fun q=>nS q.of),⟨rfl,rfl,rfl⟩,rfl,fun e he=>by simp at he,fun k=>by simp,by decide,by rfl,rfl⟩
  refine af (ay (bj (nmO (s:= {s with heap:=h10,toks:=t10,gens:=_}) I10 rfl (getMethod_set_add hSo (callWith_method1 (splC (by rfl) (nmS (y:=nsP) I10 rfl fun tp=>spl0 ?_)))))) (hi:=fr.sok.inter))
  ·refine call_set_add (key:= .str (sv nsP) tp) (k:=sv nsP) (knd:=strKind g.prog g.w) ?_ rfl hSo (by decide) fun h11 sb hS11=>?_
   ·exact beq_self_eq_true _
   have I11:=I10.other sb.extBut (.inl (.inr rfl)) nS n0 (xEEEEA hS11 fun o Y Y Y ho Y=>⟨o,ho⟩)
   refine ag ?_
   show codeAny _ _ _ _ _
   refine for_step ?_
   have e3:=a6.run
   have ni10:∀a,h5.get? a=none→h8.get? a≠none→∀o,h8.get? a=some o→h11.get? a=some o:=fun a n Y o ho=>by
    refine sb.extBut a o (fun q=>?_) (x10 _ _ (m9 _ _ ho fun q=>?_))
    ·rw[q,hS5]at n;exact sn n
    ·refine xE (I5.fl a (I5.sub a q.of)) fun o' ho'=>?_;rw[n]at ho';cases ho'
   have k11:∀a o,h8.get? a=some o→¬OwnOf env a→a≠S→h11.get? a=some o:=fun a o ho no ns=>sb.extBut a o ns (x10 _ _ (m9 _ _ ho fun q=>no q.of))
   have nOE:∀a o,s.heap.get? a=some o→¬OwnOf env a∧a≠S:=fun a o ho=>⟨fun q=>by (rw[fr.new a q]at ho;exact nn ho),fun q=>by (rw[q,fS]at ho;exact nn ho)⟩
   have K11:∀a o,s.heap.get? a=some o→h11.get? a=some o:=fun a o ho=>k11 _ _ (X8 _ _ (E5 _ _ ho)) (nOE a o ho).1 (nOE a o ho).2
   have K511:∀a,h5.get? a=none→∀o,h8.get? a=some o→h11.get? a=some o:=fun a n o ho=>ni10 a n (by rw[ho];exact fun q=>nomatch q) o ho
   have hg11:h11.IsGen ga s.gens.size:=by refine xEEEA hg8 fun o nm qn ho r=>?_;exact⟨o,nm,qn,K511 _ n6 _ ho,r⟩
   have it11:h11.IsListIter it W.t0 1:=by refine xEA a1 fun o ho r=>?_;exact⟨o,K511 _ ni _ ho,r⟩
   have itr11:h11.IsRevIter itr W.ld (-1):=by refine xEA a5 fun o ho r=>?_;exact⟨o,K511 _ nr _ ho,r⟩
   have x11:WSt g h11 W D:=x.ext K11
   refine next_gen (s:= {s with heap:=h11,toks:=t10+1,gens:=_}) okd.handled (B.lim.keeps I11.base) okd.lim hg11 (gs:= .suspended k lv c p fs2 false) (by simp[Shared.setGen];simpa using a7) (.inr ⟨_,_,_,_,rfl,rfl⟩) (e3 _ _ _ ((AOk.in1 (n:=28+g.K) (okd.le (by lia))).le (by lia)) it11 x11.t0.isList itr11 a4 fun h12 X12=>?_)
   intro h13 X13
   have K13:∀a o,s.heap.get? a=some o→h13.get? a=some o:=fun a o ho=>X13 _ _ (X12 _ _ (K11 _ _ ho) (fun q=>by rw[q]at ho;have:=E5 _ _ ho;rw[ni]at this;exact nn this) fun q=>by rw[q]at ho;have:=E5 _ _ ho;rw[nr]at this;exact nn this)
   have live5:∀a,(∃o,h5.get? a=some o)→a≠it∧a≠itr:=fun a Y=>xE Y fun o ho=>⟨fun q=>by (rw[q,ni]at ho;exact nn ho),fun q=>by (rw[q,nr]at ho;exact nn ho)⟩
   have I13:=(I11.chgM (F':=fun a=>((False∨OwnOf env a)∨a=S)) (M':=OwnOf env) (h':=h12) (fun a o ho nf=>⟨fun q=>nf (.inl q),X12 _ _ ho (fun q=>nf (.inr (.inl q))) fun q=>nf (.inr (.inr q))⟩)
    (fun a q o ho=>X12 _ _ ho (live5 a (I5.fl a (I5.sub a q))).1 (live5 a (I5.fl a (I5.sub a q))).2) (fun a o ho=>X12 _ _ (I11.base _ _ ho) (live5 a ⟨o,b5 _ _ ho⟩).1 (live5 a ⟨o,b5 _ _ ho⟩).2)
    (fun a q=>by
     refine xE (I11.fl a (.inl q)) fun o ho=>?_
     exact⟨o,X12 _ _ ho (live5 a (I5.fl a q)).1 (live5 a (I5.fl a q)).2⟩) (fun Y q=>q) fun a q=>I5.sub a q).ext X13
   have x13:WSt g h13 W D:=x.ext K13
   refine af (wpAny_If (wpAny_isTrue_value (Attribute_name (nmO (s:= {s with heap:=h13,toks:=t10+1,gens:=_}) I13 rfl (x13.getA (s:= {s with heap:=h13,toks:=t10+1,gens:=_}) B I13.base (by decide+kernel) (fun Y=>rfl) rfl (av ?_))))))
   refine pn bq ?_
   refine ag ?_
   refine af (wpAny_If (wpAny_isTrue_BoolOp ?_))
   obtain⟨nn,S13⟩:∃nn,Heap.SetOf (strKind g.prog g.w) h13 S (fun k'=>false||decide (k'=sv nsP)) nn:=by
    refine xEEEEA hS11 fun o es ep t ho r=>?_
    exact⟨_,o,es,ep,t,X13 _ _ (X12 _ _ ho (live5 S ⟨_,hS5⟩).1 (live5 S ⟨_,hS5⟩).2),r⟩
   refine wpAny_allTrue_And_cons (wpAny_isTrue_Not ((sound g 8).t [] _ _ false env _ _ _ _ {s with heap:=h13,toks:=t10+1+1,gens:=_} _ (by kernel_rfl) (okd.lt) I13 cn fun h14 t14 x14=>?_))
   refine py (by rfl) ?_
   have I14:=I13.ext x14
   refine wpAny_allTrue_And_cons (az ((sound g 8).e [] _ _ (.str []) env _ _ _ _ {s with heap:=h14,toks:=t14,gens:=_} _ (by kernel_rfl) (okd.lt) I14 cn fun v15 h15 t15 x15 r15=>?_))
   have I15:=I14.ext x15
   refine xE (Rv.str_iff.mp r15) fun tt Y=>?_;subst Y
   have S15:Heap.SetOf (strKind g.prog g.w) h15 S (fun k'=>false||decide (k'=sv nsP)) nn:=by
    refine xEEEEA S13 fun o es ep t ho r=>?_
    exact⟨o,es,ep,t,x15 _ _ (x14 _ _ ho),r⟩
   refine nmO (s:= {s with heap:=h15,toks:=t15,gens:=_}) I15 rfl (wpAny_notInSet_of (knd:=strKind g.prog g.w) (k:=sv []) (beq_self_eq_true _) rfl S15 (av ?_))
   refine py (by decide+kernel) ?_
   refine wpAny_allTrue_And_nil ?_
   refine py rfl ?_
   refine af (wpAny_Return_some (wpAny_Tuple ((sound g 8).l [] _ _ [.str nm, .str nm, .str []] env _ _ _ _ {s with heap:=h15,toks:=t15+1,gens:=_} _ _ (by rfl) (okd.lt) I15 cn fun vs h16 t16 x16 r16=>⟨by rw[r16.length];exact Nat.le_of_ble_eq_true rfl,?_⟩)))
   refine H _ _ _ _ ((((Ext.trans K13 x14).trans x15).trans x16).trans (Ext.push _ _)) ?_ ?_
   ·refine⟨_,vs.toArray,rfl,?_,⟨_,bc _ rfl,rfl,_,rfl⟩,Rvs.flat (by simp[flatPV]) (by simpa using r16)⟩
    rintro ⟨o,ho⟩
    have:=x16 _ _ (x15 _ _ (x14 _ _ (K13 _ _ ho)))
    rw[get?_size]at this;cases this
   ·intro hab
    exact bare_set (bare_set (bare_set (bare_set (hab.push rfl) rfl) (by show(!(false||fs2.any Frame.guarded))=true;rw[a7];rfl)) rfl) rfl
section
theorem layNew_first(led:Bool)(h:Int)(x:Value):∃j,layNew (.fresh 0 0 led) #[] h x=(#[(h,x)],{SetTable.fresh 0 0 led with place:= #[j] },false,false):=by
 refine⟨SetTable.bits h% 8,?_⟩
 have e:(SetTable.fresh 0 0 led).freeSlot h=some (SetTable.bits h% 8,false):=by rfl
 unfold layNew
 rw[e]
 rfl
noncomputable def ledOf(w:World):Bool:=!(w.params.followText "set-order")
noncomputable def tb1(led:Bool)(j:Nat)(p:Bool):SetTable:= {SetTable.fresh 0 0 led with place:= #[j],plain:=p}
section
variable{prog:Program}{w:World}{A:Around}{E:Value→Shared→Prop}{s:Shared}{K:Type}[DecidableEq K]{knd:KeyKind prog w K}
theorem newSet_exact{Q:Value→Shared→Prop}(h:Q (.ref s.heap.objs.size) {s with heap:=s.heap.push {cls:= .type "set",dict:=none,data:= .set #[] 0 (.fresh 0 0 (ledOf w))} }):
  wpAny (model prog w) A (newSet (.type "set")) Q E s:=by
 unfold newSet setsByText
 refine ac (ac (wpAny_askSetting (ah ?_)))
 dsimp only
 simp only[newObj]
 exact ac (wpAny_alloc (ah h))
theorem setAdd_first{a:Addr}{k:K}{x:Value}{Q:Bool→Shared→Prop}{led:Bool}(hkey:knd.is k x=true)(hsc:x.scannable=true)(ho:s.heap.get? a=some {cls:= .type "set",dict:=none,data:= .set #[] 0 (.fresh 0 0 led)})
  (h:∀h' j p,Heap.SameBut a s.heap h'→h'.get? a=some {cls:= .type "set",dict:=none,data:= .set #[(knd.hash k,x)] 1 (tb1 led j p)}→Q true {s with heap:=h',toks:=s.toks+1}):
  wpAny (model prog w) A (setAdd a x) Q E s:=by
 unfold setAdd
 refine ak (ac (knd.pyHash hkey ?_))
 have hf:(SetTable.fresh 0 0 led).fits (#[]:Array (Int×Value)).size=true:=by rfl
 unfold setAddHashed setAddHashedIn
 refine ak (ac (wpAny_setState_of (s:= {s with toks:=s.toks+1}) ho rfl hf ?_))
 dsimp only
 rw[byScan_of (knd:=knd) hsc (by decide) (fun e he=>by simp at he)]
 simp only[↓reduceIte]
 unfold setAddByScan
 refine ac ?_
 refine ac (wpAny_rule ?_)
 refine ac (wpAny_setScan_of (s:= {s with toks:=s.toks+1}) hkey ho rfl hf (fun e he=>by simp at he) ?_)
 show wpAny _ _ _ _ _ _
 dsimp only[List.findIdx?,List.findIdx?.go]
 refine xE (layNew_first led (knd.hash k) x) fun j ej=>?_
 rw[ej]
 dsimp only
 refine ac (ah ?_)
 have fin:∀p:Bool,wpAny (model prog w) A (do
    storeSet a #[(knd.hash k,x)] {SetTable.fresh 0 0 led with place:= #[j],plain:=p}
    if(!false&&({SetTable.fresh 0 0 led with place:= #[j],plain:=p}:SetTable).tooFull)=true then do
      match (relayAll {SetTable.fresh 0 0 led with place:= #[j],plain:=p} #[(knd.hash k,x)] (SetTable.grown 1)).2.2 with
       |true=>rule "set.scan.the-table-gave-way"
       |false=>pure ()
      storeSet a (relayAll {SetTable.fresh 0 0 led with place:= #[j],plain:=p} #[(knd.hash k,x)] (SetTable.grown 1)).1 (relayAll {SetTable.fresh 0 0 led with place:= #[j],plain:=p} #[(knd.hash k,x)] (SetTable.grown 1)).2.1
      pure (some true)
     else pure (some true)) (fun r s'=>r=some true∧Q true s') E {s with toks:=s.toks+1}:=fun p=>by
  refine ac (wpAny_storeSet_of (s:= {s with toks:=s.toks+1}) ho rfl ?_ (Nat.le_of_ble_eq_true (by rfl)))
  refine wn (by exact bq) ?_
  refine ah ⟨rfl,h _ j p (Heap.SameBut.update ..) ?_⟩
  have:=Heap.get?_update_self (Obj.putSet #[(knd.hash k,x)] {SetTable.fresh 0 0 led with place:= #[j],plain:=p}) ho (by rfl)
  exact this
 rw[if_pos (show(SetTable.fresh 0 0 led).plain=true from rfl),hashByValue_scannable 8 hsc]
 refine ac (ah ?_)
 generalize plainKind x=b
 cases b
 ·exact aj (fin false) (fun r s' Y=>xA Y fun e q=>by subst e;exact ah q) fun Y Y z=>z
 ·exact aj (fin true) (fun r s' Y=>xA Y fun e q=>by subst e;exact ah q) fun Y Y z=>z
end
end
section
noncomputable def eD:Obj:= {cls:= .type "dict",data:= .dict #[] }
theorem dict_not_set:isSubtype (.type "dict") (.type "set")=pure false:=by rw[isSubtype_type];kernel_rfl
theorem dict_not_fset:isSubtype (.type "dict") (.type "frozenset")=pure false:=by rw[isSubtype_type];kernel_rfl
section
variable{prog:Program}{w:World}{A:Around}{E:Value→Shared→Prop}{s:Shared}
theorem star_none{S d:Addr}{e:Int×Value}{ep:Nat}{t:SetTable}{o:Obj}{Q:Unit→Shared→Prop}(hh:A.handled=none)(ho:s.heap.get? S=some o)(hs:o.data= .set #[e] ep t)(hr:t.roomFor 0=none)(hf:t.fits 1=true)(hd:s.heap.get? d=some eD)(hsm:(d==sysModules)=false)
  (H:∀h',Ext s.heap h'→Q () {s with heap:=h'}):wpAny (model prog w) A (setDisplayStar S (.ref d)) Q E s:=by
 have T:s.TypeIs (.ref d) "dict" :=⟨_,hd,rfl⟩
 unfold setDisplayStar
 dsimp only
 refine ac (wpAny_isInstance T dict_not_set ?_)
 refine wn bq ?_
 refine ac (wpAny_isInstance T dict_not_fset ?_)
 refine ac (wpAny_askSetting ?_)
 cases (({program:=(model prog w).prog,params:=(model prog w).w.params}:Setting).params.followText "set-display-star-reads-storage")with
 |false=>
  rw[if_neg bq]
  dsimp only
  refine wn bq ?_
  refine ac (wpAny_typeOf T ?_)
  refine wy (by rfl) ?_
  refine ac (wpAny_rule ?_)
  refine wn (by rw[hsm];exact bq) ?_
  refine ac (wpAny_dictEpoch hd rfl (ac (wpAny_dictEntries hd rfl ?_)))
  have er:wpAny (model prog w) A (setRoomFor S 0) (fun Y s'=>s'=s) E s:=by
   unfold setRoomFor
   refine ac (wpAny_setState_of ho hs hf ?_)
   dsimp only
   rw[hr]
   exact ah rfl
  refine ac (aj er (fun Y s' e=>?_) fun Y Y z=>z)
  subst e
  simp only[List.size_toArray,List.length_nil,Std.Legacy.Range.forIn_eq_forIn_range',Std.Legacy.Range.size,Nat.sub_self,Nat.zero_add,Nat.add_one_sub_one,Nat.div_one,List.range',List.forIn_nil]
  refine ac (ah (ah (H _ (Ext.refl _))))
 |true=>
  rw[if_pos rfl]
  dsimp only
  try refine ac (ah ?_)
  have da:s.heap.DictAt (strKind prog w) d [] 0:=⟨_, #[],hd,⟨rfl,rfl,rfl⟩,rfl,(fun e he=>by simp at he), .nil,List.nodup_nil⟩
  refine ac (wpAny_pyIter_dict hsm da ?_)
  refine ac (wpAny_runValue (codeAny_builtin F.entry_set_update_loop ?_))
  rw[Around.under_plainId F.plain_set_update_loop _]
  show wpAny _ A.in1 (pyNext (.ref _)>>=_) _ _ _
  refine ac (wpAny_pyNext_dict_end (knd:=strKind prog w) (kvs:=[]) hh ⟨_,bc _ rfl,rfl,rfl⟩ (da.at fun o hb=>bd _ hb) rfl fun h' hs'=>?_)
  show wpAny _ A.in1 (ret Value.none) _ _ _
  refine ah (ah (H h' fun a o ho=>hs' _ _ (fun q=>?_) (bd _ ho)))
  rw[q,get?_size]at ho;cases ho
end
theorem set_star{g:Gnd}{env:Env}{ρ:Rho}{F M:Addr→Prop}{A:Around}{E:Value→Shared→Prop}{s:Shared}{x y:Str}{p1 p2 p3 pos:Pos}{Q:Value→Shared→Prop}{K:Frag}{d:Addr}{nm:List Nat}
  (hh:A.handled=none) (X:K.In s.heap) (hc:kdsCode K env.code=true) (I:Inv g env ρ s.heap F M) (hx:ρ.lookup x=some (.val (.str nm))) (hy:ρ.lookup y=some (.val (.obj (.ref d)))) (hd:s.heap.get? d=some eD) (hsm:(d==sysModules)=false)
  (H:∀S h' t' hs tt j p,Ext s.heap h'→s.heap.get? S=none→h'.get? S=some {cls:= .type "set",dict:=none,data:= .set #[(hs, .str (sv nm) tt)] 1 (tb1 (ledOf g.w) j p)}→Q (.ref S) {s with heap:=h',toks:=t'}):
  wpAny (model g.prog g.w) A (eval (.Set [.Name x p1, .Starred (.Name y p2) p3] 0 pos) env) Q E s:=by
 rw[arm_eval_Set]
 refine ac (aw (ac (kds_main X hc fun b=>?_)))
 show wpAny _ _ (setDisplay .oneByOne b [(false,do let v ←eval (.Name x p1) env;standAt pos;pure v),(true,do let v ←eval (.Name y p2) env;standAt pos;pure v)]) _ _ _
 unfold setDisplay
 refine wn (by decide) ?_
 refine ac (newSet_exact ?_)
 dsimp only
 have n0:s.heap.get? s.heap.objs.size=none:=get?_size _
 refine ac (ak (ac ?_))
 have X1:Ext s.heap (s.heap.push {cls:= .type "set",dict:=none,data:= .set #[] 0 (.fresh 0 0 (ledOf g.w))}):=Ext.push _ _
 have hS:(s.heap.push {cls:= .type "set",dict:=none,data:= .set #[] 0 (.fresh 0 0 (ledOf g.w))}).get? s.heap.objs.size=some {cls:= .type "set",dict:=none,data:= .set #[] 0 (.fresh 0 0 (ledOf g.w))}:=bc _ rfl
 have I1:=I.ext X1
 generalize (s.heap.push {cls:= .type "set",dict:=none,data:= .set #[] 0 (.fresh 0 0 (ledOf g.w))})=h1 at*
 generalize s.heap.objs.size=S at*
 show wpAny _ _ (evalAll [do let v ←eval (.Name x p1) env;standAt pos;pure v]) _ _ _
 refine wpAny_evalAll_cons (ac (nmS (s:= {s with heap:=h1}) I1 hx fun tt=>ac (aw (ah (wpAny_evalAll_nil ?_)))))
 refine ac (ak ?_)
 rw[List.forIn_cons]
 refine ac (ac (ac (setAdd_first (s:= {s with heap:=h1}) (knd:=strKind g.prog g.w) (k:=sv nm) (beq_self_eq_true _) rfl hS fun h2 j p sb hS2=>?_)))
 refine ah ?_
 show wpAny _ _ (forIn [] _ _) _ _ _
 rw[List.forIn_nil]
 refine ah ?_
 refine wn (by decide) ?_
 refine ah ?_
 have K2:Ext s.heap h2:=fun a o ho=>sb.extBut a o (fun q=>by rw[q,n0]at ho;exact nn ho) (X1 a o ho)
 have hy2:∀{A:Around} {E:Value→Shared→Prop} {t} {Q:Value→Shared→Prop},Q (.ref d) {s with heap:=h2,toks:=t}→wpAny (model g.prog g.w) A (eval (.Name y p2) env) Q E {s with heap:=h2,toks:=t}:=fun q=>nmO (s:= {s with heap:=h2,toks:=_}) (I.ext K2) hy q
 show wpAny _ _ (forIn [(true,do let v ←eval (.Name y p2) env;standAt pos;pure v)] _ _>>=_) _ _ _
 rw[List.forIn_cons]
 refine ac (ac (ac (ac (hy2 (ac (aw (ah ?_)))))))
 dsimp only
 refine wy rfl ?_
 refine ac (ak (star_none (s:= {s with heap:=h2,toks:=s.toks+1}) hh hS2 rfl rfl rfl (K2 _ _ hd) hsm fun h3 x3=>?_))
 refine ah ?_
 show wpAny _ _ (forIn [] _ _) _ _ _
 rw[List.forIn_nil]
 refine ah (ah ?_)
 exact ah (H _ _ _ _ _ _ _ (K2.trans x3) n0 (x3 _ _ hS2))
end
section
noncomputable def set1(w:World)(hs:Int)(v:Value)(j:Nat)(p:Bool):Obj:= {cls:= .type "set",dict:=none,data:= .set #[(hs,v)] 1 (tb1 (ledOf w) j p)}
noncomputable def setIt(S:Addr)(slot i:Nat):Obj:= {cls:= .type "set_iterator",data:= .fields #[.int slot 0, .int i 0, .ref S, .int 1 0, .int 1 0] }
namespace F
theorem entry_set_iter:entryFor table "set.__iter__" =some Builtin.«frozenset.__iter__»:=entryFor_alias (id':= "frozenset.__iter__") (by kernel_rfl) rfl (by decide+kernel) (by kernel_rfl)
theorem slot_setit_next:Slot "set_iterator" "__next__" "set_iterator.__next__" :=
 .of (owner:= "set_iterator") (n:= "__next__") (by rw[typeLookup_type,builtinLookup_eq_fast];kernel_rfl) (by decide+kernel) (by decide+kernel) (by decide+kernel)
  (by first|exact .inl (by decide+kernel)|exact .inr (by decide+kernel)) (by rw[isSubtype_type];kernel_rfl)
theorem entry_setit_next:entryFor table "set_iterator.__next__" =some Builtin.«set_iterator.__next__»:=entryFor_of_tree (by kernel_rfl)
theorem args_setit_next(a:Value):argsOk "set_iterator.__next__" ⟨[a],[]⟩:=by unfold argsOk;kernel_rfl
end F
section
variable{M:Model}{A:Around}{E:Value→Shared→Prop}{s:Shared}{α:Type}{t e:Sem α}{Q:α→Shared→Prop}{c:Prop}[Decidable c]
theorem wp_if_pos(hc:c)(h:wpAny M A t Q E s):wpAny M A (if c then t else e) Q E s:=by refine wy hc ?_;exact h
theorem wp_if_neg(hc:¬c)(h:wpAny M A e Q E s):wpAny M A (if c then t else e) Q E s:=by refine wn hc ?_;exact h
end
section
variable{prog:Program}{w:World}{A:Around}{E:Value→Shared→Prop}{s:Shared}
theorem iter_set1{S:Addr}{hs:Int}{v:Value}{j:Nat}{p:Bool}{Q:Value→Shared→Prop}(hS:s.heap.get? S=some (set1 w hs v j p))
  (hQ:Q (.ref s.heap.objs.size) {s with heap:=s.heap.push (setIt S 0 0)}):wpAny (model prog w) A (pyIter (.ref S)) Q E s:=by
 have hT:s.TypeIs (.ref S) "set" :=⟨_,hS,rfl⟩
 refine wpAny_pyIter_slot hT PySem.F.slot_set_iter (wpAny_call_entry PySem.F.slot_set_iter hT F.entry_set_iter ?_ (PySem.F.args_set_iter_1 _))
 unfold Builtin.«frozenset.__iter__» Builtin.Frozenset.slot0 Builtin.Frozenset.sizeOf setDrawn setsByText
 refine ac (ac (ah (ah ?_)))
 refine ac (ac ?_)
 unfold setEntries
 refine ac (wpAny_setState_of hS rfl rfl (ah (ah ?_)))
 refine ac (ac (wpAny_setState_of hS rfl rfl ?_))
 refine ac (ac (wpAny_askSetting (ah (ah ?_))))
 dsimp only
 refine wn (by rw[bp];rintro ⟨_,q⟩;revert q;cases p<;>exact fun q=>absurd (show false=true from q) bq) ?_
 refine ac (ah ?_)
 unfold setEpoch
 refine ac (ac (wpAny_setState_of hS rfl rfl (ah ?_)))
 refine ac (wpAny_newObj_type ?_ (by size_fits))
 exact ah ⟨_,rfl,"set_iterator",_,⟨_,bc _ rfl,rfl⟩,F.slot_setit_next.lookup,hQ⟩
theorem pick1{α:Type}(f:Nat→Nat)(x:α):pickOrder f #[x]= #[x]:=by
 have e:f 0% [x].length=0:=Nat.mod_one _
 show(match [x][f 0% [x].length]? with
  |some y=>pickOrder.go f 0 1 ([x].eraseIdx (f 0% [x].length)) (#[].push y)
  |none=> #[])=_
 rw[e];rfl
theorem setWalk1{S:Addr}{hs:Int}{v:Value}{j:Nat}{p:Bool}{Q:Array (Int×Value)→Shared→Prop}(hS:s.heap.get? S=some (set1 w hs v j p))(hb:w.params.followText "set-order" =true)(h:Q #[(hs,v)] s):wpAny (model prog w) A (setWalk S) Q E s:=by
 unfold setWalk setsByText
 refine ac (wpAny_setState_of hS rfl rfl ?_)
 refine ac (ac (wpAny_askSetting (ah ?_)))
 show wpAny _ _ (if w.params.followText "set-order" =true then _ else _) _ _ _
 refine wy hb ?_
 refine ac (wpAny_askSetting (ah ?_))
 rw[pick1];exact h
noncomputable def slot2(w:World)(j:Nat):Nat:=if w.params.followText "set-order"then 0 else j+1
theorem setNext_first{S:Addr}{hs:Int}{v:Value}{j:Nat}{p:Bool}{Q:Option (Value×Nat)→Shared→Prop}(hS:s.heap.get? S=some (set1 w hs v j p))
  (h:Q (some (v,slot2 w j)) s):wpAny (model prog w) A (setNext S 0 0 1) Q E s:=by
 unfold setNext
 refine ac (wpAny_setState_of hS rfl rfl ?_)
 unfold setsByText
 refine ac (ac (wpAny_askSetting (ah ?_)))
 dsimp only
 show wpAny _ _ (if w.params.followText "set-order" =true then _ else _) _ _ _
 unfold slot2 at h
 by_cases hb:w.params.followText "set-order" =true
 ·rw[if_pos hb]at h⊢
  refine wn (by decide) ?_
  refine ac ?_
  exact setWalk1 hS hb (ah h)
 ·rw[if_neg hb]at h⊢
  refine wn (by cases p<;>exact fun q=>absurd (show false=true from q) bq) ?_
  refine ac ?_
  show wpAny _ _ (if(!(ledOf w)&&_)=true then _ else pure ()) _ _ _
  refine wn (by unfold ledOf;rw[Bool.not_eq_true]at hb;rw[hb];exact fun q=>absurd (show false=true from q) bq) ?_
  exact ah (ah h)
theorem setNext_second{S:Addr}{hs:Int}{v:Value}{j:Nat}{p:Bool}{Q:Option (Value×Nat)→Shared→Prop}(hS:s.heap.get? S=some (set1 w hs v j p))
  (h:Q none s):wpAny (model prog w) A (setNext S (slot2 w j) 1 1) Q E s:=by
 unfold setNext
 refine ac (wpAny_setState_of hS rfl rfl ?_)
 unfold setsByText
 refine ac (ac (wpAny_askSetting (ah ?_)))
 dsimp only
 show wpAny _ _ (if w.params.followText "set-order" =true then _ else _) _ _ _
 unfold slot2
 by_cases hb:w.params.followText "set-order" =true
 ·rw[if_pos hb,if_pos hb]
  refine wn (by decide) ?_
  refine ac ?_
  exact setWalk1 hS hb (ah h)
 ·rw[if_neg hb,if_neg hb]
  refine wn (by cases p<;>exact fun q=>absurd (show false=true from q) bq) ?_
  refine ac ?_
  show wpAny _ _ (if(!(ledOf w)&&_)=true then _ else pure ()) _ _ _
  refine wn (by unfold ledOf;rw[Bool.not_eq_true]at hb;rw[hb];exact fun q=>absurd (show false=true from q) bq) ?_
  refine ah (ah ?_)
  have e:SetTable.below (tb1 (ledOf w) j p).place (j+1)=1:=by
   exact(show SetTable.below (tb1 (ledOf w) j p).place (j+1)=if j<j+1 then 1 else 0 by kernel_rfl).trans (if_pos (Nat.lt_succ_self j))
  rw[e]
  exact h
theorem next_first{it S:Addr}{hs:Int}{v:Value}{j:Nat}{p:Bool}{Q:Option Value→Shared→Prop}(hit:s.heap.get? it=some (setIt S 0 0))(hS:s.heap.get? S=some (set1 w hs v j p))
  (hQ:∀h',h'.get? it=some (setIt S (slot2 w j) 1)→Heap.SameBut it s.heap h'→Q (some v) {s with heap:=h'}):wpAny (model prog w) A (pyNext (.ref it)) Q E s:=by
 have hT:s.TypeIs (.ref it) "set_iterator" :=⟨_,hit,rfl⟩
 unfold pyNext
 refine ac (wpAny_attempt (wpAny_callSpecial?_slot (name:=br "__next__") hT F.slot_setit_next
  (wpAny_call_entry F.slot_setit_next hT F.entry_setit_next ?_ (F.args_setit_next _))))
 unfold Builtin.«set_iterator.__next__»
 refine ac (ah ?_)
 refine ac (wpAny_fieldsOf hit rfl ?_)
 show wpAny _ _ (setEntries S>>=_) _ _ _
 unfold setEntries
 refine ac (ac (wpAny_setState_of hS rfl rfl (ah ?_)))
 dsimp only
 refine wp_if_neg (fun q=>absurd (show false=true from q) bq) ?_
 show wpAny _ _ (setNext S 0 0 1>>=_) _ _ _
 refine ac (setNext_first hS ?_)
 show wpAny _ _ (setField (.ref it) 0 (rawInt (slot2 w j))>>=_) _ _ _
 refine ac (wpAny_setField hit rfl (Nat.le_of_ble_eq_true rfl) ?_)
 have e1:(s.heap.update it (Obj.mapFields (·.setIfInBounds 0 (rawInt (slot2 w j))))).get? it=some (setIt S (slot2 w j) 0):=Heap.get?_update_self _ hit rfl
 refine ac (wpAny_setField (s:= {s with heap:=s.heap.update it _}) e1 rfl (Nat.le_of_ble_eq_true rfl) ?_)
 refine ah ⟨_,rfl,ah (hQ _ (Heap.get?_update_self _ e1 rfl) ((Heap.SameBut.update ..).trans (Heap.SameBut.update ..)))⟩
theorem next_second{it S:Addr}{hs:Int}{v:Value}{j:Nat}{p:Bool}{Q:Option Value→Shared→Prop}(hh:A.handled=none)(hit:s.heap.get? it=some (setIt S (slot2 w j) 1))(hS:s.heap.get? S=some (set1 w hs v j p))
  (hQ:∀h',Heap.ExtBut it s.heap h'→Q none {s with heap:=h'}):wpAny (model prog w) A (pyNext (.ref it)) Q E s:=by
 have hT:s.TypeIs (.ref it) "set_iterator" :=⟨_,hit,rfl⟩
 unfold pyNext
 refine ac (wpAny_attempt (wpAny_callSpecial?_slot (name:=br "__next__") hT F.slot_setit_next
  (wpAny_call_entry F.slot_setit_next hT F.entry_setit_next ?_ (F.args_setit_next _))))
 unfold Builtin.«set_iterator.__next__»
 refine ac (ah ?_)
 refine ac (wpAny_fieldsOf hit rfl ?_)
 show wpAny _ _ (setEntries S>>=_) _ _ _
 unfold setEntries
 refine ac (ac (wpAny_setState_of hS rfl rfl (ah ?_)))
 dsimp only
 refine wp_if_neg (fun q=>absurd (show false=true from q) bq) ?_
 show wpAny _ _ (setNext S (slot2 w j) 1 1>>=_) _ _ _
 refine ac (setNext_second hS ?_)
 show wpAny _ _ (setField (.ref it) 2 .none>>=_) _ _ _
 refine ac (wpAny_setField hit rfl (Nat.le_of_ble_eq_true rfl) ?_)
 show wpAny _ _ (newExc (.type "StopIteration") [] >>=_) _ _ _
 refine ac ?_
 simp only[newExc,newTuple]
 refine ac (wpAny_newObj_type ?_ (by size_fits))
 refine ac (m:=firstArgMember _ _) (wpAny_of_eq (a:=Value.none) (by first|rfl|(simp only[firstArgMember];rfl)) ?_)
 refine wpAny_newObj_type ?_ (by size_fits)
 simp only[raiseNew]
 refine ac (wpAny_handled ?_)
 rw[show A.in1.handled=none from hh]
 refine ac (ah (wpAny_throw ?_))
 refine ac (wpAny_isInstance (T:= "StopIteration") (b:=true) ⟨_,bc _ rfl,rfl⟩ isSubtype_stop ?_)
 exact ah (hQ _ (((Heap.SameBut.update ..).extBut.push _).push _))
theorem collect_set1{S:Addr}{hs:Int}{v:Value}{j:Nat}{p:Bool}{Q:List Value→Shared→Prop}(hh:A.handled=none)(hS:s.heap.get? S=some (set1 w hs v j p))
  (hQ:∀h',Ext s.heap h'→Q [v] {s with heap:=h'}):wpAny (model prog w) A (collect (.ref S)) Q E s:=by
 have nS:S≠s.heap.objs.size:=fun q=>by rw[q,get?_size]at hS;cases hS
 unfold collect
 refine ac (wpAny_runValue (codeAny_builtin PySem.F.entry_proto_collect ?_))
 rw[Around.under_plainId PySem.F.plain_proto_collect _]
 show wpAny _ A.in1 (newList [] >>=fun l=>again (.builtin "list.__iadd__" ⟨[l, .ref S],[]⟩)) _ _ s
 refine ac (wpAny_newObj_type ?_)
 refine ah ⟨plainId_quiet PySem.F.plain_list_iadd _,codeAny_builtin PySem.F.entry_list_iadd ?_⟩
 rw[Around.under_plainId PySem.F.plain_list_iadd _]
 have hS1:(s.heap.push {cls:= .type "list",data:= .seq ([]:List Value).toArray}).get? S=some (set1 w hs v j p):=bd _ hS
 have hT1:Shared.TypeIs {s with heap:=s.heap.push {cls:= .type "list",data:= .seq ([]:List Value).toArray} } (.ref S) "set" :=⟨_,hS1,rfl⟩
 have hL:(s.heap.push {cls:= .type "list",data:= .seq ([]:List Value).toArray}).get? s.heap.objs.size=some {cls:= .type "list",data:= .seq ([]:List Value).toArray}:=bc _ rfl
 have X1:Ext s.heap (s.heap.push {cls:= .type "list",data:= .seq ([]:List Value).toArray}):=Ext.push _ _
 have n0:s.heap.get? s.heap.objs.size=none:=get?_size _
 show wpAny _ A.in1 (Builtin.List.listExtendWith (.ref s.heap.objs.size) (.ref S) (.ref s.heap.objs.size)) _ _ _
 generalize (s.heap.push {cls:= .type "list",data:= .seq ([]:List Value).toArray})=h1 at*
 generalize s.heap.objs.size=L at*
 unfold Builtin.List.listExtendWith
 refine ac (wpAny_typeOf hT1 ?_)
 have e1:Builtin.List.listSameRef (.ref L) (.ref S)=false:=by simp[Builtin.List.listSameRef,Ne.symm nS]
 have e2:(Value.type "set" ==Value.type "list")=false:=by decide
 have e3:(Value.type "set" ==Value.type "tuple")=false:=by decide
 simp only[e1,e2,e3,Bool.or_false,Bool.false_eq_true,if_false]
 refine ac (iter_set1 (s:= {s with heap:=h1}) hS1 ?_)
 refine ac (ak ?_)
 have hI:(h1.push (setIt S 0 0)).get? h1.objs.size=some (setIt S 0 0):=bc _ rfl
 have nI:h1.get? h1.objs.size=none:=get?_size _
 have hS2:(h1.push (setIt S 0 0)).get? S=some (set1 w hs v j p):=bd _ hS1
 have hT2:Shared.TypeIs {s with heap:=h1.push (setIt S 0 0)} (.ref S) "set" :=⟨_,hS2,rfl⟩
 have hL2:(h1.push (setIt S 0 0)).get? L=some {cls:= .type "list",data:= .seq ([]:List Value).toArray}:=bd _ hL
 have X2:Ext s.heap (h1.push (setIt S 0 0)):=X1.trans (Ext.push _ _)
 have nIL:h1.objs.size≠L:=fun q=>by rw[q,hL]at nI;cases nI
 have nIS:h1.objs.size≠S:=fun q=>by rw[q,hS1]at nI;cases nI
 have nI0:s.heap.get? h1.objs.size=none:=by
  cases e:s.heap.get? h1.objs.size with
  |none=>rfl
  |some o=>rw[X1 _ _ e]at nI;cases nI
 generalize (h1.push (setIt S 0 0))=h2 at*
 dsimp only
 generalize h1.objs.size=I at*
 unfold Builtin.List.listLengthHint
 refine ac (wpAny_specialOf hT2 PySem.F.slot_set_len.lookup ?_)
 have es:splitId "set.__len__" =some ("set","__len__"):=by decide+kernel
 dsimp only
 rw[es]
 dsimp only
 refine ac (wpAny_isInstance hT2 (show isSubtype (.type "set") (.type "set")=pure true by rw[isSubtype_type];kernel_rfl) ?_)
 refine wp_if_neg (by decide) ?_
 refine wp_if_pos (by decide+kernel) ?_
 refine ac (wpAny_typeOf hT2 ?_)
 dsimp only
 refine ah ?_
 refine wp_if_pos (by rfl) ?_
 refine ac (wpAny_rule ?_)
 refine ac ?_
 show wpAny _ A.in1 (updateSeq L (·.push .none)>>=fun Y=>updateSeq L (·.pop)) _ _ _
 refine ac (wpAny_updateSeq hL2 rfl ?_)
 have hL3:=Heap.get?_update_self (Obj.mapSeq (·.push Value.none)) hL2 rfl
 refine wpAny_updateSeq hL3 rfl ?_
 have hL4:=Heap.get?_update_self (Obj.mapSeq (·.pop)) hL3 rfl
 have sb4:=(Heap.SameBut.update h2 L (Obj.mapSeq (·.push Value.none))).trans (Heap.SameBut.update _ L (Obj.mapSeq (·.pop)))
 dsimp only
 generalize Heap.update (Heap.update h2 L _) L _=h4 at*
 have hI4:=(sb4.2 I nIL).trans hI
 have hS4:=(sb4.2 S nS).trans hS2
 refine ah ⟨plainId_quiet PySem.F.plain_extend_loop _,codeAny_builtin PySem.F.entry_extend_loop ?_⟩
 rw[Around.under_plainId PySem.F.plain_extend_loop _]
 show wpAny _ A.in1 (pyNext (.ref I)>>=_) _ _ _
 refine ac (next_first (s:= {s with heap:=h4}) hI4 hS4 fun h5 hI5 sb5=>?_)
 have hL5:=(sb5.2 L (Ne.symm nIL)).trans hL4
 have hS5:=(sb5.2 S (Ne.symm nIS)).trans hS4
 show wpAny _ A.in1 (updateSeq L (·.push v)>>=_) _ _ _
 refine ac (wpAny_updateSeq (s:= {s with heap:=h5}) hL5 rfl ?_ (by decide) (by show 1≤_;rw[bb];lia))
 have hL6:=Heap.get?_update_self (Obj.mapSeq (·.push v)) hL5 rfl
 have sb6:=Heap.SameBut.update h5 L (Obj.mapSeq (·.push v))
 dsimp only
 generalize Heap.update h5 L _=h6 at*
 refine ah ⟨plainId_quiet PySem.F.plain_extend_loop _,codeAny_builtin PySem.F.entry_extend_loop ?_⟩
 rw[Around.under_plainId PySem.F.plain_extend_loop _]
 show wpAny _ A.in1 (pyNext (.ref I)>>=_) _ _ _
 refine ac (next_second (s:= {s with heap:=h6}) hh ((sb6.2 I nIL).trans hI5) ((sb6.2 S nS).trans hS5) fun h7 x7=>?_)
 refine ah ?_
 have hL7:=x7 L _ (Ne.symm nIL) hL6
 refine ac (wpAny_load hL7 (ah ?_))
 refine hQ h7 fun a o ho=>x7 a o (fun q=>by rw[q,nI0]at ho;exact nn ho) (sb6.extBut a o (fun q=>by rw[q,n0]at ho;exact nn ho) (sb5.extBut a o (fun q=>by rw[q,nI0]at ho;exact nn ho) (sb4.extBut a o (fun q=>by rw[q,n0]at ho;exact nn ho) (X2 a o ho))))
end
end
section
section
variable{prog:Program}{w:World}{A:Around}{s:Shared}
theorem up_seq{h:Heap}{a:Addr}{c:Value}{xs:Array Value}{n:Nat}(f:Array Value→Array Value)(ho:h.get? a=some {cls:=c,data:= .seq xs n}):∃n',(h.update a (Obj.mapSeq f)).get? a=some {cls:=c,data:= .seq (f xs) n'}:=⟨_,Heap.get?_update_self _ ho rfl⟩
theorem sort_one{E:Value→Shared→Prop}{a:Addr}{f v:Value}{n:Nat}{P:PySem.Fin→Shared→Prop}(ho:s.heap.get? a=some (seqObj "list" #[v] n))
  (turn:∀h Q',(∀b o,s.heap.get? b=some o→b≠a→h.get? b=some o)→(∀k h' tk,Ext h h'→Q' k {s with heap:=h',toks:=tk})→wpAny (model prog w) A (call f [v]) Q' noE {s with heap:=h})
  (H:∀h' tk c,(∀b o,s.heap.get? b=some o→b≠a→h'.get? b=some o)→h'.get? a=some (seqObj "list" #[v] c)→P (.done (.ret .none)) {s with heap:=h',toks:=tk}):
  wpAny (model prog w) A (ksk_tree a f false) P E s:=by
 unfold ksk_tree
 refine ac (listItems_at ho rfl ?_)
 refine ac (listUpdate_at ho rfl ?_ (by show 1≤_;rw[bb];lia) (Nat.zero_le _))
 refine xE (⟨_,get?_update_seq ho fun Y=> #[]⟩:∃e1,(s.heap.update a (Obj.mapSeq fun Y=>(#[]:Array Value))).get? a=some (seqObj "list" #[] e1)) fun e1 ho1=>?_
 have s1:=Heap.SameBut.update s.heap a (Obj.mapSeq fun Y=>(#[]:Array Value))
 have K1:∀b o,s.heap.get? b=some o→b≠a→(s.heap.update a (Obj.mapSeq fun Y=>(#[]:Array Value))).get? b=some o:=fun b o hb ne=>(s1.2 b ne).trans hb
 have la:∀b,b≠a→s.heap.get? b=none→(s.heap.update a (Obj.mapSeq fun Y=>(#[]:Array Value))).get? b=none:=fun b ne hb=>(s1.2 b ne).trans hb
 generalize (s.heap.update a (Obj.mapSeq fun Y=>(#[]:Array Value)))=h1 at*
 refine ac (seqEpoch_at (s:= {s with heap:=h1}) ho1 rfl ?_)
 refine ac (wpAny_newTuple ?_ (by show 1≤_;rw[bb];lia))
 refine ac (wpAny_newList ?_ (Nat.zero_le _))
 refine ak ?_
 have hK:((h1.push {cls:= .type "tuple",data:= .seq #[v].toList.toArray}).push (seqObj "list" #[] 0)).get? (h1.push {cls:= .type "tuple",data:= .seq #[v].toList.toArray}).objs.size=some (seqObj "list" #[] 0):=bc _ rfl
 have X2:Ext h1 ((h1.push {cls:= .type "tuple",data:= .seq #[v].toList.toArray}).push (seqObj "list" #[] 0)):=(Ext.push _ _).trans (Ext.push _ _)
 have nK:h1.get? (h1.push {cls:= .type "tuple",data:= .seq #[v].toList.toArray}).objs.size=none:=by
  cases e:h1.get? (h1.push {cls:= .type "tuple",data:= .seq #[v].toList.toArray}).objs.size with
  |none=>rfl
  |some o=>have:=(Ext.push h1 {cls:= .type "tuple",data:= .seq #[v].toList.toArray}) _ _ e;rw[get?_size]at this;cases this
 show wpAny _ _ (ksk_rest a f false #[v] e1 (.ref (h1.push {cls:= .type "tuple",data:= .seq #[v].toList.toArray}).objs.size)) _ _ {s with heap:=(h1.push {cls:= .type "tuple",data:= .seq #[v].toList.toArray}).push (seqObj "list" #[] 0)}
 generalize ((h1.push {cls:= .type "tuple",data:= .seq #[v].toList.toArray}).push (seqObj "list" #[] 0))=h2 at*
 generalize (h1.push {cls:= .type "tuple",data:= .seq #[v].toList.toArray}).objs.size=kS at*
 have nKa:kS≠a:=fun q=>by rw[q,ho1]at nK;cases nK
 have nK0:∀b o,s.heap.get? b=some o→b≠kS:=fun b o hb q=>by
  by_cases e:b=a
  ·exact nKa (q.symm.trans e)
  ·have:=K1 b o hb e;rw[q,nK]at this;cases this
 unfold ksk_rest
 refine ac (wpAny_rule ?_)
 rw[←Array.forIn_toList]
 show wpAny _ _ (forIn [v] _ _>>=_) _ _ _
 rw[List.forIn_cons]
 refine ac (ac (ac (wpAny_attempt (aj (turn h2 _ (fun b o hb ne=>X2 _ _ (K1 b o hb ne)) (fun k h3 tk X3=>?_)) (fun Y Y z=>z) fun Y Y z=>z.elim))))
 dsimp only
 refine ac (listUpdate_at (s:= {s with heap:=h3,toks:=tk}) (X3 _ _ hK) rfl ?_ (Nat.zero_le _) (by show 1≤_;rw[bb];lia))
 refine xE (⟨_,get?_update_seq (X3 _ _ hK) (·.push k)⟩:∃e2,(h3.update kS (Obj.mapSeq (·.push k))).get? kS=some (seqObj "list" #[k] e2)) fun e2 hK4=>?_
 have s4:=Heap.SameBut.update h3 kS (Obj.mapSeq (·.push k))
 have ha4:(h3.update kS (Obj.mapSeq (·.push k))).get? a=some (seqObj "list" #[] e1):=(s4.2 a (Ne.symm nKa)).trans (X3 _ _ (X2 _ _ ho1))
 have K4:∀b o,s.heap.get? b=some o→b≠a→(h3.update kS (Obj.mapSeq (·.push k))).get? b=some o:=fun b o hb ne=>(s4.2 b (nK0 b o hb)).trans (X3 _ _ (X2 _ _ (K1 b o hb ne)))
 generalize (h3.update kS (Obj.mapSeq (·.push k)))=h4 at*
 refine ah ?_
 show wpAny _ _ (forIn [] _ _) _ _ _
 rw[List.forIn_nil]
 refine ah ?_
 refine ac (listItems_at (s:= {s with heap:=h4,toks:=tk}) hK4 rfl ?_)
 unfold ksk_end
 dsimp only
 rw[if_neg bq,if_pos (show(#[v]:Array Value).size<2 from Nat.lt_succ_self 1),if_pos (show(#[v]:Array Value).size<2 from Nat.lt_succ_self 1)]
 refine ac (ah ?_)
 rw[StateT.run_pure]
 refine ac (ah ?_)
 dsimp only
 rw[if_neg bq]
 unfold ksk_tail
 dsimp only
 refine ac (listUpdate_at (s:= {s with heap:=h4,toks:=tk}) hK4 rfl ?_ (by show 1≤_;rw[bb];lia) (Nat.zero_le _))
 have s5:=Heap.SameBut.update h4 kS (Obj.mapSeq (fun Y=>(#[]:Array Value)))
 have ha5:=(s5.2 a (Ne.symm nKa)).trans ha4
 dsimp only
 generalize (Heap.update h4 kS _)=h5 at*
 refine ac (wpAny_letGo ?_)
 refine ac (seqEpoch_at (s:= {s with heap:=h5,toks:=tk}) ha5 rfl ?_)
 have e0:(arrOf (SortSt.mk' general' (#[k].zip #[v]) #[] 7 none)).map (·.2)= #[v]:=by
  show((#[k].zip #[v]).map (·.2))= #[v]
  simp
 rw[e0]
 refine ac (listUpdate_at (s:= {s with heap:=h5,toks:=tk}) ha5 rfl ?_ (Nat.zero_le _) (by show 1≤_;rw[bb];lia))
 rw[if_neg (by simp)]
 refine xE (up_seq (fun Y=>(#[v]:Array Value)) ha5) fun e6 ha6=>?_
 refine ah (H _ _ e6 (fun b o hb ne=>?_) ha6)
 exact((Heap.SameBut.update h5 a _).2 b ne).trans ((s5.2 b (nK0 b o hb)).trans (K4 b o hb ne))
theorem sorted_one{E:Value→Shared→Prop}{S f:Addr}{hs:Int}{v:Value}{j:Nat}{p:Bool}{Q:Value→Shared→Prop}(hh:A.handled=none)(hS:s.heap.get? S=some (set1 w hs v j p))
  (turn:∀h Q',Ext s.heap h→(∀k h' tk,Ext h h'→Q' k {s with heap:=h',toks:=tk})→wpAny (model prog w) A.in1.in1 (call (.ref f) [v]) Q' noE {s with heap:=h})
  (H:∀L h' tk c,Ext s.heap h'→(∀a o,s.heap.get? a=some o→a<L)→h'.get? L=some (seqObj "list" #[v] c)→Q (.ref L) {s with heap:=h',toks:=tk}):
  wpAny (model prog w) A (call (.builtin "sorted") [.ref S] [(br "key", .ref f)]) Q E s:=by
 refine call_function_entry_kw kind_sorted plain_sorted entry_sorted (ksk_s1 _ _) ?_
 unfold Builtin.«sorted»
 refine ac (m:=checkCount "sorted" 1 1 _) (ah ?_)
 refine ac (collect_set1 hh hS fun h1 X1=>?_)
 refine ac (wpAny_newList ?_ (by show 1≤_;rw[bb];lia))
 have hL:(h1.push (seqObj "list" #[v] 0)).get? h1.objs.size=some (seqObj "list" #[v] 0):=bc _ rfl
 have nL:s.heap.get? h1.objs.size=none:=by
  cases e:s.heap.get? h1.objs.size with
  |none=>rfl
  |some o=>have:=X1 _ _ e;rw[get?_size]at this;cases this
 have lt:∀a o,s.heap.get? a=some o→a<h1.objs.size:=fun a o ho=>bh (X1 _ _ ho)
 have X2:Ext s.heap (h1.push (seqObj "list" #[v] 0)):=X1.trans (Ext.push _ _)
 show wpAny _ _ _ _ _ {s with heap:=h1.push (seqObj "list" #[v] 0)}
 dsimp only
 generalize (h1.push (seqObj "list" #[v] 0))=h2 at*
 generalize h1.objs.size=L at*
 refine ac (ak (wpAny_call_entry_kw slot_list_sort ⟨_,hL,rfl⟩ entry_list_sort ?body (ksk_l1 _ _)))
 case body=>
  have ht':=ksk_t1 f L
  show wpAny (model prog w) A.in1.in1 (Builtin.«list.sort» ⟨[.ref L],[(br "key", .ref f)]⟩) _ _ _
  rw[ht']
  refine sort_one (s:= {s with heap:=h2}) hL (fun h Q' k q=>turn h Q' (fun a o ho=>k a o (X2 a o ho) (fun e=>by rw[e,nL]at ho;exact nn ho)) q) fun h' tk c k hc=>?_
  exact⟨_,rfl,ah ⟨_,rfl,H L h' tk c (fun a o ho=>k a o (X2 a o ho) (fun e=>by rw[e,nL]at ho;exact nn ho)) lt hc⟩⟩
end
end
section
open PySem.Builtin PySem.Builtin.Str
theorem sub_none{nm:List Nat}(h:∀c∈nm,(c==125)=false)(i:Nat):subAt (sv nm) (br "}") i=false:=by
 cases e:subAt (sv nm) (br "}") i with
 |false=>rfl
 |true=>
  have e1:(sv nm).cps.extract i (i+(br "}").length)= #[125]:=eq_of_beq e
  have m:125∈(sv nm).cps.extract i (i+(br "}").length):=by rw[e1];simp
  rw[Array.mem_extract_iff_getElem]at m
  obtain⟨j,hj,q⟩:=m
  have:=h _ (show 125∈nm from by
   have:125∈(sv nm).cps:=by rw[←q];exact Array.getElem_mem _
   simpa[sv]using this)
  simp at this
theorem occ_none{nm:List Nat}(h:∀c∈nm,(c==125)=false)(lo hi k:Nat):occurrences (sv nm) (br "}") lo hi k=[]:=by
 unfold occurrences
 have fc:∀(l:List Nat) (x:Array Nat×Nat),l.foldl (fun (b:Array Nat×Nat) _=>(b.fst,b.snd)) x=x:=fun l=>by
  induction l with
  |nil=>intro x;rfl
  |cons a l ih=>intro x;exact ih x
 simp[sub_none h,Id.run]
 show(List.foldl (fun (b:Array Nat×Nat) _=>(b.fst,b.snd)) (#[],lo) _).fst.toList=[]
 rw[fc]
section
variable{prog:Program}{w:World}{A:Around}{E:Value→Shared→Prop}{s:Shared}
theorem split_none{nm:List Nat}(h:∀c∈nm,(c==125)=false){t u v:Tok}{Q:Value→Shared→Prop}(H:∀r h' tk,Ext s.heap h'→Q r {s with heap:=h',toks:=tk}):
  wpAny (model prog w) A (call (.builtin "str.split") [.str (sv nm) t, .str (br "}") u, .int 1 v]) Q E s:=by
 refine wpAny_call_entry PySem.F.slot_str_split (typeIs_str _ _ _) PySem.F.entry_str_split ?_ (PySem.F.args_str_split_3 _ _ _)
 refine xE (split_sep_max_tree (sv nm) (br "}") 1 t u v (by decide)) fun raising htree=>?_
 rw[htree]
 by_cases c:(decide ((sv nm).length<(br "}").length)||decide (strKind (sv nm)<strKind (br "}")))=true
 ·refine wy c ?_
  exact ac (wpAny_rule (ac (wpAny_newList (ah ⟨_,rfl,H _ _ _ (Ext.push _ _)⟩))))
 ·rw[if_neg c,if_neg (by decide+kernel),occ_none h,if_pos (by rfl)]
  exact ac (wpAny_rule (ac (wpAny_newList (ah ⟨_,rfl,H _ _ _ (Ext.push _ _)⟩))))
end
end
theorem WSt.places{g:Gnd}{h:Heap}{W:WA}{D:WD}(x:WSt g h W D):∀a,WM W a→∃o,h.get? a=some o:=fun a q=>x.live a (.inl q)
theorem TriplesOk_snoc{pos:Pos}{c:Value}:∀(l:List Value),TriplesOk l→TriplesOk (l++[rawInt pos.line,rawInt pos.col,c])
 |[],_=>trivial
 | .int _ _:: .int _ _::_::rest,h=>TriplesOk_snoc rest h
theorem hd213{g:Gnd}{mg mb:Str→Option Value}(B:Ground' g mg mb):CodeHd g.h₀ 213 211:=⟨ob213 g.w.params,_,_,_,_,_,_,_,_,B.K _ _ rfl,rfl,rfl,rfl,rfl,rfl,rfl,rfl,rfl,by decide⟩
theorem get?_ge{h:Heap}{a:Addr}(q:h.objs.size≤a):h.get? a=none:=by
 cases e:h.get? a with
 |none=>rfl
 |some o=>exact absurd (bh e) (Nat.not_lt.mpr q)
theorem WSt.ne211{g:Gnd}{h:Heap}{W:WA}{D:WD}(x:WSt g h W D){a:Addr}(q:a=W.wd∨a=W.lp∨a=W.ld∨a=W.ln∨a=W.lps):a≠211:=
 or5 (P:=fun b=>b≠211) q (sepN x.sep 0 5 rfl rfl rfl) (sepN x.sep 1 5 rfl rfl rfl) (sepN x.sep 2 5 rfl rfl rfl) (sepN x.sep 3 5 rfl rfl rfl) (sepN x.sep 4 5 rfl rfl rfl)
theorem lam_make{g:Gnd}{mg mb:Str→Option Value}(B:Ground' g mg mb){A:Around}{E:Value→Shared→Prop}{s:Shared}{W:WA}{D:WD}{env:Env}{params:Arguments}{body:Expr}{scope:Scope}{Q:Value→Shared→Prop}
  (hge:env.globals=mainNs) (hcode:env.code= .ref 213) (hqual:env.qual= "C14NWriterTarget._start.<locals>.") (base:Ext g.h₀ s.heap) (x:WSt g s.heap W D) (hcl:closureFor scope env=pure []) (hdef:defaultsOf params env=([],[]))
  (H:∀f c ctv pm h' tk,(∀a o,s.heap.get? a=some o→a≠211→h'.get? a=some o)→WSt g h' W D→h'.get? f=some (kla_obj "<lambda>" lamQual params body scope [] pm c ctv)→h'.CodeRec (.ref c) lamQual→s.heap.get? f=none→Q (.ref f) {s with heap:=h',toks:=tk}):
  wpAny (model g.prog g.w) A (eval (.Lambda params body scope lamPos) env) Q E s:=by
 refine kla_eval hdef ?_
 have eq:env.qual++ "<lambda>" =lamQual:=by rw[hqual];decide+kernel
 rw[eq]
 refine xEAA x.tab fun ps hp ht hh=>?_
 have hb:s.heap.BuiltinsAt mg 211:=by
  refine xEEAAAA B.bi fun bm o q1 q2 q3 q4 Y=>?_;refine xA Y fun q5 r=>?_
  exact⟨bm,o,q1,q2,q3,q4,base _ _ q5,r⟩
 have hng:s.heap.Ns mainGlobals mg:=B.ng.at' fun o e=>base _ _ e
 have C:CodeHd s.heap 213 211:=(hd213 B).keeps base
 refine Or.elim hh (fun e=>?_) fun Y=>xEAA Y fun c e hrec nm=>?_
 ·refine kla_makeFunction hcl hge hng hcode C hp ht e (by decide) hb fun c' ctv h' tk hx hge' hlt hrec ht'=>?_
  have K:∀a o,s.heap.get? a=some o→a≠211→(h'.push (kla_obj "<lambda>" lamQual params body scope [] ((mg "__name__").getD .none) c' ctv)).get? a=some o:=fun a o ho ne=>bd _ (hx a o ne ho)
  refine H _ c' ctv _ _ _ K ?_ (bc _ rfl) ?_ ?_
  ·refine x.turn (z:=211) (.inr (.inr (.inr (.inr (.inr rfl))))) (fun a o ne ho=>K a o ho ne) (.inl ⟨?_,rfl,rfl⟩) (.inl ⟨?_,rfl⟩) (.inl ⟨?_,rfl⟩) (.inl ⟨?_,rfl⟩) (.inl ⟨?_,rfl⟩) (.inr ⟨_,bd _ ht',?_, .inr ⟨c',?_,?_,?_⟩⟩)
   ·exact x.ne211 (.inl rfl)
   ·exact x.ne211 (.inr (.inl rfl))
   ·exact x.ne211 (.inr (.inr (.inl rfl)))
   ·exact x.ne211 (.inr (.inr (.inr (.inl rfl))))
   ·exact x.ne211 (.inr (.inr (.inr (.inr rfl))))
   ·simpa using TriplesOk_snoc ps.toList ht
   ·simpa using codeAmong_snoc ps.toList ht e
   ·exact hrec.push _
   ·intro q
    refine xE (x.places _ q) fun o ho=>?_
    exact absurd (bh ho) (Nat.not_lt.mpr hge')
  ·exact hrec.push _
  ·exact get?_ge (Nat.le_of_lt (Nat.lt_of_le_of_lt hge' hlt))
 ·refine kla_makeFunctionHit hcl hge hng hcode C hp ht e hb fun ctv h' tk hx hsz=>?_
  have K:Ext s.heap (h'.push {cls:= .type "function",data:= .func (kla_fn "<lambda>" lamQual params body scope [] ((mg "__name__").getD .none) (.ref c) ctv)}):=fun a o ho=>bd _ (hx a o ho)
  refine H _ c ctv _ _ _ (fun a o ho Y=>K a o ho) (x.ext K) (bc _ rfl) (hrec.keeps fun a o ho=>K a o ho) (get?_ge hsz)
noncomputable def lamGet:Stmt→Expr
 | .Assign _ (.DictComp _ _ (⟨_, .Call _ _ [⟨_,e,_⟩] _,_,_⟩::_) _ _) _=>e
 |_=> .Constant .none 0 ⟨0,0,0,0⟩
noncomputable def lamParts:Expr→Arguments×Expr×Scope
 | .Lambda a b s _=>(a,b,s)
 |_=>(⟨[],[],none,[],[],none,[]⟩, .Constant .none 0 ⟨0,0,0,0⟩,{kind:= .function,names:=[],isGenerator:=false,isCoroutine:=false})
noncomputable def lamPar:Arguments:=(lamParts (lamGet (nthS 6 (dC 70 8).body))).1
noncomputable def lamBody:Expr:=(lamParts (lamGet (nthS 6 (dC 70 8).body))).2.1
noncomputable def lamScope:Scope:=(lamParts (lamGet (nthS 6 (dC 70 8).body))).2.2
theorem lam_call{prog:Program}{w:World}{A:Around}{s:Shared}{f c:Addr}{qual:Str}{pm ctv:Value}{nm:List Nat}{t:Tok}{Q:Value→Shared→Prop}
  (hl:s.heap.NoLimit) (ok:A.depth<recursionLimit) (hnm:∀c∈nm,(c==125)=false) (ho:s.heap.get? f=some (kla_obj "<lambda>" qual lamPar lamBody lamScope [] pm c ctv)) (hcd:s.heap.CodeRec (.ref c) qual)
  (H:∀r h' tk,Ext s.heap h'→Q r {s with heap:=h',toks:=tk}):wpAny (model prog w) A (call (.ref f) [.str (sv nm) t]) Q noE s:=by
 refine wpAny_call (kla_callFunE ok ho rfl rfl rfl rfl hcd ?_)
 rw[show bindArgs (kla_fn "<lambda>" qual lamPar lamBody lamScope [] pm (.ref c) ctv) ⟨[.str (sv nm) t],[]⟩=pure [(br "n", .str (sv nm) t)] by kernel_rfl]
 refine ah (wpAny_newFunctionEnv (by show∀x∈lamScope.names,_;decide+kernel) (fun x hx=>by rw[cf.mp hx];kernel_rfl) (fun h₁ hns hsb=>⟨hl.fresh _ hsb,?_⟩) rfl)
 have K:Ext s.heap h₁:=fun b o e=>hsb.extBut b o (Nat.ne_of_lt (bh e)) (bd _ e)
 refine kla_codeExpr (aj (?_:wpAny _ _ _ (fun v s'=>Q v s') noE _) (fun Y Y z=>z) fun Y Y z=>z.elim)
 show wpAny _ _ (eval lamBody (envX qual lamScope s.heap.objs.size f (.ref c) [])) _ _ _
 show wpAny _ _ (eval (.Call (.Attribute (.Name _ _) _ _) [_,_] [] _) _) _ _ _
 refine bj (wpAny_Name (VarAt.load (v:= .str (sv nm) t) rfl (.inl ⟨rfl,_,hns,by simp⟩) ?_) (by decide+kernel))
 refine GM.split (callWith_method1 (splC (by rfl) (wpAny_Constant_str (splC (by rfl) (wpAny_Constant_int (spl0 ?_))))))
 refine split_none hnm fun r h' tk x=>?_
 exact H r h' _ (K.trans x)
theorem WSt.getB{g:Gnd}{mg mb:Str→Option Value}(B:Ground' g mg mb){A:Around}{E:Value→Shared→Prop}{s:Shared}{W:WA}{D:WD}(x:WSt g s.heap W D)(base:Ext g.h₀ s.heap){expr:Bool}{Q:Value→Shared→Prop}
  (H:∀q h',Ext s.heap h'→s.heap.get? q=none→h'.get? q=some (methodObj (.ref 178) (.ref W.wr))→Q (.ref q) {s with heap:=h',toks:=s.toks+1}):wpAny (model g.prog g.w) A (getAttr (.ref W.wr) "_qname" expr) Q E s:=by
 refine xEEEAAA x.dict fun ig es n hd hl hk hf=>?_
 have X:=B.K.keeps base
 refine get_bind (g:= .builtin "function.__get__") X ⟨x.inst,rfl,rfl,hd⟩ (plainGet_of (pg _ "_qname")).1 (findObj_fn (has_dict _) (f_qname _) (by kernel_rfl) (by kernel_rfl) (by decide+kernel) (by show lookIn _ (dictOf es n)=_;rw[lookIn_dict,getL_of hk,hf];rfl)) (plainGet_of (pg _ "_qname")).2 ?_
 refine wpAny_call (fn_get (s:= {s with toks:=s.toks+1}) X (beq_iff_eq.mp (is_fn _ 178 (by decide))) (handed_on rfl ?_))
 exact H _ _ (Ext.push _ _) (get?_size _) (bc _ rfl)
theorem callWith_bm{g:Gnd}{mg mb:Str→Option Value}(B:Ground' g mg mb){A:Around}{E:Value→Shared→Prop}{s:Shared}{W:WA}{env:Env}{pos:Pos}{q:Addr}{e:Expr}{Q:Value→Shared→Prop}
  (h:wpAny (model g.prog g.w) A (spliced (backTo pos (starEach [e] env))) (fun vs s₁=>Ext g.h₀ s₁.heap∧s₁.heap.get? q=some (methodObj (.ref 178) (.ref W.wr))∧codeAny (model g.prog g.w) A (.call (.ref 178) ⟨.ref W.wr::vs,[]⟩) (fun r s'=>match r with| .ok (.ret v)=>Q v s'| .ok _=>False| .error e=>E e s') s₁) E s)
  (he:starEach [e] env=(false,eval e env)::starEach [] env:=by rfl):wpAny (model g.prog g.w) A (callWith pos (.ref q) [] (backTo pos (starEach [e] env)) []) Q E s:=by
 rw[he]at h⊢
 refine callWith_of (by rfl) (keeps_M (K:=KW g.w.params) (q:=q) (f:=178) (self:= .ref W.wr) (by kernel_rfl)) (evalArgs_plain (aj h (fun vs s₁ Y=>xAA Y fun b hq z=>?_) fun Y Y z=>z))
 exact⟨⟨hq,B.K.keeps b⟩,wpAny_call (method_call hq z)⟩
theorem dict_one{g:Gnd}{mg mb:Str→Option Value}(B₀:Base g mg mb){env:Env}{ρ:Rho}{F M:Addr→Prop}{A:Around}{E:Value→Shared→Prop}{s:Shared}{nm:List Nat}{p:PV}{L:Addr}{cl:List (Str×Addr)}{x:Str}{px pk:Pos}{vx iter:Expr}{scope:Scope}{pos:Pos}
  {cn:List Str} (hh:A.handled=none) (I:Inv g env ρ s.heap F M) (hcn:Cn env cn) (hsc:scopeOk scope cn=true) (hL:Rv g.prog g.w s.heap F (.list [.str nm]) (.ref L)) (hcl:closureFor scope env=pure cl)
  (hx:okKind scope.names x=true) (hdb:(x==br "__debug__")=false)
  (hv:∀cenv F₁ M₁ h t Q',Inv g cenv (setR (filtR ρ scope.names) x (.val (.str nm))) h F₁ M₁→Ext s.heap h→(∀v h' g' t',Ext h h'→(AllBare s.gens→AllBare g')→Rv g.prog g.w h' (fun a=>∃o,h.get? a=some o) p v→Q' v {s with heap:=h',gens:=g',toks:=t'})→
   wpAny (model g.prog g.w) A (eval vx cenv) Q' noE {s with heap:=h,toks:=t})
  {PP:Addr→Addr→Shared→Prop}
  (H:∀D C h' g' t',Ext s.heap h'→s.heap.get? C=none→(∃m,h'.Ns C m)→(AllBare s.gens→AllBare g')→Rv g.prog g.w h' (fun a=>F a∨a=C) (.dict [nm] [p]) (.ref D)→PP D C {s with heap:=h',gens:=g',toks:=t'}):
  wpAny (model g.prog g.w) A (pyIter (.ref L)) (fun it s₂=>wpAny (model g.prog g.w) A newDict (fun acc s₃=>wpAny (model g.prog g.w) A (newFunctionEnv scope env.globals cl [] env.qual none .none (some env)) (fun cenv s₄=>
   codeAny (model g.prog g.w) A (.compStart (.DictComp (.Name x pk) vx [⟨.Name x px,iter,[],0⟩] scope pos) 0 it acc {cenv with scope:=relabel scope env}) (fun r s'=>r= .ok .next∧∃D,acc= .ref D∧PP D cenv.locals s') s₄) E s₃) E s₂) E s:=by
 refine iter_ok (A:=A) (x:=x) (px:=px) (items:=[.str nm]) rfl I.fl hh hL fun it h1 x1 io=>?_
 refine xEA (begin_ok I hcn hsc (Ext.refl _) x1 io {cls:= .type "dict",data:= .dict #[] } rfl) fun cl' hcl' Y=>?_;refine xEE Y fun II fp Y1=>?_;refine xEE Y1 fun wr P Y2=>?_;refine xEEEEA Y2 fun Md St F' Fo Y3 B=>?_;subst Y3
 have ecl:cl'=cl:=by
  have e:(pure cl':Sem _)=pure cl:=hcl'.symm.trans hcl
  injection e
 subst ecl
 unfold newDict
 refine ac (wpAny_alloc (ah ?_))
 refine newEnv_comp ?_
 have hsz:(h1.push {cls:= .type "dict",data:= .dict #[] }).objs.size=h1.objs.size+1:=Heap.size_push ..
 show codeAny _ A (.compStart _ 0 (.ref II) (.ref h1.objs.size) (compEnvC scope (cellsFrom ((h1.push {cls:= .type "dict",data:= .dict #[] }).objs.size+1) scope.names cl') (h1.push {cls:= .type "dict",data:= .dict #[] }).objs.size env)) _ _
 rw[hsz]
 have d4:(pushCells ((h1.push {cls:= .type "dict",data:= .dict #[] }).push {cls:= .type "dict",data:= .dict #[] }) scope.names).DictOf (PySem.strKind g.prog g.w) h1.objs.size []:=
  (Heap.DictOf.new h1).keep fun b o e=>pushCells_keeps _ _ _ _ (bd _ e)
 generalize hC:compEnvC scope (cellsFrom (h1.objs.size+1+1) scope.names cl') (h1.objs.size+1) env=cenv at B⊢
 have hCl:cenv.locals=h1.objs.size+1:=by rw[←hC];rfl
 show codeAny _ _ _ (fun r s'=>r= .ok .next∧∃D,Value.ref h1.objs.size= .ref D∧PP D (h1.objs.size+1) s') _
 rw[←hCl]
 generalize (pushCells ((h1.push {cls:= .type "dict",data:= .dict #[] }).push {cls:= .type "dict",data:= .dict #[] }) scope.names)=h4 at*
 have hDs:(h1.objs.size==sysModules)=false:=by
  refine beq_eq_false_iff_ne.mpr fun q=>?_
  refine xEEA I.low fun a o l ho=>?_
  have:=Nat.lt_of_le_of_lt l (bh (x1 _ _ (I.base _ _ ho)))
  rw[q]at this
  exact Nat.lt_irrefl _ this
 generalize h1.objs.size=D at*
 have hoF:∀a,Fo a→F' a:=fun a q=>(B.way.eqF a).mpr (.inl q)
 have hwrF:∀a,a∈wr→F' a:=fun a q=>(B.way.eqF a).mpr (.inr q)
 have wrfp:∀b∈wr,b∈fp:=B.way.turns.sub
 have apw:∀b∈wr,¬(b=cenv.locals∨∃n,cenv.cells.lookup n=some b)∧b≠D:=fun b hb=>B.way.apart b (wrfp b hb)
 have hDw:D∉wr:=fun q=>(apw D q).2 rfl
 have loop:∀s':Shared,s'= {s with heap:=h4}→
   codeAny (model g.prog g.w) A (.compLoop (.DictComp (.Name x pk) vx [⟨.Name x px,iter,[],0⟩] scope pos) 0 (.ref II) (.ref D) cenv) (fun r s'=>r= .ok .next∧∃D',Value.ref D= .ref D'∧PP D' cenv.locals s') s':=by
  rintro s' rfl
  refine dictcomp_step ?_
  refine B.way.turns.item 0 _ _ _ (Nat.zero_lt_one) B.st fun v h5 tk5 hMd hk5=>?_
  refine B.way.turns.go 0 v {s with heap:=h5,toks:=tk5} _ _ hMd fun h6 hP6 hst6 hk6=>?_
  have k46:∀b o,b∉wr→h4.get? b=some o→h6.get? b=some o:=fun b o hb ho=>hk6 b o hb (hk5 b o hb ho)
  have fl6:FL h6 F':=fun a q=>by
   by_cases hw:a∈wr
   ·exact B.way.live _ _ hst6 a (wrfp a hw)
   ·refine xE (B.inv.fl a q) fun o ho=>?_;exact⟨o,k46 a o hw ho⟩
  have U6:Up h4 F' h6 F':=fun a o ho nf=>⟨nf,k46 a o (fun q=>nf (hwrF a q)) ho⟩
  have I6:Inv g cenv (filtR ρ scope.names) h6 F' Fo:=B.inv.chgM U6 (fun a q o ho=>k46 a o (fun z=>B.way.wrF a z q) ho) (fun a o ho=>k46 a o (fun z=>by rw[B.way.wr0 a z]at ho;exact nn ho) (B.inv.base a o ho)) fl6 (fun Y q=>q) fun a q=>hoF a q
  have X6:Ext s.heap h6:=fun a o ho=>k46 a o (fun z=>B.old a o ho (.inr (.inr z))) (B.ext a o ho)
  refine bind_ok (s:= {s with heap:=h6,toks:=tk5}) I6 B.blk.bind hh (p:= .str nm) (oe_mk rfl (gd_mk hx rfl)) (B.way.item 0 v h6 (.str nm) hP6 rfl) (fun a o ho nf=>⟨B.way.new a o ho nf,k46 a o (fun q=>B.way.new a o ho nf (hwrF a q)) (B.keep a o ho)⟩) B.blk.hm fun h7 t7 m7 I7=>?_
  have X7:Ext s.heap h7:=fun a o ho=>m7 a o (X6 a o ho) fun q=>B.old a o ho (.inl q)
  refine ah ?_
  refine py rfl ?_
  refine nmS (s:= {s with heap:=h7,toks:=t7}) (y:=nm) I7 (by rw[setR_lookup,if_pos rfl]) fun tt=>?_
  refine hv cenv _ _ h7 t7 _ I7 X7 fun vv h8 g8 t8 x8 ab r8=>?_
  have notD:¬Own cenv (okKind scope.names) D:=by
   rintro (q|⟨n',_,q⟩)
   ·exact B.blk.dl q
   ·exact B.blk.dc n' D q rfl
  have d8:h8.DictOf (PySem.strKind g.prog g.w) D []:=d4.at fun o ho=>x8 D o (m7 D o (k46 D o hDw ho) notD)
  have X8:Ext s.heap h8:=X7.trans x8
  have I8:=I7.ext x8
  refine wpAny_dictSet_pairs (s:= {s with heap:=h8,gens:=g8,toks:=t8}) (k:=sv nm) (by simp[PySem.strKind,Value.isStrOf]) d8 (fun h9 d9 hs=>?_) (by simp)
  have kp:∀a o,a≠D→h8.get? a=some o→h9.get? a=some o:=fun a o ne ho=>hs.extBut a o ne ho
  have X9:Ext s.heap h9:=fun a o ho=>kp a o (fun q=>B.old a o ho (.inr (.inl q))) (X8 a o ho)
  have fp9:∀b∈fp,∀o,h6.get? b=some o→h9.get? b=some o:=fun b hb o ho=>kp b o (B.way.apart b hb).2 (x8 b o (m7 b o ho fun q=>(B.way.apart b hb).1 (by
   refine Or.elim q (fun q=>?_) fun Y=>xEA Y fun n' Y q=>?_
   ·exact .inl q
   ·exact .inr ⟨n',q⟩)))
  have st9:=B.way.turns.frame _ _ _ hst6 fp9
  refine dictcomp_step ?_
  refine B.way.turns.done {s with heap:=h9,gens:=g8,toks:=t8+1} _ _ st9 fun h10 tk10 hk10=>?_
  have X10:Ext s.heap h10:=fun a o ho=>hk10 a o (fun z=>B.old a o ho (.inr (.inr z))) (X9 a o ho)
  have d10:h10.DictOf (PySem.strKind g.prog g.w) D [(sv nm,vv)]:=by
   have:h9.DictOf (PySem.strKind g.prog g.w) D [(sv nm,vv)]:=d9
   exact this.at fun o ho=>hk10 D o hDw ho
  refine xE I8.loc fun mm hns=>?_
  have hns10:h10.Ns cenv.locals mm:=hns.at' fun o ho=>hk10 _ o (fun z=>(apw _ z).1 (.inl rfl)) (kp _ o (fun q=>B.blk.dl q.symm) ho)
  refine⟨rfl,D,rfl,H D _ h10 g8 _ X10 B.freshC ⟨mm,hns10⟩ ab (Rv.dict_iff.mpr ⟨_,[(sv nm,vv)],rfl,?_,hDs,d10,rfl,?_⟩)⟩
  ·rintro (q|q)
   ·exact B.notF q
   ·exact B.dc q
  have dD7:∃o,h7.get? D=some o:=by
   refine xEA (Heap.dictOf_iff.mp d4) fun o ho Y=>?_
   exact⟨_,m7 D _ (k46 D _ hDw ho) notD⟩
  show Exists _
  refine⟨_,_,rfl,r8.up (fun a o ho nf=>⟨fun q=>?_,?_⟩) _,rfl⟩
  ·refine Or.elim q (fun q=>?_) fun q=>?_
   ·refine xE (I.fl a q) fun o' ho'=>?_
    exact nf ⟨o',X7 _ _ ho'⟩
   ·refine xEEEEA I7.loc fun mm' q1 q2 q3 q4 Y=>?_
    exact nf ⟨_,q▸q4⟩
  ·refine hk10 a o (fun z=>nf ?_) (kp a o (fun q=>nf (q▸dD7)) ho)
   refine xE (B.way.live _ _ hst6 a (wrfp a z)) fun o' ho'=>?_
   exact⟨o',m7 a o' ho' fun q=>(apw a z).1 (by
    refine Or.elim q (fun q=>?_) fun Y=>xEA Y fun n' Y q=>?_
    ·exact .inl q
    ·exact .inr ⟨n',q⟩)⟩
 exact dictcomp_start (loop _ rfl) (B.self 0 _ _ _ B.st (loop _ rfl))
theorem storeC{g:Gnd}{env:Env}{sc:SC}{ρ:Rho}{F M:Addr→Prop}{A:Around}{E:Value→Shared→Prop}{s:Shared}(S:SOk g env sc)(I:Inv g env ρ s.heap F M)(o:OwnIs ρ sc.own)(m0:∀a,M a→g.h₀.get? a=none){x:Str}{px:Pos}(hx:sc.bk x=true)
  {D C:Addr} {h1:Heap} {g1:Array GenState} {t1:Nat} {p:PV} {Q:Unit→Shared→Prop} (x1:Ext s.heap h1) (fr:s.heap.get? C=none) (nm:∃m,h1.Ns C m) (r1:Rv g.prog g.w h1 (fun a=>F a∨a=C) p (.ref D))
  (H:∀h3 t3,Inv g env (setR ρ x (.val p)) h3 F M→OwnIs (setR ρ x (.val p)) sc.own→Mod M s.heap h3→Q () {s with heap:=h3,gens:=g1,toks:=t3}):
  wpAny (model g.prog g.w) A (assign (.Name x px) env (.ref D)) (fun Y s''=>∃m,s''.heap.Ns C m∧∀h'',Heap.SameBut C s''.heap h''→Q () {s'' with heap:=h''}) E {s with heap:=h1,gens:=g1,toks:=t1}:=by
 refine xE nm fun m nm=>?_
 have hCM:¬M C:=fun q=>by refine xE (I.fl C (I.sub C q)) fun o' ho=>?_;rw[fr]at ho;cases ho
 have I1:Inv g env ρ h1 (fun a=>F a∨a=C) M:=I.grow x1 (fun a q=> .inl q) (fun a o' ho nf=>by
  rintro (q|q)
  ·exact nf q
  ·subst q;rw[fr]at ho;exact nn ho) (by
  rintro a (q|q)
  ·exact(I.fl.ext x1) a q
  ·subst q;refine xEEEA nm fun o' Y Y ho Y=>?_;exact⟨o',ho⟩) (fun Y q=>q) fun a q=> .inl (I.sub a q)
 refine wpAny_assign_Name (st_store (s:= {s with heap:=h1,gens:=g1,toks:=t1}) S I1 o m0 hx r1 fun h2 t2 nx=>⟨m,nm.at' fun o' ho=>nx.mod C o' ho hCM,fun h3 hs3=>H h3 t2 ?_ nx.own ?_⟩)
 all_goals have k3:∀a o',a≠C→h2.get? a=some o'→h3.get? a=some o':=fun a o' ne ho=>hs3.extBut a o' ne ho
 ·have fl3:FL h3 F:=fun a q=>by
   refine xE (nx.inv.fl a (.inl q)) fun o' ho=>?_
   refine⟨o',k3 a o' (fun e=>?_) ho⟩
   subst e
   refine xE (I.fl _ q) fun o'' ho''=>?_;rw[fr]at ho'';cases ho''
  have hC0:g.h₀.get? C=none:=by
   cases e:g.h₀.get? C with
   |none=>rfl
   |some o'=>rw[I.base C o' e]at fr;cases fr
  exact nx.inv.chgM (fun a o' ho nf=>⟨fun q=>nf (.inl q),k3 a o' (fun e=>nf (.inr e)) ho⟩) (fun a q o' ho=>k3 a o' (fun e=>hCM (e▸q)) ho) (fun a o' ho=>k3 a o' (fun e=>by rw[e,hC0]at ho;exact nn ho) (nx.inv.base a o' ho)) fl3 (fun Y q=>q) I.sub
 ·intro a o' ho nm'
  exact k3 a o' (fun e=>by subst e;rw[fr]at ho;exact nn ho) (nx.mod a o' (x1 a o' ho) nm')
theorem dict_assign{g:Gnd}{mg mb:Str→Option Value}(B₀:Base g mg mb){env:Env}{sc:SC}{ρ:Rho}{F M:Addr→Prop}{A:Around}{s:Shared}{nm:List Nat}{p:PV}{L:Addr}{cl:List (Str×Addr)}{x y:Str}{px pk py:Pos}{vx iter:Expr}{scope:Scope}{pos:Pos}{Q:Value→Shared→Prop}
  {cn:List Str} (hh:A.handled=none) (S:SOk g env sc) (I:Inv g env ρ s.heap F M) (o:OwnIs ρ sc.own) (m0:∀a,M a→g.h₀.get? a=none) (hy:sc.bk y=true) (hcn:Cn env cn) (hsc:scopeOk scope cn=true) (hL:Rv g.prog g.w s.heap F (.list [.str nm]) (.ref L)) (hcl:closureFor scope env=pure cl)
  (hx:okKind scope.names x=true) (hdb:(x==br "__debug__")=false)
  (hv:∀cenv F₁ M₁ h t Q',Inv g cenv (setR (filtR ρ scope.names) x (.val (.str nm))) h F₁ M₁→Ext s.heap h→(∀v h' g' t',Ext h h'→(AllBare s.gens→AllBare g')→Rv g.prog g.w h' (fun a=>∃o,h.get? a=some o) p v→Q' v {s with heap:=h',gens:=g',toks:=t'})→
   wpAny (model g.prog g.w) A (eval vx cenv) Q' noE {s with heap:=h,toks:=t})
  (K:∀h3 g3 t3,Inv g env (setR ρ y (.val (.dict [nm] [p]))) h3 F M→OwnIs (setR ρ y (.val (.dict [nm] [p]))) sc.own→Mod M s.heap h3→(AllBare s.gens→AllBare g3)→Q .none {s with heap:=h3,gens:=g3,toks:=t3}):
  wpAny (model g.prog g.w) A (pyIter (.ref L)) (fun it s₂=>wpAny (model g.prog g.w) A newDict (fun acc s₃=>wpAny (model g.prog g.w) A (newFunctionEnv scope env.globals cl [] env.qual none .none (some env)) (fun cenv s₄=>
   codeAny (model g.prog g.w) A (.compStart (.DictComp (.Name x pk) vx [⟨.Name x px,iter,[],0⟩] scope pos) 0 it acc {cenv with scope:=relabel scope env}) (compPost (model g.prog g.w) A noE (some (assign (.Name y py) env)) Q acc cenv.locals) s₄) noE s₃) noE s₂) noE s:=by
 have hw:=dict_one (E:=noE) (pk:=pk) (px:=px) (iter:=iter) (pos:=pos) B₀ hh I hcn hsc hL hcl hx hdb hv
  (PP:=fun D C s'=>wpAny (model g.prog g.w) A (assign (.Name y py) env (.ref D)) (fun Y s''=>∃m,s''.heap.Ns C m∧∀h'',Heap.SameBut C s''.heap h''→Q .none {s'' with heap:=h''}) noE s')
  fun D C h' g' t' x1 fr nm' ab r=>storeC (s:=s) (Q:=fun Y s'=>Q .none s') S I o m0 hy x1 fr nm' r fun h3 t3 I3 o3 m3=>K h3 g' t3 I3 o3 m3 ab
 refine aj hw (fun it s₂ h₂=>aj h₂ (fun acc s₃ h₃=>aj h₃ (fun cenv s₄ h₄=>codeAny_mono h₄ fun r s' hr=>?_) fun Y Y e=>e) fun Y Y e=>e) fun Y Y e=>e
 obtain⟨rfl,D,rfl,hr⟩:=hr
 exact hr
section
section
variable{prog:Program}{w:World}{A:Around}{E:Value→Shared→Prop}{s:Shared}
theorem list_not_module:isSubtype (.type "list") (.type "module")=pure false:=by rw[isSubtype_type];kernel_rfl
theorem sigApp_some:(Manifest.signature? "list.append").isSome=true:=by kernel_rfl
noncomputable def sigApp:Manifest.Signature:=(Manifest.signature? "list.append").get sigApp_some
theorem sigApp_eq:Manifest.signature? "list.append" =some sigApp:=(Option.some_get sigApp_some).symm
theorem sigApp_ok(a b:Value):Bind.checkArgs "list.append" {sigApp with full:= "list.append"} ⟨[a,b],[]⟩=pure ():=by
 kernel_rfl
theorem kind_app:builtinKind "list.append" =some .method:=by decide+kernel
theorem app_va:Manifest.varargsMethods.contains "list.append" =false:=by decide+kernel
theorem check_append{l:Addr}{xs:Array Value}{v:Value}{Q:Unit→Shared→Prop}(hl:s.heap.PlainList l xs)(h:Q () s):wpAny (model prog w) A (checkBoundCall "list.append" ⟨[.ref l,v],[]⟩) Q E s:=by
 have hT:s.TypeIs (.ref l) "list" :=hl.isList.typeIs
 refine xE hl fun n ho=>?_
 unfold checkBoundCall
 rw[sigApp_eq,kind_app]
 dsimp only
 refine wp_if_neg (by decide) ?_
 refine ac (wpAny_isInstance hT list_not_module ?_)
 refine wp_if_neg (by rw[app_va];decide) ?_
 unfold isType
 refine ac (ac ?_)
 unfold loadHead
 refine wpAny_loadPart ho (ah ?_)
 refine wp_if_neg (by exact bq) ?_
 refine ac (wpAny_typeOf hT ?_)
 dsimp only
 rw[show(toString (Bind.lastOf "list")++toString "." ++toString (Bind.lastOf "list.append"):String)= "list.append" by decide+kernel]
 exact wpAny_of_eq (sigApp_ok _ _) h
end
section
variable{g:Gnd}{h h':Heap}{W:WA}{D:WD}
theorem WSt.turnP(x:WSt g h W D)(k:∀a o,a≠W.lp→h.get? a=some o→h'.get? a=some o){ps:List (List Nat)}(n:ps.length≤100000)(e:∃vs,h'.PlainList W.lp vs∧Rvs g.prog g.w h' (fun Y=>False) (ps.map PV.str) vs.toList):WSt g h' W {D with ps:=ps}:=
 x.turn (z:=W.lp) (.inr (.inl rfl)) k (.inl ⟨sepN x.sep 0 1 rfl rfl rfl,rfl,rfl⟩) (.inr ⟨n,e⟩) (.inl ⟨sepN x.sep 2 1 rfl rfl rfl,rfl⟩) (.inl ⟨sepN x.sep 3 1 rfl rfl rfl,rfl⟩) (.inl ⟨sepN x.sep 4 1 rfl rfl rfl,rfl⟩) (.inl (sepN x.sep 5 1 rfl rfl rfl))
theorem WSt.turnD(x:WSt g h W D)(k:∀a o,a≠W.ld→h.get? a=some o→h'.get? a=some o){es:List Addr}(n:es.length≤1000)(e:h'.PlainList W.ld ((W.t0::es).map Value.ref).toArray)(q:∀e∈es,h'.PlainList e #[]∧¬WM W e):WSt g h' W {D with es:=es}:=
 x.turn (z:=W.ld) (.inr (.inr (.inl rfl))) k (.inl ⟨sepN x.sep 0 2 rfl rfl rfl,rfl,rfl⟩) (.inl ⟨sepN x.sep 1 2 rfl rfl rfl,rfl⟩) (.inr ⟨n,e,q⟩) (.inl ⟨sepN x.sep 3 2 rfl rfl rfl,rfl⟩) (.inl ⟨sepN x.sep 4 2 rfl rfl rfl,rfl⟩) (.inl (sepN x.sep 5 2 rfl rfl rfl))
theorem WSt.turnN(x:WSt g h W D)(k:∀a o,a≠W.ln→h.get? a=some o→h'.get? a=some o){ns:List Value}(n:ns.length≤1000)(e:h'.PlainList W.ln ns.toArray):WSt g h' W {D with ns:=ns}:=
 x.turn (z:=W.ln) (.inr (.inr (.inr (.inl rfl)))) k (.inl ⟨sepN x.sep 0 3 rfl rfl rfl,rfl,rfl⟩) (.inl ⟨sepN x.sep 1 3 rfl rfl rfl,rfl⟩) (.inl ⟨sepN x.sep 2 3 rfl rfl rfl,rfl⟩) (.inr ⟨n,e⟩) (.inl ⟨sepN x.sep 4 3 rfl rfl rfl,rfl⟩) (.inl (sepN x.sep 5 3 rfl rfl rfl))
theorem WSt.turnS(x:WSt g h W D)(k:∀a o,a≠W.lps→h.get? a=some o→h'.get? a=some o){lv:Nat}(n:lv≤1000)(e:h'.PlainList W.lps (List.replicate lv (Value.bool false)).toArray):WSt g h' W {D with lv:=lv}:=
 x.turn (z:=W.lps) (.inr (.inr (.inr (.inr (.inl rfl))))) k (.inl ⟨sepN x.sep 0 4 rfl rfl rfl,rfl,rfl⟩) (.inl ⟨sepN x.sep 1 4 rfl rfl rfl,rfl⟩) (.inl ⟨sepN x.sep 2 4 rfl rfl rfl,rfl⟩) (.inl ⟨sepN x.sep 3 4 rfl rfl rfl,rfl⟩) (.inr ⟨n,e⟩) (.inl (sepN x.sep 5 4 rfl rfl rfl))
theorem WSt.turnW(x:WSt g h W D)(k:∀a o,a≠W.wd→h.get? a=some o→h'.get? a=some o){seen done:Bool}(e:∃ig,IDict h' W.wd (wmap W {D with seen:=seen,done:=done} ig) 30):WSt g h' W {D with seen:=seen,done:=done}:=
 x.turn (z:=W.wd) (.inl rfl) k (.inr e) (.inl ⟨sepN x.sep 1 0 rfl rfl rfl,rfl⟩) (.inl ⟨sepN x.sep 2 0 rfl rfl rfl,rfl⟩) (.inl ⟨sepN x.sep 3 0 rfl rfl rfl,rfl⟩) (.inl ⟨sepN x.sep 4 0 rfl rfl rfl,rfl⟩) (.inl (sepN x.sep 5 0 rfl rfl rfl))
end
theorem bm_keeps{M:Model}{q:Addr}{lp:Addr}(h:Heap)(X:h.get? q=some ⟨.type "builtin_function_or_method",none, .fields #[.builtin "list.append", .ref lp], #[]⟩):∃k,(k=Keeper.frame∨k=Keeper.machine∨k=Keeper.boundFrame)∧Looks M h (keeperOf (.ref q)) k:=by
 refine⟨.machine, .inr (.inl rfl),(Looks.ld (part:=none) X).andThen ?_⟩
 exact .now
theorem write_call{g:Gnd}{A:Around}{E:Value→Shared→Prop}{s:Shared}{W:WA}{D:WD}{y:List Nat}{t:Tok}{Q:Value→Shared→Prop}(x:WSt g s.heap W D)(hp:D.ps.length<100000)
  (H:∀h',WSt g h' W {D with ps:=D.ps++[y] }→Heap.SameBut W.lp s.heap h'→Q .none {s with heap:=h'}):wpAny (model g.prog g.w) A (call (.ref W.bm) [.str (sv y) t]) Q E s:=by
 refine xEA x.lp fun vs hl rs=>?_
 have hsz:vs.size≤100000:=by
  have:=rs.length;rw[List.length_map,cp]at this;rw[this];exact x.psb
 refine wpAny_call (codeAny_of_tree ?_)
 show wpAny _ _ (callAny (.ref W.bm) _) _ _ _
 unfold callAny
 refine ac (wpAny_load x.bm ?_)
 dsimp only
 refine wp_if_pos (by decide) ?_
 show wpAny _ _ (if(Value.type "builtin_function_or_method" !=Value.type "method")=true then(do
    checkBoundCall "list.append" {pos:=[.ref W.lp,Value.str (sv y) t] }
    again (Code.builtin "list.append" {pos:=[.ref W.lp,Value.str (sv y) t] }))else _) _ _ _
 refine wp_if_pos (by decide) ?_
 refine ac (check_append hl ?_)
 refine ah ⟨Code.quiet_builtin _ (by decide+kernel),codeAny_builtin entry_list_append ?_⟩
 refine xE hl fun n ho=>?_
 show wpAny _ _ (updateSeq W.lp (·.push (.str (sv y) t))>>=fun Y=>ret .none) _ _ s
 refine ac (wpAny_updateSeq ho rfl (ah ?_) (by rw[bb];lia) (by rw[Array.size_push,bb];lia))
 have sb:=Heap.SameBut.update s.heap W.lp (Obj.mapSeq (·.push (.str (sv y) t)))
 have hl':=up_seq (·.push (.str (sv y) t)) ho
 refine H _ (x.turnP (fun a o ne ho=>sb.extBut a o ne ho) (by simp;lia) ⟨_,hl',?_⟩) sb
 rw[Array.toList_push,List.map_append]
 exact Rvs.append (Rvs.flat (by simp[flatPV]) rs) (.cons (Rv.str_iff.mpr ⟨_,rfl⟩) .nil)
end
section
structure Here(g:Gnd)(W:WA)(D:WD)(env:Env)(ρ:Rho)(hs h:Heap):Prop where
 inv:Inv g env ρ h (fun a=>WM W a∨OwnOf env a) (OwnOf env)
 w:WSt g h W D
 old:Mod (WM W) hs h
 new:∀a,OwnOf env a→hs.get? a=none
 live:∀a,WM W a∨WR W a∨a∈D.es→¬OwnOf env a
theorem own_not_code{g:Gnd}{env:Env}{ρ:Rho}{h:Heap}{F M:Addr→Prop}(I:Inv g env ρ h F M){c:Addr}{q:Str}(hc:h.CodeRec (.ref c) q):¬OwnOf env c:=by
 refine xEEEEAAA hc fun c' o vs t e ho hd Y=>?_
 cases e
 rintro (q|⟨n,q⟩)
 ·refine xEEEEAA I.loc fun m o' es ep ho' hd' Y=>?_
  rw[←q,ho]at ho';cases ho'
  rw[hd]at hd';cases hd'
 ·refine xAAE (I.cel n c q) fun Y9 Y9 v Y=>?_;refine xEA Y fun o' ho' hd'=>?_
  rw[ho]at ho';cases ho'
  rw[hd]at hd';cases hd'
theorem WSt.code{g:Gnd}{h:Heap}{W:WA}{D:WD}(x:WSt g h W D){a:Addr}(q:WC h a):h.CodeRec (.ref a) lamQual:=by
 refine xEA q fun ps hp hc=>?_
 refine xEAA x.tab fun ps' hp' Y hh=>?_
 rw[hp']at hp
 have:ps'=ps:=by
  have:=congrArg (fun o:Option Obj=>match o with|some ⟨_,_, .fields v,_⟩=>some v|_=>none) hp
  simpa[tabObj]using this
 subst this
 refine Or.elim hh (fun e=>?_) fun Y=>xEAA Y fun c e r Y=>?_
 ·rw[e]at hc;exact nn hc
 ·rw[e]at hc;cases hc;exact r
section
variable{g:Gnd}{W:WA}{D:WD}{env:Env}{ρ:Rho}{hs h h':Heap}
theorem Here.base(H:Here g W D env ρ hs h):Ext g.h₀ h:=H.inv.base
theorem Here.ext(H:Here g W D env ρ hs h)(x:Ext h h'):Here g W D env ρ hs h':=⟨H.inv.ext x,H.w.ext x,H.old.trans (x.mod _),H.new,H.live⟩
theorem Here.keep(H:Here g W D env ρ hs h){a:Addr}{o:Obj}(ho:hs.get? a=some o)(n:¬WM W a):h.get? a=some o:=H.old a o ho n
theorem Here.own(H:Here g W D env ρ hs h){ρ':Rho}(m:Mod (OwnOf env) h h')(I:Inv g env ρ' h' (fun a=>WM W a∨OwnOf env a) (OwnOf env)):Here g W D env ρ' hs h':=by
 refine⟨I,H.w.mod m fun a q z=>?_,fun a o ho n=>m a o (H.old a o ho n) fun q=>(by rw[H.new a q]at ho;exact nn ho),H.new,H.live⟩
 refine Or.elim q (fun q=>?_) fun Y=>Or.elim Y (fun q=>?_) fun Y=>Or.elim Y (fun q=>?_) fun q=>?_
 ·exact H.live a (.inl q) z
 ·exact H.live a (.inr (.inl q)) z
 ·exact H.live a (.inr (.inr q)) z
 ·exact own_not_code H.inv (H.w.code q) z
theorem Here.turn(H:Here g W D env ρ hs h){D':WD}{z:Addr}(hz:WM W z)(k:∀a o,a≠z→h.get? a=some o→h'.get? a=some o)(x:WSt g h' W D')(he:∀e∈D'.es,¬OwnOf env e):Here g W D' env ρ hs h':=by
 refine⟨H.inv.other k (.inl hz) (H.live z (.inl hz)) (H.w.wm0 z hz) (x.places z hz),x,fun a o ho n=>k a o (fun q=>n (q▸hz)) (H.old a o ho n),H.new,?_⟩
 rintro a (q|q|q)
 ·exact H.live a (.inl q)
 ·exact H.live a (.inr (.inl q))
 ·exact he a q
theorem Here.hm(H:Here g W D env ρ hs h)(b:Ext g.h₀ hs):∀a,OwnOf env a→g.h₀.get? a=none:=fun a q=>by
 cases e:g.h₀.get? a with
 |none=>rfl
 |some o=>have:=b a o e;rw[H.new a q]at this;cases this
end
section
variable{g:Gnd}{mg mb:Str→Option Value}{W:WA}{D:WD}{env:Env}{ρ:Rho}{hs:Heap}{A:Around}{E:Value→Shared→Prop}{s:Shared}{p p2:Pos}{x name:Str}{Q:Value→Shared→Prop}
theorem Here.store(H:Here g W D env ρ hs s.heap)(b:Ext g.h₀ hs){bk:Str→Bool}(hb:Bindable env bk)(hx:bk x=true){v:Value}{q:PV}{Q:Unit→Shared→Prop}(r:Rv g.prog g.w s.heap (fun a=>WM W a∨OwnOf env a) q v)
  (K:∀h' t',Here g W D env (setR ρ x (.val q)) hs h'→Mod (OwnOf env) s.heap h'→Q () {s with heap:=h',toks:=t'}):wpAny (model g.prog g.w) A (storeName env x v) Q E s:=
 store_own H.inv hb hx (fun a q=>H.hm b a q.of) r fun h' t' m I=>K h' t' (H.own (m.mono fun a q=>q.of) I) (m.mono fun a q=>q.of)
theorem Here.attr(B:Ground' g mg mb)(H:Here g W D env ρ hs s.heap)(hx:ρ.lookup x=some (.val (.obj (.ref W.wr)))){v:Value}(hw:name∈wattrs)(hm:∀ig,wmap W D ig name=some v)(hv:handedIn v=true)(K:Q v {s with toks:=s.toks+1}):
  wpAny (model g.prog g.w) A (eval (.Attribute (.Name x p) name p2) env) Q E s:=
 Attribute_name (nmO H.inv hx (H.w.getA B H.base hw hm hv K))
end
theorem callWith_write{g:Gnd}{A:Around}{E:Value→Shared→Prop}{s:Shared}{W:WA}{env:Env}{pos:Pos}{e:Expr}{Q:Value→Shared→Prop}
  (h:wpAny (model g.prog g.w) A (spliced (backTo pos (starEach [e] env))) (fun vs s₁=>∃D y t,vs=[.str (sv y) t]∧WSt g s₁.heap W D∧D.ps.length<100000∧∀h',WSt g h' W {D with ps:=D.ps++[y] }→Heap.SameBut W.lp s₁.heap h'→Q .none {s₁ with heap:=h'}) E s)
  (he:starEach [e] env=(false,eval e env)::starEach [] env:=by rfl):wpAny (model g.prog g.w) A (callWith pos (.ref W.bm) [] (backTo pos (starEach [e] env)) []) Q E s:=by
 rw[he]at h⊢
 refine callWith_of (P:=fun h=>h.get? W.bm=some ⟨.type "builtin_function_or_method",none, .fields #[.builtin "list.append", .ref W.lp], #[]⟩) (by rfl) bm_keeps (evalArgs_plain (aj h (fun vs s₁ Y=>xEEEAAA Y fun D y t e x n z=>?_) fun Y Y z=>z))
 subst e
 exact⟨x.bm,write_call x n z⟩
theorem WSt.set{g:Gnd}{mg mb:Str→Option Value}(B:Ground' g mg mb){A:Around}{E:Value→Shared→Prop}{s:Shared}{W:WA}{D:WD}(x:WSt g s.heap W D)(base:Ext g.h₀ s.heap){name:Str}{v:Value}{seen done:Bool}{Q:Unit→Shared→Prop}
  (hw:name∈wattrs) (hn:∀ig,(wmap W D ig name).isSome=true) (hm:∀ig y,(if y=name then some v else wmap W D ig y)=wmap W {D with seen:=seen,done:=done} ig y)
  (K:∀h',WSt g h' W {D with seen:=seen,done:=done}→Heap.SameBut W.wd s.heap h'→Q () {s with heap:=h',toks:=s.toks+2}):wpAny (model g.prog g.w) A (setAttr (.ref W.wr) name v) Q E s:=by
 refine xE x.dict fun ig d=>?_
 refine setA (K:=KW g.w.params) (B.K.keeps base) x.inst d (by lia) (own_set _) (plain_over _) (no_taker _ _ hw) (has_dict _) fun h' d' sb=>K h' (x.turnW (fun a o ne ho=>sb.extBut a o ne ho) ⟨ig,?_⟩) sb
 rw[if_pos (hn ig)]at d'
 rw[show(fun y=>if y=name then some v else wmap W D ig y)=wmap W {D with seen:=seen,done:=done} ig from funext (hm ig)]at d'
 exact d'
theorem set_seen{W:WA}{D:WD}(ig:Tok)(y:Str):(if y=br "_root_seen"then some (Value.bool true)else wmap W D ig y)=wmap W {D with seen:=true,done:=D.done} ig y:=by
 by_cases h:y=br "_root_seen"
 ·subst h;rw[if_pos rfl];kernel_rfl
 ·rw[if_neg h]
  have hb:(y==br "_root_seen")=false:=beq_eq_false_iff_ne.mpr h
  unfold wmap wlist
  simp only[List.lookup,hb]
theorem set_done{W:WA}{D:WD}(b:Bool)(ig:Tok)(y:Str):(if y=br "_root_done"then some (Value.bool b)else wmap W D ig y)=wmap W {D with seen:=D.seen,done:=b} ig y:=by
 by_cases h:y=br "_root_done"
 ·subst h;rw[if_pos rfl];kernel_rfl
 ·rw[if_neg h]
  have hb:(y==br "_root_done")=false:=beq_eq_false_iff_ne.mpr h
  unfold wmap wlist
  simp only[List.lookup,hb]
theorem tup0{g:Gnd}{A:Around}{E:Value→Shared→Prop}{s:Shared}{e0:Expr}{env:Env}{k:Nat}{p pos:Pos}{Q:Value→Shared→Prop}
  (h:wpAny (model g.prog g.w) A (eval e0 env) (fun v s'=>∃F a rest,Rv g.prog g.w s'.heap F (.tuple (.str a::rest)) v∧∀t,Q (.str (sv a) t) {s' with toks:=s'.toks+1}) E s):
  wpAny (model g.prog g.w) A (eval (.Subscript e0 (.Constant (.int 0) k p) pos) env) Q E s:=by
 refine sub_gen (fun Y Y=> .inl rfl) (aj h (fun v s' Y=>xEEEA Y fun F a rest r q=>?_) fun Y Y z=>z)
 refine xEEAAA (Rv.tuple_iff.mp r) fun T vs Y Y9 ht rs=>?_;subst Y
 refine xEEAA rs fun v0 r0 e rv Y=>?_
 refine xE (Rv.str_iff.mp rv) fun t Y=>?_;subst Y
 have e':vs=(.str (sv a) t::r0).toArray:=by rw[←e,Array.toArray_toList]
 subst e'
 refine wpAny_Constant_int ⟨PyProof.Rows.getItem_tuple (s:= {s' with toks:=s'.toks+1}) ht (by decide) (by decide) (j:=0) ?_ rfl (q t),"tuple",_,?_,PySem.F.slot_tuple_getitem.lookup⟩
 ·simp[seqIndex?]
 ·refine xEAA ht fun o ho hc Y=>?_;exact⟨o,ho,hc⟩
theorem sv_lt(nm:List Nat):br "<" ++sv nm=sv (60::nm):=by
 show(⟨(br "<").cps++nm.toArray⟩:Str)=⟨(60::nm).toArray⟩
 rw[show(br "<").cps= #[60] by decide+kernel]
 simp
theorem findK1(nm:List Nat)(p:PV):subPV (.dict [nm] [p]) (.str nm)=some p:=by
 show(if(nm==nm)=true then some p else _)=some p
 rw[if_pos (beq_self_eq_true nm)]
end
noncomputable def fnS:FuncData:=fd (dC 70 8) (z "C14NWriterTarget._start") 3 (.ref 209) .none (vs "cpy313.xml.etree.ElementTree" 2557) (.ref 213) 0
theorem fnS_at{g:Gnd}{mg mb:Str→Option Value}(B:Ground' g mg mb):FnAt g 214 fnS (dC 70 8).body:=by
 refine⟨⟨ob214 g.w.params,B.K _ _ rfl,rfl⟩,rfl,rfl,rfl,rfl,codeRec_of B.K (by kernel_rfl),rfl,rfl⟩
theorem fnS_bind{g:Gnd}{mg mb:Str→Option Value}(B:Ground' g mg mb){s:Shared}(base:Ext g.h₀ s.heap)(a b c d:Value):BindsTo s fnS ⟨[a,b,c,d],[]⟩ ((["self","tag","attrs","new_namespaces","qname_text"]:List Str).zip [a,b,c,d, .none]):=
 BindsTo.of_defaults (T:=209) (o:=ob209 g.w.params) (items:= #[.none]) (n:=0) rfl (base _ _ (B.K _ _ rfl)) rfl rfl rfl
theorem WSt.nMain{g:Gnd}{h:Heap}{W:WA}{D:WD}(x:WSt g h W D){a:Addr}(q:∃o,g.h₀.get? a=some o):¬WM W a:=fun z=>by
 refine xE q fun o ho=>?_;rw[x.wm0 a z]at ho;cases ho
theorem Base.mainLive{g:Gnd}{mg mb:Str→Option Value}(B:Base g mg mb):(∃o,g.h₀.get? mainNs=some o)∧(∃o,g.h₀.get? builtinsNs=some o):=by
 refine xEEEA B.ng fun o Y Y ho Y=>?_;refine xEEEA B.nb fun o' Y Y ho' Y=>?_
 exact⟨⟨o,ho⟩,⟨o',ho'⟩⟩
noncomputable def dcOf:Stmt→Expr
 | .Assign _ e _=>e
 |_=> .Constant .none 0 ⟨0,0,0,0⟩
noncomputable def dcScope:Expr→Scope
 | .DictComp _ _ _ s _=>s
 |_=> {kind:= .function,names:=[],isGenerator:=false,isCoroutine:=false}
theorem dc_free:∀y∈(dcScope (dcOf (nthS 6 (dC 70 8).body))).names,y.2= .free→y.1=br "parse_qname" :=by decide+kernel
theorem noDict{h:Heap}{a:Addr}{o:Obj}(ho:h.get? a=some o)(hd:o.dict=none):∀b,Value.ref a= .ref b→∃o,h.get? b=some o∧o.dict=none:=fun b hb=>by
 cases hb;exact⟨o,ho,hd⟩
theorem mapE{prog:Program}{w:World}{h:Heap}{ad:Addr}(k:h.get? ad=some eD):h.MapOf (strKind prog w) ad fun Y=>none:=⟨_, #[],0,k,⟨rfl,rfl,rfl⟩,rfl,(fun e he=>by simp at he),fun Y=>rfl⟩
theorem get1_none{prog:Program}{w:World}{A:Around}{E:Value→Shared→Prop}{s:Shared}{env:Env}{pos p:Pos}{x:Str}{k:Nat}{ad:Addr}{Q:Value→Shared→Prop}(hd:(ad==sysModules)=false)(k':s.heap.get? ad=some eD)(h:Q .none {s with toks:=s.toks+1+1}):
  wpAny (model prog w) A (callWith pos (.builtin "dict.get") [.ref ad] (backTo pos (starEach [.Constant (.str x) k p] env)) []) Q E s:=by
 show wpAny _ _ (callWith pos (.builtin "dict.get") [.ref ad] [(false,do let v ←eval (.Constant (.str x) k p) env;standAt pos;pure v)] []) _ _ _
 exact wpAny_dict_get1 (knd:=strKind prog w) hd (ac (wpAny_Constant_str (ac (aw (ah ⟨_,_,beq_self_eq_true _,mapE k',h⟩)))))
noncomputable def stR(wr ad e:Addr)(nm:List Nat):Rho:=argsR ["self","tag","attrs","new_namespaces","qname_text"] [.obj (.ref wr), .str nm, .obj (.ref ad), .obj (.ref e), .none] []
theorem start_body{g:Gnd}{mg mb:Str→Option Value}(B:Ground' g mg mb){A:Around}{s:Shared}{W:WA}{D:WD}{nm:List Nat}{t:Tok}{ad e:Addr}{R:Result→Shared→Prop}
  (ok:AOk (45+g.K) A) (base:Ext g.h₀ s.heap) (x:WSt g s.heap W D) (hnm:NmOk nm) (hset1:mg "set" =none) (hset2:mb "set" =some (.type "set")) (hso1:mg "sorted" =none) (hso2:mb "sorted" =some (.builtin "sorted"))
  (hps:D.ps.length+2≤100000) (hns:D.ns.length+1≤1000) (hlv:D.lv+1≤1000) (hl1:1≤D.lv) (had:s.heap.get? ad=some eD) (nad:¬WM W ad) (adm:(ad==sysModules)=false) (he:s.heap.PlainList e #[]) (ne:¬WM W e)
  (H:∀a h' g' t',WSt g h' W {D with ps:=D.ps++[60::nm]++[[62]],ns:=D.ns++[.ref a],lv:=D.lv+1,seen:=true}→Mod (WM W) s.heap h'→(AllBare s.gens→AllBare g')→R (.ok (.ret .none)) {s with heap:=h',gens:=g',toks:=t'}):
  codeAny (model g.prog g.w) A (.call (.ref 214) ⟨[.ref W.wr, .str (sv nm) t, .ref ad, .ref e],[]⟩) R s:=by
 refine enter_fn (k:=44+g.K) (F:=WM W) (own:= "") (G:=[]) (names:=["self","tag","attrs","new_namespaces","qname_text"]) (ps:=[.obj (.ref W.wr), .str nm, .obj (.ref ad), .obj (.ref e), .none]) B.toBase (fnS_at B) rfl (fun Y Y e=>by simp at e) (by kernel_rfl) (by kernel_rfl) (by kernel_rfl) (by kernel_rfl)
  (ok.le (by lia)) base x.places (x.nMain B.toBase.mainLive.1) (x.nMain B.toBase.mainLive.2) x.wm0 (fnS_bind B base _ _ _ _) ?_ rfl fun env h t fr okd=>?_
 ·exact .cons rfl (.cons (Rv.str_iff.mpr ⟨_,rfl⟩) (.cons rfl (.cons rfl (.cons rfl .nil))))
 have hb:Bindable env (frameSC fnS.scope.names "").bk:=fr.sok.bind
 have T:Here g W D env (stR W.wr ad e nm) s.heap h:=⟨fr.inv,x.ext fr.ext,fr.ext.mod _,fr.new,fun a q z=>by
  have n:=fr.new a z
  have:∃o,s.heap.get? a=some o:=x.live a (q.elim .inl fun q=>q.elim (fun q=> .inr (.inl q)) fun q=> .inr (.inr (.inl q)))
  refine xE this fun o ho=>?_;rw[n]at ho;exact nn ho⟩
 have kad:∀{D' ρ' h'},Here g W D' env ρ' s.heap h'→h'.get? ad=some eD:=fun T=>T.keep had nad
 have ke:∀{D' ρ' h'},Here g W D' env ρ' s.heap h'→h'.PlainList e #[]:=fun T=>he.at fun o ho=>T.keep ho ne
 refine af (wpAny_If (wpAny_isTrue_BoolOp (wpAny_allTrue_And_cons (az (T.attr (s:= {s with heap:=h,toks:=t}) B rfl (by decide+kernel) (fun Y=>rfl) rfl (ax (wpAny_isNot_self rfl (av ?_))))))))
 refine pn bq (pn bq ?_)
 refine ag ?_
 refine af (aq (set_star (s:= {s with heap:=h,toks:=t+1}) okd.handled (B.K.keeps T.base) (by rw[fr.code];kernel_rfl) T.inv rfl rfl (kad T) adm fun S h1 t1 hsh tt j p x1 nS hS=>?_))
 have T1:=T.ext x1
 refine T1.store (s:= {s with heap:=h1,toks:=t1}) base hb (by kernel_rfl) (q:= .obj (.ref S)) (Rv.obj_iff.mpr rfl) fun h2 t2 T2 m2=>?_
 have nSo:¬OwnOf env S:=fun q=>by
  refine xE (fr.inv.fl S (.inr q)) fun o ho=>?_;rw[nS]at ho;cases ho
 have nSm:¬WM W S:=fun q=>by
  refine xE (fr.inv.fl S (.inl q)) fun o ho=>?_;rw[nS]at ho;cases ho
 have hS2:=m2 _ _ hS nSo
 refine af (aq (wpAny_Dict_empty (s:= {s with heap:=h2,toks:=t2}) ?_))
 have T3:=T2.ext (Ext.push h2 {cls:= .type "dict",data:= .dict #[] })
 refine T3.store (s:= {s with heap:=_,toks:=t2}) base hb (by kernel_rfl) (q:= .obj (.ref h2.objs.size)) (Rv.obj_iff.mpr rfl) fun h4 t4 T4 m4=>?_
 have hS4:=m4 _ _ (bd _ hS2) nSo
 refine af (wpAny_If (az (nmN (s:= {s with heap:=h4,toks:=t4}) T4.inv rfl (ax (wpAny_isNot_self rfl (av ?_))))))
 refine pn bq ?_
 refine ag ?_
 refine af (wpAny_If (wpAny_isTrue_BoolOp (wpAny_allTrue_And_cons (az (T4.attr (s:= {s with heap:=h4,toks:=t4}) B rfl (by decide+kernel) (fun Y=>rfl) rfl (ax (wpAny_isNot_self rfl (av ?_))))))))
 refine pn bq (pn bq ?_)
 refine af (aq (ax ?_))
 refine T4.store (s:= {s with heap:=h4,toks:=t4+1}) base hb (by kernel_rfl) (q:= .none) (Rv.none_iff.mpr rfl) fun h5 t5 T5 m5=>?_
 have hS5:=m5 _ _ hS4 nSo
 refine ag ?_
 refine af (aq (Attribute_name (nmO (s:= {s with heap:=h5,toks:=t5}) T5.inv rfl (T5.w.getB B T5.base fun q h6 x6 nq hq=>?_))))
 have T6:=T5.ext x6
 refine T6.store (s:= {s with heap:=h6,toks:=t5+1}) base hb (by kernel_rfl) (q:= .obj (.ref q)) (Rv.obj_iff.mpr rfl) fun h7 t7 T7 m7=>?_
 have nqo:¬OwnOf env q:=fun z=>by
  refine xE (T5.inv.fl q (.inr z)) fun o ho=>?_;simp only at nq;rw[nq]at ho;cases ho
 have nqm:¬WM W q:=fun z=>by
  refine xE (T5.inv.fl q (.inl z)) fun o ho=>?_;simp only at nq;rw[nq]at ho;cases ho
 have hq7:=m7 _ _ hq nqo
 have hS7:=m7 _ _ (x6 _ _ hS5) nSo
 have hcnp:(env.cells.lookup (br "parse_qname")).isSome=true:=(fr.sok.cn (br "parse_qname") (by decide+kernel)).2
 refine xEA (closureFor_ok (env:=env) (scope:=dcScope (dcOf (nthS 6 (dC 70 8).body))) (fun y hy hk=>by
  have:y.1=br "parse_qname" :=dc_free y hy hk
  rw[this];exact hcnp)) fun cl hcl Y=>?_
 refine af ?_
 rw[exec_Assign_Name_used _ _ _ _ (by rw[swaps_eq fr.sok T7.inv];rfl)]
 refine ac (aw (ac ?_))
 show wpAny _ _ (comprehension _ _ _ _ newDict false _ (some (assign (.Name _ _) env))>>=fun Y=>pure ()) _ _ _
 refine ac (wpAny_comprehension_free (use:=some (assign (.Name _ _) env)) (gs:=[]) (Q:=fun Y s'=>wpAny (model g.prog g.w) (A.deeper env) (pure ():Sem Unit) _ _ s') rfl (fun Y=>rfl) hcl (by kernel_rfl) (by decide+kernel) ?_)
 refine ar (nmB (s:= {s with heap:=h7,toks:=t7}) B.toBase T7.inv fr.glob fr.blt (by rw[show env.kindOf _=fnS.scope.names.lookup _ by rw[←fr.scope];rfl];kernel_rfl) (by decide+kernel) hso1 hso2 ?_)
 refine callWith_kw (splC (by rfl) (nmO (s:= {s with heap:=h7,toks:=t7}) T7.inv rfl (spl0 ?_)))
 refine kws_cons (lam_make (s:= {s with heap:=h7,toks:=t7}) B fr.glob (by rw[fr.code];rfl) (by rw[fr.qual];decide+kernel) T7.base T7.w (by rfl) (by rfl) fun f c ctv pm h8 t8 k8 x8 hf hc nf=>?_)
 have T8:Here g W D env _ s.heap h8:=T7.turn (z:=211) (.inr (.inr (.inr (.inr (.inr rfl))))) (fun a o ne ho=>k8 a o ho ne) x8 fun e q=>T7.live e (.inr (.inr q))
 have n211:∀{a},¬WM W a→a≠211:=fun n q=>n (.inr (.inr (.inr (.inr (.inr q)))))
 have hS8:=k8 _ _ hS7 (n211 nSm)
 have hq8:=k8 _ _ hq7 (n211 nqm)
 refine kws_nil ?_
 show wpAny _ _ (call (.builtin "sorted") [.ref S] [(br "key", .ref f)]) _ _ _
 refine sorted_one (s:= {s with heap:=h8,toks:=t8}) okd.handled hS8 (fun hh Q' kx cont=>?_) fun L h9 t9 cL x9 nL hL=>?_
 ·exact lam_call (s:= {s with heap:=hh,toks:=t8}) (B.lim.keeps (T8.base.trans kx)) (AOk.lim (n:=10) (AOk.in1 (AOk.in1 (okd.le (by lia))))) (by refine xEEAAA hnm fun Y Y Y Y Y q=>?_;exact q) (kx _ _ hf) (hc.keeps fun a o ho=>kx a o ho) cont
 have T9:=T8.ext x9
 have oi:OwnIs _ (frameSC fnS.scope.names "").own:=(((((fr.ownIs.setVal (x:= "qnames") (p:= .obj (.ref S))).setVal (x:= "resolved_names") (p:= .obj (.ref h2.objs.size))).setVal (x:= "qattrs") (p:= .none)).setVal (x:= "parse_qname") (p:= .obj (.ref q))))
 refine dict_assign (s:= {s with heap:=h9,toks:=t9}) (p:= .tuple [.str nm, .str nm, .str []]) (nm:=nm) B.toBase (x:= "n") (cn:=(frameSC fnS.scope.names "").cn) okd.handled fr.sok T9.inv oi (fun a q=>T9.hm base a q) (by kernel_rfl) fr.sok.cn (by kernel_rfl) (Rv.list_iff.mpr ⟨_, #[.str (sv nm) tt],rfl,?nf,?ns,⟨_,hL⟩,?rl⟩) hcl (by kernel_rfl) (by decide+kernel)
   (fun cenv F₁ M₁ hc tc Q' Ic xc kc=>?hv) fun h10 g10 t10 I10 o10 m10 ab=>?hD
 case nf=>
  rintro (z|z)
  ·refine xE (T8.w.places L z) fun o ho=>?_;exact Nat.lt_irrefl _ (nL _ _ ho)
  ·refine xE (T8.inv.fl L (.inr z)) fun o ho=>?_;exact Nat.lt_irrefl _ (nL _ _ ho)
 case ns=>
  refine beq_eq_false_iff_ne.mpr fun z=>?_
  refine xEEA B.low fun a o l ho=>?_
  have:=Nat.lt_of_le_of_lt l (nL _ _ (T8.base _ _ ho))
  rw[z]at this
  exact Nat.lt_irrefl _ this
 case rl=>exact .cons (Rv.str_iff.mpr ⟨_,rfl⟩) .nil
 case hv=>
  have Tc:=T9.ext xc
  have hqc:=xc _ _ (x9 _ _ hq8)
  refine ar (nmO (s:= {s with heap:=hc,toks:=tc}) (v:= .ref q) Ic rfl (callWith_bm B (splC (by rfl) (nmS (s:= {s with heap:=hc,toks:=tc}) (y:=nm) Ic rfl fun tn=>spl0 ⟨Tc.base,hqc,?_⟩))))
  exact qname_body (s:= {s with heap:=hc,toks:=tc}) B (fun v h' g' t' X r ab=>kc v h' g' t' X ab r) (okd.lt) Tc.base Tc.w hnm hset1 hset2
 case hD=>
 have T10:Here g W D env _ s.heap h10:=T9.own m10 I10
 have cn0:Cn env []:=fun Y q=>by cases q
 refine ah (ah ?_)
 refine af (wpAny_If (wpAny_isTrue_value (nmO (s:= {s with heap:=h10,gens:=g10,toks:=t10}) T10.inv rfl (wpAny_truthy_list (ke T10).isList (by decide) ?_))))
 refine pn (by decide) ?_
 refine af (aq ((sound g 8).e [] _ _ (.list []) env _ _ _ _ {s with heap:=h10,gens:=g10,toks:=t10+1+1} _ (by kernel_rfl) (okd.lt) T10.inv cn0 fun v h11 t11 x11 r11=>?_))
 have T11:=T10.ext x11
 refine T11.store (s:= {s with heap:=h11,gens:=g10,toks:=t11}) base hb (by kernel_rfl) r11 fun h12 t12 T12 m12=>?_
 refine ag ?_
 have da:∀{D' ρ' h'},Here g W D' env ρ' s.heap h'→h'.DictAt (strKind g.prog g.w) ad [] 0:=fun T=>⟨_, #[],kad T,⟨rfl,rfl,rfl⟩,rfl,(fun e he=>by simp at he), .nil,List.nodup_nil⟩
 refine af (wpAny_If (wpAny_isTrue_value (nmO (s:= {s with heap:=h12,gens:=g10,toks:=t12}) T12.inv rfl (wpAny_truthy_dict adm (da T12).dictOf (by decide) ?_))))
 refine pn (by decide) ?_
 refine ag ?_
 refine af (aq (bj (nmO (s:= {s with heap:=h12,gens:=g10,toks:=t12+1+1}) T12.inv rfl (getMethod_builtin (T:= "dict") ⟨_,kad T12,rfl⟩ PySem.F.plainAttrs_dict PySem.F.slot_dict_get PySem.F.type_dict_get (noDict (kad T12) rfl) ?_))))
 refine get1_none adm (kad T12) ?_
 refine T12.store (s:= {s with heap:=h12,gens:=g10,toks:=_}) base hb (by kernel_rfl) (q:= .none) (Rv.none_iff.mpr rfl) fun h13 t13 T13 m13=>?_
 have hlpsz:D.lv≤1000:=by lia
 refine af (ay (bj (T13.attr (s:= {s with heap:=h13,gens:=g10,toks:=t13}) B rfl (by decide+kernel) (fun Y=>rfl) rfl ?_)) (hi:=fr.sok.inter))
 refine xE T13.w.lps fun n13 o13=>?_
 refine getMethod_list_append o13 rfl rfl (callWith_method1 (splC (by rfl) (wpAny_IfExp ((sound g 8).t [] _ _ false env _ _ _ _ {s with heap:=h13,gens:=g10,toks:=t13+1} _ (by kernel_rfl) (okd.lt) T13.inv cn0 fun h14 t14 x14=>?_))))
 refine pn bq ?_
 have T14:=T13.ext x14
 have o13':=x14 _ _ o13
 refine sub_gen (fun Y Y=> .inl (by rfl)) (T14.attr (s:= {s with heap:=h14,gens:=g10,toks:=t14}) B rfl (by decide+kernel) (fun Y=>rfl) rfl (wpAny_UnaryOp (wpAny_Constant_int (neg_int ?_))))
 refine⟨?_,"list",_,⟨_,o13',rfl⟩,slot_list_getitem.lookup⟩
 have szr:(List.replicate D.lv (Value.bool false)).toArray.size=D.lv:=by simp
 refine wpAny_getItem_list_neg (s:= {s with heap:=h14,gens:=g10,toks:=t14+1+1+1}) (x:= .bool false) (Heap.PlainList.isList ⟨_,o13'⟩) (by decide) (by rw[szr];lia) (by decide) (by rw[szr,List.getElem?_toArray,List.getElem?_replicate,if_pos (by lia)]) ?_
 refine spl0 ?_
 refine wpAny_list_append_plain (s:= {s with heap:=h14,gens:=g10,toks:=t14+1+1+1}) ⟨_,o13'⟩ (fun h16 p16 sb16=>?_) (by rw[szr,bb];lia)
 have T16:Here g W {D with lv:=D.lv+1} env _ s.heap h16:=T14.turn (z:=W.lps) (.inr (.inr (.inr (.inr (.inl rfl))))) (fun a o ne ho=>sb16.extBut a o ne ho) (T14.w.turnS (fun a o ne ho=>sb16.extBut a o ne ho) hlv (by rw[List.replicate_succ',←List.push_toArray];exact p16)) fun e q=>T14.live e (.inr (.inr q))
 refine af (aq (T16.attr (s:= {s with heap:=h16,gens:=g10,toks:=t14+1+1+1}) B rfl (by decide+kernel) (fun Y=>rfl) rfl ?_))
 refine T16.store (s:= {s with heap:=h16,gens:=g10,toks:=_}) base hb (by kernel_rfl) (q:= .obj (.ref W.bm)) (Rv.obj_iff.mpr rfl) fun h17 t17 T17 m17=>?_
 refine af (ay (ar (nmO (s:= {s with heap:=h17,gens:=g10,toks:=t17}) T17.inv rfl (callWith_write (splC (by rfl) (wpAny_BinOp (wpAny_Constant_str (tup0 (sub_gen (fun Y Y=> .inl (by rfl)) (nmP (s:= {s with heap:=h17,gens:=g10,toks:=t17+1}) (p:= .dict [nm] [.tuple [.str nm, .str nm, .str []]]) T17.inv rfl fun vD rD=>nmS (s:= {s with heap:=h17,gens:=g10,toks:=t17+1}) (y:=nm) T17.inv rfl fun tt17=>
  subPV_ok (findK1 nm _) rD (Rv.str (t:=tt17)) fun vT h18 t18 x18 rT=>⟨_,_,_,rT,fun tT=>SB.add (fun t' k=>?_) ?sz17⟩))))))))) (hi:=fr.sok.inter))
 case sz17=>
  refine xEEAA hnm fun a r Y hr Y9=>?_;clear hnm;subst Y
  rw[sv_length,show(br "<").length=1 by decide+kernel,bb,bx];lia
 rw[sv_lt]
 refine spl0 ?_
 have T18:=T17.ext x18
 refine⟨_,60::nm,_,rfl,T18.w,by show D.ps.length<100000;lia,fun h19 w19 sb19=>?_⟩
 have T19:=T18.turn (z:=W.lp) (.inr (.inl rfl)) (fun a o ne ho=>sb19.extBut a o ne ho) w19 fun e q=>T18.live e (.inr (.inr q))
 refine af (wpAny_If ((sound g 8).t [] _ _ false env _ _ _ _ {s with heap:=h19,gens:=g10,toks:=k} _ (by kernel_rfl) (okd.lt) T19.inv cn0 fun h20 t20 x20=>?_))
 refine pn bq ?_
 refine ag ?_
 have T20:=T19.ext x20
 refine af (ay (ar (nmO (s:= {s with heap:=h20,gens:=g10,toks:=t20}) T20.inv rfl (callWith_write (splC (by rfl) ((sound g 8).e [] _ _ (.str [62]) env _ _ _ _ {s with heap:=h20,gens:=g10,toks:=t20} _ (by kernel_rfl) (okd.lt) T20.inv cn0 fun v21 h21 t21 x21 r21=>spl0 ?_))))) (hi:=fr.sok.inter))
 refine xE (Rv.str_iff.mp r21) fun tt21 Y=>?_;subst Y
 have T21:=T20.ext x21
 refine⟨_,_,_,rfl,T21.w,by show(D.ps++[60::nm]).length<100000;simp;lia,fun h22 w22 sb22=>?_⟩
 have T22:=T21.turn (z:=W.lp) (.inr (.inl rfl)) (fun a o ne ho=>sb22.extBut a o ne ho) w22 fun e q=>T21.live e (.inr (.inr q))
 refine af (wpAny_If (az (nmN (s:= {s with heap:=h22,gens:=g10,toks:=t21}) T22.inv rfl (ax (wpAny_isNot_self rfl (av ?_))))))
 refine pn bq ?_
 refine ag ?_
 refine af ?_
 refine am (wpAny_Constant_bool (nmO (s:= {s with heap:=h22,gens:=g10,toks:=t21}) T22.inv rfl (T22.w.set (s:= {s with heap:=h22,gens:=g10,toks:=t21}) B T22.base (by decide+kernel) (fun Y=>rfl) set_seen fun h23 w23 sb23=>?_))) (by rfl)
 have T23:=T22.turn (z:=W.wd) (.inl rfl) (fun a o ne ho=>sb23.extBut a o ne ho) w23 fun e q=>T22.live e (.inr (.inr q))
 refine af (ay (bj (T23.attr (s:= {s with heap:=h23,gens:=g10,toks:=t21+2}) B rfl (by decide+kernel) (fun Y=>rfl) rfl ?_)) (hi:=fr.sok.inter))
 refine xE T23.w.ln fun n23 o23=>?_
 refine getMethod_list_append o23 rfl rfl (callWith_method1 (splC (by rfl) (wpAny_List (spl0 ⟨by decide,?_⟩))))
 have T24:=T23.ext (Ext.push h23 {cls:= .type "list",data:= .seq ([]:List Value).toArray})
 refine spl0 ?_
 refine wpAny_list_append_plain (s:= {s with heap:=_,gens:=g10,toks:=t21+2+1}) T24.w.ln (fun h25 p25 sb25=>?_) (by simp;rw[bb];lia)
 have T25:=T24.turn (z:=W.ln) (.inr (.inr (.inr (.inl rfl)))) (fun a o ne ho=>sb25.extBut a o ne ho) (T24.w.turnN (ns:=D.ns++[.ref h23.objs.size]) (fun a o ne ho=>sb25.extBut a o ne ho) (by simp;lia) (by rw[←List.push_toArray];exact p25)) fun e q=>T24.live e (.inr (.inr q))
 refine ag ?_
 exact H _ h25 g10 _ T25.w T25.old ab
theorem enter_here{g:Gnd}{mg mb:Str→Option Value}(B:Ground' g mg mb){a:Addr}{fd:FuncData}{body:List Stmt}(X:FnAt g a fd body){names:List Str}(hgen:fd.scope.isGenerator=false)
  (h1:globNames fd.scope.names []=true) (h2:parNames fd.scope.names names=true) (h3:uniqStr names=true) (h4:uniqNames fd.scope.names=true)
  {k:Nat} {A:Around} {s:Shared} {W:WA} {D:WD} {ps:List PV} {args:Args} {vals:List Value} {R:Result→Shared→Prop} (ok:AOk (k+1) A) (base:Ext g.h₀ s.heap) (x:WSt g s.heap W D)
  (hb:BindsTo s fd args (names.zip vals)) (rs:Rvs g.prog g.w s.heap (WM W) ps vals) (hlen:ps.length=names.length)
  (H:∀env h t,Frm g fd a "" env (argsR names ps []) (WM W) s.heap h→AOk k (A.deeper env)→Here g W D env (argsR names ps []) s.heap h→
   wpAny (model g.prog g.w) (A.deeper env) (execs body env) (fun f s'=>R (.ok (.ret (match f with| .ret v=>v|_=> .none))) s') noE {s with heap:=h,toks:=t}):
  codeAny (model g.prog g.w) A (.call (.ref a) args) R s:=by
 refine enter_fn (F:=WM W) (own:= "") (G:=[]) B.toBase X hgen (fun Y Y e=>by simp at e) h1 h2 h3 h4 ok base x.places (x.nMain B.toBase.mainLive.1) (x.nMain B.toBase.mainLive.2) x.wm0 hb rs hlen fun env h t fr okd=>?_
 refine H env h t fr okd ⟨fr.inv,x.ext fr.ext,fr.ext.mod _,fr.new,fun a q z=>?_⟩
 have n:=fr.new a z
 refine xE (x.live a (q.elim .inl fun q=>q.elim (fun q=> .inr (.inl q)) fun q=> .inr (.inr (.inl q)))) fun o ho=>?_
 rw[n]at ho;cases ho
noncomputable def fnT:FuncData:=fd (dC 70 7) (z "C14NWriterTarget.start") 3 .none .none (vs "cpy313.xml.etree.ElementTree" 2557) (.ref 207) 0
theorem fnT_at{g:Gnd}{mg mb:Str→Option Value}(B:Ground' g mg mb):FnAt g 208 fnT (dC 70 7).body:=by
 refine⟨⟨ob208 g.w.params,B.K _ _ rfl,rfl⟩,rfl,rfl,rfl,rfl,codeRec_of B.K (by kernel_rfl),rfl,rfl⟩
theorem start_ok{g:Gnd}{mg mb:Str→Option Value}(B:Ground' g mg mb){A:Around}{s:Shared}{W:WA}{D:WD}{nm:List Nat}{t:Tok}{ad:Addr}{R:Result→Shared→Prop}
  (ok:AOk (50+g.K) A) (base:Ext g.h₀ s.heap) (x:WSt g s.heap W D) (hnm:NmOk nm) (hset1:mg "set" =none) (hset2:mb "set" =some (.type "set")) (hso1:mg "sorted" =none) (hso2:mb "sorted" =some (.builtin "sorted"))
  (hps:D.ps.length+2≤100000) (hns:D.ns.length+1≤1000) (hlv:D.lv+1≤1000) (hes:D.es.length+1≤1000) (hl1:1≤D.lv) (had:s.heap.get? ad=some eD) (nad:¬WM W ad) (adm:(ad==sysModules)=false)
  (H:∀a e h' g' t',s.heap.get? e=none→WSt g h' W {ps:=D.ps++[60::nm]++[[62]],es:=D.es++[e],ns:=D.ns++[.ref a],lv:=D.lv+1,seen:=true,done:=D.done}→Mod (WM W) s.heap h'→(AllBare s.gens→AllBare g')→R (.ok (.ret .none)) {s with heap:=h',gens:=g',toks:=t'}):
  codeAny (model g.prog g.w) A (.call (.ref 208) ⟨[.ref W.wr, .str (sv nm) t, .ref ad],[]⟩) R s:=by
 refine enter_here (k:=49+g.K) (names:=["self","tag","attrs"]) (ps:=[.obj (.ref W.wr), .str nm, .obj (.ref ad)]) (vals:=[.ref W.wr, .str (sv nm) t, .ref ad]) B (fnT_at B) rfl (by kernel_rfl) (by kernel_rfl) (by kernel_rfl) (by kernel_rfl)
  (ok.le (by lia)) base x (BindsTo.of_eq (by rfl)) ?_ rfl fun env h t fr okd T=>?_
 ·exact .cons rfl (.cons (Rv.str_iff.mpr ⟨_,rfl⟩) (.cons rfl .nil))
 have hb:Bindable env (frameSC fnT.scope.names "").bk:=fr.sok.bind
 have cn0:Cn env []:=fun Y q=>by cases q
 refine af (wpAny_If (wpAny_isTrue_BoolOp (wpAny_allTrue_And_cons (az (T.attr (s:= {s with heap:=h,toks:=t}) B rfl (by decide+kernel) (fun Y=>rfl) rfl (ax (wpAny_isNot_self rfl (av ?_))))))))
 refine pn bq (pn bq ?_)
 refine ag ?_
 refine af (wpAny_If (wpAny_isTrue_value (T.attr (s:= {s with heap:=h,toks:=t+1}) B rfl (by decide+kernel) (fun Y=>rfl) rfl (wpAny_truthy_list T.w.lda.isList (by decide) ?_))))
 refine pn (by decide) ?_
 refine ag ?_
 refine af (aq (wpAny_List (spl0 ⟨by decide,?_⟩)))
 have ne0:h.get? h.objs.size=none:=get?_size _
 have he1:(h.push {cls:= .type "list",data:= .seq ([]:List Value).toArray}).PlainList h.objs.size #[]:=⟨0,bc _ rfl⟩
 have T1:=T.ext (Ext.push h {cls:= .type "list",data:= .seq ([]:List Value).toArray})
 dsimp only
 generalize (h.push {cls:= .type "list",data:= .seq ([]:List Value).toArray})=h1 at T1 he1⊢
 generalize h.objs.size=e at ne0 he1⊢
 have neo:¬OwnOf env e:=fun q=>by
  refine xE (T.inv.fl e (.inr q)) fun o ho=>?_;rw[ne0]at ho;cases ho
 have nem:¬WM W e:=fun q=>by
  refine xE (T.inv.fl e (.inl q)) fun o ho=>?_;rw[ne0]at ho;cases ho
 refine T1.store (s:= {s with heap:=h1,toks:=_}) base hb (by kernel_rfl) (q:= .obj (.ref e)) (Rv.obj_iff.mpr rfl) fun h2 t2 T2 m2=>?_
 have he2:=he1.at fun o ho=>m2 _ o ho neo
 refine af (ay (bj (T2.attr (s:= {s with heap:=h2,toks:=t2}) B rfl (by decide+kernel) (fun Y=>rfl) rfl ?_)) (hi:=fr.sok.inter))
 refine xE T2.w.ld fun n2 o2=>?_
 refine getMethod_list_append o2 rfl rfl (callWith_method1 (splC (by rfl) (nmO (s:= {s with heap:=h2,toks:=t2+1}) (v:= .ref e) T2.inv rfl (spl0 ?_))))
 refine wpAny_list_append_plain (s:= {s with heap:=h2,toks:=t2+1}) T2.w.ld (fun h3 p3 sb3=>?_) (by simp;rw[bb];lia)
 have he3:=he2.at fun o ho=>sb3.extBut _ o (fun q=>nem (q▸ .inr (.inr (.inl rfl)))) ho
 have T3:=T2.turn (z:=W.ld) (.inr (.inr (.inl rfl))) (fun a o ne ho=>sb3.extBut a o ne ho) (T2.w.turnD (es:=D.es++[e]) (fun a o ne ho=>sb3.extBut a o ne ho) (by simp;lia) (by simpa using p3) (by
   intro e' q
   refine Or.elim (List.mem_append.mp q) (fun q=>?_) fun q=>?_
   ·exact⟨(T2.w.es e' q).at fun o ho=>sb3.extBut _ o (fun z=>T2.w.sepe e' q (z▸ .inr (.inr (.inl rfl)))) ho,T2.w.sepe e' q⟩
   ·rw[cf.mp q];exact⟨he3,nem⟩)) (by
   intro e' q
   refine Or.elim (List.mem_append.mp q) (fun q=>?_) fun q=>?_
   ·exact T2.live e' (.inr (.inr q))
   ·rw[cf.mp q];exact neo)
 refine af (wpAny_If (wpAny_isTrue_BoolOp (wpAny_allTrue_And_cons (az (T3.attr (s:= {s with heap:=h3,toks:=t2+1}) B rfl (by decide+kernel) (fun Y=>rfl) rfl (ax (wpAny_isNot_self rfl (av ?_))))))))
 refine pn bq (pn bq ?_)
 refine ag ?_
 refine af (ay (bj (nmO (s:= {s with heap:=h3,toks:=t2+1+1}) T3.inv rfl (T3.w.getM (s:= {s with heap:=h3,toks:=t2+1+1}) B T3.base (f__start _) (by decide) (fun Y=>rfl)
   (callWith_fn (s:= {s with heap:=h3,toks:=t2+1+1}) B T3.base (by decide) (splC (by rfl) (nmS (s:= {s with heap:=h3,toks:=t2+1+1}) (y:=nm) T3.inv rfl fun tt=>splC (by rfl) (nmO (s:= {s with heap:=h3,toks:=t2+1+1}) (v:= .ref ad) T3.inv rfl
    (splC (by rfl) (nmO (s:= {s with heap:=h3,toks:=t2+1+1}) (v:= .ref e) T3.inv rfl (spl0 ⟨T3.base,?_⟩)))))))))) (hi:=fr.sok.inter))
 refine wpAny_call (start_body (s:= {s with heap:=h3,toks:=t2+1+1}) (D:= {D with es:=D.es++[e] }) B (okd.lt) T3.base T3.w hnm hset1 hset2 hso1 hso2 hps hns hlv hl1 (T3.keep had nad) nad adm he3 nem fun a h' g' t' w' m' ab=>?_)
 refine ag ?_
 exact H a e h' g' t' (by
  cases q:s.heap.get? e with
  |none=>rfl
  |some o=>rw[fr.ext _ _ q]at ne0;exact sn ne0) w' (fun a o ho n=>m' a o (T3.keep ho n) n) ab
section
section
variable{prog:Program}{w:World}{A:Around}{E:Value→Shared→Prop}{s:Shared}
theorem getMethod_pop{a:Addr}{xs:Array Value}{pl:Sem Bool}{Q:Value×List Value→Shared→Prop}(hl:s.heap.PlainList a xs)(h:Q (.builtin "list.pop",[.ref a]) s):wpAny (model prog w) A (getMethod (.ref a) "pop" pl) Q E s:=by
 refine xE hl fun n o=>?_
 exact getMethod_builtin ⟨_,o,rfl⟩ PySem.F.plainAttrs_list PySem.F.slot_list_pop PySem.F.type_list_pop (noDict o rfl) h
theorem pop_list{a:Addr}{xs:List Value}{y:Value}{Q:Value→Shared→Prop}(hl:s.heap.PlainList a (xs++[y]).toArray)(hz:xs.length≤100000)
  (H:∀h',h'.PlainList a xs.toArray→Heap.SameBut a s.heap h'→Q y {s with heap:=h'}):wpAny (model prog w) A (call (.builtin "list.pop") [.ref a]) Q E s:=by
 refine xE hl fun n ho=>?_
 have hk:(xs++[y]).toArray.size-1=xs.length:=by rw[List.size_toArray,ck];rfl
 have hy:(xs++[y]).toArray[(xs++[y]).toArray.size-1]?=some y:=by rw[hk];simp
 refine call_meets PySem.F.slot_list_pop ⟨_,ho,rfl⟩ PySem.F.entry_list_pop (PySem.F.args_list_pop_1 _) (PySem.MeetsSeq.list_pop_last a _ n y hy (by simp;rw[bb];lia)) ⟨ho,H _ ?_ (Heap.SameBut.update ..)⟩
 refine xE (up_seq (fun z=>z.eraseIdxIfInBounds ((xs++[y]).toArray.size-1)) ho) fun n' h'=>?_
 refine⟨n',?_⟩
 rw[h',hk,kl_erase,List.append_nil]
end
theorem WSt.getMA{g:Gnd}{mg mb:Str→Option Value}(B:Ground' g mg mb){A:Around}{E:Value→Shared→Prop}{s:Shared}{W:WA}{D:WD}(x:WSt g s.heap W D)(base:Ext g.h₀ s.heap){name:Str}{v:Value}{pl:Sem Bool}{Q:Value×List Value→Shared→Prop}
  (hw:name∈wattrs) (hm:∀ig,wmap W D ig name=some v) (hv:handedIn v=true) (H:Q (v,[]) {s with toks:=s.toks+1}):wpAny (model g.prog g.w) A (getMethod (.ref W.wr) name pl) Q E s:=by
 have gA:=x.getA (A:=A) (E:=E) (Q:=fun v s'=>Q (v,[]) s') (expr:=false) B base hw hm hv H
 refine xEEEAAA x.dict fun ig es n hd hl hk hf=>?_
 exact method_usual (od:=some (dictOf es n)) (B.K.keeps base) ⟨x.inst,rfl,rfl,hd⟩ (plainGet_of (pg _ name)).1 (plainGet_of (pg _ name)).2 (no_attr _ _ hw) rfl gA
noncomputable def fnE:FuncData:=fd (dC 70 9) (z "C14NWriterTarget.end") 3 .none .none (vs "cpy313.xml.etree.ElementTree" 2557) (.ref 220) 0
theorem fnE_at{g:Gnd}{mg mb:Str→Option Value}(B:Ground' g mg mb):FnAt g 221 fnE (dC 70 9).body:=by
 refine⟨⟨ob221 g.w.params,B.K _ _ rfl,rfl⟩,rfl,rfl,rfl,rfl,codeRec_of B.K (by kernel_rfl),rfl,rfl⟩
theorem slen(a b:Str):(a++b).length=a.length+b.length:=by
 show(a.cps++b.cps).size=a.cps.size+b.cps.size
 exact Array.size_append
theorem sv_end(nm:List Nat):(Str.empty++br "</")++sv nm++br ">" =sv (60::47::(nm++[62])):=by
 show(⟨((Str.empty.cps++(br "</").cps)++nm.toArray)++(br ">").cps⟩:Str)=⟨(60::47::(nm++[62])).toArray⟩
 rw[show Str.empty.cps++(br "</").cps= #[60,47] by decide+kernel,show(br ">").cps= #[62] by decide+kernel]
 congr 1
 apply Array.toList_inj.mp
 simp
theorem nm_len{nm:List Nat}(h:NmOk nm):nm.length≤2:=by
 refine xEEAA h fun a r Y hr Y9=>?_;clear h;subst Y;rw[bx];lia
theorem end_ok{g:Gnd}{mg mb:Str→Option Value}(B:Ground' g mg mb){A:Around}{s:Shared}{W:WA}{ps:List (List Nat)}{es:List Addr}{ns:List Value}{lv:Nat}{e':Addr}{v':Value}{seen done:Bool}{nm:List Nat}{t:Tok}{R:Result→Shared→Prop}
  (ok:AOk (50+g.K) A) (base:Ext g.h₀ s.heap) (x:WSt g s.heap W {ps:=ps,es:=es++[e'],ns:=ns++[v'],lv:=lv+1,seen:=seen,done:=done}) (hnm:NmOk nm) (hset1:mg "set" =none) (hset2:mb "set" =some (.type "set")) (hln1:mg "len" =none) (hln2:mb "len" =some (.builtin "len"))
  (hps:ps.length+1≤100000)
  (H:∀h' g' t',WSt g h' W {ps:=ps++[60::47::(nm++[62])],es:=es,ns:=ns,lv:=lv,seen:=seen,done:=((lv:Int)==1)}→Mod (WM W) s.heap h'→(AllBare s.gens→AllBare g')→R (.ok (.ret .none)) {s with heap:=h',gens:=g',toks:=t'}):
  codeAny (model g.prog g.w) A (.call (.ref 221) ⟨[.ref W.wr, .str (sv nm) t],[]⟩) R s:=by
 have b1:=x.esb
 have b2:=x.lvb
 have b3:=x.nsb
 simp only[ck,List.length_singleton]at b1 b2 b3
 refine enter_here (k:=49+g.K) (names:=["self","tag"]) (ps:=[.obj (.ref W.wr), .str nm]) (vals:=[.ref W.wr, .str (sv nm) t]) B (fnE_at B) rfl (by kernel_rfl) (by kernel_rfl) (by kernel_rfl) (by kernel_rfl)
  (ok.le (by lia)) base x (BindsTo.of_eq (by rfl)) ?_ rfl fun env h t fr okd T=>?_
 ·exact .cons rfl (.cons (Rv.str_iff.mpr ⟨_,rfl⟩) .nil)
 have kk:∀x,env.kindOf x=fnE.scope.names.lookup x:=fun x=>by rw[←fr.scope];rfl
 refine xE (⟨(0:Tok),trivial⟩:∃igt,True) fun igt higt=>?_
 have tst:∀{A:Around} {Q:Bool→Shared→Prop} {t:Nat} {p p2:Pos},Q false {s with heap:=h,toks:=t+1}→wpAny (model g.prog g.w) A (isTrue (.Attribute (.Name "self" p) "_ignored_depth" p2) env (eval (.Attribute (.Name "self" p) "_ignored_depth" p2) env)) Q noE {s with heap:=h,toks:=t}:=fun {A Q t p p2} q=>by
  refine wpAny_isTrue_value (Attribute_name (nmO (s:= {s with heap:=h,toks:=t}) T.inv rfl ?_))
  refine xE T.w.dict fun ig d=>?_
  exact Mine.Internal.getA (K:=KW g.w.params) (s:= {s with heap:=h,toks:=t}) (B.K.keeps T.base) T.w.inst d (pg _ _) (has_dict _) (no_attr _ _ (by decide+kernel)) rfl (v:= .int 0 ig) rfl rfl (PySem.P.truthy_int q)
 refine af (wpAny_If (tst ?_))
 refine pn bq ?_
 refine ag ?_
 refine af (wpAny_If (wpAny_isTrue_value (T.attr (s:= {s with heap:=h,toks:=t+1}) B rfl (by decide+kernel) (fun Y=>rfl) rfl (wpAny_truthy_list T.w.lda.isList (by decide) ?_))))
 refine pn (by decide) ?_
 refine ag ?_
 refine af (ay (bj (nmO (s:= {s with heap:=h,toks:=t+1+1+1+1}) T.inv rfl (T.w.getMA (s:= {s with heap:=h,toks:=t+1+1+1+1}) B T.base (by decide+kernel) (fun Y=>rfl) rfl (callWith_write (splC (by rfl) (wpAny_JoinedStr ?js)))))) (hi:=fr.sok.inter))
 case js=>
  refine wpAny_Constant_str ⟨_,_,rfl,?_,?_⟩
  ·show(Str.empty++br "</").length≤sizeLine
   rw[show(Str.empty++br "</").length=2 by decide+kernel,bb];lia
  refine wpAny_FormattedValue_plain (tup0 (bj (nmO (s:= {s with heap:=h,toks:=t+1+1+1+1+1+1}) T.inv rfl (T.w.getM (s:= {s with heap:=h,toks:=t+1+1+1+1+1+1}) B T.base (f_qname _) (by decide) (fun Y=>rfl)
   (callWith_fn (s:= {s with heap:=h,toks:=t+1+1+1+1+1+1}) B T.base (by decide) (splC (by rfl) (nmS (s:= {s with heap:=h,toks:=t+1+1+1+1+1+1}) (y:=nm) T.inv rfl fun tt=>spl0 ⟨T.base,?_⟩)))))))
  refine wpAny_call (qname_body (s:= {s with heap:=h,toks:=t+1+1+1+1+1+1}) B (fun v h1 g1 t1 x1 r1 ab1=>⟨_,_,_,r1,fun tv=>?_⟩) (okd.lt) T.base T.w hnm hset1 hset2)
  have T1:=T.ext x1
  refine SB.field_str (fun t2 k2=>⟨_,_,rfl,?_,?_⟩) (by rw[sv_length,bb];have:=nm_len hnm;lia)
  ·rw[slen,slen,sv_length,show Str.empty.length=0 by decide+kernel,show(br "</").length=2 by decide+kernel,bb];have:=nm_len hnm;lia
  ·refine wpAny_Constant_str ⟨_,_,rfl,?_,?_⟩
   ·rw[slen,slen,slen,sv_length,show Str.empty.length=0 by decide+kernel,show(br "</").length=2 by decide+kernel,show(br ">").length=1 by decide+kernel,bb];have:=nm_len hnm;lia
   ·refine⟨?_,spl0 ?_⟩
    ·rw[slen,slen,slen,sv_length,show Str.empty.length=0 by decide+kernel,show(br "</").length=2 by decide+kernel,show(br ">").length=1 by decide+kernel,bb];have:=nm_len hnm;lia
    rw[sv_end]
    refine⟨_,60::47::(nm++[62]),_,rfl,T1.w,by show ps.length<100000;lia,fun h3 w3 sb3=>?_⟩
    have T3:=T1.turn (z:=W.lp) (.inr (.inl rfl)) (fun a o ne ho=>sb3.extBut a o ne ho) w3 fun e q=>T1.live e (.inr (.inr q))
    dsimp only
    refine af (ay (bj (T3.attr (s:= {s with heap:=h3,gens:=g1,toks:=_}) B rfl (by decide+kernel) (fun Y=>rfl) rfl ?_)) (hi:=fr.sok.inter))
    have pl3:h3.PlainList W.lps (List.replicate lv (Value.bool false)++[Value.bool false]).toArray:=by
     have:=T3.w.lps;rwa [show List.replicate (lv+1) (Value.bool false)=List.replicate lv (Value.bool false)++[Value.bool false]from List.replicate_succ']at this
    refine getMethod_pop (s:= {s with heap:=h3,gens:=g1,toks:=_}) pl3 (callWith_method0 (pop_list (s:= {s with heap:=h3,gens:=g1,toks:=_}) pl3 (by rw[List.length_replicate];lia) fun h4 p4 sb4=>?_))
    have T4:=T3.turn (z:=W.lps) (.inr (.inr (.inr (.inr (.inl rfl))))) (fun a o ne ho=>sb4.extBut a o ne ho) (T3.w.turnS (lv:=lv) (fun a o ne ho=>sb4.extBut a o ne ho) (by lia) p4) fun e q=>T3.live e (.inr (.inr q))
    dsimp only
    refine af (am (wpAny_Compare1 (ar (nmB (s:= {s with heap:=h4,gens:=g1,toks:=_}) B.toBase T4.inv fr.glob fr.blt (by rw[kk];kernel_rfl) (by decide+kernel) hln1 hln2
     (callWith_method1 (splC (by rfl) (T4.attr (s:= {s with heap:=h4,gens:=g1,toks:=_}) B rfl (by decide+kernel) (fun Y=>rfl) rfl (spl0 (call_len_list (Heap.PlainList.isList T4.w.lps) (by simp;lia) (wpAny_Constant_int (PySem.P.eq_int ?_)))))))))) (by rfl))
    rw[show((List.replicate lv (Value.bool false)).toArray.size:Int)=lv by simp]
    dsimp only
    refine nmO (s:= {s with heap:=h4,gens:=g1,toks:=_}) T4.inv rfl (T4.w.set (s:= {s with heap:=h4,gens:=g1,toks:=_}) B T4.base (by decide+kernel) (fun Y=>rfl) (set_done _) fun h5 w5 sb5=>?_)
    have T5:=T4.turn (z:=W.wd) (.inl rfl) (fun a o ne ho=>sb5.extBut a o ne ho) w5 fun e q=>T4.live e (.inr (.inr q))
    dsimp only
    refine af (ay (bj (T5.attr (s:= {s with heap:=h5,gens:=g1,toks:=_}) B rfl (by decide+kernel) (fun Y=>rfl) rfl ?_)) (hi:=fr.sok.inter))
    have pl5:h5.PlainList W.ld ((W.t0::es).map Value.ref++[Value.ref e']).toArray:=by
     have:=T5.w.ld;simpa using this
    refine getMethod_pop (s:= {s with heap:=h5,gens:=g1,toks:=_}) pl5 (callWith_method0 (pop_list (s:= {s with heap:=h5,gens:=g1,toks:=_}) pl5 (by simp;lia) fun h6 p6 sb6=>?_))
    have T6:=T5.turn (z:=W.ld) (.inr (.inr (.inl rfl))) (fun a o ne ho=>sb6.extBut a o ne ho) (T5.w.turnD (es:=es) (fun a o ne ho=>sb6.extBut a o ne ho) (by lia) p6 fun e q=>by
     have q':e∈es++[e']:=List.mem_append_left _ q
     exact⟨(T5.w.es e q').at fun o ho=>sb6.extBut _ o (fun z=>T5.w.sepe e q' (z▸ .inr (.inr (.inl rfl)))) ho,T5.w.sepe e q'⟩) fun e q=>T5.live e (.inr (.inr (List.mem_append_left _ q)))
    dsimp only
    refine af (ay (bj (T6.attr (s:= {s with heap:=h6,gens:=g1,toks:=_}) B rfl (by decide+kernel) (fun Y=>rfl) rfl ?_)) (hi:=fr.sok.inter))
    refine getMethod_pop (s:= {s with heap:=h6,gens:=g1,toks:=_}) T6.w.ln (callWith_method0 (pop_list (s:= {s with heap:=h6,gens:=g1,toks:=_}) T6.w.ln (by lia) fun h7 p7 sb7=>?_))
    have T7:=T6.turn (z:=W.ln) (.inr (.inr (.inr (.inl rfl)))) (fun a o ne ho=>sb7.extBut a o ne ho) (T6.w.turnN (ns:=ns) (fun a o ne ho=>sb7.extBut a o ne ho) (by lia) p7) fun e q=>T6.live e (.inr (.inr q))
    dsimp only
    refine ag ?_
    exact H h7 g1 _ T7.w T7.old ab1
end
def EscOk(nm:List Nat):Prop:=nm.elem 38=false∧nm.elem 60=false∧nm.elem 62=false∧nm.elem 13=false
noncomputable def fnX:FuncData:=fd (dT 71) (z "_escape_cdata_c14n") 3 .none .none (vs "cpy313.xml.etree.ElementTree" 2557) (.ref 248) 0
theorem fnX_at{g:Gnd}{mg mb:Str→Option Value}(B:Ground' g mg mb):FnAt g 249 fnX (dT 71).body:=by
 refine⟨⟨ob249 g.w.params,B.K _ _ rfl,rfl⟩,rfl,rfl,rfl,rfl,codeRec_of B.K (by kernel_rfl),rfl,rfl⟩
theorem in_none{nm:List Nat}{c:Nat}{y:Str}{G:Rho}(hy:y.cps= #[c])(h:nm.elem c=false){p1 p2 p3:Pos}:
  pt 8 [] (("text", .val (.str nm))::G) (.Compare (.Constant (.str y) 0 p1) [.In] [.Name "text" p2] p3)=some false:=by
 obtain⟨cs⟩:=y
 simp only at hy
 subst hy
 show some (nm.elem c)=some false
 rw[h]
theorem esc_ok{g:Gnd}{mg mb:Str→Option Value}(B:Ground' g mg mb){A:Around}{s:Shared}{nm:List Nat}{t:Tok}{R:Result→Shared→Prop}
  (ok:AOk (20+g.K) A) (base:Ext g.h₀ s.heap) (he:EscOk nm) (H:∀h' t' tt,Ext s.heap h'→R (.ok (.ret (.str (sv nm) tt))) {s with heap:=h',toks:=t'}):codeAny (model g.prog g.w) A (.call (.ref 249) ⟨[.str (sv nm) t],[]⟩) R s:=by
 refine enter_fn (k:=19+g.K) (F:=fun Y=>False) (own:= "") (G:=[]) (names:=["text"]) (ps:=[.str nm]) (vals:=[.str (sv nm) t]) B.toBase (fnX_at B) rfl (fun Y Y e=>by simp at e) (by kernel_rfl) (by kernel_rfl) (by kernel_rfl) (by kernel_rfl)
  (ok.le (by lia)) base (fun Y q=>q.elim) (fun q=>q) (fun q=>q) (fun Y q=>q.elim) (BindsTo.of_eq (by rfl)) ?_ rfl fun env h t fr okd=>?_
 ·exact .cons (Rv.str_iff.mpr ⟨_,rfl⟩) .nil
 have cn0:Cn env []:=fun Y q=>by cases q
 have I:=fr.inv
 refine af (wpAny_Try_except (aj (?_:wpAny _ _ _ _ noE _) (fun Y Y z=>z) fun Y Y z=>z.elim))
 refine af (wpAny_If ((sound g 8).t [] _ _ false env _ _ _ _ {s with heap:=h,toks:=t} _ (in_none (by decide+kernel) he.1) (okd.lt) I cn0 fun h1 t1 x1=>?_))
 refine pn bq ?_
 refine ag ?_
 have I1:=I.ext x1
 refine af (wpAny_If ((sound g 8).t [] _ _ false env _ _ _ _ {s with heap:=h1,toks:=t1} _ (in_none (by decide+kernel) he.2.1) (okd.lt) I1 cn0 fun h2 t2 x2=>?_))
 refine pn bq ?_
 refine ag ?_
 have I2:=I1.ext x2
 refine af (wpAny_If ((sound g 8).t [] _ _ false env _ _ _ _ {s with heap:=h2,toks:=t2} _ (in_none (by decide+kernel) he.2.2.1) (okd.lt) I2 cn0 fun h3 t3 x3=>?_))
 refine pn bq ?_
 refine ag ?_
 have I3:=I2.ext x3
 refine af (wpAny_If ((sound g 8).t [] _ _ false env _ _ _ _ {s with heap:=h3,toks:=t3} _ (in_none (by decide+kernel) he.2.2.2) (okd.lt) I3 cn0 fun h4 t4 x4=>?_))
 refine pn bq ?_
 refine ag ?_
 refine af (wpAny_Return_some (nmS (s:= {s with heap:=h4,toks:=t4}) (y:=nm) (I3.ext x4) rfl fun tt=>?_))
 exact H h4 t4 tt ((((fr.ext.trans x1).trans x2).trans x3).trans x4)
noncomputable def fnC:FuncData:=fd (dC 70 10) (z "C14NWriterTarget.comment") 3 .none .none (vs "cpy313.xml.etree.ElementTree" 2557) (.ref 227) 0
theorem fnC_at{g:Gnd}{mg mb:Str→Option Value}(B:Ground' g mg mb):FnAt g 228 fnC (dC 70 10).body:=by
 refine⟨⟨ob228 g.w.params,B.K _ _ rfl,rfl⟩,rfl,rfl,rfl,rfl,codeRec_of B.K (by kernel_rfl),rfl,rfl⟩
theorem sv_com(nm:List Nat):(Str.empty++br "<!--")++sv nm++br "-->" =sv ([60,33,45,45]++nm++[45,45,62]):=by
 show(⟨((Str.empty.cps++(br "<!--").cps)++nm.toArray)++(br "-->").cps⟩:Str)=⟨([60,33,45,45]++nm++[45,45,62]).toArray⟩
 rw[show Str.empty.cps++(br "<!--").cps= #[60,33,45,45] by decide+kernel,show(br "-->").cps= #[45,45,62] by decide+kernel]
 congr 1
 apply Array.toList_inj.mp
 simp
theorem comment_ok{g:Gnd}{mg mb:Str→Option Value}(B:Ground' g mg mb){A:Around}{s:Shared}{W:WA}{D:WD}{nm:List Nat}{t:Tok}{R:Result→Shared→Prop}
  (ok:AOk (50+g.K) A) (base:Ext g.h₀ s.heap) (x:WSt g s.heap W D) (hnm:NmOk nm) (he:EscOk nm) (hs:D.seen=true) (hd:D.done=true) (hx1:mg "_escape_cdata_c14n" =some (.ref 249)) (hps:D.ps.length+2≤100000)
  (H:∀h' t',WSt g h' W {D with ps:=D.ps++[[10]]++[[60,33,45,45]++nm++[45,45,62]] }→Mod (WM W) s.heap h'→R (.ok (.ret .none)) {s with heap:=h',toks:=t'}):
  codeAny (model g.prog g.w) A (.call (.ref 228) ⟨[.ref W.wr, .str (sv nm) t],[]⟩) R s:=by
 refine enter_here (k:=49+g.K) (names:=["self","text"]) (ps:=[.obj (.ref W.wr), .str nm]) (vals:=[.ref W.wr, .str (sv nm) t]) B (fnC_at B) rfl (by kernel_rfl) (by kernel_rfl) (by kernel_rfl) (by kernel_rfl)
  (ok.le (by lia)) base x (BindsTo.of_eq (by rfl)) ?_ rfl fun env h t fr okd T=>?_
 ·exact .cons rfl (.cons (Rv.str_iff.mpr ⟨_,rfl⟩) .nil)
 have kk:∀x,env.kindOf x=fnC.scope.names.lookup x:=fun x=>by rw[←fr.scope];rfl
 refine af (wpAny_If (wpAny_isTrue_Not (wpAny_isTrue_value (T.attr (s:= {s with heap:=h,toks:=t}) B rfl (by decide+kernel) (fun Y=>rfl) rfl (av ?_)))))
 refine pn (by decide) ?_
 refine ag ?_
 have tst:∀{A:Around} {Q:Bool→Shared→Prop} {t:Nat} {p p2:Pos},Q false {s with heap:=h,toks:=t+1}→wpAny (model g.prog g.w) A (isTrue (.Attribute (.Name "self" p) "_ignored_depth" p2) env (eval (.Attribute (.Name "self" p) "_ignored_depth" p2) env)) Q noE {s with heap:=h,toks:=t}:=fun {A Q t p p2} q=>by
  refine wpAny_isTrue_value (Attribute_name (nmO (s:= {s with heap:=h,toks:=t}) T.inv rfl ?_))
  refine xE T.w.dict fun ig d=>?_
  exact Mine.Internal.getA (K:=KW g.w.params) (s:= {s with heap:=h,toks:=t}) (B.K.keeps T.base) T.w.inst d (pg _ _) (has_dict _) (no_attr _ _ (by decide+kernel)) rfl (v:= .int 0 ig) rfl rfl (PySem.P.truthy_int q)
 refine af (wpAny_If (tst ?_))
 refine pn bq ?_
 refine ag ?_
 refine af (wpAny_If (wpAny_isTrue_value (T.attr (s:= {s with heap:=h,toks:=t+1+1}) B rfl (by decide+kernel) (v:= .bool true) (fun Y=>by rw[←hd];rfl) rfl (av ?_))))
 refine py rfl ?_
 refine af (ay (bj (nmO (s:= {s with heap:=h,toks:=t+1+1+1}) T.inv rfl (T.w.getMA (s:= {s with heap:=h,toks:=t+1+1+1}) B T.base (by decide+kernel) (fun Y=>rfl) rfl (callWith_write (splC (by rfl) (wpAny_Constant_str (spl0 ⟨_,[10],_,rfl,T.w,by lia,fun h1 w1 sb1=>?_⟩))))))) (hi:=fr.sok.inter))
 have T1:=T.turn (z:=W.lp) (.inr (.inl rfl)) (fun a o ne ho=>sb1.extBut a o ne ho) w1 fun e q=>T.live e (.inr (.inr q))
 dsimp only
 refine ag ?_
 refine af (ay (bj (nmO (s:= {s with heap:=h1,toks:=_}) T1.inv rfl (T1.w.getMA (s:= {s with heap:=h1,toks:=_}) B T1.base (by decide+kernel) (fun Y=>rfl) rfl (callWith_write (splC (by rfl) (wpAny_JoinedStr ?js)))))) (hi:=fr.sok.inter))
 case js=>
  refine wpAny_Constant_str ⟨_,_,rfl,?_,?_⟩
  ·rw[slen,show Str.empty.length=0 by decide+kernel,show(br "<!--").length=4 by decide+kernel,bb];lia
  refine wpAny_FormattedValue_plain (ar (nmG (s:= {s with heap:=h1,toks:=_}) B.toBase T1.inv fr.glob (by rw[kk];kernel_rfl) (by decide+kernel) hx1 (callWith_fn (s:= {s with heap:=h1,toks:=_}) B T1.base (by decide) (splC (by rfl) (nmS (s:= {s with heap:=h1,toks:=_}) (y:=nm) T1.inv rfl fun tt=>spl0 ⟨T1.base,?_⟩)))))
  refine wpAny_call (esc_ok (s:= {s with heap:=h1,toks:=_}) B (okd.lt) T1.base he fun h2 t2 t2' x2=>?_)
  have T2:=T1.ext x2
  refine SB.field_str (fun t3 k3=>⟨_,_,rfl,?_,?_⟩) (by rw[sv_length,bb];have:=nm_len hnm;lia)
  ·rw[slen,slen,sv_length,show Str.empty.length=0 by decide+kernel,show(br "<!--").length=4 by decide+kernel,bb];have:=nm_len hnm;lia
  ·refine wpAny_Constant_str ⟨_,_,rfl,?_,?_⟩
   ·rw[slen,slen,slen,sv_length,show Str.empty.length=0 by decide+kernel,show(br "<!--").length=4 by decide+kernel,show(br "-->").length=3 by decide+kernel,bb];have:=nm_len hnm;lia
   ·refine⟨?_,spl0 ?_⟩
    ·rw[slen,slen,slen,sv_length,show Str.empty.length=0 by decide+kernel,show(br "<!--").length=4 by decide+kernel,show(br "-->").length=3 by decide+kernel,bb];have:=nm_len hnm;lia
    rw[sv_com]
    refine⟨_,[60,33,45,45]++nm++[45,45,62],_,rfl,T2.w,by show(D.ps++[[10]]).length<100000;simp;lia,fun h3 w3 sb3=>?_⟩
    have T3:=T2.turn (z:=W.lp) (.inr (.inl rfl)) (fun a o ne ho=>sb3.extBut a o ne ho) w3 fun e q=>T2.live e (.inr (.inr q))
    dsimp only
    refine af (wpAny_If (wpAny_isTrue_Not (wpAny_isTrue_value (T3.attr (s:= {s with heap:=h3,toks:=_}) B rfl (by decide+kernel) (v:= .bool true) (fun Y=>by rw[←hs];rfl) rfl (av ?_)))))
    refine pn (by decide) ?_
    refine ag (ag ?_)
    exact H h3 _ T3.w T3.old
section
open PySem.Builtin PySem.Builtin.ObjectAttr
theorem md_get:typeLookup (.type "method_descriptor") "__get__" =pure (some (.builtin "method_descriptor.__get__")):=by rw[typeLookup_type,builtinLookup_eq_fast];kernel_rfl
theorem slot_md:Slot "method_descriptor" "__get__" "method_descriptor.__get__" :=
 .of (owner:= "method_descriptor") (n:= "__get__") (by rw[typeLookup_type,builtinLookup_eq_fast];kernel_rfl) (by decide+kernel) (by decide+kernel) (by decide+kernel)
  (by first|exact .inl (by decide+kernel)|exact .inr (by decide+kernel)) (by rw[isSubtype_type];kernel_rfl)
theorem entry_md:entryFor table "method_descriptor.__get__" =some Builtin.«method_descriptor.__get__»:=entryFor_of_tree (by kernel_rfl)
theorem args_md(a b c:Value):argsOk "method_descriptor.__get__" ⟨[a,b,c],[]⟩:=by unfold argsOk;kernel_rfl
theorem owner_app: ".".intercalate ("list.append".cutAt '.').dropLast= "list" :=by decide+kernel
theorem list_sub:isSubtype (.type "list") (.type "list")=pure true:=by rw[isSubtype_type];kernel_rfl
theorem told_app:Manifest.toldItsClass.contains "list.append" =false:=by decide+kernel
noncomputable def bmObj(l:Addr):Obj:=⟨.type "builtin_function_or_method",none, .fields #[.builtin "list.append", .ref l], #[]⟩
section
variable{prog:Program}{w:World}{A:Around}{E:Value→Shared→Prop}{s:Shared}
theorem md_call{l:Addr}{xs:Array Value}{Q:Value→Shared→Prop}(hl:s.heap.PlainList l xs)(H:Q (.ref s.heap.objs.size) {s with heap:=s.heap.push (bmObj l)}):
  wpAny (model prog w) A (call (.builtin "method_descriptor.__get__") [.builtin "list.append", .ref l, .type "list"]) Q E s:=by
 have hT:s.TypeIs (.ref l) "list" :=hl.isList.typeIs
 refine wpAny_call_entry slot_md (show s.TypeIs (.builtin "list.append") "method_descriptor"from PySem.F.type_list_append) entry_md ?_ (args_md _ _ _)
 unfold Builtin.«method_descriptor.__get__»
 refine ac (wpAny_of_eq (a:=(.builtin "list.append",some (.ref l),some (.type "list"))) (by first|rfl|kernel_rfl) ?_)
 dsimp only
 refine wp_if_neg (by rw[told_app];decide) ?_
 wp_delta
 refine ac ?_
 wp_delta
 refine ac ?_
 wp_delta
 dsimp only
 rw[owner_app]
 refine ah ?_
 dsimp only
 refine ac (wpAny_isInstance hT list_sub ?_)
 refine wp_if_neg (by decide) ?_
 refine ah ?_
 refine ac (wpAny_newObj_type ?_ (by size_fits))
 exact ah ⟨_,rfl,H⟩
theorem app_lookup:typeLookup (.type "list") "append" =pure (some (.builtin "list.append")):=slot_list_append.lookup
theorem app_takes:takesStores (.builtin "list.append")=pure false:=by
 unfold takesStores
 first|kernel_rfl|(rw[show typeOf (.builtin "list.append")=pure (.type "method_descriptor")from type_list_append];kernel_rfl)
theorem list_hit{l:Addr}{xs:Array Value}{u:Tok}{P:PySem.Fin→Shared→Prop}(hl:s.heap.PlainList l xs)(H:P (.done (.ret (.ref s.heap.objs.size))) {s with heap:=s.heap.push (bmObj l)}){E:Value→Shared→Prop}:
  wpAny (model prog w) A (Builtin.«object.__getattribute__» ⟨[.ref l, .str (br "append") u],[]⟩) P E s:=by
 have hT:s.TypeIs (.ref l) "list" :=hl.isList.typeIs
 have hl':=hl
 refine xE hl fun n ho=>?_
 unfold Builtin.«object.__getattribute__»
 refine ac (ah ?_)
 dsimp only
 refine ac (ah ?_)
 refine ac (wpAny_typeOf hT ?_)
 unfold find
 refine ac (ac (wpAny_of_eq app_lookup ?_))
 unfold getOf specialOf
 refine ac (ac (wpAny_of_eq type_list_append (wpAny_of_eq md_get ?_)))
 unfold dataDescriptor?
 refine ac (ac (wpAny_of_eq app_takes ?_))
 refine wp_if_neg (by decide) ?_
 refine ah ?_
 dsimp only
 unfold ownThenClass inOwnDict PySem.Builtin.ObjectAttr.ownDict
 refine ac (ac (ac ?_))
 unfold loadHead
 refine wpAny_loadPart ho ?_
 dsimp only
 unfold instanceDict
 refine ac (wpAny_loadPart ho ?_)
 dsimp only
 refine wp_if_pos (by rfl) (ah ?_)
 refine ah ?_
 dsimp only
 unfold copiedAttributeGuard
 refine ac ?_
 dsimp only
 refine wp_if_neg (by decide+kernel) (ah ?_)
 refine ac (wpAny_rule (ah ?_))
 dsimp only
 unfold bindTo
 refine ac (ak (md_call (s:=s) hl' ?_))
 exact ah H
theorem getAttr_append{l:Addr}{xs:Array Value}{expr:Bool}{E:Value→Shared→Prop}{Q:Value→Shared→Prop}(hl:s.heap.PlainList l xs)(H:Q (.ref s.heap.objs.size) {s with heap:=s.heap.push (bmObj l),toks:=s.toks+1}):
  wpAny (model prog w) A (getAttr (.ref l) "append" expr) Q E s:=by
 have hT:∀t,Shared.TypeIs {s with toks:=t} (.ref l) "list" :=fun t=>xE hl fun n o=>⟨_,o,rfl⟩
 unfold getAttr
 refine ac (wpAny_mkText ?_)
 unfold getAttrBy
 refine ak (ac (wpAny_typeOf (hT _) (ac (wpAny_of_eq PySem.F.slot_list_getattribute.lookup ?_))))
 dsimp only
 refine wp_if_neg (by simp[onTheHeap]) ?_
 unfold getAttrByItsOwn
 refine ac (ah ?_)
 refine ac (wpAny_attempt (ak ?_))
 unfold callGetattribute
 refine wp_if_neg (by simp[onTheHeap]) ?_
 unfold boundAndCalled
 refine ac (wpAny_of_eq (PySem.F.slot_list_getattribute.bind (.ref l)) ?_)
 refine wpAny_call_entry PySem.F.slot_list_getattribute (hT _) am_entry_list_getattribute ?_ (PySem.F.args_list_getattribute_2 _ _)
 exact list_hit (s:= {s with toks:=s.toks+1}) hl ⟨_,rfl,ah H⟩
end
end
theorem keyHash_eq(w:World)(x:Str):PyData.keyHash w.params x=hashStr w x:=rfl
theorem dict_ds{prog:Program}{w:World}{h:Heap}{a:Addr}{n:Nat}(l:List (String×Nat×Value))(hd:h.get? a=some ⟨.type "dict",none, .dict (l.map fun q=>ds w.params q.1 q.2.1 q.2.2).toArray n, #[]⟩)(hn:(l.map fun q=>br q.1).Nodup):
  h.DictAt (strKind prog w) a (l.map fun q=>(br q.1,q.2.2)) n:=by
 refine⟨_,_,hd,⟨rfl,rfl,rfl⟩,rfl,?_,?_,?_⟩
 ·intro e he
  rw[List.mem_toArray,List.mem_map]at he
  refine xEA he fun q Y9 Y=>?_;clear he;subst Y
  exact⟨br q.1,beq_self_eq_true _,keyHash_eq w _⟩
 ·clear hd hn
  show Pairs _ (l.map _) _
  induction l with
  |nil=>exact .nil
  |cons q l ih=>exact .cons (beq_self_eq_true _) rfl ih
 ·rw[List.map_map];exact hn
noncomputable def nsL:List (String×Nat×Value):=[("http://www.w3.org/XML/1998/namespace",2597,vs "xml" 2598),("http://www.w3.org/1999/xhtml",2599,vs "html" 2600),("http://www.w3.org/1999/02/22-rdf-syntax-ns#",2601,vs "rdf" 2602),("http://schemas.xmlsoap.org/wsdl/",2603,vs "wsdl" 2604),
 ("http://www.w3.org/2001/XMLSchema",2605,vs "xs" 2606),("http://www.w3.org/2001/XMLSchema-instance",2607,vs "xsi" 2608),("http://purl.org/dc/elements/1.1/",2609,vs "dc" 2610)]
theorem ns_at{g:Gnd}{mg mb:Str→Option Value}(B:Ground' g mg mb){h:Heap}(base:Ext g.h₀ h):h.DictAt (strKind g.prog g.w) 132 (nsL.map fun q=>(br q.1,q.2.2)) 7:=
 dict_ds nsL (base _ _ (B.K 132 (ob132 g.w.params) rfl)) (by decide+kernel)
theorem list_ns{g:Gnd}{mg mb:Str→Option Value}(B:Ground' g mg mb){A:Around}{E:Value→Shared→Prop}{s:Shared}{env:Env}{ρ:Rho}{F M:Addr→Prop}{p1 p2 p3 p4 p5:Pos}{Q:Value→Shared→Prop}(hh:A.handled=none)
  (I:Inv g env ρ s.heap F M) (hg:env.globals=mainNs) (hb:env.builtins=builtinsNs) (k1:env.kindOf "list" =some .globalImplicit) (k2:env.kindOf "_namespace_map" =some .globalImplicit)
  (l1:mg "list" =none) (l2:mb "list" =some (.type "list")) (n1:mg "_namespace_map" =some (.ref 132))
  (hm:∀{A:Around} {E:Value→Shared→Prop} {s:Shared} {Q:Value→Shared→Prop},wpAny (model g.prog g.w) A (eval (.Name "_namespace_map" p2) env) (fun ov s₁=>wpAny (model g.prog g.w) A (getMethod ov "items" (do return (←importBound (.Name "_namespace_map" p2) env).getD true)) (fun fx s₂=>wpAny (model g.prog g.w) A (callWith p4 fx.1 fx.2 (backTo p4 (starEach [] env)) []) Q E s₂) E s₁) E s→wpAny (model g.prog g.w) A (eval (.Call (.Attribute (.Name "_namespace_map" p2) "items" p3) [] [] p4) env) Q E s)
  (H:∀L h' t' acc,Ext s.heap h'→s.heap.get? L=none→h'.PlainList L acc→Q (.ref L) {s with heap:=h',toks:=t'}):
  wpAny (model g.prog g.w) A (eval (.Call (.Name "list" p1) [.Call (.Attribute (.Name "_namespace_map" p2) "items" p3) [] [] p4] [] p5) env) Q E s:=by
 refine ar (nmB B.toBase I hg hb k1 (by decide+kernel) l1 l2 ?_)
 refine PySem.callWith_type1 ?_
 refine wn bq ?_
 have at0:=ns_at B I.base
 refine xEEAAA (id at0) fun o es ho hx hd0 r=>?_
 refine hm (nmG B.toBase I hg k2 (by decide+kernel) n1 (getMethod_builtin (T:= "dict") ⟨_,ho,hx.1⟩ PySem.F.plainAttrs_dict PySem.F.slot_dict_items PySem.F.type_dict_items (noDict ho hx.2.1) (callWith_method0 ?_)))
 refine call_meetsIn PySem.F.slot_dict_items ⟨_,ho,hx.1⟩ PySem.F.entry_dict_items (PySem.F.args_dict_items_1 _) (meets_dict_items (strKind g.prog g.w) 132 (by decide)) ⟨⟨_,at0.dictOf⟩,?_⟩
 refine kdx_call (knd:=strKind g.prog g.w) (d:=132) (kvs:=_) (ep:=7) hh ⟨_,bc _ rfl,rfl,rfl⟩ (at0.push _) (by simp[nsL];rw[bb];lia) fun h' tk acc c as k0 hS Y Y Y=>?_
 have n0:s.heap.get? (s.heap.push {cls:= .type "dict_items",data:= .fields #[.ref 132] }).objs.size=none:=by
  cases e:s.heap.get? (s.heap.push {cls:= .type "dict_items",data:= .fields #[.ref 132] }).objs.size with
  |none=>rfl
  |some o=>have:=bd {cls:= .type "dict_items",data:= .fields #[.ref 132] } e;rw[get?_size]at this;cases this
 exact H _ h' tk acc (fun a o ho=>k0 a o (bd _ ho)) n0 ⟨c,hS⟩
theorem contract_of{g:Gnd}{mg mb:Str→Option Value}(B:Base g mg mb){a:Addr}{fd:FuncData}{body:List Stmt}(X:FnAt g a fd body){names:List Str}{G:Rho}{own:Str}{n:Nat}{f:List PV→Option PV}
  (hbind:∀vals:List Value,vals.length=names.length→bindArgs fd ⟨vals,[]⟩=pure (names.zip vals)) (hgen:fd.scope.isGenerator=false)
  (hG:∀x e,G.lookup x=some e→GlobOk g mg mb x e) (h1:globNames fd.scope.names G=true) (h2:parNames fd.scope.names names=true) (h3:uniqStr names=true) (h4:uniqNames fd.scope.names=true)
  (hf:∀ps p,f ps=some p→ps.length=names.length∧pxs n (frameSC fd.scope.names own) (argsR names ps G) body=some (.ret p)∧flatPV p=true):Contract {g with K:=n+g.K+1} a f:=by
 refine xEA X.at_ fun o ho hd=>?_
 exact def_contract ho hd (by rw[X.glob];exact B.ng) (by rw[X.blt];exact B.nb) B.lim X.code B.low X.body X.clo hbind X.co hgen X.kind hG h1 h2 h3 h4 hf
noncomputable def fnEof:FuncData:=fd (dT 64) (z "ISEOF") 3 .none .none (vs "cpy313.token" 2353) (.ref 125) 0
theorem fnEof_at{g:Gnd}{mg mb:Str→Option Value}(B:GroundR g mg mb):FnAt g 126 fnEof (dT 64).body:=by
 refine⟨⟨ob126 g.w.params,B.R _ _ rfl,rfl⟩,rfl,rfl,rfl,rfl,codeRec_of B.R (by kernel_rfl),rfl,rfl⟩
noncomputable def f_eof(ps:List PV):Option PV:=o1 (o1 (sgl ps) isI) fun n=>some (.bool (n==0))
theorem eof_ok{g:Gnd}{mg mb:Str→Option Value}(B:GroundR g mg mb){tk:Tok}(he:mg "ENDMARKER" =some (.int 0 tk)):Contract {g with K:=8+g.K+1} 126 f_eof:=by
 refine contract_of (own:= "") (G:=[("ENDMARKER", .gv (.int 0))]) (names:=["x"]) B.toBase (fnEof_at B) (fun vals h=>?_) rfl ?_ (by kernel_rfl) (by kernel_rfl) (by kernel_rfl) (by kernel_rfl) fun ps p h=>?_
 ·refine xE (len_1 h) fun v Y=>?_;subst Y;rfl
 ·intro x e q
  exact lookup_one q fun hx hd=>by rw[hx,←hd];exact⟨rfl,_,he,fun Y Y=>Rv.int_iff.mpr ⟨_,rfl⟩⟩
 ·refine o1_inv h fun n hn h=>o1_inv hn fun q hq hn=>?_
  rw[sgl_eq hq,isI_eq hn,←bn h]
  exact⟨rfl,rfl,rfl⟩
noncomputable def fnLw:FuncData:=fd (dT 75) (z "_law_word") 3 .none .none (vs "law_kl0465_01" 2807) (.ref 267) 0
theorem fnLw_at{g:Gnd}{mg mb:Str→Option Value}(B:GroundR g mg mb):FnAt g 268 fnLw (dT 75).body:=by
 refine⟨⟨ob268 g.w.params,B.R _ _ rfl,rfl⟩,rfl,rfl,rfl,rfl,codeRec_of B.R (by kernel_rfl),rfl,rfl⟩
noncomputable def retOf(r:SR):Option PV:=match r with
 | .ret p=>some p
 |_=>none
theorem retOf_eq{r:SR}{p:PV}(h:retOf r=some p):r= .ret p:=by cases r<;>first|exact nn h|exact congrArg _ (bn h)
noncomputable def f_lw(ps:List PV):Option PV:=o1 (o1 (sgl ps) isS) fun x=>o1 (o1 (pxs 16 (frameSC fnLw.scope.names "") (argsR ["held"] [.str x] []) (dT 75).body) retOf) fun p=>gd (flatPV p) (some p)
theorem lw_ok{g:Gnd}{mg mb:Str→Option Value}(B:GroundR g mg mb):Contract {g with K:=16+g.K+1} 268 f_lw:=by
 refine contract_of (own:= "") (G:=[]) (names:=["held"]) B.toBase (fnLw_at B) (fun vals h=>?_) rfl (fun Y Y e=>nn e) (by kernel_rfl) (by kernel_rfl) (by kernel_rfl) (by kernel_rfl) fun ps p h=>?_
 ·refine xE (len_1 h) fun v Y=>?_;subst Y;rfl
 ·refine o1_inv h fun x hx h=>o1_inv hx fun q hq hx=>o1_inv h fun p hp h=>gd_inv h fun hf h=>o1_inv hp fun r hr hp=>?_
  rw[sgl_eq hq,isS_eq hx,←bn h]
  exact⟨rfl,retOf_eq hp▸hr,hf⟩
noncomputable def tokL:List (String×Nat×Value):=[("!",2453,vi 54 2451),("!=",2455,vi 28 2399),("%",2457,vi 24 2391),("%=",2459,vi 40 2423),("&",2461,vi 19 2381),("&=",2463,vi 41 2425),("(",2465,vi 7 2357),(")",2467,vi 8 2359),("*",2469,vi 16 2375),("**",2471,vi 35 2413),("**=",2473,vi 46 2435),("*=",2475,vi 38 2419),("+",2477,vi 14 2371),("+=",2479,vi 36 2415),(",",2481,vi 12 2367),("-",2483,vi 15 2373),("-=",2485,vi 37 2417),("->",2487,vi 51 2445),(".",2489,vi 23 2389),("...",2491,vi 52 2447),("/",2493,vi 17 2377),("//",2495,vi 47 2437),("//=",2497,vi 48 2439),("/=",2499,vi 39 2421),(":",2501,vi 11 2365),(":=",2503,vi 53 2449),(";",2505,vi 13 2369),("<",2507,vi 20 2383),("<<",2509,vi 33 2409),("<<=",2511,vi 44 2431),("<=",2513,vi 29 2401),("=",2515,vi 22 2387),("==",2517,vi 27 2397),(">",2519,vi 21 2385),(">=",2521,vi 30 2403),(">>",2522,vi 34 2411),(">>=",2523,vi 45 2433),("@",2524,vi 49 2441),("@=",2525,vi 50 2443),("[",2526,vi 9 2361),("]",2527,vi 10 2363),("^",2528,vi 32 2407),("^=",2529,vi 43 2429),("{",2530,vi 25 2393),("|",2531,vi 18 2379),("|=",2532,vi 42 2427),("}",2533,vi 26 2395),("~",2534,vi 31 2405)]
noncomputable def tokV:List (Str×Value):=tokL.map fun q=>(br q.1,q.2.2)
theorem tok_map{g:Gnd}{mg mb:Str→Option Value}(B:GroundR g mg mb){h:Heap}(base:Ext g.h₀ h):h.MapOf (PySem.strKind g.prog g.w) 117 (valueAt tokV):=
 (dict_ds (n:=48) tokL (base _ _ (B.R 117 (ob117 g.w.params) rfl)) (by decide+kernel)).dictOf.mapOf
noncomputable def tokK(c:Nat):Option Int:=match valueAt tokV (sv [c])with
 |some (.int k _)=>some k
 |none=>some 0
 |_=>none
structure RS where
 ks:List (List Nat)
 vs:List PV
 held:List Nat
 en:Bool
noncomputable def wordOf(h:List Nat):Option (List Nat):=o1 (f_lw [.str h]) isS
noncomputable def letOf(c:Nat):Option (List Nat):=o1 (f_b3c c) isS
theorem Contract.mono{g:Gnd}{K K':Nat}(h:K≤K'){a:Addr}{f:List PV→Option PV}(x:Contract {g with K:=K} a f):Contract {g with K:=K'} a f:=
 fun A E s F ps vs p Q ok base fl rs hp H=>x A E s F ps vs p Q (AOk.le ok h) base fl rs hp H
theorem runs_toks{M:Model}{Γ:Ctx}{p:Pos}{t:Sem Fin}{fs:List Frame}{s:Shared}{e:End}{s':Shared}(r:Runs M Γ p t fs s e s'):s.toks≤s'.toks:=by
 have hs:∀(x:Shared) (i:Nat) (y:GenState),(x.setGen i y).toks=x.toks:=fun Y Y Y=>rfl
 induction r<;>(try simp only[hs]at*)<;>lia
theorem wakes_toks{M:Model}{Γ:Ctx}{p:Pos}{gi:Nat}{r:Resume}{s:Shared}{res:GenResult}{s':Shared}(h:Wakes M Γ p gi r s res s'):s.toks≤s'.toks:=by
 unfold Wakes at h
 split at h
 ·exact h.elim
 ·split at h
  ·refine xEEAAA h fun e s1 a Y9 Y9 Y=>?_;clear h;subst Y;exact(show s.toks≤s1.toks from runs_toks (s:=s.setGen gi .running) a)
  ·refine xA h fun Y9 Y=>?_;clear h;subst Y;exact Nat.le_refl _
  ·refine xA h fun Y9 Y=>?_;clear h;subst Y;exact Nat.le_refl _
 ·refine xEEAAA h fun e s1 a Y9 Y9 Y=>?_;clear h;subst Y;exact(show s.toks≤s1.toks from runs_toks (s:=s.setGen gi .running) a)
 ·refine xA h fun Y9 Y=>?_;clear h;subst Y;exact Nat.le_refl _
 ·refine xA h fun Y9 Y=>?_;clear h;subst Y;exact Nat.le_refl _
theorem wp_toks{α:Type}{M:Model}{Γ:Ctx}(n:Nat):∀(t:Sem α) {Q:α→Pos→Shared→Prop} {E:Value→Pos→Shared→Prop} {p:Pos} {s:Shared},n≤s.toks→Sem.wp M Γ t Q E p s→Sem.wp M Γ t (fun a p s'=>n≤s'.toks∧Q a p s') (fun e p s'=>n≤s'.toks∧E e p s') p s:=by
 intro t
 induction t with
 |pure a=>intro Q E p s h q;exact⟨h,q⟩
 |raise e=>intro Q E p s h q;exact⟨h,q⟩
 |unsupported _=>intro Q E p s h q;exact q
 |finish _=>intro Q E p s h q;exact q
 |rule _ k ih=>intro Q E p s h q;exact ih () h q
 |«at» p' k ih=>intro Q E p s h q;exact ih () h q
 |load a pt k ih=>intro Q E p s h q;refine xEA q fun o a b=>?_;exact⟨o,a,ih o h b⟩
 |update a pt f k ih=>intro Q E p s h q;exact⟨q.1,ih () h q.2⟩
 |loadIfAlive a k ih=>intro Q E p s h q;exact ih _ h q
 |point _ k ih=>intro Q E p s h q;exact ih () h q
 |register _ _=>intro Q E p s h q;exact q
 |alloc o k ih=>intro Q E p s h q;exact ih _ h q
 |fresh k ih=>intro Q E p s h q;exact ih _ (Nat.le_succ_of_le h) q
 |ask k ih=>intro Q E p s h q;exact ih _ h q
 |choose src m k ih=>intro Q E p s h q;exact⟨q.1,ih _ h q.2⟩
 |os a b k ih=>intro Q E p s h q;exact ih _ h q
 |call c hd g l k ih=>intro Q E p s h q;refine xEEA q fun r s1 a b=>?_;exact⟨r,s1,a,ih r (Nat.le_trans h (runs_toks a)) b⟩
 |handled own k ih=>intro Q E p s h q;exact ih _ h q
 |genState gi k ih=>intro Q E p s h q;refine xEA q fun st a b=>?_;exact⟨st,a,ih _ h b⟩
 |newGen c k ih=>intro Q E p s h q;exact ih _ h q
 |resume gi r l k ih=>intro Q E p s h q;refine xEEA q fun res s1 a b=>?_;exact⟨res,s1,a,ih _ (Nat.le_trans h (wakes_toks a)) b⟩
 |yield _ _ _ _=>intro Q E p s h q;exact q
 |stack k ih=>intro Q E p s h q;exact ih _ h q
 |fork _ _=>intro Q E p s h q;exact q
 |thread k ih=>intro Q E p s h q;exact ih _ h q
 |await _ _ _=>intro Q E p s h q;exact q
theorem wpAny_toks{α:Type}{M:Model}{A:Around}{t:Sem α}{Q:α→Shared→Prop}{E:Value→Shared→Prop}{s:Shared}(h:wpAny M A t Q E s):wpAny M A t (fun a s'=>s.toks≤s'.toks∧Q a s') (fun e s'=>s.toks≤s'.toks∧E e s') s:=
 fun Γ p hΓ=>wp_toks s.toks t (Nat.le_refl _) (h Γ p hΓ)
theorem wpAny_keepToks{α:Type}{M:Model}{A:Around}{t:Sem α}{Q:α→Shared→Prop}{s:Shared}{n:Nat}(hn:n≤s.toks)(h:wpAny M A t (fun a s'=>n≤s'.toks→Q a s') noE s):wpAny M A t Q noE s:=
 aj (wpAny_toks h) (fun a s' q=>q.2 (Nat.le_trans hn q.1)) fun Y Y q=>q.2
theorem b3_toks:b3L.all (fun e=>match e.val with| .str _ t=>t !=0&&Nat.blt t 2845|_=>true)=true:=by decide+kernel
theorem b3_tokOf{c:Int}{x:Str}{tx:Tok}(h:b3F c=some (.str x tx)):tx≠0∧tx<2845:=by
 unfold b3F at h
 cases e:b3L.find? (fun e=>isIv c e.key)with
 |none=>rw[e]at h;exact nn h
 |some en=>
  rw[e]at h
  have q:=bs.mp b3_toks en (List.mem_of_find?_eq_some e)
  simp only[Option.map_some,Option.some.injEq]at h
  rw[h]at q
  simp only[bp,bne_iff_ne,Nat.blt_eq]at q
  exact q
theorem b3_tok{g:Gnd}{mg mb:Str→Option Value}(B:GroundR g mg mb)(ho1:mg "ord" =none)(ho2:mb "ord" =some (.builtin "ord"))(hb:mg "b3_exceptions" =some (.ref 71)){A:Around}{E:Value→Shared→Prop}{s:Shared}{c l:Nat}{t0:Tok}{Q:Value→Shared→Prop}
  (ok:AOk (20+g.K) A) (base:Ext g.h₀ s.heap) (hN:2845≤s.toks) (hp:f_b3 [.str [c]]=some (.str [l]))
  (H:∀h' t' tk,Ext s.heap h'→tk≠0→tk<t'→Q (.str (sv [l]) tk) {s with heap:=h',toks:=t'}):wpAny (model g.prog g.w) A (call (.ref 116) [.str (sv [c]) t0]) Q noE s:=by
  refine wpAny_keepToks hN ?_
  refine wpAny_call (enter_fn (k:=19+g.K) (F:=fun Y=>False) (own:= "") (G:=[("ord", .bi .ord)]) (names:=["code"]) (ps:=[.str [c]]) (vals:=[.str (sv [c]) t0]) B.toBase (fnB3_at B) rfl ?hG (by kernel_rfl) (by kernel_rfl) (by kernel_rfl) (by kernel_rfl)
   (ok.le (by show 19+g.K+1≤20+g.K;lia)) base (fun Y q=>q.elim) (fun q=>q) (fun q=>q) (fun Y q=>q.elim) (BindsTo.of_eq (by rfl)) ?rs rfl fun env h t fr okd=>?_)
  case hG=>
   intro x e q
   exact lookup_one q fun hx he=>by rw[hx,←he];exact⟨ho1,ho2⟩
  case rs=>exact .cons (Rv.str_iff.mpr ⟨_,rfl⟩) .nil
  have cn0:Cn env []:=fun Y q=>by cases q
  have kk:∀x,env.kindOf x=fnB3.scope.names.lookup x:=fun x=>by rw[←fr.scope];rfl
  have hbd:Bindable env (frameSC fnB3.scope.names "").bk:=fr.sok.bind
  have hm:∀a,OwnOf env a→g.h₀.get? a=none:=fun a q=>by
   cases e:g.h₀.get? a with
   |none=>rfl
   |some o=>have:=base a o e;rw[fr.new a q]at this;cases this
  have m0:=b3_map B fr.inv.base
  refine xEEEAA (id m0) fun o71 es71 ep71 ho71 hx71 Y=>?_
  refine af (aq (bj (nmG (s:= {s with heap:=h,toks:=t}) B.toBase fr.inv fr.glob (by rw[kk];kernel_rfl) (by decide+kernel) hb (getMethod_builtin (T:= "dict") ⟨_,ho71,hx71.1⟩ PySem.F.plainAttrs_dict PySem.F.slot_dict_get PySem.F.type_dict_get (by rintro b hb;cases hb;exact⟨_,ho71,hx71.2.1⟩)
   (get1_of (knd:=PySem.intKind g.prog g.w) (by decide) (by rfl) ((sound g 6).e [] _ _ (.int c) env _ _ _ _ {s with heap:=h,toks:=t} _ (by rfl) (okd.lt) fr.inv cn0 fun v1 h1 t1 x1 r1=>?_))))))
  refine xE (Rv.int_iff.mp r1) fun k1 Y=>?_;subst Y
  have I1:=fr.inv.ext x1
  refine⟨(c:Int),b3F,by simp[PySem.intKind,Value.isInt],b3_map B I1.base,?_⟩
  replace hp:f_b3c c=some (.str [l]):=hp
  unfold f_b3c at hp
  generalize hbv:b3F (c:Int)=bv at hp⊢
  cases bv with
  |some bv=>
   refine o1_inv (show o1 (strV bv) (fun z=>some (PV.str z.1.cps.toList))=some (PV.str [l])from hp) fun z hz hp=>?_
   obtain⟨x,tx⟩:=z
   rw[strV_eq hz]at hbv⊢
   have hp:=PV.str.inj (bn hp)
   have hx:x=sv [l]:=by rw[←hp,sv_of]
   have ht:=b3_tokOf hbv
   rw[hx]
   refine store_own (s:= {s with heap:=h1,toks:=t1+1}) (bk:=(frameSC fnB3.scope.names "").bk) I1 hbd (by kernel_rfl) (fun a q=>hm a q.of) (p:= .obj (.str (sv [l]) tx)) (Rv.obj_iff.mpr rfl) fun h2 t2 m2 I2=>?_
   have X2:Ext s.heap h2:=fun a o ho=>m2 a o (x1 _ _ (fr.ext _ _ ho)) fun q=>by rw[fr.new a q.of]at ho;cases ho
   refine af (wpAny_If (az (nmO (s:= {s with heap:=h2,toks:=t2}) I2 rfl (ax (wpAny_isNot_other (by rfl) (fun q=>nomatch q) (av ?_))))))
   refine py rfl ?_
   refine af (wpAny_Return_some (nmO (s:= {s with heap:=h2,toks:=t2}) I2 rfl ?_))
   exact fun hq=>H _ _ _ X2 ht.1 (Nat.lt_of_lt_of_le ht.2 hq)
  |none=>
   refine gd_inv (show gd (c.blt 128) (some (PV.str [lo1 c]))=some (PV.str [l])from hp) fun hc hp=>?_
   rw[←(List.cons.inj (PV.str.inj (bn hp))).1]at H
   refine store_own (s:= {s with heap:=h1,toks:=t1+1}) (bk:=(frameSC fnB3.scope.names "").bk) I1 hbd (by kernel_rfl) (fun a q=>hm a q.of) (p:= .none) (Rv.none_iff.mpr rfl) fun h2 t2 m2 I2=>?_
   have X2:Ext s.heap h2:=fun a o ho=>m2 a o (x1 _ _ (fr.ext _ _ ho)) fun q=>by rw[fr.new a q.of]at ho;cases ho
   refine af (wpAny_If (az (nmN (s:= {s with heap:=h2,toks:=t2}) I2 rfl (ax (wpAny_isNot_self rfl (av ?_))))))
   refine pn bq ?_
   refine ag ?_
   have hA:∀k∈(sv [c]).cps.toList,k<128:=fun k hk=>by
    rw[sv_cps]at hk
    rw[cf.mp hk]
    exact blt_lt hc
   have el:Txt.lower (sv [c])=sv [lo1 c]:=by rw[lower_ascii hA];simp[sv]
   refine af (wpAny_Return_some (wpAny_Call_method_lateS rfl (by rfl) (by rfl) (nmS (s:= {s with heap:=h2,toks:=t2}) (y:=[c]) I2 rfl fun tt=>SB.lower ?_ ?_)))
   ·rw[el,sv_length];show Builtin.Str.tooLong 1=false;decide
   rw[el]
   intro hq
   refine H h2 _ _ X2 ?_ (Nat.lt_succ_self _)
   intro z
   have:2845≤t2+1:=hq
   have z':t2=0:=z
   lia
noncomputable def fnWs:FuncData:=fd (dT 76) (z "_law_words") 3 .none .none (vs "law_kl0465_01" 2807) (.ref 274) 0
theorem fnWs_at{g:Gnd}{mg mb:Str→Option Value}(B:GroundR g mg mb):FnAt g 275 fnWs (dT 76).body:=by
 refine⟨⟨ob275 g.w.params,B.R _ _ rfl,rfl⟩,rfl,rfl,rfl,rfl,codeRec_of B.R (by kernel_rfl),rfl,rfl⟩
theorem lookup_mem{x:Str}{e:Ent}:∀{ρ:Rho},ρ.lookup x=some e→(x,e)∈ρ
 |[],h=>by exact nn h
 |(y,d)::r,h=>by
  simp only[List.lookup]at h
  split at h
  ·rename_i hh;cases h;rw[beq_iff_eq.mp hh];exact cb ..
  ·exact bw _ (lookup_mem h)
theorem Inv.weak{g:Gnd}{env:Env}{ρ ρ':Rho}{h:Heap}{F M:Addr→Prop}(I:Inv g env ρ h F M)(hs:∀q∈ρ',ρ.lookup q.1=some q.2):Inv g env ρ' h F M:=
 ⟨I.kind,I.base,I.low,I.fl,I.sub,I.glob,I.blt,I.glive,I.loc,I.mloc,I.cel,I.celd,fun x e hx=>I.ents x e (hs (x,e) (lookup_mem hx))⟩
theorem Inv.objStr{g:Gnd}{env:Env}{ρ ρ':Rho}{h:Heap}{F M:Addr→Prop}{x:Str}{y:List Nat}{t:Tok}(I:Inv g env ρ h F M)(hx:ρ.lookup x=some (.val (.obj (.str (sv y) t)))):Inv g env (setR ρ x (.val (.str y))) h F M:=
 ⟨I.kind,I.base,I.low,I.fl,I.sub,I.glob,I.blt,I.glive,I.loc,I.mloc,I.cel,I.celd,fun z e hz=>by
  rw[setR_lookup]at hz
  split at hz
  ·rename_i hh
   cases hz
   subst hh
   refine xA (I.ents _ _ hx) fun Y d=>?_;obtain⟨v,a,b⟩:=Y
   exact⟨⟨v,a,Rv.str_iff.mpr ⟨t,Rv.obj_iff.mp b⟩⟩,d⟩
  ·exact I.ents z e hz⟩
noncomputable def GW:Rho:=[("len", .bi .len),("ISEOF", .fn f_eof),("in_table_b1", .fn f_b1),("_law_word", .fn f_lw)]
noncomputable def RW(page:List Nat)(D:Addr)(held:List Nat)(en:Bool):Rho:=("page", .val (.str page))::("words", .val (.obj (.ref D)))::("held", .val (.str held))::("ending", .val (.bool en))::GW
noncomputable def rd1(c:Nat)(r:RS):Option (Option RS):=match tokK c with
 |none=>none
 |some k=>if k==20 then some (some {r with en:=false})else if k==17 then some (some {r with en:=true})else if k==21 then(if r.held.length==0 then some none else some (some r))else
  if b1S c then some (some r)else match letOf c with
  |some [l]=>if r.en then some (some {r with held:=r.held.filter (·!=l)})else match wordOf (r.held++[l])with
   |some w=>some (some {ks:=(putK r.ks r.vs [l] (.str w)).1,vs:=(putK r.ks r.vs [l] (.str w)).2,held:=r.held++[l],en:=r.en})
   |none=>none
  |_=>none
noncomputable def rdP:List Nat→RS→Option (List (List Nat)×List PV)
 |[],_=>none
 |c::cs,r=>match rd1 c r with
  |none=>none
  |some none=>some (r.ks,r.vs)
  |some (some r')=>rdP cs r'
noncomputable def forT:Stmt→Expr
 | .For t _ _ _ _=>t
 |_=> .Name "" default
noncomputable def forB:Stmt→List Stmt
 | .For _ _ b _ _=>b
 |_=>[]
noncomputable def wsFor:Stmt:=nthS 3 (dT 76).body
noncomputable def wsB:List Stmt:=forB wsFor
noncomputable def wsT:Expr:=forT wsFor
structure LW(g:Gnd)(env:Env)(F:Addr→Prop)(page:List Nat)(D:Addr)(r:RS)(h:Heap):Prop where
 inv:Inv g env (RW page D r.held r.en) h F (OwnOf env)
 dict:DictRep g.prog g.w h F D r.ks r.vs
structure LF(g:Gnd)(mg mb:Str→Option Value)(env:Env)(F:Addr→Prop)(D:Addr):Prop where
 glob:env.globals=mainNs
 blt:env.builtins=builtinsNs
 sok:SOk g env (frameSC fnWs.scope.names "")
 kk:∀x,env.kindOf x=fnWs.scope.names.lookup x
 m0:∀a,F a→g.h₀.get? a=none
 hD:F D
 nD:¬OwnOf env D
 sD:(D==sysModules)=false
 ord1:mg "ord" =none
 ord2:mb "ord" =some (.builtin "ord")
 b3:mg "b3_exceptions" =some (.ref 71)
 m3:mg "map_table_b3" =some (.ref 116)
 tok:mg "EXACT_TOKEN_TYPES" =some (.ref 117)
theorem get2_of{prog:Program}{w:World}{K:Type}[DecidableEq K]{knd:PySem.KeyKind prog w K}{A:Around}{E:Value→Shared→Prop}{s:Shared}{env:Env}{pos:Pos}{d:Addr}{e e2:Expr}{Q:Value→Shared→Prop}(hd:(d==sysModules)=false)(he:starEach [e,e2] env=[(false,eval e env),(false,eval e2 env)])
  (h:wpAny (model prog w) A (eval e env) (fun key s₁=>wpAny (model prog w) A (eval e2 env) (fun dflt s₂=>∃k f,knd.is k key=true∧s₂.heap.MapOf knd d f∧Q ((f k).getD dflt) {s₂ with toks:=s₂.toks+1}) E s₁) E s):
  wpAny (model prog w) A (callWith pos (.builtin "dict.get") [.ref d] (backTo pos (starEach [e,e2] env)) []) Q E s:=by
 rw[he]
 exact wpAny_dict_get2 (knd:=knd) hd h
theorem keep_rd(P:Params):∀f∈[116,275,52],keepIn (KRd P) (.ref f)=true:=by
 simp only[List.forall_mem_cons,cj,false_imp_iff,implies_true,and_true]
 refine⟨?_,?_,?_⟩<;>kernel_rfl
theorem callWith_rd{g:Gnd}{mg mb:Str→Option Value}(B:GroundR g mg mb){A:Around}{E:Value→Shared→Prop}{s:Shared}{env:Env}{pos:Pos}{f:Addr}{first:List Value}{e:Expr}{rest:List Expr}{Q:Value→Shared→Prop}(base:Ext g.h₀ s.heap)
  (hf:f∈[116,275,52]) (h:wpAny (model g.prog g.w) A (spliced (backTo pos (starEach (e::rest) env))) (fun vs s₁=>Ext g.h₀ s₁.heap∧wpAny (model g.prog g.w) A (call (.ref f) (first++vs)) Q E s₁) E s)
  (he:starEach (e::rest) env=(false,eval e env)::starEach rest env:=by rfl) (hpl:(backTo pos (starEach rest env)).any (·.1)=false:=by rfl):
  wpAny (model g.prog g.w) A (callWith pos (.ref f) first (backTo pos (starEach (e::rest) env)) []) Q E s:=by
 refine callWith_K (K:=KRd g.w.params) (B.R.keeps base) (keep_rd _ f hf) ?_ he hpl
 exact aj h (fun vs s₁ Y=>xA Y fun b z=>⟨B.R.keeps b,z⟩) fun Y Y z=>z
theorem pe_name{n:Nat}{cn:List Str}{ρ:Rho}{x:Str}{p:Pos}{q:PV}(h:ρ.lookup x=some (.val q)):pe (n+1) cn ρ (.Name x p)=some q:=by show eName (ρ.lookup x)=some q;rw[h];rfl
theorem pe_call1{n:Nat}{cn:List Str}{ρ:Rho}{x:Str}{p p':Pos}{a:Expr}{v r:PV}{e:Ent}(h:ρ.lookup x=some e)(ha:pe (n+1) cn ρ a=some v)(hp:plainArg a=true)(hf:callE (some e) (some [v])=some r):pe (n+3) cn ρ (.Call (.Name x p) [a] [] p')=some r:=by
 show callE (ρ.lookup x) (pl (n+2) cn ρ [a])=some r
 rw[h,show pl (n+2) cn ρ [a]=some [v]from gd_mk hp (o2_mk ha rfl rfl)]
 exact hf
theorem letOf_of{c l:Nat}(h:letOf c=some [l]):f_b3 [.str [c]]=some (.str [l]):=o1_inv h fun p hp h=>by rw[←isS_eq h];exact hp
theorem eofT{ρ:Rho}{held:List Nat}(hh:held.length≤1000){p1 p2 p3 p4 p5:Pos}(h1:ρ.lookup (br "ISEOF")=some (.fn f_eof))(h2:ρ.lookup (br "len")=some (.bi .len))(h3:ρ.lookup (br "held")=some (.val (.str held))):pt 8 [] ρ (.Call (.Name (br "ISEOF") p1) [.Call (.Name (br "len") p2) [.Name (br "held") p3] [] p4] [] p5)=some ((held.length:Int)==0):=by
 have hb:held.length.blt 10000=true:=by simp only[Nat.blt_eq];lia
 have hl:callBI .len [.str held]=some (.int held.length):=by show(if held.length.blt 10000 then _ else none)=_;rw[if_pos hb]
 exact o1_mk (pe_call1 (n:=4) h1 (pe_call1 (n:=2) h2 (pe_name h3) rfl hl) rfl rfl) rfl
theorem wordOf_of{x w:List Nat}(h:wordOf x=some w):f_lw [.str x]=some (.str w):=o1_inv h fun p hp h=>by rw[←isS_eq h];exact hp
theorem lwT{ρ:Rho}{held w:List Nat}{p1 p3 p5:Pos}(h1:ρ.lookup (br "_law_word")=some (.fn f_lw))(h3:ρ.lookup (br "held")=some (.val (.str held)))(hw:wordOf held=some w):pe 8 [] ρ (.Call (.Name (br "_law_word") p1) [.Name (br "held") p3] [] p5)=some (.str w):=by
 exact pe_call1 (n:=5) h1 (pe_name h3) rfl (wordOf_of hw)
theorem w8{α:Type}{P:α→Prop}{a b c d e f g h:α}(ha:P a)(hb:P b)(hc:P c)(hd:P d)(he:P e)(hf:P f)(hg:P g)(hh:P h):∀q∈[a,b,c,d,e,f,g,h],P q:=by
 intro q hq
 simp only[bz,cj,or_false]at hq
 rcases hq with rfl|rfl|rfl|rfl|rfl|rfl|rfl|rfl<;>assumption
set_option tactic.hygienic true in
theorem ws_turn{g:Gnd}{mg mb:Str→Option Value}(B:GroundR g mg mb){env:Env}{F:Addr→Prop}{D:Addr}{page:List Nat}{A:Around}(ok:AOk (30+g.K) A)(X:LF g mg mb env F D){c:Nat}{r:RS}{o:Option RS}(hr:rd1 c r=some o)(hk:r.ks.length≤100)(hh:r.held.length≤1000)
  {s:Shared} (hN:2845≤s.toks) (I:Inv g env (setR (RW page D r.held r.en) "sign" (.val (.str [c]))) s.heap F (OwnOf env)) (d:DictRep g.prog g.w s.heap F D r.ks r.vs) {Q:Flow→Shared→Prop}
  (Hn:∀r' h' t',o=some r'→LW g env F page D r' h'→Mod (fun a=>OwnOf env a∨a=D) s.heap h'→Q .next {s with heap:=h',toks:=t'})
  (He:∀h' t',o=none→LW g env F page D r h'→Mod (fun a=>OwnOf env a∨a=D) s.heap h'→Q (.ret (.ref D)) {s with heap:=h',toks:=t'}):
  wpAny (model g.prog g.w) A (execs wsB env) Q noE s:=by
 have cn0:Cn env []:=fun Y q=>by cases q
 have hbd:=X.sok.bind
 have hm:∀a,OwnOf env a→g.h₀.get? a=none:=fun a q=>X.m0 a (I.sub a q)
 have m1:=tok_map B I.base
 refine xEEEAA (id m1) fun o1 es1 ep1 ho1 hx1 Y=>?_
 refine af (wpAny_keepToks hN (aq (bj (nmG (s:=s) B.toBase I X.glob (by rw[X.kk];kernel_rfl) (by decide+kernel) X.tok (getMethod_builtin (T:= "dict") ⟨_,ho1,hx1.1⟩ PySem.F.plainAttrs_dict PySem.F.slot_dict_get PySem.F.type_dict_get (by rintro b hb;cases hb;exact⟨_,ho1,hx1.2.1⟩)
  (get2_of (knd:=PySem.strKind g.prog g.w) (by decide) (by rfl) (nmS (s:=s) (y:=[c]) I (by rw[setR_lookup,if_pos rfl]) fun tt=>wpAny_Constant_int ⟨sv [c],valueAt tokV,by simp[PySem.strKind,Value.isStrOf],tok_map B I.base,?_⟩)))))))
 unfold rd1 at hr
 cases ek:tokK c with
 |none=>rw[ek]at hr;exact nn hr
 |some k=>
  rw[ek]at hr
  dsimp only at hr
  have hv:∃tk,(valueAt tokV (sv [c])).getD (.int 0 s.toks)= .int k tk:=by
   unfold tokK at ek
   split at ek
   ·rename_i k' t' hq;cases ek;rw[hq];exact⟨_,rfl⟩
   ·rename_i hq;cases ek;rw[hq];exact⟨_,rfl⟩
   ·cases ek
  refine xE hv fun tk hv=>?_
  rw[hv]
  refine store_own (s:= {s with toks:=s.toks+1+1}) (bk:=(frameSC fnWs.scope.names "").bk) I hbd (by kernel_rfl) (fun a q=>hm a q.of) (p:= .int k) (Rv.int_iff.mpr ⟨_,rfl⟩) fun h2 t2 m2 I2 hN2=>?_
  have M2:Mod (fun a=>OwnOf env a∨a=D) s.heap h2:=m2.mono fun a q=> .inl q.of
  have W2:Inv g env (RW page D r.held r.en) h2 F (OwnOf env):=I2.weak (w8 rfl rfl rfl rfl rfl rfl rfl rfl)
  have keepD:∀{h h':Heap} {ks vs},Mod (Own env (frameSC fnWs.scope.names "").bk) h h'→DictRep g.prog g.w h F D ks vs→DictRep g.prog g.w h' F D ks vs:=fun m d=>d.up (fun a o ho nf=>⟨nf,m a o ho fun q=>nf (I.sub a q.of)⟩) (fun o ho=>m D o ho fun q=>X.nD q.of)
  have d2:DictRep g.prog g.w h2 F D r.ks r.vs:=keepD m2 d
  have ME:∀{h h':Heap},Mod (fun a=>OwnOf env a∨a=D) s.heap h→Ext h h'→Mod (fun a=>OwnOf env a∨a=D) s.heap h':=fun m x a o ho nq=>x a o (m a o ho nq)
  have MO:∀{h h':Heap},Mod (fun a=>OwnOf env a∨a=D) s.heap h→Mod (Own env (frameSC fnWs.scope.names "").bk) h h'→Mod (fun a=>OwnOf env a∨a=D) s.heap h':=fun m x a o ho nq=>x a o (m a o ho nq) fun q=>nq (.inl q.of)
  have dE:∀{h h':Heap} {ks vs},Ext h h'→DictRep g.prog g.w h F D ks vs→DictRep g.prog g.w h' F D ks vs:=fun x d=>d.up (x.up F) fun o ho=>x D o ho
  refine ex1 (wpAny_If (wpAny_keepToks hN2 ((sound g 8).t [] _ _ (k==20) env _ _ _ _ {s with heap:=h2,toks:=t2} _ (by kernel_rfl) (ok.lt) I2 cn0 fun h3 t3 x3 hN3=>?_)))
  have I3:=I2.ext x3
  have M3:=ME M2 x3
  have d3:=dE x3 d2
  cases hk20:k==20 with
  |true=>
   rw[hk20]at hr
   simp only[if_true,Option.some.injEq]at hr
   subst hr
   simp only[if_true]
   refine ex1 (aq ((sound g 8).e [] _ _ (.bool false) env _ _ _ _ {s with heap:=h3,toks:=t3} _ (by kernel_rfl) (ok.lt) I3 cn0 fun v4 h4 t4 x4 r4=>?_))
   refine store_own (s:= {s with heap:=h4,toks:=t4}) (bk:=(frameSC fnWs.scope.names "").bk) (I3.ext x4) hbd (by kernel_rfl) (fun a q=>hm a q.of) (p:= .bool false) (Rv.flat rfl r4) fun h5 t5 m5 I5=>?_
   refine Hn _ h5 t5 rfl ⟨I5.weak ?_,keepD m5 (dE x4 d3)⟩ (MO (ME M3 x4) m5)
   exact w8 rfl rfl rfl rfl rfl rfl rfl rfl
  |false=>
  rw[hk20]at hr
  simp only[Bool.false_eq_true,if_false]at hr⊢
  refine ex1 (wpAny_If (wpAny_keepToks hN3 ((sound g 8).t [] _ _ (k==17) env _ _ _ _ {s with heap:=h3,toks:=t3} _ (by kernel_rfl) (ok.lt) I3 cn0 fun h4 t4 x4 hN4=>?_)))
  have I4:=I3.ext x4
  have M4:=ME M3 x4
  have d4:=dE x4 d3
  cases hk17:k==17 with
  |true=>
   rw[hk17]at hr
   simp only[if_true,Option.some.injEq]at hr
   subst hr
   simp only[if_true]
   refine ex1 (aq ((sound g 8).e [] _ _ (.bool true) env _ _ _ _ {s with heap:=h4,toks:=t4} _ (by kernel_rfl) (ok.lt) I4 cn0 fun v5 h5 t5 x5 r5=>?_))
   refine store_own (s:= {s with heap:=h5,toks:=t5}) (bk:=(frameSC fnWs.scope.names "").bk) (I4.ext x5) hbd (by kernel_rfl) (fun a q=>hm a q.of) (p:= .bool true) (Rv.flat rfl r5) fun h6 t6 m6 I6=>?_
   refine Hn _ h6 t6 rfl ⟨I6.weak ?_,keepD m6 (dE x5 d4)⟩ (MO (ME M4 x5) m6)
   exact w8 rfl rfl rfl rfl rfl rfl rfl rfl
  |false=>
  rw[hk17]at hr
  simp only[Bool.false_eq_true,if_false]at hr⊢
  refine ex1 (wpAny_If (wpAny_keepToks hN4 ((sound g 8).t [] _ _ (k==21) env _ _ _ _ {s with heap:=h4,toks:=t4} _ (by kernel_rfl) (ok.lt) I4 cn0 fun h5 t5 x5 hN5=>?_)))
  have I5:=I4.ext x5
  have M5:=ME M4 x5
  have d5:=dE x5 d4
  cases hk21:k==21 with
  |true=>
   rw[hk21]at hr
   simp only[if_true]at hr⊢
   refine ex1 (wpAny_If ((sound g 8).t [] _ _ ((r.held.length:Int)==0) env _ _ _ _ {s with heap:=h5,toks:=t5} _ (eofT hh rfl rfl rfl) (ok.lt) I5 cn0 fun h6 t6 x6=>?_))
   rw[show((r.held.length:Int)==0)=(r.held.length==0)from by cases r.held.length<;>rfl]
   have I6:=I5.ext x6
   have M6:=ME M5 x6
   have d6:=dE x6 d5
   have L6:LW g env F page D r h6:=⟨I6.weak (w8 rfl rfl rfl rfl rfl rfl rfl rfl),d6⟩
   cases h0:r.held.length==0 with
   |true=>
    rw[h0]at hr
    simp only[if_true,Option.some.injEq]at hr⊢
    subst hr
    refine ex1 (wpAny_Return_some (nmO (s:= {s with heap:=h6,toks:=t6}) I6 rfl ?_))
    exact He h6 t6 rfl L6 M6
   |false=>
    rw[h0]at hr
    simp only[Bool.false_eq_true,if_false,Option.some.injEq]at hr⊢
    subst hr
    refine ag ?_
    exact Hn _ h6 t6 rfl L6 M6
  |false=>
  rw[hk21]at hr
  simp only[Bool.false_eq_true,if_false]at hr⊢
  have hl:letOf c=letOf c:=rfl
  refine ex1 (wpAny_If (wpAny_keepToks hN5 ((sound g 8).t [] _ _ (!b1S c) env _ _ _ _ {s with heap:=h5,toks:=t5} _ (by kernel_rfl) (ok.lt) I5 cn0 fun h6 t6 x6 hN6=>?_)))
  have I6:=I5.ext x6
  have M6:=ME M5 x6
  have d6:=dE x6 d5
  cases hb1:b1S c with
  |true=>
   rw[hb1]at hr
   simp only[if_true,Bool.not_true,Bool.false_eq_true,if_false,Option.some.injEq]at hr⊢
   subst hr
   refine ag ?_
   refine Hn _ h6 t6 rfl ⟨I6.weak ?_,d6⟩ M6
   exact w8 rfl rfl rfl rfl rfl rfl rfl rfl
  |false=>
  rw[hb1]at hr
  simp only[Bool.false_eq_true,if_false,Bool.not_false,if_true]at hr⊢
  split at hr
  case h_2=>cases hr
  rename_i l hl
  have hl3:=letOf_of hl
  refine af (aq (ar (nmG (s:= {s with heap:=h6,toks:=t6}) B.toBase I6 X.glob (by rw[X.kk];kernel_rfl) (by decide+kernel) X.m3 (callWith_rd (s:= {s with heap:=h6,toks:=t6}) B I6.base (by decide) (splC (by rfl) (nmS (s:= {s with heap:=h6,toks:=t6}) (y:=[c]) I6 rfl fun tt=>spl0 ⟨I6.base,?_⟩))))))
  refine b3_tok (E:=noE) (s:= {s with heap:=h6,toks:=t6}) B X.ord1 X.ord2 X.b3 (ok.lt) I6.base hN6 hl3 fun h7 t7 tk x7 tk0 tkl=>?_
  have I7:=I6.ext x7
  have M7:=ME M6 x7
  have d7:=dE x7 d6
  refine wpAny_keepToks (n:=tk+1) tkl ?_
  refine store_own (s:= {s with heap:=h7,toks:=t7}) (bk:=(frameSC fnWs.scope.names "").bk) I7 hbd (by kernel_rfl) (fun a q=>hm a q.of) (p:= .obj (.str (sv [l]) tk)) (Rv.obj_iff.mpr rfl) fun h8 t8 m8 I8 hN8=>?_
  have M8:=MO M7 m8
  have d8:=keepD m8 d7
  refine ex1 (wpAny_If (wpAny_keepToks (n:=tk+1) hN8 ((sound g 8).t [] _ _ r.en env _ _ _ _ {s with heap:=h8,toks:=t8} _ (by kernel_rfl) (ok.lt) I8 cn0 fun h9 t9 x9 hN9=>?_)))
  have I9:=I8.ext x9
  have M9:=ME M8 x9
  have d9:=dE x9 d8
  cases hen:r.en with
  |true=>
   rw[hen]at hr
   simp only[if_true,Option.some.injEq]at hr⊢
   subst hr
   refine ex1 (aq (bj (nmS (s:= {s with heap:=h9,toks:=t9}) (y:=r.held) I9 rfl fun th=>GM.replace (callWith_method1 (splC (by rfl) (nmO (s:= {s with heap:=h9,toks:=t9}) I9 rfl (splC (by rfl) (wpAny_Constant_str (spl0 ?_)))))))))
   refine SC.replaceW tk0 ?_ ?_ ?_ ?_ ?_ fun tr k9=>?_
   ·exact fun z=>Nat.ne_of_gt (Nat.lt_of_le_of_lt (Nat.zero_le tk) (show tk<t9 from hN9)) z
   ·exact fun z=>Nat.ne_of_lt (show tk<t9 from hN9) z
   ·rfl
   ·rw[sv_length];lia
   ·decide
   have er:(Txt.replace (sv r.held) (sv [l]) (br ""))=sv (r.held.filter (·!=l)):=by
    have:=replace_strikes (sv r.held) l
    rw[sv_cps]at this
    rw[←this,sv_of]
    rfl
   rw[er]
   refine store_own (s:= {s with heap:=h9,toks:=k9}) (bk:=(frameSC fnWs.scope.names "").bk) I9 hbd (by kernel_rfl) (fun a q=>hm a q.of) (p:= .str (r.held.filter (·!=l))) (Rv.str_iff.mpr ⟨_,rfl⟩) fun h10 t10 m10 I10=>?_
   refine Hn _ h10 t10 rfl ⟨I10.weak ?_,keepD m10 d9⟩ (MO M9 m10)
   apply w8<;>first|rfl|(rw[←hen];rfl)
  |false=>
   rw[hen]at hr
   simp only[Bool.false_eq_true,if_false]at hr⊢
   split at hr
   case h_2=>cases hr
   rename_i w hw
   simp only[Option.some.injEq]at hr
   subst hr
   have J:=I9.objStr (ρ':=[]) (x:= "letter") (y:=[l]) (t:=tk) rfl
   refine xA (J.ents "held" (.val (.str r.held)) rfl) fun Y Y9=>?_;refine xEA Y fun vh va rv=>?_
   refine af (wpAny_AugAssign_Name (va.load J.kind ?_))
   refine(sound g 8).e [] _ _ (.str [l]) env _ _ _ _ {s with heap:=h9,toks:=t9} _ (by kernel_rfl) (ok.lt) J cn0 fun u h10 t10 x10 r10=>?_
   refine xE (Rv.str_iff.mp rv) fun th Y=>?_;subst Y
   refine xE (Rv.str_iff.mp r10) fun tl Y=>?_;subst Y
   refine iadd_str (s:= {s with heap:=h10,toks:=t10}) (fun tz k11=>?_) (by rw[sv_length,sv_length];unfold sizeLine;simp only[List.length_singleton];lia)
   rw[str_app]
   refine store_own (s:= {s with heap:=h10,toks:=k11}) (bk:=(frameSC fnWs.scope.names "").bk) (J.ext x10) hbd (by kernel_rfl) (fun a q=>hm a q.of) (p:= .str (r.held++[l])) (Rv.str_iff.mpr ⟨_,rfl⟩) fun h12 t12 m12 I12=>?_
   have M12:=MO (ME M9 x10) m12
   have d12:=keepD m12 (dE x10 d9)
   refine ex1 (wpAny_Assign_Subscript ((sound g 8).e [] _ _ (.str w) env _ _ _ _ {s with heap:=h12,toks:=t12} _ (lwT (held:=r.held++[l]) rfl rfl hw) (ok.lt) I12 cn0 fun v13 h13 t13 x13 r13=>nmO (s:= {s with heap:=h13,toks:=t13}) (I12.ext x13) rfl (nmS (s:= {s with heap:=h13,toks:=t13}) (y:=[l]) (I12.ext x13) rfl fun tt=>?_)) (by rfl))
   have I13:=I12.ext x13
   refine xEAA (dE x13 d12) fun kvs dk ek rk=>?_
   have hlk:kvs.length=r.ks.length:=by have:=congrArg List.length ek;simpa using this
   refine wpAny_setItem_pairs (s:= {s with heap:=h13,toks:=t13}) (knd:=PySem.strKind g.prog g.w) (k:=sv [l]) (by simp[PySem.strKind,Value.isStrOf]) dk (fun h14 d14 hs=>?_) (by unfold sizeLine;lia)
   have kp:∀a o,a≠D→h13.get? a=some o→h14.get? a=some o:=fun a o ne ho=>hs.extBut a o ne ho
   have U:Up h13 F h14 F:=fun a o ho nf=>⟨nf,kp a o (fun q=>nf (q▸X.hD)) ho⟩
   have fl14:FL h14 F:=fun a q=>by
    by_cases hD:a=D
    ·subst hD;refine xEA (Heap.dictOf_iff.mp d14) fun o ho Y=>?_;exact⟨_,ho⟩
    ·refine xE (I13.fl a q) fun o ho=>?_;exact⟨o,kp a o hD ho⟩
   have I14:=I13.chgM U (fun a q o ho=>kp a o (fun z=>X.nD (z▸q)) ho) (fun a o ho=>kp a o (fun z=>by rw[z,X.m0 D X.hD]at ho;exact nn ho) (I13.base a o ho)) fl14 (fun Y q=>q) I13.sub
   refine xA (putK_ok (x:=[l]) r13 (dict_nodup dk) ek rk) fun p1 p2=>?_
   refine Hn _ h14 _ rfl ⟨I14.weak ?_,_,d14,p1,Rvs.up U _ p2⟩ (fun a o ho nq=>kp a o (fun z=>nq (.inr z)) (x13 a o (M12 a o ho nq)))
   apply w8<;>first|rfl|(rw[←hen];rfl)
theorem rd1_ks{c:Nat}{r r':RS}(h:rd1 c r=some (some r')):r'.ks.length≤r.ks.length+1∧r'.held.length≤r.held.length+1:=by
 unfold rd1 at h
 repeat' split at h
 all_goals try (cases h;done)
 all_goals (simp only[Option.some.injEq]at h;try subst h)
 all_goals first|(cases h;done)|exact⟨Nat.le_succ _,Nat.le_succ _⟩|exact⟨Nat.le_succ _,Nat.le_trans (List.length_filter_le ..) (Nat.le_succ _)⟩|exact⟨putK_length ..,by simp⟩
theorem ws_loop{g:Gnd}{mg mb:Str→Option Value}(B:GroundR g mg mb){env:Env}{F:Addr→Prop}{D:Addr}{page:List Nat}{A:Around}(ok:AOk (30+g.K) A)(hh:A.handled=none)(X:LF g mg mb env F D){II:Addr}{fp wr:List Addr}{P Md:Nat→Value→Heap→Prop}{St:Nat→Heap→Prop}
  (W:KTurns g.prog g.w A wsT II fp wr page.length P Md St) (hfp:∀b∈fp,¬(OwnOf env b∨b=D)) (hwF:∀b∈wr,F b) (hlv:∀i h,St i h→∀b∈fp,∃o,h.get? b=some o) (hP:∀i v h c,P i v h→page[i]?=some c→∃t,v= .str (sv [c]) t)
  {res:List (List Nat)×List PV} {R:Result→Shared→Prop}:∀(cs:List Nat) (i:Nat) (r:RS) (s:Shared),page.drop i=cs→i≤page.length→rdP cs r=some res→r.ks.length+cs.length≤100→r.held.length+cs.length≤1000→2845≤s.toks→LW g env F page D r s.heap→St i s.heap→
  (∀r' h' t' f,(r'.ks,r'.vs)=res→LW g env F page D r' h'→Mod F s.heap h'→f= .ret (.ref D)→R (.ok f) {s with heap:=h',toks:=t'})→
  codeAny (model g.prog g.w) A (.forLoop wsT (.ref II) wsB [] env) R s:=by
 intro cs
 induction cs with
 |nil=>
  intro i r s hd hi hr
  exact nn hr
 |cons c cs ih=>
  intro i r s hd hi hr hb1 hb2 hN L st H
  have hlt:i<page.length:=by
   have:=congrArg List.length hd
   simp only[List.length_drop,bx]at this
   lia
  have hci:page[i]?=some c:=by
   have:=congrArg List.head? hd
   rw[List.head?_drop]at this
   exact this
  refine for_step (wpAny_keepToks hN (W.item i s _ _ hlt st fun v h1 t1 hMd hk1 hN1=>?_))
  refine wpAny_keepToks (s:= {s with heap:=h1,toks:=t1}) hN1 (W.go i v {s with heap:=h1,toks:=t1} _ _ hMd fun h2 hP2 st2 hk2 hN2=>?_)
  refine xE (hP i v h2 c hP2 hci) fun tt Y=>?_;subst Y
  have k02:∀b o,b∉wr→s.heap.get? b=some o→h2.get? b=some o:=fun b o hb ho=>hk2 b o hb (hk1 b o hb ho)
  have wn:∀b,OwnOf env b∨b=D→b∉wr:=fun b q hb=>hfp b (W.sub b hb) q
  have U2:Up s.heap F h2 F:=fun a o ho nf=>⟨nf,k02 a o (fun q=>nf (hwF a q)) ho⟩
  have fl2:FL h2 F:=fun a q=>by
   by_cases hw:a∈wr
   ·exact hlv _ _ st2 a (W.sub a hw)
   ·refine xE (L.inv.fl a q) fun o ho=>?_;exact⟨o,k02 a o hw ho⟩
  have I2:=L.inv.chgM U2 (fun a q o ho=>k02 a o (wn a (.inl q)) ho) (fun a o ho=>k02 a o (fun z=>by rw[X.m0 a (hwF a z)]at ho;exact nn ho) (L.inv.base a o ho)) fl2 (fun Y q=>q) L.inv.sub
  have d2:=L.dict.up U2 fun o ho=>k02 D o (wn D (.inr rfl)) ho
  have hm:∀a,OwnOf env a→g.h₀.get? a=none:=fun a q=>X.m0 a (L.inv.sub a q)
  refine wpAny_keepToks (s:= {s with heap:=h2,toks:=t1}) hN2 (wpAny_assign_Name (store_own (s:= {s with heap:=h2,toks:=t1}) (bk:=(frameSC fnWs.scope.names "").bk) I2 X.sok.bind (by kernel_rfl) (fun a q=>hm a q.of) (p:= .str [c]) (Rv.str_iff.mpr ⟨_,rfl⟩) fun h3 t3 m3 I3 hN3=>?_))
  have d3:DictRep g.prog g.w h3 F D r.ks r.vs:=d2.up (fun a o ho nf=>⟨nf,m3 a o ho fun q=>nf (L.inv.sub a q.of)⟩) (fun o ho=>m3 D o ho fun q=>X.nD q.of)
  have fp3:∀b∈fp,∀o,h2.get? b=some o→h3.get? b=some o:=fun b hb o ho=>m3 b o ho fun q=>hfp b hb (.inl q.of)
  have M3:Mod F s.heap h3:=fun a o ho nq=>m3 a o (k02 a o (fun z=>nq (hwF a z)) ho) fun q=>nq (L.inv.sub a q.of)
  simp only[rdP]at hr
  simp only[bx]at hb1 hb2
  cases e1:rd1 c r with
  |none=>rw[e1]at hr;exact nn hr
  |some o=>
   rw[e1]at hr
   refine wpAny_keepToks (s:= {s with heap:=h3,toks:=t3}) hN3 (ws_turn B ok X e1 (by lia) (by lia) (s:= {s with heap:=h3,toks:=t3}) hN3 I3 d3 (fun r' h' t' eo L' M' hN'=>?_) (fun h' t' eo L' M' hN'=>?_))
   ·subst eo
    have fp4:∀b∈fp,∀o,h2.get? b=some o→h'.get? b=some o:=fun b hb o ho=>M' b o (fp3 b hb o ho) (hfp b hb)
    refine xA (rd1_ks e1) fun b1 b2=>?_
    refine ih (i+1) r' {s with heap:=h',toks:=t'} ?_ hlt hr (by lia) (by lia) hN' L' (W.frame _ _ _ st2 fp4) fun r'' h'' t'' f q L'' M'' hf=>?_
    ·rw[←List.tail_drop,hd];rfl
    ·refine H r'' h'' t'' f q L'' (fun a o ho nq=>M'' a o (M' a o (M3 a o ho nq) ?_) nq) hf
     rintro (z|z)
     ·exact nq (L.inv.sub a z)
     ·exact nq (z▸X.hD)
   ·subst eo
    simp only[Option.some.injEq]at hr
    refine H r h' t' _ hr L' (fun a o ho nq=>M' a o (M3 a o ho nq) ?_) rfl
    rintro (z|z)
    ·exact nq (L.inv.sub a z)
    ·exact nq (z▸X.hD)
theorem wpAny_keepToksE{α:Type}{M:Model}{A:Around}{t:Sem α}{Q:α→Shared→Prop}{E:Value→Shared→Prop}{s:Shared}{n:Nat}(hn:n≤s.toks)(h:wpAny M A t (fun a s'=>n≤s'.toks→Q a s') E s):wpAny M A t Q E s:=
 aj (wpAny_toks h) (fun a s' q=>q.2 (Nat.le_trans hn q.1)) fun Y Y q=>q.2
theorem enter_fnT{g:Gnd}{mg mb:Str→Option Value}(B:Base g mg mb){a:Addr}{fd:FuncData}{body:List Stmt}(X:FnAt g a fd body){names:List Str}{G:Rho}{own:Str}
  (hgen:fd.scope.isGenerator=false)
  (hG:∀x e,G.lookup x=some e→GlobOk g mg mb x e) (h1:globNames fd.scope.names G=true) (h2:parNames fd.scope.names names=true) (h3:uniqStr names=true) (h4:uniqNames fd.scope.names=true)
  {k:Nat} {A:Around} {s:Shared} {F:Addr→Prop} {ps:List PV} {args:Args} {vals:List Value} {R:Result→Shared→Prop}
  (ok:AOk (k+1) A) (base:Ext g.h₀ s.heap) (fl:FL s.heap F) (hFg:¬F mainNs) (hFb:¬F builtinsNs) (hF0:∀b,F b→g.h₀.get? b=none)
  (hb:BindsTo s fd args (names.zip vals)) (rs:Rvs g.prog g.w s.heap F ps vals) (hlen:ps.length=names.length)
  (H:∀env h t,s.toks≤t→Frm g fd a own env (argsR names ps G) F s.heap h→AOk k (A.deeper env)→
   wpAny (model g.prog g.w) (A.deeper env) (execs body env) (fun f s'=>R (.ok (.ret (match f with| .ret v=>v|_=> .none))) s') noE {s with heap:=h,toks:=t}):
  codeAny (model g.prog g.w) A (.call (.ref a) args) R s:=by
 refine xEA X.at_ fun o ho hd=>?_
 have hcd':s.heap.CodeRec fd.code fd.qualname:=by
  refine xEEEEAAA X.code fun c o' vs' t e1 e2 e3 e4=>?_
  exact⟨c,o',vs',t,e1,base _ _ e2,e3,e4⟩
 refine codeAny_call_function ok.lim (base _ _ ho) hd X.co hgen X.body hcd' (hb _ _ _ _ ?_)
 rw[X.clo]
 refine wpAny_keepToksE (Nat.le_refl s.toks) (wpAny_newFunctionEnv_cells X.kind (binds_ok h2) fun env he s₁ C hT=>?_)
 subst he
 refine⟨(B.lim.keeps base).keeps C.toInCall.keep,codeAny_func ?_⟩
 change InCallC s (callEnvC fd s.heap.objs.size a).locals (bindL (callEnvC fd s.heap.objs.size a).kindOf (names.zip vals) fun Y=>none) (callEnvC fd s.heap.objs.size a).cells (bindC (callEnvC fd s.heap.objs.size a).kindOf (names.zip vals) fun Y=>none) s₁ at C
 refine xEEA (mk_frm (own:=own) B X hG h1 h2 h3 h4 base fl hFg hFb hF0 rs hlen C) fun hh tk Y fr=>?_;subst Y
 show wpAny (model g.prog g.w) (A.deeper (callEnvC fd s.heap.objs.size a)) (execs body (callEnvC fd s.heap.objs.size a)) _ _ _
 refine aj (H _ hh tk hT fr (AOk.deeper ok _)) (fun Y Y z=>z) fun Y Y z=>z.elim
structure RN(g:Gnd)(mg mb:Str→Option Value):Prop where
 ord1:mg "ord" =none
 ord2:mb "ord" =some (.builtin "ord")
 len1:mg "len" =none
 len2:mb "len" =some (.builtin "len")
 b3:mg "b3_exceptions" =some (.ref 71)
 m3:mg "map_table_b3" =some (.ref 116)
 tok:mg "EXACT_TOKEN_TYPES" =some (.ref 117)
 b1:mg "in_table_b1" =some (.ref 70)
 eof:mg "ISEOF" =some (.ref 126)
 lw:mg "_law_word" =some (.ref 268)
 c70:Contract g 70 f_b1
 c126:Contract g 126 f_eof
 c268:Contract g 268 f_lw
noncomputable def wsP:Pos:=match wsT with
 | .Name _ p=>p
 |_=>default
theorem wsT_eq:wsT= .Name (br "sign") wsP:=by kernel_rfl
theorem words_ok{g:Gnd}{mg mb:Str→Option Value}(B:GroundR g mg mb)(N:RN g mg mb){A:Around}{s:Shared}{page:List Nat}{t0:Tok}{res:List (List Nat)×List PV}{Q:Value→Shared→Prop}
  (ok:AOk (40+g.K) A) (base:Ext g.h₀ s.heap) (hN:2845≤s.toks) (hr:rdP page ⟨[],[],[],false⟩=some res) (hl:page.length≤100) (hfl:res.2.all flatPV=true)
  (H:∀v h' t',Ext s.heap h'→Rv g.prog g.w h' (fun a=>∃o,s.heap.get? a=some o) (.dict res.1 res.2) v→Q v {s with heap:=h',toks:=t'}):wpAny (model g.prog g.w) A (call (.ref 275) [.str (sv page) t0]) Q noE s:=by
 refine wpAny_call (enter_fnT (k:=39+g.K) (F:=fun Y=>False) (own:= "") (G:=GW) (names:=["page"]) (ps:=[.str page]) (vals:=[.str (sv page) t0]) B.toBase (fnWs_at B) rfl ?hG (by kernel_rfl) (by kernel_rfl) (by kernel_rfl) (by kernel_rfl)
   (ok.le (by lia)) base (fun Y q=>q.elim) (fun q=>q) (fun q=>q) (fun Y q=>q.elim) (BindsTo.of_eq (by rfl)) ?rs rfl fun env h t hT fr okd=>?_)
 case hG=>
  have at_:∀{a:Addr} {fd:FuncData} {body:List Stmt},FnAt g a fd body→∃o,g.h₀.get? a=some o∧o.data= .func fd:=fun X=>X.at_
  intro x e q
  have hm:=lookup_mem q
  simp only[GW,bz,cj,or_false,Prod.mk.injEq]at hm
  rcases hm with ⟨rfl,rfl⟩|⟨rfl,rfl⟩|⟨rfl,rfl⟩|⟨rfl,rfl⟩
  ·exact⟨N.len1,N.len2⟩
  ·refine xEA (at_ (fnEof_at B)) fun o h1 h2=>?_;exact⟨126,o,_,N.eof,h1,h2,N.c126⟩
  ·refine xEA (at_ (fnB1_at B)) fun o h1 h2=>?_;exact⟨70,o,_,N.b1,h1,h2,N.c70⟩
  ·refine xEA (at_ (fnLw_at B)) fun o h1 h2=>?_;exact⟨268,o,_,N.lw,h1,h2,N.c268⟩
 case rs=>exact .cons (Rv.str_iff.mpr ⟨_,rfl⟩) .nil
 have hN0:2845≤t:=Nat.le_trans hN hT
 have kk:∀x,env.kindOf x=fnWs.scope.names.lookup x:=fun x=>by rw[←fr.scope];rfl
 have cn0:Cn env []:=fun Y q=>by cases q
 have hbd:=fr.sok.bind
 have hm:∀a,OwnOf env a→g.h₀.get? a=none:=fun a q=>by
  cases e:g.h₀.get? a with
  |none=>rfl
  |some o=>have:=base a o e;rw[fr.new a q]at this;cases this
 refine af (aq (wpAny_Dict_empty (s:= {s with heap:=h,toks:=t}) ?_))
 have I1:=fr.inv.pushF {cls:= .type "dict",data:= .dict #[] } rfl
 have d1:(h.push {cls:= .type "dict",data:= .dict #[] }).DictOf (PySem.strKind g.prog g.w) h.objs.size []:=Heap.DictOf.new h
 have x1:Ext h (h.push {cls:= .type "dict",data:= .dict #[] }):=Ext.push _ _
 have n1:h.get? h.objs.size=none:=get?_size _
 have nD:=fr.inv.newM
 have sD:(h.objs.size==sysModules)=false:=beq_eq_false_iff_ne.mpr fun q=>Nat.lt_irrefl _ (q▸fr.inv.size)
 generalize h.objs.size=D at*
 generalize (h.push {cls:= .type "dict",data:= .dict #[] })=h1 at*
 refine wpAny_keepToks (s:= {s with heap:=h1,toks:=t}) hN0 (store_own (s:= {s with heap:=h1,toks:=t}) (bk:=(frameSC fnWs.scope.names "").bk) I1 hbd (by kernel_rfl) (fun a q=>hm a q.of) (p:= .obj (.ref D)) (Rv.obj_iff.mpr rfl) fun h2 t2 m2 I2 hN2=>?_)
 refine af (aq (wpAny_keepToks (s:= {s with heap:=h2,toks:=t2}) hN2 ((sound g 8).e [] _ _ (.str []) env _ _ _ _ {s with heap:=h2,toks:=t2} _ (by kernel_rfl) (okd.lt) I2 cn0 fun v3 h3 t3 x3 r3 hN3=>?_)))
 refine wpAny_keepToks (s:= {s with heap:=h3,toks:=t3}) hN3 (store_own (s:= {s with heap:=h3,toks:=t3}) (bk:=(frameSC fnWs.scope.names "").bk) (I2.ext x3) hbd (by kernel_rfl) (fun a q=>hm a q.of) (p:= .str []) (Rv.flat rfl r3) fun h4 t4 m4 I4 hN4=>?_)
 refine af (aq (wpAny_keepToks (s:= {s with heap:=h4,toks:=t4}) hN4 ((sound g 8).e [] _ _ (.bool false) env _ _ _ _ {s with heap:=h4,toks:=t4} _ (by kernel_rfl) (okd.lt) I4 cn0 fun v5 h5 t5 x5 r5 hN5=>?_)))
 refine wpAny_keepToks (s:= {s with heap:=h5,toks:=t5}) hN5 (store_own (s:= {s with heap:=h5,toks:=t5}) (bk:=(frameSC fnWs.scope.names "").bk) (I4.ext x5) hbd (by kernel_rfl) (fun a q=>hm a q.of) (p:= .bool false) (Rv.flat rfl r5) fun h6 t6 m6 I6 hN6=>?_)
 have kD:∀{h h':Heap},Mod (Own env (frameSC fnWs.scope.names "").bk) h h'→∀o,h.get? D=some o→h'.get? D=some o:=fun m o ho=>m D o ho fun q=>nD q.of
 have d6:=(((d1.at (kD m2)).at fun o ho=>x3 D o ho).at (kD m4)).at fun o ho=>x5 D o ho
 have d6:=d6.at (kD m6)
 have M6:Mod (OwnOf env) h1 h6:=fun a o ho nq=>m6 a o (x5 a o (m4 a o (x3 a o (m2 a o ho fun q=>nq q.of)) fun q=>nq q.of)) fun q=>nq q.of
 refine af (wpAny_For (nmS (s:= {s with heap:=h6,toks:=t6}) (y:=page) I6 rfl fun tp=>?_))
 refine iter_ok (s:= {s with heap:=h6,toks:=t6}) (F:=fun a=>(False∨OwnOf env a)∨a=D) (x:= "sign") (px:=wsP) (p:= .str page) (items:=page.map fun c=> .str [c]) (by show ite _ _ _=_;rw[if_pos (by simp only[Nat.blt_eq];lia)]) I6.fl okd.handled (Rv.str_iff.mpr ⟨_,rfl⟩) fun it h7 x7 io=>?_
 obtain⟨II,fp,wr,P,Md,St,rfl,W,st0,hlv,hw0,hfp,_,hit⟩:=io
 rw[List.length_map]at W
 rw[←wsT_eq]at W
 have hwb:∀b∈wr,g.h₀.get? b=none:=fun b hb=>by
  cases e:g.h₀.get? b with
  |none=>rfl
  |some o=>have q:=hw0 b hb;rw[show h6.get? b=some o from I6.base _ _ e]at q;cases q
 have m0:∀a,(((False∨OwnOf env a)∨a=D)∨a∈wr)→g.h₀.get? a=none:=by
  rintro a (((q|q)|q)|q)
  ·exact q.elim
  ·exact hm a q
  ·subst q
   cases e:g.h₀.get? a with
   |none=>rfl
   |some o=>rw[fr.inv.base _ _ e]at n1;exact sn n1
  ·exact hwb a q
 have I7:Inv g env (RW page D [] false) h7 (fun a=>((False∨OwnOf env a)∨a=D)∨a∈wr) (OwnOf env):=by
  refine(I6.grow (F':=fun a=>((False∨OwnOf env a)∨a=D)∨a∈wr) x7 (fun a q=> .inl q) (fun a o ho nf q=>q.elim nf fun q=>by rw[hw0 a q]at ho;exact nn ho) (fun a q=>q.elim (fun q=>(I6.fl.ext x7) a q) fun q=>hlv _ _ st0 a (W.sub a q)) (fun Y q=>q) fun a q=> .inl (I6.sub a q)).weak ?_
  intro q hq
  simp only[RW,GW,bz,cj,or_false]at hq
  rcases hq with rfl|rfl|rfl|rfl|rfl|rfl|rfl|rfl<;>rfl
 have d7:DictRep g.prog g.w h7 (fun a=>((False∨OwnOf env a)∨a=D)∨a∈wr) D [] []:=⟨[],d6.at fun o ho=>x7 D o ho,rfl,rfl⟩
 have X:LF g mg mb env (fun a=>((False∨OwnOf env a)∨a=D)∨a∈wr) D:= {glob:=fr.glob,blt:=fr.blt,sok:=fr.sok,kk:=kk,m0:=m0,hD:= .inl (.inr rfl),nD:=nD,sD:=sD,ord1:=N.ord1,ord2:=N.ord2,b3:=N.b3,m3:=N.m3,tok:=N.tok}
 refine ws_loop (R:=_) (s:= {s with heap:=h7,toks:=t6}) B (okd.lt) okd.handled X W (fun b hb=>?_) (fun b hb=> .inr hb) hlv (fun i v h c p1 p2=>?_) page 0 ⟨[],[],[],false⟩ rfl (Nat.zero_le _) hr (by simpa using hl) (by simp only[List.length_nil];lia) hN6 ⟨I7,d7⟩ st0 fun r' h' t' f e L' M' hf=>?_
 ·rintro (q|q)
  ·exact hfp b hb (.inl (.inr q))
  ·exact hfp b hb (.inr q)
 ·have q:Rv g.prog g.w h6 (fun a=>(False∨OwnOf env a)∨a=D) (.str [c]) v:=hit i v h (.str [c]) p1 (by rw[List.getElem?_map,p2];rfl)
  exact Rv.str_iff.mp q
 subst hf
 refine xEAA L'.dict fun kvs dk ek rs=>?_
 refine xA (Prod.mk.inj e) fun e1 e2=>?_
 rw[e1]at ek
 rw[e2]at rs
 have n0:s.heap.get? D=none:=by
  cases q:s.heap.get? D with
  |none=>rfl
  |some o=>have:=fr.ext D o q;rw[n1]at this;cases this
 have old:∀a o,s.heap.get? a=some o→¬OwnOf env a∧a≠D:=fun a o ho=>⟨fun q=>(by rw[fr.new a q]at ho;exact nn ho),fun q=>by subst q;rw[n0]at ho;exact nn ho⟩
 have X':Ext s.heap h':=fun a o ho=>by
  refine xA (old a o ho) fun q1 q2=>?_
  have o6:=M6 a o (x1 a o (fr.ext a o ho)) q1
  refine M' a o (x7 a o o6) ?_
  rintro (((q|q)|q)|q)
  ·exact q
  ·exact q1 q
  ·exact q2 q
  ·have:=hw0 a q;rw[o6]at this;cases this
 exact H (.ref D) h' t' X' (Rv.dict_iff.mpr ⟨D,kvs,rfl,fun Y=>xE Y fun o ho=>(old D o ho).2 rfl,sD,dk,ek,Rvs.flat hfl rs⟩)
section
noncomputable def fnN:FuncData:=fd (dC 70 0) (z "C14NWriterTarget.__init__") 3 .none (.ref 148) (vs "cpy313.xml.etree.ElementTree" 2557) (.ref 154) 0
theorem fnN_at{g:Gnd}{mg mb:Str→Option Value}(B:Ground' g mg mb):FnAt g 155 fnN (dC 70 0).body:=by
 refine⟨⟨ob155 g.w.params,B.K _ _ rfl,rfl⟩,rfl,rfl,rfl,rfl,codeRec_of B.K (by kernel_rfl),rfl,rfl⟩
noncomputable def nmsN:List Str:=["self","write","with_comments","strip_text","rewrite_prefixes","qname_aware_tags","qname_aware_attrs","exclude_attrs","exclude_tags"]
theorem fnN_bind{g:Gnd}{mg mb:Str→Option Value}(B:Ground' g mg mb){s:Shared}(base:Ext g.h₀ s.heap)(a b:Value):
  BindsTo s fnN ⟨[a,b],[(br "with_comments", .bool true)]⟩ (nmsN.zip [a,b, .bool true, .bool false, .bool false, .none, .none, .none, .none]):=
 kp_binds (K:=KW g.w.params) (B.K.keeps base) fun S=>by kernel_rfl
noncomputable def mset(n:Str)(v:Value)(m:Str→Option Value)(y:Str):Option Value:=match y==n with
 |true=>some v
 |false=>m y
theorem mset_eq(n:Str)(v:Value)(m:Str→Option Value):(fun y=>if y=n then some v else m y)=mset n v m:=by
 funext y
 unfold mset
 by_cases h:y=n
 ·rw[if_pos h,beq_iff_eq.mpr h]
 ·rw[if_neg h,beq_eq_false_iff_ne.mpr h]
theorem nd11{α:Type}{a b c d e f g h i j k:α}(h1:a≠b∧a≠c∧a≠d∧a≠e∧a≠f∧a≠g∧a≠h∧a≠i∧a≠j∧a≠k)(h2:b≠c∧b≠d∧b≠e∧b≠f∧b≠g∧b≠h∧b≠i∧b≠j∧b≠k)(h3:c≠d∧c≠e∧c≠f∧c≠g∧c≠h∧c≠i∧c≠j∧c≠k)
  (h4:d≠e∧d≠f∧d≠g∧d≠h∧d≠i∧d≠j∧d≠k) (h5:e≠f∧e≠g∧e≠h∧e≠i∧e≠j∧e≠k) (h6:f≠g∧f≠h∧f≠i∧f≠j∧f≠k) (h7:g≠h∧g≠i∧g≠j∧g≠k) (h8:h≠i∧h≠j∧h≠k) (h9:i≠j∧i≠k) (h10:j≠k):[a,b,c,d,e,f,g,h,i,j,k].Nodup:=by
 simp only[List.nodup_cons,bz,cj,not_or,or_false,not_false_eq_true,List.nodup_nil,and_true]
 exact⟨h1,h2,h3,h4,h5,h6,h7,h8,h9,h10⟩
theorem or4{α:Type}{a b c d:α}{P:α→Prop}(h1:P a)(h2:P b)(h3:P c)(h4:P d)(x:α)(h:x=a∨x=b∨x=c∨x=d):P x:=
 match h with
 | .inl q=>q▸h1
 | .inr (.inl q)=>q▸h2
 | .inr (.inr (.inl q))=>q▸h3
 | .inr (.inr (.inr q))=>q▸h4
structure Ini(g:Gnd)(wr wd:Addr)(sl:Array (Option Value))(m:Str→Option Value)(k:Nat)(L:Addr→Prop)(env:Env)(ρ:Rho)(hs h:Heap):Prop where
 inv:Inv g env ρ h (fun a=>L a∨OwnOf env a) (OwnOf env)
 inst:h.get? wr=some ⟨.ref 238,some wd, .plain,sl⟩
 dict:IDict h wd m k
 old:Mod L hs h
 new:∀a,OwnOf env a→hs.get? a=none
 own:∀a,L a→¬OwnOf env a
 L0:∀a,L a→g.h₀.get? a=none
 lw:L wd
 nw:¬L wr
section
variable{g:Gnd}{mg mb:Str→Option Value}{wr wd:Addr}{sl:Array (Option Value)}{m:Str→Option Value}{k:Nat}{L:Addr→Prop}{env:Env}{ρ:Rho}{hs h h':Heap}
theorem Ini.ext(T:Ini g wr wd sl m k L env ρ hs h)(x:Ext h h'):Ini g wr wd sl m k L env ρ hs h':=⟨T.inv.ext x,x _ _ T.inst,T.dict.at' fun o ho=>x _ _ ho,T.old.trans (x.mod _),T.new,T.own,T.L0,T.lw,T.nw⟩
theorem Ini.more(T:Ini g wr wd sl m k L env ρ hs h)(x:Ext h h'){a:Addr}(n:h.get? a=none)(l:∃o,h'.get? a=some o):Ini g wr wd sl m k (fun b=>L b∨b=a) env ρ hs h':=by
 have T':=T.ext x
 have na:¬OwnOf env a:=fun q=>by obtain⟨o,ho⟩:=T.inv.fl a (.inr q);rw[n]at ho;cases ho
 refine⟨?_,T'.inst,T'.dict,fun b o ho q=>T'.old b o ho fun z=>q (.inl z),T'.new,?_,?_, .inl T.lw,?_⟩
 ·exact T.inv.grow x (fun b q=>q.elim (fun q=> .inl (.inl q)) .inr) (fun b o ho nf q=>by
   rcases q with (q|rfl)|q
   ·exact nf (.inl q)
   ·rw[n]at ho;exact nn ho
   ·exact nf (.inr q)) (fun b q=>by
   rcases q with (q|rfl)|q
   ·exact(T.inv.fl.ext x) b (.inl q)
   ·exact l
   ·exact(T.inv.fl.ext x) b (.inr q)) (fun Y q=>q) fun b q=> .inr q
 ·rintro b (q|rfl)
  ·exact T.own b q
  ·exact na
 ·rintro b (q|rfl)
  ·exact T.L0 b q
  ·cases e:g.h₀.get? b with
   |none=>rfl
   |some o=>rw[T.inv.base b o e]at n;exact sn n
 ·rintro (q|q)
  ·exact T.nw q
  ·rw[←q,T.inst]at n;exact sn n
theorem Ini.turn(T:Ini g wr wd sl m k L env ρ hs h){a:Addr}(ha:L a)(hne:a≠wd)(k':∀b o,b≠a→h.get? b=some o→h'.get? b=some o)(l:∃o,h'.get? a=some o):Ini g wr wd sl m k L env ρ hs h':=
 ⟨T.inv.other k' (.inl ha) (T.own a ha) (T.L0 a ha) l,k' _ _ (fun q=>T.nw (q▸ha)) T.inst,T.dict.at' fun o ho=>k' _ _ (Ne.symm hne) ho,fun b o ho n=>k' b o (fun q=>n (q▸ha)) (T.old b o ho n),T.new,T.own,T.L0,T.lw,T.nw⟩
theorem Ini.set(B:Ground' g mg mb){A:Around}{E:Value→Shared→Prop}{s:Shared}(T:Ini g wr wd sl m k L env ρ hs s.heap){name:Str}{v:Value}{Q:Unit→Shared→Prop}(hw:name∈wattrs)(hn:m name=none)(hk:k<900)
  (K:∀h' t',Ini g wr wd sl (mset name v m) (k+1) L env ρ hs h'→(∀b o,b≠wd→s.heap.get? b=some o→h'.get? b=some o)→Q () {s with heap:=h',toks:=t'}):
  wpAny (model g.prog g.w) A (setAttr (.ref wr) name v) Q E s:=by
 refine setA (K:=KW g.w.params) (B.K.keeps T.inv.base) T.inst T.dict hk (own_set _) (plain_over _) (no_taker _ _ hw) (has_dict _) fun h' d' sb=>?_
 rw[hn,mset_eq]at d'
 have kk:∀b o,b≠wd→s.heap.get? b=some o→h'.get? b=some o:=fun b o ne ho=>sb.extBut b o ne ho
 exact K h' _ ⟨T.inv.other kk (.inl T.lw) (T.own wd T.lw) (T.L0 wd T.lw) (xEEA d' fun es n e Y=>⟨_,e⟩),kk _ _ (fun q=>T.nw (q▸T.lw)) T.inst,d',fun b o ho n=>kk b o (fun q=>n (q▸T.lw)) (T.old b o ho n),T.new,T.own,T.L0,T.lw,T.nw⟩ kk
end
end
theorem nmBo{g:Gnd}{env:Env}{ρ:Rho}{F M:Addr→Prop}{A:Around}{E:Value→Shared→Prop}{s:Shared}{x:Str}{px:Pos}{Q:Value→Shared→Prop}{b:Bool}(I:Inv g env ρ s.heap F M)(hx:ρ.lookup x=some (.val (.bool b)))(H:Q (.bool b) s):wpAny (model g.prog g.w) A (eval (.Name x px) env) Q E s:=
 nmP I hx fun u r=>by rw[Rv.bool_iff.mp r];exact H
theorem declared{prog:Program}{w:World}{A:Around}{E:Value→Shared→Prop}{s:Shared}{env:Env}{a b:Str}{k1 k2 k3:Nat}{p1 p2 p3 p4 p5:Pos}{Q:Value→Shared→Prop}
  (H:∀tp t0 ld h' t' ta tb,Ext s.heap h'→s.heap.get? tp=none→s.heap.get? t0=none→s.heap.get? ld=none→tp≠t0→tp≠ld→t0≠ld→h'.IsTuple tp #[.str a ta, .str b tb]→h'.PlainList t0 #[.ref tp]→h'.PlainList ld #[.ref t0]→Q (.ref ld) {s with heap:=h',toks:=t'}):
  wpAny (model prog w) A (eval (.List [.List [.Tuple [.Constant (.str a) k1 p1, .Constant (.str b) k2 p2] k3 p3] p4] p5) env) Q E s:=by
 refine wpAny_List (splC (by rfl) (wpAny_List (splC (by rfl) (wpAny_Tuple (splC (by rfl) (wpAny_Constant_str (splC (by rfl) (wpAny_Constant_str (spl0 ⟨by show 2≤_;rw[bb];lia,spl0 ⟨by show 1≤_;rw[bb];lia,spl0 ⟨by show 1≤_;rw[bb];lia,?_⟩⟩⟩)))))))))
 have x1:=Ext.push s.heap {cls:= .type "tuple",data:= .seq ([.str a s.toks, .str b (s.toks+1)]:List Value).toArray}
 have n1:s.heap.get? s.heap.objs.size=none:=get?_size _
 have q1:(s.heap.push {cls:= .type "tuple",data:= .seq ([.str a s.toks, .str b (s.toks+1)]:List Value).toArray}).IsTuple s.heap.objs.size #[.str a s.toks, .str b (s.toks+1)]:=⟨_,bc _ rfl,rfl,_,rfl⟩
 dsimp only
 generalize (s.heap.push {cls:= .type "tuple",data:= .seq ([.str a s.toks, .str b (s.toks+1)]:List Value).toArray})=h1 at x1 q1⊢
 generalize s.heap.objs.size=tp at n1 q1⊢
 have x2:=Ext.push h1 {cls:= .type "list",data:= .seq ([.ref tp]:List Value).toArray}
 have n2:h1.get? h1.objs.size=none:=get?_size _
 have q2:(h1.push {cls:= .type "list",data:= .seq ([.ref tp]:List Value).toArray}).PlainList h1.objs.size #[.ref tp]:=⟨_,bc _ rfl⟩
 generalize (h1.push {cls:= .type "list",data:= .seq ([.ref tp]:List Value).toArray})=h2 at x2 q2⊢
 generalize h1.objs.size=t0 at n2 q2⊢
 have x3:=Ext.push h2 {cls:= .type "list",data:= .seq ([.ref t0]:List Value).toArray}
 have n3:h2.get? h2.objs.size=none:=get?_size _
 have q3:(h2.push {cls:= .type "list",data:= .seq ([.ref t0]:List Value).toArray}).PlainList h2.objs.size #[.ref t0]:=⟨_,bc _ rfl⟩
 generalize (h2.push {cls:= .type "list",data:= .seq ([.ref t0]:List Value).toArray})=h3 at x3 q3⊢
 generalize h2.objs.size=ld at n3 q3⊢
 have nn:∀{h h':Heap} {a},Ext h h'→h'.get? a=none→h.get? a=none:=fun {h h' a} x q=>by
  cases e:h.get? a with
  |none=>rfl
  |some o=>rw[x _ _ e]at q;cases q
 have q1':=q1
 obtain⟨o1,e1,r1⟩:=q1
 have e2:∃o,h2.get? t0=some o:=xE q2 fun n o=>⟨_,o⟩
 refine H tp t0 ld h3 _ _ _ ((x1.trans x2).trans x3) n1 (nn x1 n2) (nn (x1.trans x2) n3) (fun q=>?_) (fun q=>?_) (fun q=>?_) ⟨o1,x3 _ _ (x2 _ _ e1),r1⟩ (q2.at fun o ho=>x3 _ _ ho) q3
 ·rw[q,n2]at e1;cases e1
 ·rw[←q,x2 _ _ e1]at n3;exact sn n3
 ·obtain⟨o,e2⟩:=e2;rw[←q,e2]at n3;cases n3
noncomputable def inR(wr bm:Addr):Rho:=argsR nmsN [.obj (.ref wr), .obj (.ref bm), .bool true, .bool false, .bool false, .none, .none, .none, .none] []
theorem init_ok{g:Gnd}{mg mb:Str→Option Value}(B:Ground' g mg mb){A:Around}{s:Shared}{wr wd bm lp:Addr}{sl:Array (Option Value)}{R:Result→Shared→Prop}
  (ok:AOk (50+g.K) A) (base:Ext g.h₀ s.heap) (hi:s.heap.get? wr=some ⟨.ref 238,some wd, .plain,sl⟩) (hd:s.heap.get? wd=some eD) (hbm:s.heap.get? bm=some (bmObj lp)) (hlp:s.heap.PlainList lp #[]) (htb:s.heap.get? 211=some (tabObj #[]))
  (h0:∀a,a=wd∨a=lp∨a=211→g.h₀.get? a=none) (nd:[wd,lp,211,wr,bm].Nodup)
  (hls1:mg "list" =none) (hls2:mb "list" =some (.type "list")) (hns:mg "_namespace_map" =some (.ref 132))
  (H:∀W a1 a2 h' t',W.wr=wr→W.wd=wd→W.bm=bm→W.lp=lp→(∀a,WM W a→a=wd∨a=lp∨a=211∨s.heap.get? a=none)→WSt g h' W {ps:=[],es:=[],ns:=[.ref a1, .ref a2],lv:=1,seen:=false,done:=false}→Mod (fun a=>a=wd) s.heap h'→R (.ok (.ret .none)) {s with heap:=h',toks:=t'}):
  codeAny (model g.prog g.w) A (.call (.ref 155) ⟨[.ref wr, .ref bm],[(br "with_comments", .bool true)]⟩) R s:=by
 have d1:=sepN nd 0 1 rfl rfl rfl
 have d2:=sepN nd 0 2 rfl rfl rfl
 have d3:=sepN nd 0 3 rfl rfl rfl
 have d4:=sepN nd 0 4 rfl rfl rfl
 have d5:=sepN nd 1 2 rfl rfl rfl
 have d6:=sepN nd 1 3 rfl rfl rfl
 have d7:=sepN nd 1 4 rfl rfl rfl
 have d8:=sepN nd 2 3 rfl rfl rfl
 have d9:=sepN nd 2 4 rfl rfl rfl
 have d10:=sepN nd 3 4 rfl rfl rfl
 refine enter_fn (k:=49+g.K) (F:=fun a=>a=wd) (own:= "") (G:=[]) (names:=nmsN) (ps:=[.obj (.ref wr), .obj (.ref bm), .bool true, .bool false, .bool false, .none, .none, .none, .none]) B.toBase (fnN_at B) rfl (fun Y Y e=>by simp at e) (by kernel_rfl) (by kernel_rfl) (by kernel_rfl) (by kernel_rfl)
  (ok.le (by lia)) base (fun a q=>⟨_,q▸hd⟩) (fun q=>by obtain⟨o,ho⟩:=B.toBase.mainLive.1;rw[q,h0 wd (.inl rfl)]at ho;exact nn ho) (fun q=>by obtain⟨o,ho⟩:=B.toBase.mainLive.2;rw[q,h0 wd (.inl rfl)]at ho;exact nn ho) (fun a q=>h0 a (.inl q)) (fnN_bind B base _ _) ?_ rfl fun env h t fr okd=>?_
 ·exact .cons rfl (.cons rfl (.cons rfl (.cons rfl (.cons rfl (.cons rfl (.cons rfl (.cons rfl (.cons rfl .nil))))))))
 have cn0:Cn env []:=fun Y q=>by cases q
 have kk:∀x,env.kindOf x=fnN.scope.names.lookup x:=fun x=>by rw[←fr.scope];rfl
 have T:Ini g wr wd sl (fun Y=>none) 0 (fun a=>a=wd) env (inR wr bm) s.heap h:=⟨fr.inv,fr.ext _ _ hi,⟨[],0,fr.ext _ _ hd,Nat.le_refl _,(fun e he=>by simp at he),fun Y=>rfl⟩,fr.ext.mod _,fr.new,(fun a q z=>by
  have:=fr.new a z;rw[q,hd]at this;exact sn this),fun a q=>h0 a (.inl q),rfl,fun q=>d3 q.symm⟩
 refine af (am (nmO (s:= {s with heap:=h,toks:=t}) (v:= .ref bm) T.inv rfl (nmO (s:= {s with heap:=h,toks:=t}) T.inv rfl (T.set (s:= {s with heap:=h,toks:=t}) B (by decide+kernel) rfl (by lia) fun h1 t1 T1 k1=>?_))) (by rfl))
 dsimp only
 refine af (am (wpAny_List (spl0 ⟨by decide,?_⟩)) (by rfl))
 have x2:=Ext.push h1 {cls:= .type "list",data:= .seq ([]:List Value).toArray}
 have n2:h1.get? h1.objs.size=none:=get?_size _
 have p2:(h1.push {cls:= .type "list",data:= .seq ([]:List Value).toArray}).PlainList h1.objs.size #[]:=⟨0,bc _ rfl⟩
 dsimp only
 generalize (h1.push {cls:= .type "list",data:= .seq ([]:List Value).toArray})=h2 at x2 p2⊢
 generalize h1.objs.size=lda at n2 p2⊢
 have T2:=T1.ext x2
 refine nmO (s:= {s with heap:=h2,toks:=_}) T2.inv rfl (T2.set (s:= {s with heap:=h2,toks:=_}) B (by decide+kernel) (by kernel_rfl) (by lia) fun h3 t3 T3 k3=>?_)
 dsimp only
 refine af (am (nmBo (s:= {s with heap:=h3,toks:=_}) (b:=true) T3.inv rfl (nmO (s:= {s with heap:=h3,toks:=_}) T3.inv rfl (T3.set (s:= {s with heap:=h3,toks:=_}) B (by decide+kernel) (by kernel_rfl) (by lia) fun h4 t4 T4 k4=>?_))) (by rfl))
 dsimp only
 refine af (am (nmBo (s:= {s with heap:=h4,toks:=_}) (b:=false) T4.inv rfl (nmO (s:= {s with heap:=h4,toks:=_}) T4.inv rfl (T4.set (s:= {s with heap:=h4,toks:=_}) B (by decide+kernel) (by kernel_rfl) (by lia) fun h5 t5 T5 k5=>?_))) (by rfl))
 dsimp only
 refine af (am (wpAny_IfExp ((sound g 8).t [] _ _ false env _ _ _ _ {s with heap:=h5,toks:=_} _ (by kernel_rfl) (okd.lt) T5.inv cn0 fun h6 t6 x6=>?_)) (by rfl))
 refine pn bq ?_
 have T6:=T5.ext x6
 refine ax (nmO (s:= {s with heap:=h6,toks:=_}) T6.inv rfl (T6.set (s:= {s with heap:=h6,toks:=_}) B (by decide+kernel) (by kernel_rfl) (by lia) fun h7 t7 T7 k7=>?_))
 dsimp only
 refine af (am (wpAny_IfExp ((sound g 8).t [] _ _ false env _ _ _ _ {s with heap:=h7,toks:=_} _ (by kernel_rfl) (okd.lt) T7.inv cn0 fun h8 t8 x8=>?_)) (by rfl))
 refine pn bq ?_
 have T8:=T7.ext x8
 refine ax (nmO (s:= {s with heap:=h8,toks:=_}) T8.inv rfl (T8.set (s:= {s with heap:=h8,toks:=_}) B (by decide+kernel) (by kernel_rfl) (by lia) fun h9 t9 T9 k9=>?_))
 dsimp only
 refine af (am (nmBo (s:= {s with heap:=h9,toks:=_}) (b:=false) T9.inv rfl (nmO (s:= {s with heap:=h9,toks:=_}) T9.inv rfl (T9.set (s:= {s with heap:=h9,toks:=_}) B (by decide+kernel) (by kernel_rfl) (by lia) fun h10 t10 T10 k10=>?_))) (by rfl))
 dsimp only
 refine af (wpAny_If ((sound g 8).t [] _ _ false env _ _ _ _ {s with heap:=h10,toks:=_} _ (by kernel_rfl) (okd.lt) T10.inv cn0 fun h11 t11 x11=>?_))
 refine pn bq ?_
 have T11:=T10.ext x11
 refine af (am (ax (nmO (s:= {s with heap:=h11,toks:=_}) T11.inv rfl (T11.set (s:= {s with heap:=h11,toks:=_}) B (by decide+kernel) (by kernel_rfl) (by lia) fun h12 t12 T12 k12=>?_))) (by rfl))
 dsimp only
 refine ag ?_
 refine af (wpAny_If ((sound g 8).t [] _ _ false env _ _ _ _ {s with heap:=h12,toks:=_} _ (by kernel_rfl) (okd.lt) T12.inv cn0 fun h13 t13 x13=>?_))
 refine pn bq ?_
 have T13:=T12.ext x13
 refine af (am (ax (nmO (s:= {s with heap:=h13,toks:=_}) T13.inv rfl (T13.set (s:= {s with heap:=h13,toks:=_}) B (by decide+kernel) (by kernel_rfl) (by lia) fun h14 t14 T14 k14=>?_))) (by rfl))
 dsimp only
 refine ag ?_
 refine af (am (declared (s:= {s with heap:=h14,toks:=_}) fun tp t0 ld h15 t15 ta tb x15 ntp nt0 nld d11 d12 d13 q1 q2 q3=>?_) (by rfl))
 have T15:=T14.ext x15
 refine(nmO (s:= {s with heap:=h15,toks:=_}) T15.inv rfl (T15.set (s:= {s with heap:=h15,toks:=_}) B (by decide+kernel) (by kernel_rfl) (by lia) fun h16 t16 T16 k16=>?_))
 dsimp only
 refine af (am (wpAny_List (spl0 ⟨by decide,?_⟩)) (by rfl))
 have x_ln:=Ext.push h16 {cls:= .type "list",data:= .seq ([]:List Value).toArray}
 have n_ln:h16.get? h16.objs.size=none:=get?_size _
 have p_ln:(h16.push {cls:= .type "list",data:= .seq ([]:List Value).toArray}).get? h16.objs.size=some {cls:= .type "list",data:= .seq ([]:List Value).toArray}:=bc _ rfl
 dsimp only
 generalize (h16.push {cls:= .type "list",data:= .seq ([]:List Value).toArray})=h17 at x_ln p_ln⊢
 generalize h16.objs.size=ln at n_ln p_ln⊢
 have T17:=T16.more x_ln n_ln ⟨_,p_ln⟩
 refine(nmO (s:= {s with heap:=h17,toks:=_}) T17.inv rfl (T17.set (s:= {s with heap:=h17,toks:=_}) B (by decide+kernel) (by kernel_rfl) (by lia) fun h18 t18 T18 k18=>?_))
 dsimp only
 refine af (wpAny_If ((sound g 8).t [] _ _ true env _ _ _ _ {s with heap:=h18,toks:=_} _ (by kernel_rfl) (okd.lt) T18.inv cn0 fun h19 t19 x19=>?_))
 rw[if_pos rfl]
 have T19:=T18.ext x19
 refine af (ay (bj (Attribute_name (nmO (s:= {s with heap:=h19,toks:=_}) T19.inv rfl (Mine.Internal.getA (K:=KW g.w.params) (s:= {s with heap:=h19,toks:=_}) (B.K.keeps T19.inv.base) T19.inst T19.dict (pg _ _) (has_dict _) (no_attr _ _ (by decide+kernel)) rfl (v:= .ref ln) (by kernel_rfl) rfl ?_)))) (hi:=fr.sok.inter))
 have lnw:ln≠wd:=fun q=>by
  obtain⟨es,n,e,_⟩:=T16.dict
  rw[q,e]at n_ln;cases n_ln
 have l19:h19.PlainList ln #[]:=⟨0,x19 _ _ (k18 _ _ lnw p_ln)⟩
 have l19':=l19
 obtain⟨n19,o19⟩:=l19'
 refine getMethod_list_append o19 rfl rfl (callWith_method1 (splC (by rfl) (list_ns (s:= {s with heap:=h19,toks:=_}) B okd.handled T19.inv fr.glob fr.blt (by rw[kk];kernel_rfl) (by rw[kk];kernel_rfl) hls1 hls2 hns (fun z=>bj z) fun a1 h20 t20 acc x20 na1 pa1=>spl0 ?_)))
 have T20:=T19.ext x20
 have l20:h20.PlainList ln #[]:=l19.at fun o ho=>x20 _ o ho
 refine wpAny_list_append_plain (s:= {s with heap:=h20,toks:=_}) l20 (fun h21 l21 sb21=>?_) (by decide)
 have T21:=T20.turn (.inr rfl) lnw (fun b o ne ho=>sb21.extBut b o ne ho) (xE l21 fun n o=>⟨_,o⟩)
 dsimp only
 refine ag ?_
 refine af (ay (bj (Attribute_name (nmO (s:= {s with heap:=h21,toks:=_}) T21.inv rfl (Mine.Internal.getA (K:=KW g.w.params) (s:= {s with heap:=h21,toks:=_}) (B.K.keeps T21.inv.base) T21.inst T21.dict (pg _ _) (has_dict _) (no_attr _ _ (by decide+kernel)) rfl (v:= .ref ln) (by kernel_rfl) rfl ?_)))) (hi:=fr.sok.inter))
 have l21':=l21
 obtain⟨n21,o21⟩:=l21'
 refine getMethod_list_append o21 rfl rfl (callWith_method1 (splC (by rfl) (wpAny_List (spl0 ⟨by decide,?_⟩))))
 have x_a2:=Ext.push h21 {cls:= .type "list",data:= .seq ([]:List Value).toArray}
 have n_a2:h21.get? h21.objs.size=none:=get?_size _
 have p_a2:(h21.push {cls:= .type "list",data:= .seq ([]:List Value).toArray}).get? h21.objs.size=some {cls:= .type "list",data:= .seq ([]:List Value).toArray}:=bc _ rfl
 dsimp only
 generalize (h21.push {cls:= .type "list",data:= .seq ([]:List Value).toArray})=h22 at x_a2 p_a2⊢
 generalize h21.objs.size=a2 at n_a2 p_a2⊢
 have T22:=T21.ext x_a2
 have l22:h22.PlainList ln (#[].push (Value.ref a1)):=l21.at fun o ho=>x_a2 _ o ho
 refine spl0 ?_
 refine wpAny_list_append_plain (s:= {s with heap:=h22,toks:=_}) l22 (fun h23 l23 sb23=>?_) (by show 1≤_;rw[bb];lia)
 have T23:=T22.turn (.inr rfl) lnw (fun b o ne ho=>sb23.extBut b o ne ho) (xE l23 fun n o=>⟨_,o⟩)
 dsimp only
 refine af (am (wpAny_Dict_empty ?_) (by rfl))
 have x_pm:=Ext.push h23 {cls:= .type "dict",data:= .dict #[] }
 have n_pm:h23.get? h23.objs.size=none:=get?_size _
 have p_pm:(h23.push {cls:= .type "dict",data:= .dict #[] }).get? h23.objs.size=some {cls:= .type "dict",data:= .dict #[] }:=bc _ rfl
 dsimp only
 generalize (h23.push {cls:= .type "dict",data:= .dict #[] })=h24 at x_pm p_pm⊢
 generalize h23.objs.size=pm at n_pm p_pm⊢
 have T24:=T23.ext x_pm
 refine(nmO (s:= {s with heap:=h24,toks:=_}) T24.inv rfl (T24.set (s:= {s with heap:=h24,toks:=_}) B (by decide+kernel) (by kernel_rfl) (by lia) fun h25 t25 T25 k25=>?_))
 dsimp only
 refine af (am (wpAny_List (splC (by rfl) (wpAny_Constant_bool (spl0 ⟨by show 1≤_;rw[bb];lia,?_⟩)))) (by rfl))
 have x_lps:=Ext.push h25 {cls:= .type "list",data:= .seq ([Value.bool false]:List Value).toArray}
 have n_lps:h25.get? h25.objs.size=none:=get?_size _
 have p_lps:(h25.push {cls:= .type "list",data:= .seq ([Value.bool false]:List Value).toArray}).get? h25.objs.size=some {cls:= .type "list",data:= .seq ([Value.bool false]:List Value).toArray}:=bc _ rfl
 dsimp only
 generalize (h25.push {cls:= .type "list",data:= .seq ([Value.bool false]:List Value).toArray})=h26 at x_lps p_lps⊢
 generalize h25.objs.size=lps at n_lps p_lps⊢
 have T26:=T25.ext x_lps
 refine(nmO (s:= {s with heap:=h26,toks:=_}) T26.inv rfl (T26.set (s:= {s with heap:=h26,toks:=_}) B (by decide+kernel) (by kernel_rfl) (by lia) fun h27 t27 T27 k27=>?_))
 dsimp only
 refine af (am (ax (nmO (s:= {s with heap:=h27,toks:=_}) T27.inv rfl (T27.set (s:= {s with heap:=h27,toks:=_}) B (by decide+kernel) (by kernel_rfl) (by lia) fun h28 t28 T28 k28=>?_))) (by rfl))
 dsimp only
 refine af (am (wpAny_Constant_bool (nmO (s:= {s with heap:=h28,toks:=_}) T28.inv rfl (T28.set (s:= {s with heap:=h28,toks:=_}) B (by decide+kernel) (by kernel_rfl) (by lia) fun h29 t29 T29 k29=>?_))) (by rfl))
 dsimp only
 refine af (am (wpAny_Constant_bool (nmO (s:= {s with heap:=h29,toks:=_}) T29.inv rfl (T29.set (s:= {s with heap:=h29,toks:=_}) B (by decide+kernel) (by kernel_rfl) (by lia) fun h30 t30 T30 k30=>?_))) (by rfl))
 dsimp only
 refine af (am (wpAny_Constant_int (nmO (s:= {s with heap:=h30,toks:=_}) T30.inv rfl (T30.set (s:= {s with heap:=h30,toks:=_}) B (by decide+kernel) (by kernel_rfl) (by lia) fun h31 t31 T31 k31=>?_))) (by rfl))
 dsimp only
 refine ag ?_
 have ne:∀{h:Heap} {a b:Addr},(∃o,h.get? a=some o)→h.get? b=none→a≠b:=fun {h a b} ⟨o,ho⟩ n q=>by rw[←q,ho]at n;cases n
 have lw:∀{m k L ρ h},Ini g wr wd sl m k L env ρ s.heap h→∃o,h.get? wd=some o:=fun T=>xEEA T.dict fun es n e Y=>⟨_,e⟩
 have nn:∀{h h':Heap} {a},Ext h h'→h'.get? a=none→h.get? a=none:=fun {h h' a} x q=>by
  cases e:h.get? a with
  |none=>rfl
  |some o=>rw[x _ _ e]at q;cases q
 have olds:=or4 (P:=fun a=>(∃o,s.heap.get? a=some o)∧a≠wd) (xE hlp fun n o=>⟨⟨_,o⟩,Ne.symm d1⟩) ⟨⟨_,htb⟩,Ne.symm d2⟩ ⟨⟨_,hi⟩,Ne.symm d3⟩ ⟨⟨_,hbm⟩,Ne.symm d4⟩
 have o1:∀a,(a=lp∨a=211∨a=wr∨a=bm)→∃o,h1.get? a=some o:=fun a q=>let ⟨⟨o,ho⟩,n⟩:=olds a q;⟨o,T1.old a o ho n⟩
 have o14:∀a,(a=lp∨a=211∨a=wr∨a=bm)→∃o,h14.get? a=some o:=fun a q=>let ⟨⟨o,ho⟩,n⟩:=olds a q;⟨o,T14.old a o ho n⟩
 have o16:∀a,(a=lp∨a=211∨a=wr∨a=bm)→∃o,h16.get? a=some o:=fun a q=>let ⟨⟨o,ho⟩,n⟩:=olds a q;⟨o,T16.old a o ho n⟩
 have oln:∀a,(a=lp∨a=211∨a=wr∨a=bm)→a≠ln:=fun a q=>ne (o16 a q) n_ln
 have o25:∀a,(a=lp∨a=211∨a=wr∨a=bm)→∃o,h25.get? a=some o:=fun a q=>let ⟨⟨o,ho⟩,n⟩:=olds a q;⟨o,T25.old a o ho fun z=>z.elim n (oln a q)⟩
 have ldaw:lda≠wd:=Ne.symm (ne (lw T1) n2)
 have kA:∀b o,b≠wd→h2.get? b=some o→h14.get? b=some o:=fun b o n ho=>k14 b o n (x13 _ _ (k12 b o n (x11 _ _ (k10 b o n (k9 b o n (x8 _ _ (k7 b o n (x6 _ _ (k5 b o n (k4 b o n (k3 b o n ho)))))))))))
 have kB:∀b o,b≠wd→h15.get? b=some o→h16.get? b=some o:=fun b o n ho=>k16 b o n ho
 have kC:∀b o,b≠wd→b≠ln→h16.get? b=some o→h23.get? b=some o:=fun b o n m ho=>sb23.extBut b o m (x_a2 _ _ (sb21.extBut b o m (x20 _ _ (x19 _ _ (k18 b o n (x_ln _ _ ho))))))
 have kD:∀b o,b≠wd→h23.get? b=some o→h25.get? b=some o:=fun b o n ho=>k25 b o n (x_pm _ _ ho)
 have kE:∀b o,b≠wd→h26.get? b=some o→h31.get? b=some o:=fun b o n ho=>k31 b o n (k30 b o n (k29 b o n (k28 b o n (k27 b o n ho))))
 have kF:∀b o,b≠wd→b≠ln→h16.get? b=some o→h31.get? b=some o:=fun b o n m ho=>kE b o n (x_lps _ _ (kD b o n (kC b o n m ho)))
 have tpw:tp≠wd:=Ne.symm (ne (lw T14) ntp)
 have t0w:t0≠wd:=Ne.symm (ne (lw T14) nt0)
 have ldw:ld≠wd:=Ne.symm (ne (lw T14) nld)
 have lpsw:lps≠wd:=Ne.symm (ne (lw T25) n_lps)
 have lda16:h16.PlainList lda #[]:=p2.at fun o ho=>kB _ o ldaw (x15 _ _ (kA _ o ldaw ho))
 have tp16:h16.IsTuple tp #[.str "http://www.w3.org/XML/1998/namespace" ta, .str "xml" tb]:=xEA q1 fun o ho r=>⟨o,kB _ _ tpw ho,r⟩
 have t016:h16.PlainList t0 #[.ref tp]:=q2.at fun o ho=>kB _ o t0w ho
 have ld16:h16.PlainList ld #[.ref t0]:=q3.at fun o ho=>kB _ o ldw ho
 have vlda:∃o,h14.get? lda=some o:=xE p2 fun n o=>⟨_,kA _ _ ldaw o⟩
 have vlda':∃o,h16.get? lda=some o:=xE lda16 fun n o=>⟨_,o⟩
 have vtp:∃o,h16.get? tp=some o:=xEA tp16 fun o ho Y=>⟨o,ho⟩
 have vt0:∃o,h16.get? t0=some o:=xE t016 fun n o=>⟨_,o⟩
 have vld:∃o,h16.get? ld=some o:=xE ld16 fun n o=>⟨_,o⟩
 have eln:∀{a},(∃o,h16.get? a=some o)→a≠ln:=fun v=>ne v n_ln
 have vln:∃o,h25.get? ln=some o:=xE l23 fun n o=>⟨_,kD _ _ lnw o⟩
 have e25:∀{a},a≠wd→(∃o,h16.get? a=some o)→a≠lps:=fun {a} n v=>ne (xE v fun o ho=>⟨o,kD _ _ n (kC _ _ n (eln v) ho)⟩) n_lps
 have nnL:∀{L:Addr→Prop} {h:Heap} {a},Mod L s.heap h→¬L a→h.get? a=none→s.heap.get? a=none:=fun {L h a} m n q=>by
  cases e:s.heap.get? a with
  |none=>rfl
  |some o=>rw[m _ _ e n]at q;cases q
 have g0:∀{h:Heap} {a},Ext g.h₀ h→h.get? a=none→g.h₀.get? a=none:=fun x n=>nn x n
 refine H ⟨wr,wd,bm,lp,lda,ld,t0,tp,ln,lps,pm,sl⟩ a1 a2 h31 _ rfl rfl rfl rfl ?_ ?_ ?_
 ·exact fun a q=>wm6 (P:=fun a=>a=wd∨a=lp∨a=211∨s.heap.get? a=none) q (.inl rfl) (.inr (.inl rfl)) (.inr (.inr (.inr (nnL T14.old (fun z=>ldw z) nld)))) (.inr (.inr (.inr (nnL T16.old (fun z=>lnw z) n_ln))))
   (.inr (.inr (.inr (nnL T25.old (fun z=>z.elim (fun z=>lpsw z) fun z=>ne vln n_lps z.symm) n_lps)))) (.inr (.inr (.inl rfl)))
 ·refine⟨T31.inst,?_,?_,⟨#[],?_,rfl⟩,?_,?_,?_,⟨ta,tb,?_⟩,(fun e he=>by cases he),?_,?_,by show 0≤1000;lia,by show 1≤1000;lia,by show 2≤1000;lia,by show 0≤100000;lia,⟨#[],?_,trivial, .inl rfl⟩,?_,?_,(fun e he=>by cases he)⟩
  ·refine xEEAAA T31.dict fun es n e1 e2 e3 e4=>?_
   exact⟨_,es,n,e1,Nat.le_trans e2 (by decide),e3,e4⟩
  ·exact T31.old _ _ hbm fun z=>z.elim (fun z=>d4 z.symm) fun z=>oln bm (.inr (.inr (.inr rfl))) z
  ·exact hlp.at fun o ho=>T31.old _ o ho fun z=>z.elim (fun z=>d1 z.symm) fun z=>oln lp (.inl rfl) z
  ·exact lda16.at fun o ho=>kF _ o ldaw (eln vlda') ho
  ·exact ld16.at fun o ho=>kF _ o ldw (eln vld) ho
  ·exact t016.at fun o ho=>kF _ o t0w (eln vt0) ho
  ·exact(xEA tp16 fun o ho r=>⟨o,kF _ _ tpw (eln vtp) ho,r⟩)
  ·exact l23.at fun o ho=>kE _ o lnw (x_lps _ _ (kD _ o lnw ho))
  ·exact⟨0,kE _ _ lpsw p_lps⟩
  ·exact T31.old _ _ htb fun z=>z.elim (fun z=>d2 z.symm) fun z=>oln 211 (.inr (.inl rfl)) z
  ·exact fun a q=>wm6 (P:=fun a=>g.h₀.get? a=none) q (h0 _ (.inl rfl)) (h0 _ (.inr (.inl rfl))) (g0 T14.inv.base nld) (g0 T16.inv.base n_ln) (g0 T25.inv.base n_lps) (h0 _ (.inr (.inr rfl)))
  ·have v1:∀a,(a=lp∨a=211∨a=wr∨a=bm)→a≠lda:=fun a q=>ne (o1 a q) n2
   have v2:∀a,(a=lp∨a=211∨a=wr∨a=bm)→∀{b},h14.get? b=none→a≠b:=fun a q b n=>ne (o14 a q) n
   have v3:∀a,(a=lp∨a=211∨a=wr∨a=bm)→a≠lps:=fun a q=>ne (o25 a q) n_lps
   have c1:lp=lp∨lp=211∨lp=wr∨lp=bm:= .inl rfl
   have c2:(211:Addr)=lp∨(211:Addr)=211∨(211:Addr)=wr∨(211:Addr)=bm:= .inr (.inl rfl)
   have c3:wr=lp∨wr=211∨wr=wr∨wr=bm:= .inr (.inr (.inl rfl))
   have c4:bm=lp∨bm=211∨bm=wr∨bm=bm:= .inr (.inr (.inr rfl))
   have a1:=ne vlda ntp
   have a2:=ne vlda nt0
   have a3:=ne vlda nld
   exact nd11 ⟨d1,Ne.symm ldw,Ne.symm lnw,Ne.symm lpsw,d2,d3,d4,Ne.symm ldaw,Ne.symm t0w,Ne.symm tpw⟩
    ⟨v2 _ c1 nld,oln _ c1,v3 _ c1,d5,d6,d7,v1 _ c1,v2 _ c1 nt0,v2 _ c1 ntp⟩
    ⟨eln vld,e25 ldw vld,Ne.symm (v2 _ c2 nld),Ne.symm (v2 _ c3 nld),Ne.symm (v2 _ c4 nld),Ne.symm a3,Ne.symm d13,Ne.symm d12⟩
    ⟨ne vln n_lps,Ne.symm (oln _ c2),Ne.symm (oln _ c3),Ne.symm (oln _ c4),Ne.symm (eln vlda'),Ne.symm (eln vt0),Ne.symm (eln vtp)⟩
    ⟨Ne.symm (v3 _ c2),Ne.symm (v3 _ c3),Ne.symm (v3 _ c4),Ne.symm (e25 ldaw vlda'),Ne.symm (e25 t0w vt0),Ne.symm (e25 tpw vtp)⟩
    ⟨d8,d9,v1 _ c2,v2 _ c2 nt0,v2 _ c2 ntp⟩ ⟨d10,v1 _ c3,v2 _ c3 nt0,v2 _ c3 ntp⟩ ⟨v1 _ c4,v2 _ c4 nt0,v2 _ c4 ntp⟩ ⟨a2,a1⟩ (Ne.symm d11)
 ·exact fun a o ho n=>T31.old a o ho fun z=>z.elim n fun z=>by
   obtain⟨o',ho'⟩:∃o',h16.get? a=some o':=⟨o,T16.old a o ho n⟩
   rw[z,n_ln]at ho';cases ho'
theorem AOk.under{n:Nat}{A:Around}(x:AOk (n+1) A){c:Code}(h1:c.weight≤1)(h2:c.cUnits≤8):AOk n (A.under c):=⟨x.handled,by
 have:=x.depth;show A.depth+c.weight+n≤900;lia,by have:=x.units;show A.units+c.cUnits+8*n≤9000;lia⟩
theorem mk_ok{g:Gnd}{mg mb:Str→Option Value}(B:Ground' g mg mb){A:Around}{s:Shared}{bm lp:Addr}{R:Result→Shared→Prop}
  (ok:AOk (60+g.K) A) (base:Ext g.h₀ s.heap) (hbm:s.heap.get? bm=some (bmObj lp)) (hlp:s.heap.PlainList lp #[]) (htb:s.heap.get? 211=some (tabObj #[]))
  (h0:∀a,a=lp∨a=211→g.h₀.get? a=none) (hls1:mg "list" =none) (hls2:mb "list" =some (.type "list")) (hns:mg "_namespace_map" =some (.ref 132))
  (nd:[lp,211,bm].Nodup)
  (H:∀W a1 a2 h' t',W.bm=bm→W.lp=lp→(∀a,WM W a→a=lp∨a=211∨s.heap.get? a=none)→s.heap.get? W.wr=none→WSt g h' W {ps:=[],es:=[],ns:=[.ref a1, .ref a2],lv:=1,seen:=false,done:=false}→Ext s.heap h'→R (.ok (.ret (.ref W.wr))) {s with heap:=h',toks:=t'}):
  codeAny (model g.prog g.w) A (.call (.ref 238) ⟨[.ref bm],[(br "with_comments", .bool true)]⟩) R s:=by
 have X:=B.K.keeps base
 refine make_core (h:=s.heap) (g:=s.gens) (d:=s.drawn) (t:=s.toks) (os:=s.os) (makes_of (K:=KW g.w.params) X (by kernel_rfl)) (looks_findIn X (f_init _)) (fun self=>bind_fn X self (beq_iff_eq.mp (is_fn _ 155 (by decide)))) (.inl rfl) ?_
 have n1:s.heap.get? s.heap.objs.size=none:=get?_size _
 have p1:(s.heap.push emptyDict).get? s.heap.objs.size=some eD:=bc _ rfl
 have x1:Ext s.heap (s.heap.push emptyDict):=Ext.push _ _
 have n2:(s.heap.push emptyDict).get? (s.heap.objs.size+1)=none:=by
  have:=get?_size (s.heap.push emptyDict);rwa [Heap.size_push]at this
 have p2:((s.heap.push emptyDict).push (instObj 238 s.heap.objs.size)).get? (s.heap.objs.size+1)=some (instObj 238 s.heap.objs.size):=by
  have:=(bc (s.heap.push emptyDict) rfl:((s.heap.push emptyDict).push (instObj 238 s.heap.objs.size)).get? _=_);rwa [Heap.size_push]at this
 have x2:Ext (s.heap.push emptyDict) ((s.heap.push emptyDict).push (instObj 238 s.heap.objs.size)):=Ext.push _ _
 have xx:=x1.trans x2
 have p1':=x2 _ _ p1
 generalize ((s.heap.push emptyDict).push (instObj 238 s.heap.objs.size))=h2 at*
 have hwx:s.heap.objs.size+1≠s.heap.objs.size:=by lia
 generalize s.heap.objs.size+1=wr at*
 generalize s.heap.objs.size=wd at*
 have nw:s.heap.get? wr=none:=by
  cases e:s.heap.get? wr with
  |none=>rfl
  |some o=>rw[x1 _ _ e]at n2;cases n2
 have ne:∀{a b:Addr},(∃o,s.heap.get? a=some o)→s.heap.get? b=none→a≠b:=fun {a b} ⟨o,ho⟩ n q=>by rw[←q,ho]at n;cases n
 have vlp:∃o,s.heap.get? lp=some o:=xE hlp fun n o=>⟨_,o⟩
 refine init_ok (s:= {s with heap:=h2}) (sl:= #[]) B (AOk.under (n:=50+g.K) (ok.le (by lia)) ?_ ?_) (base.trans xx) p2 p1' (xx _ _ hbm) (hlp.at fun o ho=>xx _ o ho) (xx _ _ htb) ?_ ?_ hls1 hls2 hns fun W a1 a2 h' t' e1 e2 e3 e4 hWM w m=>?_
 ·exact Nat.le_of_ble_eq_true (by with_unfolding_all rfl)
 ·exact Nat.le_of_ble_eq_true (by with_unfolding_all rfl)
 ·rintro a (q|q|q)
  ·rw[q]
   cases e:g.h₀.get? wd with
   |none=>rfl
   |some o=>rw[base _ _ e]at n1;exact sn n1
  ·exact h0 a (.inl q)
  ·exact h0 a (.inr q)
 ·simp only[List.nodup_cons,bz,cj,not_or,or_false,not_false_eq_true,List.nodup_nil,and_true]at nd⊢
  refine xA nd fun Y d3=>?_;refine xA Y fun d1 d2=>?_
  exact⟨⟨Ne.symm (ne vlp n1),Ne.symm (ne ⟨_,htb⟩ n1),hwx.symm,Ne.symm (ne ⟨_,hbm⟩ n1)⟩,⟨d1,ne vlp nw,d2⟩,⟨ne ⟨_,htb⟩ nw,d3⟩,Ne.symm (ne ⟨_,hbm⟩ nw)⟩
 ·refine⟨rfl,?_⟩
  have:Value.ref wr= .ref W.wr:=by rw[e1]
  rw[this]
  refine H W a1 a2 h' t' e3 e4 (fun a q=>?_) (by rw[e1];exact nw) w fun a o ho=>m a o (xx _ _ ho) fun q=>by rw[q,n1]at ho;cases ho
  refine Or.elim (hWM a q) (fun z=>?_) fun Y=>Or.elim Y (fun z=>?_) fun Y=>Or.elim Y (fun z=>?_) fun z=>?_
  ·rw[z];exact .inr (.inr n1)
  ·exact .inl z
  ·exact .inr (.inl z)
  ·refine .inr (.inr ?_)
   cases e:s.heap.get? a with
   |none=>rfl
   |some o=>simp only at z;rw[xx _ _ e]at z;cases z
section
noncomputable def fnL:FuncData:=fd (dT 74) (z "_law_tell") 3 .none .none (vs "law_kl0465_01" 2807) (.ref 262) 0
theorem fnL_at{g:Gnd}{mg mb:Str→Option Value}(B:Ground' g mg mb):FnAt g 263 fnL (dT 74).body:=by
 refine⟨⟨ob263 g.w.params,B.K _ _ rfl,rfl⟩,rfl,rfl,rfl,rfl,codeRec_of B.K (by kernel_rfl),rfl,rfl⟩
noncomputable def pcs(names:List (List Nat))(tops:List Int):Nat→Nat→List (List Nat)
 |0,_=>[]
 |n+1,one=>[60::names.getD one []]++[[62]]++(List.range' (one+1) (names.length-(one+1))).flatMap (fun o=>if tops.getD o 0==(one:Int)then pcs names tops n o else [])++[60::47::(names.getD one []++[62])]
structure TL(g:Gnd)(W:WA)(D:WD)(I:Addr)(env:Env)(ρ:Rho)(hs h1 h:Heap):Prop where
 inv:Inv g env ρ h (fun a=>(WM W a∨OwnOf env a)∨a=I) (OwnOf env)
 w:WSt g h W D
 old:Mod (WM W) hs h
structure Tb(names:List (List Nat))(tops:List Int):Prop where
 ok:∀nm∈names,NmOk nm
 len:tops.length=names.length
 n10:names.length≤10
theorem callWith_typeN{M:Model}{A:Around}{E:Value→Shared→Prop}{s:Shared}{env:Env}{pos:Pos}{T:String}{e:Expr}{rest:List Expr}{Q:Value→Shared→Prop}
  (h:wpAny M A (spliced (backTo pos (starEach (e::rest) env))) (fun vs s₁=>wpAny M A (call (.type T) vs) Q E s₁) E s)
  (he:starEach (e::rest) env=(false,eval e env)::starEach rest env:=by rfl) (hplain:(backTo pos (starEach rest env)).any (·.1)=false:=by rfl):wpAny M A (callWith pos (.type T) [] (backTo pos (starEach (e::rest) env)) []) Q E s:=by
 rw[he]at h⊢
 exact PySem.callWith_type (by show(false||(backTo pos (starEach rest env)).any (·.1))=false;rw[hplain];rfl) (evalArgs_plain h)
theorem idx_at{α:Type}{l:List α}{one:Nat}{x:α}(h:l[one]?=some x)(hl:l.length≤10):idxL l (one:Int)=some x:=by
 unfold idxL
 rw[if_pos (by simp),if_pos (by rw[Nat.blt_eq];lia)]
 simpa using h
theorem Here.mod{g:Gnd}{W:WA}{D D':WD}{env:Env}{ρ:Rho}{hs h h':Heap}(T:Here g W D env ρ hs h)(m:Mod (WM W) h h')(w:WSt g h' W D')(he:∀e∈D'.es,¬OwnOf env e):Here g W D' env ρ hs h':=by
 have k:∀a o,¬WM W a→h.get? a=some o→h'.get? a=some o:=fun a o n ho=>m a o ho n
 refine⟨T.inv.chgM (fun a o ho nf=>⟨nf,k a o (fun q=>nf (.inl q)) ho⟩) (fun a q o ho=>k a o (fun z=>T.live a (.inl z) q) ho) (fun a o ho=>k a o (fun z=>by rw[T.w.wm0 a z]at ho;exact nn ho) (T.inv.base a o ho)) (fun a q=>?_) (fun Y q=>q) T.inv.sub,w,T.old.trans m,T.new,?_⟩
 ·refine Or.elim q (fun q=>?_) fun q=>?_
  ·exact w.places a q
  ·refine xE (T.inv.fl a (.inr q)) fun o ho=>?_;exact⟨o,k a o (fun z=>T.live a (.inl z) q) ho⟩
 ·rintro a (q|q|q)
  ·exact T.live a (.inl q)
  ·exact T.live a (.inr (.inl q))
  ·exact he a q
noncomputable def tellFor:Stmt→Expr×List Stmt
 | .For t _ b _ _=>(t,b)
 |_=>(.Constant .none 0 ⟨0,0,0,0⟩,[])
noncomputable def tellTgt:Expr:=(tellFor (nthS 1 (dT 74).body)).1
noncomputable def tellBody:List Stmt:=(tellFor (nthS 1 (dT 74).body)).2
theorem small_ok:∀a<10,∀b<11,Builtin.Range.small ((a:Nat)+1:Int) ((b:Nat):Int) 1=true:=by decide+kernel
theorem size_ok:∀a<10,∀b<11,Builtin.Range.rangeSize ((a:Nat)+1:Int) ((b:Nat):Int) 1=((b-(a+1):Nat):Int):=by decide+kernel
theorem WSt.iter{g:Gnd}{h h':Heap}{W:WA}{D:WD}{I:Addr}{x l:Int}(w:WSt g h W D)(hit:IsRangeIter h I x l 1)(k:∀a o,a≠I→h.get? a=some o→h'.get? a=some o)(n:∀a,WM W a∨WR W a∨a∈D.es→a≠I):WSt g h' W D:=by
 refine w.mod (Z:=fun a=>a=I) (fun a o ho ne=>k a o ne ho) ?_
 rintro a (q|q|q|q) z
 ·exact n a (.inl q) z
 ·exact n a (.inr (.inl q)) z
 ·exact n a (.inr (.inr q)) z
 ·refine xEEEEAAA (w.code q) fun c o vs t e1 e2 e3 e4=>?_
  cases e1
  rw[z,hit]at e2;cases e2;cases e3;cases e4
theorem WSt.owned{g:Gnd}{h h':Heap}{W:WA}{D:WD}{env:Env}{ρ:Rho}{F M:Addr→Prop}(w:WSt g h W D)(I:Inv g env ρ h F M)(m:Mod (OwnOf env) h h')(n:∀a,WM W a∨WR W a∨a∈D.es→¬OwnOf env a):WSt g h' W D:=by
 refine w.mod m ?_
 rintro a (q|q|q|q) z
 ·exact n a (.inl q) z
 ·exact n a (.inr (.inl q)) z
 ·exact n a (.inr (.inr q)) z
 ·exact own_not_code I (w.code q) z
noncomputable def tlP(names:List (List Nat))(tops:List Int)(n one o k:Nat):List (List Nat):=(List.range' o k).flatMap (fun o=>if tops.getD o 0==(one:Int)then pcs names tops n o else [])
theorem tlP_succ{names:List (List Nat)}{tops:List Int}{n one o k:Nat}{ta:Int}(h:tops.getD o 0=ta):tlP names tops n one o (k+1)=(if ta==(one:Int)then pcs names tops n o else [])++tlP names tops n one (o+1) k:=by
 unfold tlP;rw[List.range'_succ,List.flatMap_cons,h]
noncomputable def tellD(D:WD)(e a:Addr)(ps:List (List Nat))(dn:Bool):WD:= {ps:=ps,es:=D.es++[e],ns:=D.ns++[.ref a],lv:=D.lv+1,seen:=true,done:=dn}
noncomputable def tellR(W:WA)(names:List (List Nat))(tops:List Int)(one:Nat):Rho:=argsR ["writer","names","tops","one"] [.obj (.ref W.wr), .list (names.map PV.str), .list (tops.map PV.int), .int one] [("range", .bi .range),("len", .bi .len)]
theorem tell_ok{g:Gnd}{mg mb:Str→Option Value}(B:Ground' g mg mb){names:List (List Nat)}{tops:List Int}(tb:Tb names tops)(hset1:mg "set" =none)(hset2:mb "set" =some (.type "set"))(hso1:mg "sorted" =none)(hso2:mb "sorted" =some (.builtin "sorted"))
  (hln1:mg "len" =none) (hln2:mb "len" =some (.builtin "len")) (hr1:mg "range" =none) (hr2:mb "range" =some (.type "range")) (ht1:mg "_law_tell" =some (.ref 263)):
  ∀(n one:Nat),names.length≤one+n→one<names.length→∀{A:Around} {s:Shared} {W:WA} {D:WD} {vn vt:Value} {t:Tok} {R:Result→Shared→Prop},AOk (70+10*n+g.K) A→Ext g.h₀ s.heap→WSt g s.heap W D→
   Rv g.prog g.w s.heap (WM W) (.list (names.map PV.str)) vn→Rv g.prog g.w s.heap (WM W) (.list (tops.map PV.int)) vt→
   D.ps.length+(pcs names tops n one).length≤90000→D.ns.length+n≤900→D.lv+n≤900→D.es.length+n≤900→1≤D.lv→
   (∀h' g' t',WSt g h' W {D with ps:=D.ps++pcs names tops n one,seen:=true,done:=((D.lv:Int)==1)}→Mod (WM W) s.heap h'→(AllBare s.gens→AllBare g')→R (.ok (.ret .none)) {s with heap:=h',gens:=g',toks:=t'})→
   codeAny (model g.prog g.w) A (.call (.ref 263) ⟨[.ref W.wr,vn,vt, .int one t],[]⟩) R s:=by
 intro n
 induction n with
 |zero=>intro one h1 h2;lia
 |succ n ih=>
 intro one hn hone A s W D vn vt t R ok base x rn rt hps hns hlv hes hl1 H
 refine xEA (⟨names[one],List.getElem?_eq_getElem hone,by simp[List.getD,List.getElem?_eq_getElem hone]⟩:∃nm,names[one]?=some nm∧names.getD one []=nm) fun nm hnm rfl'=>?_
 have nok:NmOk nm:=tb.ok nm (List.mem_of_getElem? hnm)
 refine enter_fn (k:=69+10*(n+1)+g.K) (F:=WM W) (own:= "") (G:=[("range", .bi .range),("len", .bi .len)]) (names:=["writer","names","tops","one"]) (ps:=[.obj (.ref W.wr), .list (names.map PV.str), .list (tops.map PV.int), .int one]) (vals:=[.ref W.wr,vn,vt, .int one t]) B.toBase (fnL_at B) rfl ?hG (by kernel_rfl) (by kernel_rfl) (by kernel_rfl) (by kernel_rfl)
  (ok.le (by lia)) base x.places (x.nMain B.toBase.mainLive.1) (x.nMain B.toBase.mainLive.2) x.wm0 (BindsTo.of_eq (by rfl)) ?rs rfl fun env h t fr okd=>?_
 case hG=>
  intro x e q
  simp only[List.lookup]at q
  split at q
  ·rename_i hh;rw[beq_iff_eq.mp hh];cases q;exact⟨hr1,hr2⟩
  ·split at q
   ·rename_i hh;rw[beq_iff_eq.mp hh];cases q;exact⟨hln1,hln2⟩
   ·cases q
 case rs=>exact .cons rfl (.cons rn (.cons rt (.cons (Rv.int_iff.mpr ⟨_,rfl⟩) .nil)))
 have T:Here g W D env (tellR W names tops one) s.heap h:=⟨fr.inv,x.ext fr.ext,fr.ext.mod _,fr.new,fun a q z=>by
  have n:=fr.new a z
  refine xE (x.live a (q.elim .inl fun q=>q.elim (fun q=> .inr (.inl q)) fun q=> .inr (.inr (.inl q)))) fun o ho=>?_
  rw[n]at ho;exact nn ho⟩
 have cn0:Cn env []:=fun Y q=>by cases q
 have kk:∀x,env.kindOf x=fnL.scope.names.lookup x:=fun x=>by rw[←fr.scope];rfl
 refine af (ay (bj (nmO (s:= {s with heap:=h,toks:=t}) (v:= .ref W.wr) T.inv rfl (T.w.getM (s:= {s with heap:=h,toks:=t}) B T.base (f_start _) (by decide) (fun Y=>rfl)
  (callWith_fn (s:= {s with heap:=h,toks:=t}) B T.base (by decide) (splC (by rfl) ((sound g 8).e [] _ _ (.str nm) env _ _ _ _ {s with heap:=h,toks:=t} _ ?pe (okd.le (by lia)) T.inv cn0 fun v1 h1 t1 x1 r1=>splC (by rfl) (wpAny_Dict_empty (spl0 ⟨?_,?_⟩)))))))) (hi:=fr.sok.inter))
 case pe=>
  show idxL (names.map PV.str) (one:Int)=some (.str nm)
  exact idx_at (by rw[List.getElem?_map,hnm];rfl) (by rw[List.length_map];exact tb.n10)
 have T1:=T.ext x1
 ·exact(T1.ext (Ext.push _ _)).base
 have T1:=T.ext x1
 refine xE (Rv.str_iff.mp r1) fun tk1 Y=>?_;subst Y
 have nad:h1.get? h1.objs.size=none:=get?_size _
 have had:(h1.push {cls:= .type "dict",data:= .dict #[] }).get? h1.objs.size=some eD:=bc _ rfl
 have xad:=Ext.push h1 {cls:= .type "dict",data:= .dict #[] }
 have T2:=T1.ext xad
 have hlow:(h1.objs.size==sysModules)=false:=by
  refine beq_eq_false_iff_ne.mpr fun q=>?_
  refine xEEA B.low fun a o l ho=>?_
  have:=Nat.lt_of_le_of_lt l (bh (T1.base _ _ ho))
  rw[q]at this
  exact Nat.lt_irrefl _ this
 dsimp only
 generalize (h1.push {cls:= .type "dict",data:= .dict #[] })=h2 at had xad T2⊢
 generalize h1.objs.size=ad at nad had hlow⊢
 have plen:(pcs names tops (n+1) one).length=2+(tlP names tops n one (one+1) (names.length-(one+1))).length+1:=by
  simp only[pcs,tlP,ck,List.length_singleton]
 refine wpAny_call (start_ok (s:= {s with heap:=h2,toks:=t1}) B (okd.le (by lia)) T2.base T2.w nok hset1 hset2 hso1 hso2 (by lia) (by lia) (by lia) (by lia) hl1 had (fun q=>by refine xE (T1.w.places ad q) fun o ho=>?_;rw[nad]at ho;exact nn ho) hlow fun a e h3 g3 t3 ne w3 m3 ab3=>?_)
 have neo:¬OwnOf env e:=fun q=>by
  refine xE (T2.inv.fl e (.inr q)) fun o ho=>?_;simp only at ne;rw[ne]at ho;cases ho
 have T3:=T2.mod m3 w3 fun e' q=>by
  refine Or.elim (List.mem_append.mp q) (fun q=>?_) fun q=>?_
  ·exact T2.live e' (.inr (.inr q))
  ·rw[cf.mp q];exact neo
 dsimp only
 refine af (wpAny_For (ar (nmB (s:= {s with heap:=h3,gens:=g3,toks:=t3}) B.toBase T3.inv fr.glob fr.blt (by rw[kk];kernel_rfl) (by decide+kernel) hr1 hr2 (callWith_typeN (splC (by rfl) (wpAny_BinOp ?bo))))))
 case bo=>
 refine nmP (s:= {s with heap:=h3,gens:=g3,toks:=t3}) (p:= .int one) T3.inv rfl fun v4 r4=>?_
 refine xE (Rv.int_iff.mp r4) fun tk4 Y=>?_;subst Y
 refine wpAny_Constant_int (PySem.P.add_int (splC (by rfl) (ar (nmB (s:= {s with heap:=h3,gens:=g3,toks:=_}) B.toBase T3.inv fr.glob fr.blt (by rw[kk];kernel_rfl) (by decide+kernel) hln1 hln2 (callWith_method1 (splC (by rfl) (nmP (s:= {s with heap:=h3,gens:=g3,toks:=_}) (p:= .list (names.map PV.str)) T3.inv rfl fun v5 r5=>?_)))))))
 refine xEEAAAA (Rv.list_iff.mp r5) fun an vns Y Y9 Y9 pln rns=>?_;subst Y
 have lvn:vns.size=names.length:=by have:=rns.length;simpa using this
 refine spl0 (call_len_list (Heap.PlainList.isList pln) (by rw[lvn];have:=tb.n10;lia) (spl0 (call_range_2 ?_)))
 dsimp only
 rw[lvn]
 have xr:=Ext.push h3 {cls:= .type "range",data:= .fields #[.int ((one:Int)+1) (t3+1), .int (names.length:Int) (t3+1+1+1), .int 1 (t3+1+1+1)] }
 have o10:one<10:=by have:=tb.n10;lia
 refine wpAny_pyIter_range (a:=(one:Int)+1) (b:=names.length) (c:=1) (bc _ rfl) (small_ok one o10 names.length (by have:=tb.n10;lia)) ?_
 rw[size_ok one o10 names.length (by have:=tb.n10;lia)]
 dsimp only
 generalize hh4:Heap.push h3 _=h4
 have x4:Ext h3 h4:=hh4▸Ext.push _ _
 have T4:=T3.ext x4
 have nI:h4.get? h4.objs.size=none:=get?_size _
 have pI:IsRangeIter (h4.push {cls:= .type "range_iterator",data:= .fields #[rawInt ((one:Int)+1),rawInt ((names.length-(one+1):Nat):Int),rawInt 1] }) h4.objs.size ((one+1:Nat):Int) ((names.length-(one+1):Nat):Int) 1:=bc _ rfl
 have x5:=Ext.push h4 {cls:= .type "range_iterator",data:= .fields #[rawInt ((one:Int)+1),rawInt ((names.length-(one+1):Nat):Int),rawInt 1] }
 generalize (h4.push {cls:= .type "range_iterator",data:= .fields #[rawInt ((one:Int)+1),rawInt ((names.length-(one+1):Nat):Int),rawInt 1] })=h5 at pI x5⊢
 generalize h4.objs.size=I at nI pI⊢
 have nIo:¬OwnOf env I:=fun q=>by refine xE (T4.inv.fl I (.inr q)) fun o ho=>?_;rw[nI]at ho;cases ho
 have nIm:¬WM W I:=fun q=>by refine xE (T4.inv.fl I (.inl q)) fun o ho=>?_;rw[nI]at ho;cases ho
 have I0:g.h₀.get? I=none:=by
  cases q:g.h₀.get? I with
  |none=>rfl
  |some o=>rw[T4.base _ _ q]at nI;cases nI
 have nIs:s.heap.get? I=none∨WM W I:=by
  cases q:s.heap.get? I with
  |none=>exact .inl rfl
  |some o=>rw[T4.old I o q nIm]at nI;cases nI
 have live4:∀a,WM W a∨WR W a∨a∈D.es++[e]→a≠I:=fun a q z=>by
  refine xE (T4.w.live a (q.elim .inl fun q=>q.elim (fun q=> .inr (.inl q)) fun q=> .inr (.inr (.inl q)))) fun o ho=>?_
  rw[z,nI]at ho;cases ho
 have TL5:TL g W _ I env _ s.heap h3 h5:=⟨T4.inv.grow x5 (fun b q=> .inl q) (fun b o ho nf q=>q.elim nf fun q=>by rw[q,nI]at ho;exact nn ho) (fun b q=>q.elim (fun q=>(T4.inv.fl.ext x5) b q) fun q=>⟨_,q▸pI⟩) (fun Y q=>q) fun b q=> .inl (T4.inv.sub b q),T4.w.ext x5,T4.old.trans (x5.mod _)⟩
 have loop:∀(k o:Nat),o+k=names.length→one+1≤o→∀(h:Heap) (gg:Array GenState) (tt:Nat) (ps:List (List Nat)) (dn:Bool),TL g W (tellD D e a (ps) dn) I env (tellR W names tops one) s.heap h3 h→
   IsRangeIter h I (o:Int) (k:Int) 1→ps.length+(tlP names tops n one o k).length≤90000→(AllBare s.gens→AllBare gg)→
   ∀{R':Result→Shared→Prop},(∀h' gg' tt' dn',Here g W (tellD D e a (ps++tlP names tops n one o k) dn') env (tellR W names tops one) s.heap h'→
    (AllBare s.gens→AllBare gg')→R' (.ok .next) {s with heap:=h',gens:=gg',toks:=tt'})→
   codeAny (model g.prog g.w) (A.deeper env) (.forLoop tellTgt (.ref I) tellBody [] env) R' {s with heap:=h,gens:=gg,toks:=tt}:=by
  intro k
  induction k with
  |zero=>
   intro o ho1 ho2 h gg tt ps dn T hit hb ab R' K
   refine for_step ?_
   refine wpAny_pyNext_range_end (s:= {s with heap:=h,gens:=gg,toks:=tt}) okd.handled hit (by simp) fun h' hx=>?_
   have kI:∀a o,a≠I→h.get? a=some o→h'.get? a=some o:=fun a o ne ho=>hx a o ne ho
   have w':=T.w.iter hit kI live4
   have old':Mod (WM W) s.heap h':=fun a o ho n=>kI a o (fun q=>by
    refine Or.elim nIs (fun z=>?_) fun z=>?_
    ·rw[←q,ho]at z;exact sn z
    ·exact nIm z) (T.old a o ho n)
   refine K h' gg tt dn ⟨T.inv.chgM (fun a o ho nf=>⟨fun q=>nf (.inl q),kI a o (fun q=>nf (.inr q)) ho⟩) (fun a q o ho=>kI a o (fun z=>nIo (z▸q)) ho) (fun a o ho=>kI a o (fun z=>by rw[z,I0]at ho;exact nn ho) (T.inv.base a o ho)) (fun a q=>?_) (fun Y q=>q) (fun a q=> .inr q),by rw[show tlP names tops n one o 0=[]from rfl,List.append_nil];exact w',old',fr.new,T3.live⟩ ab
   refine xE (T.inv.fl a (.inl q)) fun o ho=>?_
   exact⟨o,kI a o (fun z=>q.elim (fun q=>nIm (z▸q)) fun q=>nIo (z▸q)) ho⟩
  |succ k ihk=>
   intro o ho1 ho2 h gg tt ps dn T hit hb ab R' K
   refine for_step ?_
   refine wpAny_pyNext_range_item (s:= {s with heap:=h,gens:=gg,toks:=tt}) hit (by lia) fun h' hit' hx=>?_
   have kI:∀a o,a≠I→h.get? a=some o→h'.get? a=some o:=fun a o ne ho=>hx.extBut a o ne ho
   have w':=T.w.iter hit kI live4
   have I':=T.inv.other kI (.inr rfl) nIo I0 ⟨_,hit'⟩
   have old':Mod (WM W) s.heap h':=fun a o ho n=>kI a o (fun q=>by
    refine Or.elim nIs (fun z=>?_) fun z=>?_
    ·rw[←q,ho]at z;exact sn z
    ·exact nIm z) (T.old a o ho n)
   refine ah ?_
   refine wpAny_assign_Name (store_own (s:= {s with heap:=h',gens:=gg,toks:=tt+1}) (bk:=(frameSC fnL.scope.names "").bk) I' fr.sok.bind (by kernel_rfl) (fun a q=>T3.hm base a q.of) (p:= .int o) (Rv.int_iff.mpr ⟨_,rfl⟩) fun h'' t'' m'' I''=>?_)
   have w'':=w'.owned I' (m''.mono fun a q=>q.of) fun a q=>T3.live a q
   have I2:=I''.drop rfl
   have hit'':IsRangeIter h'' I ((o:Int)+1) (((k+1:Nat):Int)-1) 1:=m'' _ _ hit' fun q=>nIo q.of
   have old'':Mod (WM W) s.heap h'':=fun a o ho n=>m'' a o (old' a o ho n) fun q=>by rw[fr.new a q.of]at ho;cases ho
   obtain⟨ta,hta,hta2⟩:∃ta,tops[o]?=some ta∧tops.getD o 0=ta:=by
    have:o<tops.length:=by rw[tb.len];lia
    exact⟨tops[o],List.getElem?_eq_getElem this,by simp[List.getD,List.getElem?_eq_getElem this]⟩
   show wpAny _ _ (execs [.If (.Compare (.Subscript _ _ _) [.Eq] [.Name _ _] _) [.Expr (.Call (.Name _ _) [_,_,_,_] [] _) _] [] _] env) _ _ _
   refine af (wpAny_If (az ((sound g 8).e [] _ _ (.int ta) env _ _ _ _ {s with heap:=h'',gens:=gg,toks:=t''} _ ?pe2 (okd.le (by lia)) I'' cn0 fun v6 h6 t6 x6 r6=>nmP (s:= {s with heap:=h6,gens:=gg,toks:=t6}) (p:= .int one) (I''.ext x6) rfl fun v7 r7=>?_)))
   case pe2=>
    show idxL (tops.map PV.int) (o:Int)=some (.int ta)
    exact idx_at (by rw[List.getElem?_map,hta];rfl) (by rw[List.length_map,tb.len];exact tb.n10)
   refine xE (Rv.int_iff.mp r6) fun k6 Y=>?_;subst Y
   refine xE (Rv.int_iff.mp r7) fun k7 Y=>?_;subst Y
   refine PySem.P.eq_int (av ?_)
   have hfl:tlP names tops n one o (k+1)=(if ta==(one:Int)then pcs names tops n o else [])++tlP names tops n one (o+1) k:=by
    exact tlP_succ hta2
   rw[hfl]at hb K
   have I6:=I2.ext x6
   have w6:=w''.ext x6
   have old6:=old''.trans (x6.mod _)
   have hit6:IsRangeIter h6 I ((o+1:Nat):Int) (k:Int) 1:=by
    have:=x6 _ _ hit''
    rw[show((k+1:Nat):Int)-1=k by lia]at this
    exact this
   cases hc:(ta==(one:Int))with
   |false=>
    rw[hc]at hb K
    replace hb:ps.length+(tlP names tops n one (o+1) k).length≤90000:=hb
    refine pn bq ?_
    refine ag (ag ?_)
    exact ihk (o+1) (by lia) (by lia) h6 gg t6 ps dn ⟨I6,w6,old6⟩ hit6 hb ab K
   |true=>
    rw[hc]at hb K
    rw[if_pos rfl]at hb
    refine py rfl ?_
    have I6'':=I''.ext x6
    have b6:=I6''.base
    refine af (ay (ar (nmG (s:= {s with heap:=h6,gens:=gg,toks:=t6}) B.toBase I6'' fr.glob (by rw[kk];kernel_rfl) (by decide+kernel) ht1 (callWith_fn (s:= {s with heap:=h6,gens:=gg,toks:=t6}) B b6 (by decide) (splC (by rfl) (nmO (s:= {s with heap:=h6,gens:=gg,toks:=t6}) (v:= .ref W.wr) I6'' rfl
     (splC (by rfl) (nmP (s:= {s with heap:=h6,gens:=gg,toks:=t6}) (p:= .list (names.map PV.str)) I6'' rfl fun vn6 rn6=>splC (by rfl) (nmP (s:= {s with heap:=h6,gens:=gg,toks:=t6}) (p:= .list (tops.map PV.int)) I6'' rfl fun vt6 rt6=>splC (by rfl) (nmP (s:= {s with heap:=h6,gens:=gg,toks:=t6}) (p:= .int o) I6'' rfl fun vo6 ro6=>spl0 ⟨b6,?_⟩))))))))) (hi:=fr.sok.inter))
    refine xE (Rv.int_iff.mp ro6) fun ko6 Y=>?_;subst Y
    have U6:Up h6 (fun a=>(WM W a∨OwnOf env a)∨a=I) h6 (WM W):=fun a o ho nf=>⟨fun q=>nf (.inl (.inl q)),ho⟩
    have hb':=hb
    rw[ck]at hb'
    refine wpAny_call (ih o (by lia) (by lia) (s:= {s with heap:=h6,gens:=gg,toks:=t6}) (okd.le (by lia)) b6 w6 (rn6.up U6 _) (rt6.up U6 _) (by show ps.length+_≤90000;lia) (by show(D.ns++[_]).length+n≤900;simp;lia) (by show D.lv+1+n≤900;lia) (by show(D.es++[e]).length+n≤900;simp;lia) (by show 1≤D.lv+1;lia) fun h8 g8 t8 w8 m8 ab8=>?_)
    refine ag (ag ?_)
    have k8:∀a o,¬WM W a→h6.get? a=some o→h8.get? a=some o:=fun a o n ho=>m8 a o ho n
    have I8:=I6.chgM (F':=fun a=>(WM W a∨OwnOf env a)∨a=I) (M':=OwnOf env) (h':=h8) (fun a o ho nf=>⟨nf,k8 a o (fun q=>nf (.inl (.inl q))) ho⟩) (fun a q o ho=>k8 a o (fun z=>T3.live a (.inl z) q) ho) (fun a o ho=>k8 a o (fun z=>by rw[w6.wm0 a z]at ho;exact nn ho) (I6.base a o ho)) (fun a q=>by
     rcases q with (q|q)|q
     ·exact w8.places a q
     ·refine xE (I6.fl a (.inl (.inr q))) fun o ho=>?_;exact⟨o,k8 a o (fun z=>T3.live a (.inl z) q) ho⟩
     ·rw[q];exact⟨_,k8 _ _ nIm hit6⟩) (fun Y q=>q) I6.sub
    exact ihk (o+1) (by lia) (by lia) h8 g8 t8 (ps++pcs names tops n o) _ ⟨I8,w8,old6.trans m8⟩ (k8 _ _ nIm hit6) (by rw[ck];lia) (fun z=>ab8 (ab z)) (fun h' g' t' d' T' a'=>K h' g' t' d' (by rw[if_pos rfl,←List.append_assoc];exact T') a')
 refine loop (names.length-(one+1)) (one+1) (by lia) (Nat.le_refl _) h5 g3 _ _ _ TL5 pI (by simp only[ck,List.length_singleton];lia) ab3 fun h6 g6 t6 dn T6 ab6=>?_
 refine af (ay (bj (nmO (s:= {s with heap:=h6,gens:=g6,toks:=t6}) (v:= .ref W.wr) T6.inv rfl (T6.w.getM (s:= {s with heap:=h6,gens:=g6,toks:=t6}) B T6.base (f_end _) (by decide) (fun Y=>rfl)
  (callWith_fn (s:= {s with heap:=h6,gens:=g6,toks:=t6}) B T6.base (by decide) (splC (by rfl) ((sound g 8).e [] _ _ (.str nm) env _ _ _ _ {s with heap:=h6,gens:=g6,toks:=t6} _ ?pe3 (okd.le (by lia)) T6.inv cn0 fun v7 h7 t7 x7 r7=>spl0 ⟨(T6.ext x7).base,?_⟩)))))) (hi:=fr.sok.inter))
 case pe3=>
  show idxL (names.map PV.str) (one:Int)=some (.str nm)
  exact idx_at (by rw[List.getElem?_map,hnm];rfl) (by rw[List.length_map];exact tb.n10)
 refine xE (Rv.str_iff.mp r7) fun tk7 Y=>?_;subst Y
 have T7:=T6.ext x7
 refine wpAny_call (end_ok (s:= {s with heap:=h7,gens:=g6,toks:=t7}) B (okd.le (by lia)) T7.base T7.w nok hset1 hset2 hln1 hln2 (by simp only[ck,List.length_singleton];lia) fun h8 g8 t8 w8 m8 ab8=>?_)
 refine ag ?_
 have T8:=T7.mod m8 w8 fun e' q=>T.live e' (.inr (.inr q))
 have e9:pcs names tops (n+1) one=[60::nm]++[[62]]++tlP names tops n one (one+1) (names.length-(one+1))++[60::47::(nm++[62])]:=by
  simp only[pcs,tlP,rfl']
 exact H h8 g8 t8 (by rw[e9];simpa[List.append_assoc]using w8) T8.old fun z=>ab8 (ab6 z)
end
noncomputable def formS:List Nat:=[65,97,119808,119860,119912,120016,120172,120224,120432]
noncomputable def markS:List (List Nat):=[[],[173],[8203],[65039]]
noncomputable def spell(i j k:Nat):List Nat:=markS.getD i []++[formS.getD j 0+k]
def Spelt(k:Nat)(nm:List Nat):Prop:=∃i j,i<4∧j<9∧nm=spell i j k
noncomputable def letC(k j:Nat):Bool:=(match tokK (formS.getD j 0+k)with|some 0=>true|_=>false)&&!b1S ((formS.getD j 0+k:Nat):Int)&&(match letOf (formS.getD j 0+k)with|some [c]=>c==97+k|_=>false)
theorem letC_all:(List.range 6).all (fun k=>(List.range 9).all (letC k))=true:=by decide+kernel
set_option tactic.hygienic true in
theorem letC_ok{k j:Nat}(hk:k<6)(hj:j<9):tokK (formS.getD j 0+k)=some 0∧b1S ((formS.getD j 0+k:Nat):Int)=false∧letOf (formS.getD j 0+k)=some [97+k]:=by
 have h:=bs.mp (bs.mp letC_all k (List.mem_range.mpr hk)) j (List.mem_range.mpr hj)
 simp only[letC,bp,Bool.not_eq_true']at h
 refine xA h fun Y c=>?_;refine xA Y fun a b=>?_
 refine⟨?_,b,?_⟩
 ·split at a
  ·assumption
  ·exact ff a
 ·split at c
  ·rename_i x e;rw[beq_iff_eq]at c;rw[e,c]
  ·cases c
noncomputable def rdL(k:Nat)(r:RS):Option (Option RS):=if r.en then some (some {r with held:=r.held.filter (·!=(97+k))})else match wordOf (r.held++[97+k])with
 |some w=>some (some {ks:=(putK r.ks r.vs [97+k] (.str w)).1,vs:=(putK r.ks r.vs [97+k] (.str w)).2,held:=r.held++[97+k],en:=r.en})
 |none=>none
theorem rd1_let{k j:Nat}(hk:k<6)(hj:j<9)(r:RS):rd1 (formS.getD j 0+k) r=rdL k r:=by
 refine xAA (letC_ok hk hj) fun a b c=>?_
 unfold rd1 rdL
 rw[a,b,c]
 rfl
theorem mark_ok:(markS.all fun m=>m.all fun c=>(match tokK c with|some 0=>true|_=>false)&&b1S c)=true:=by decide+kernel
theorem rd1_mark{c:Nat}(a:tokK c=some 0)(b:b1S c=true)(r:RS):rd1 c r=some (some r):=by
 unfold rd1
 rw[a,b]
 rfl
theorem rdP_marks{cs:List Nat}{r:RS}:∀{m:List Nat},(m.all fun c=>(match tokK c with|some 0=>true|_=>false)&&b1S c)=true→rdP (m++cs) r=rdP cs r
 |[],_=>rfl
 |c::m,h=>by
  simp only[List.all_cons,bp]at h
  have a:tokK c=some 0:=by
   have:=h.1.1
   split at this
   ·assumption
   ·cases this
  show rdP (c::(m++cs)) r=_
  rw[rdP,rd1_mark a h.1.2]
  exact rdP_marks (by simpa only[bp]using h.2)
theorem rdP_spelt{k:Nat}(hk:k<6){nm:List Nat}(h:Spelt k nm)(cs:List Nat)(r:RS):rdP (nm++cs) r=rdP ((97+k)::cs) r:=by
 refine xEEAA h fun i j hi hj Y=>?_;clear h;subst Y
 unfold spell
 have hm:(markS.getD i [])∈markS:=by
  have hi':i<markS.length:=hi
  rw[List.getD_eq_getElem?_getD,List.getElem?_eq_getElem hi']
  exact List.getElem_mem ..
 rw[List.append_assoc,rdP_marks (bs.mp mark_ok _ hm)]
 show rdP ((formS.getD j 0+k)::cs) r=rdP ((formS.getD 1 0+k)::cs) r
 simp only[rdP,rd1_let hk hj,rd1_let hk (show 1<9 by decide)]
def Like(p q:List Nat):Prop:=∀r,rdP p r=rdP q r
theorem Like.cons{p q:List Nat}(h:Like p q)(c:Nat):Like (c::p) (c::q):=fun r=>by
 simp only[rdP]
 cases rd1 c r with
 |none=>rfl
 |some o=>cases o with
  |none=>rfl
  |some r'=>exact h r'
theorem Like.spelt{k:Nat}(hk:k<6){nm:List Nat}(hs:Spelt k nm){p q:List Nat}(h:Like p q):Like (nm++p) ([97+k]++q):=fun r=>(rdP_spelt hk hs p r).trans (h.cons _ r)
noncomputable def canon(m:Nat):List (List Nat):=(List.range m).map fun k=>[97+k]
theorem pcs_like{names:List (List Nat)}{tops:List Int}{m:Nat}(hm:m≤6)(hn:names.length=m)(hs:∀k,k<m→Spelt k (names.getD k [])):∀(n one:Nat),one<m→∀{p q:List Nat},Like p q→Like ((pcs names tops n one).flatten++p) ((pcs (canon m) tops n one).flatten++q):=by
 intro n
 induction n with
 |zero=>intro one h p q hl;exact hl
 |succ n ih=>
  intro one h p q hl
  have hc:(canon m).getD one []=[97+one]:=by simp[canon,List.getD_eq_getElem?_getD,List.getElem?_map,List.getElem?_range h]
  have hcl:(canon m).length=m:=by simp[canon]
  unfold pcs
  rw[hc,hn,hcl]
  have sp:=hs one h
  generalize names.getD one []=nm at sp
  simp only[List.flatten_append,List.append_assoc,List.flatten_cons,List.flatten_nil,List.nil_append,List.cons_append,List.append_nil]
  refine Like.cons (Like.spelt (by lia) sp (Like.cons ?_ _)) _
  have go:∀L:List Nat,(∀o∈L,o<m)→∀{p q:List Nat},Like p q→Like ((L.flatMap fun o=>if tops.getD o 0==(one:Int)then pcs names tops n o else []).flatten++p) ((L.flatMap fun o=>if tops.getD o 0==(one:Int)then pcs (canon m) tops n o else []).flatten++q):=by
   intro L
   induction L with
   |nil=>intro _ p q h;exact h
   |cons o L ihL=>
    intro hL p q h
    simp only[List.flatMap_cons,List.flatten_append,List.append_assoc]
    have:=ihL (fun o' h'=>hL o' (bw _ h')) h
    split
    ·exact ih o (hL o (cb ..)) this
    ·exact this
  refine go _ (fun o ho=>by simp only[List.mem_range'_1]at ho;lia) ?_
  refine Like.cons (Like.cons ?_ _) _
  exact Like.spelt (by lia) sp (Like.cons hl _)
theorem rdP_stop{cs:List Nat}{res:List (List Nat)×List PV}:∀{p:List Nat} {r:RS},rdP p r=some res→rdP (p++cs) r=some res
 |[],r,h=>by exact nn h
 |c::p,r,h=>by
  show rdP (c::(p++cs)) r=_
  simp only[rdP]at h⊢
  cases e:rd1 c r with
  |none=>rw[e]at h;exact nn h
  |some o=>cases o with
   |none=>rw[e]at h;exact h
   |some r'=>rw[e]at h;exact rdP_stop h
noncomputable def lenP(m:Nat)(tops:List Int):Nat→Nat→Nat
 |0,_=>0
 |n+1,one=>9+((List.range' (one+1) (m-(one+1))).map fun o=>if tops.getD o 0==(one:Int)then lenP m tops n o else 0).sum
theorem pcs_len{names:List (List Nat)}{tops:List Int}{m:Nat}(hn:names.length=m)(hs:∀k,(names.getD k []).length≤2):∀(n one:Nat),(pcs names tops n one).flatten.length≤lenP m tops n one∧(pcs names tops n one).length≤lenP m tops n one:=by
 intro n
 induction n with
 |zero=>intro one;exact⟨Nat.le_refl _,Nat.le_refl _⟩
 |succ n ih=>
  intro one
  unfold pcs lenP
  rw[hn]
  have go:∀L:List Nat,(L.flatMap fun o=>if tops.getD o 0==(one:Int)then pcs names tops n o else []).flatten.length≤(L.map fun o=>if tops.getD o 0==(one:Int)then lenP m tops n o else 0).sum∧(L.flatMap fun o=>if tops.getD o 0==(one:Int)then pcs names tops n o else []).length≤(L.map fun o=>if tops.getD o 0==(one:Int)then lenP m tops n o else 0).sum:=by
   intro L
   induction L with
   |nil=>exact⟨Nat.le_refl _,Nat.le_refl _⟩
   |cons o L ihL=>
    simp only[List.flatMap_cons,List.flatten_append,ck,List.map_cons,List.sum_cons]
    split
    ·have:=ih o;lia
    ·simp only[List.flatten_nil,List.length_nil];lia
  have g:=go (List.range' (one+1) (m-(one+1)))
  have h2:=hs one
  simp only[List.flatten_append,ck,List.flatten_cons,List.flatten_nil,bx,List.length_nil,List.append_nil]
  lia
noncomputable def wordS(x:List Nat):List Nat:=[97,98,99,100,101,102].map fun c=>if x.elem c then c-32 else c
noncomputable def subsL:List Nat→List (List Nat)
 |[]=>[[]]
 |a::r=>subsL r++(subsL r).map (a::·)
noncomputable def ways6:List (List Nat):=(subsL [98,99,100,101,102]).map (97::·)
noncomputable def words6:List (List Nat):=ways6.map wordS
noncomputable def f_lwS(ps:List PV):Option PV:=o1 (o1 (sgl ps) isS) fun x=>gd (ways6.elem x) (some (.str (wordS x)))
noncomputable def diffS:List Nat→List Nat→Nat
 |a::r,b::q=>(if a==b then 0 else 1)+diffS r q
 |_,_=>0
noncomputable def bothCap:List Nat→List Nat→Bool
 |a::r,b::q=>(a.blt 97&&b.blt 97)||bothCap r q
 |_,_=>false
noncomputable def compatS:List Nat→List Nat→Bool
 |a::r,b::q=>if a==b then compatS r q else !bothCap r q
 |_,_=>true
noncomputable def isWord:List Nat→Bool
 |[a,b,c,d,e,f]=>a==65&&(b==66||b==98)&&(c==67||c==99)&&(d==68||d==100)&&(e==69||e==101)&&(f==70||f==102)
 |_=>false
noncomputable def noF:List Nat→Bool
 |[_,_,_,_,_,f]=>f==102
 |_=>false
noncomputable def f_levS(ps:List PV):Option PV:=o1 (tpl ps) fun z=>o2 (isS z.1) (isS z.2.1) fun x y=>o1 (isI z.2.2) fun m=>gd (isWord x&&isWord y&&compatS x y&&(m==6||(m==5&&noF x&&noF y))) (some (.int (diffS x y)))
noncomputable def binOf:Expr→Option (Expr×Operator×Expr):=pick k1 k4 k1 k1 k2 k3 k3 (fun l o r=>some (l,o,r)) k4 k2 k3 k3 none
theorem binOf_eq{e:Expr}{z:Expr×Operator×Expr}(h:binOf e=some z):∃p,e= .BinOp z.1 z.2.1 z.2.2 p:=
 pick_inv h n2 n4 n3 n2 n3 n4 n3 (fun Y Y Y p q r=>⟨p,q.trans (congrArg (fun z:Expr×Operator×Expr=>Expr.BinOp z.1 z.2.1 z.2.2 p) (bn r))⟩) n4 n4 n4
noncomputable def binL(e:Expr):Expr:=((binOf e).map (·.1)).getD e
noncomputable def binR(e:Expr):Expr:=((binOf e).map (·.2.2)).getD e
noncomputable def sameOp(a b:Operator):Bool:=decide (a=b)
theorem sameOp_eq{a b:Operator}(h:sameOp a b=true):b=a:=(of_decide_eq_true h).symm
noncomputable def isBin(op:Operator)(e:Expr):Bool:=(binOf e).any fun z=>sameOp op z.2.1
theorem pe_bin{n:Nat}{cn:List Str}{ρ:Rho}{e:Expr}(op:Operator){a b c:PV}(hs:isBin op e=true)(hl:pe n cn ρ (binL e)=some a)(hr:pe n cn ρ (binR e)=some b)(h:binPV op a b=some c):pe (n+1) cn ρ e=some c:=any_inv hs fun z hz ho=>by
 refine xE (binOf_eq hz) fun p Y=>?_;subst Y
 exact o2_mk (x:=pe n cn ρ z.1) (y:=pe n cn ρ z.2.2) (f:=binPV z.2.1) hl hr (sameOp_eq ho▸h)
noncomputable def isNm(x:Str)(e:Expr):Bool:=(nmOf e).any (· ==x)
theorem pe_nm{n:Nat}{cn:List Str}{ρ:Rho}{e:Expr}(x:Str){p:PV}(hs:isNm x e=true)(h:ρ.lookup x=some (.val p)):pe (n+1) cn ρ e=some p:=any_inv hs fun y hy q=>by
 refine xE (nmOf_eq hy) fun c Y=>?_;subst Y
 show eName (ρ.lookup y)=some p
 rw[beq_iff_eq.mp q,h];rfl
noncomputable def callA(e:Expr):Expr:=((calOf e).bind fun z=>sgl z.2.1).getD e
noncomputable def isCall1(x:Str)(e:Expr):Bool:=(calOf e).any fun z=>(nmOf z.1).any (· ==x)&&(sgl z.2.1).any plainArg&&z.2.2.1.isEmpty
theorem pe_call{n:Nat}{cn:List Str}{ρ:Rho}{e:Expr}(x:Str){f:BI}{p q:PV}(hs:isCall1 x e=true)(h:ρ.lookup x=some (.bi f))(ha:pe (n+1) cn ρ (callA e)=some p)(hf:callBI f [p]=some q):pe (n+3) cn ρ e=some q:=any_inv hs fun z hz c=>by
 rw[bp,bp]at c
 refine any_inv c.1.1 fun y hy c1=>any_inv c.1.2 fun a hc c2=>?_
 have ea:callA e=a:=by unfold callA;rw[hz];exact congrArg (·.getD e) hc
 rw[ea]at ha
 rw[calOf_eq hz]
 refine gd_mk c.2 (oe_mk hy (gd_mk (by rw[sgl_eq hc];rfl) ?_))
 rw[beq_iff_eq.mp c1,h,sgl_eq hc]
 exact o1_mk (gd_mk c2 (o2_mk ha rfl rfl)) hf
noncomputable def subV(e:Expr):Expr:=((subOf e).map (·.1)).getD e
noncomputable def subI(e:Expr):Expr:=((subOf e).map (·.2)).getD e
noncomputable def sliW(e:Expr):Option (Option Expr×Option Expr×Option Expr):=(subOf e).bind fun z=>slcOf z.2
noncomputable def sliL(e:Expr):Expr:=((sliW e).bind (·.1)).getD e
noncomputable def sliU(e:Expr):Expr:=((sliW e).bind (·.2.1)).getD e
noncomputable def isSli(e:Expr):Bool:=(subOf e).any fun z=>(slcOf z.2).any fun w=>w.1.isSome&&w.2.1.isSome&&w.2.2.isNone
theorem pe_sli{n:Nat}{cn:List Str}{ρ:Rho}{e:Expr}{a b c d:PV}(hs:isSli e=true)(h1:pe (n+1) cn ρ (subV e)=some a)(h2:pe n cn ρ (sliL e)=some b)(h3:pe n cn ρ (sliU e)=some c)(h:slicePV a b c=some d):pe (n+2) cn ρ e=some d:=any_inv hs fun z hz k=>any_inv k fun w hw k=>by
 rw[bp,bp]at k
 refine xE (Option.isSome_iff_exists.mp k.1.1) fun l hl=>?_
 refine xE (Option.isSome_iff_exists.mp k.1.2) fun u hu=>?_
 have ew:sliW e=some w:=by unfold sliW;rw[hz];exact hw
 have el:sliL e=l:=by unfold sliL;rw[ew];exact congrArg (·.getD e) hl
 have eu:sliU e=u:=by unfold sliU;rw[ew];exact congrArg (·.getD e) hu
 have ev:subV e=z.1:=by unfold subV;rw[hz];rfl
 rw[el]at h2
 rw[eu]at h3
 rw[ev]at h1
 refine xE (subOf_eq hz) fun p q=>?_
 rw[q]
 exact oe_mk hw (gd_mk k.2 (o2_mk h1 (by rw[hl];exact h2) (o1_mk (by rw[hu];exact h3) h)))
noncomputable def isSub(e:Expr):Bool:=(subOf e).any fun z=>(slcOf z.2).isNone
theorem pe_sub{n:Nat}{cn:List Str}{ρ:Rho}{e:Expr}{a b c:PV}(hs:isSub e=true)(h0:pown ρ (subV e)=none)(h1:pe n cn ρ (subV e)=some a)(h2:pe n cn ρ (subI e)=some b)(h:subPV a b=some c):pe (n+1) cn ρ e=some c:=any_inv hs fun z hz k=>by
 refine xE (subOf_eq hz) fun p Y=>?_;subst Y
 refine oe_no (Option.isNone_iff_eq_none.mp k) ?_
 rw[show pown ρ z.1=none from h0]
 exact o2_mk (x:=pe n cn ρ z.1) (y:=pe n cn ρ z.2) (f:=subPV) h1 h2 h
theorem pown_nm{ρ:Rho}{e:Expr}(x:Str){p:PV}(hs:isNm x e=true)(h:ρ.lookup x=some (.val p)):pown ρ e=none:=any_inv hs fun y hy q=>by
 unfold pown
 rw[hy,beq_iff_eq.mp q]
 show oOwn (ρ.lookup x)=none
 rw[h];rfl
theorem pown_not{ρ:Rho}{e:Expr}(hs:nmOf e=none):pown ρ e=none:=by unfold pown;rw[hs];rfl
theorem pitems_map{cn:List Str}{bk:Str→Bool}{ρ:Rho}{elt tgt:Expr}{m:Nat}{f:PV→PV}:∀{ps:List PV} {n:Nat},(∀p∈ps,∃ρ',bindT bk tgt p ρ=some ρ'∧∀k,pe (k+m) cn ρ' elt=some (f p))→m+ps.length+2≤n→pitems n cn bk ρ elt tgt [] [] ps=some (ps.map f)
 |[],n,_,hn=>by
  refine xE (⟨n-1,by simp only[List.length_nil]at hn;lia⟩:∃k,n=k+1) fun k Y=>?_;subst Y
  rfl
 |p::ps,n,h,hn=>by
  simp only[bx]at hn
  refine xE (⟨n-2,by lia⟩:∃k,n=k+2) fun k Y=>?_;subst Y
  refine xEA (h p (cb ..)) fun ρ' e1 e2=>?_
  have ih:=pitems_map (n:=k+1) (fun q hq=>h q (bw _ hq)) (by lia)
  have e3:=e2 (k-m)
  rw[Nat.sub_add_cancel (by lia)]at e3
  exact o1_mk e1 (o1_mk (a:=true) rfl (o2_mk (x:=pgen (k+1) cn bk ρ' elt []) (a:=[f p]) (o1_mk e3 rfl) ih rfl))
noncomputable def lcOf:Expr→Option (Expr×List Comprehension×Scope):=pick k1 k4 k1 k1 k2 k3 k3 k3 (fun e g s Y=>some (e,g,s)) k2 k3 k3 none
theorem lcOf_eq{e:Expr}{z:Expr×List Comprehension×Scope}(h:lcOf e=some z):∃p,e= .ListComp z.1 z.2.1 z.2.2 p:=
 pick_inv h n2 n4 n3 n2 n3 n4 n3 n4 (fun Y Y Y p q r=>⟨p,q.trans (congrArg (fun z:Expr×List Comprehension×Scope=>Expr.ListComp z.1 z.2.1 z.2.2 p) (bn r))⟩) n4 n4
noncomputable def lcG(e:Expr):Option Comprehension:=(lcOf e).bind fun z=>sgl z.2.1
noncomputable def cmpE(e:Expr):Expr:=((lcOf e).map (·.1)).getD e
noncomputable def cmpS(e:Expr):Scope:=((lcOf e).map (·.2.2)).getD default
noncomputable def cmpT(e:Expr):Expr:=((lcG e).map (·.target)).getD e
noncomputable def cmpI(e:Expr):Expr:=((lcG e).map (·.iter)).getD e
noncomputable def isCmp(e:Expr):Bool:=(lcOf e).any fun z=>(sgl z.2.1).any fun g=>g.ifs.isEmpty&&g.is_async==0
theorem pe_cmp{cn:List Str}{ρ:Rho}{e:Expr}{n m:Nat}{items:List PV}{f:PV→PV}(hs:isCmp e=true)(h1:scopeOk (cmpS e) cn=true)(h2:pit n cn ρ (isName (cmpT e)) (cmpI e)=some items)(h3:newT (filtR ρ (cmpS e).names) (cmpT e)=true)
  (h:∀p∈items,∃ρ',bindT (okKind (cmpS e).names) (cmpT e) p (filtR ρ (cmpS e).names)=some ρ'∧∀k,pe (k+m) (cellNames (cmpS e).names) ρ' (cmpE e)=some (f p)) (hl:items.length<10000) (hn:m+items.length+2≤n):
  pe (n+1) cn ρ e=some (.list (items.map f)):=any_inv hs fun z hz k=>any_inv k fun g hg k=>by
 rw[bp]at k
 have eg:lcG e=some g:=by unfold lcG;rw[hz];exact hg
 have et:cmpT e=g.target:=by unfold cmpT;rw[eg];rfl
 have ei:cmpI e=g.iter:=by unfold cmpI;rw[eg];rfl
 have es:cmpS e=z.2.2:=by unfold cmpS;rw[hz];rfl
 have ee:cmpE e=z.1:=by unfold cmpE;rw[hz];rfl
 rw[et,ei]at h2
 rw[et,es]at h3
 rw[es]at h1
 rw[et,es,ee]at h
 have hp:=pitems_map (n:=n) h hn
 refine xE (lcOf_eq hz) fun p q=>?_
 rw[q,sgl_eq hg]
 refine gd_mk (by rw[k.2,h1,h3];rfl) (o1_mk h2 (o1_mk (by rw[List.isEmpty_iff.mp k.1];exact hp) (gd_mk (by rw[List.length_map,Nat.blt_eq];exact hl) rfl)))
noncomputable def ifOf:Expr→Option (Expr×Expr×Expr):=pick k1 k4 k1 k1 k2 k3 k3 k3 k4 k2 (fun t b o=>some (t,b,o)) k3 none
theorem ifOf_eq{e:Expr}{z:Expr×Expr×Expr}(h:ifOf e=some z):∃p,e= .IfExp z.1 z.2.1 z.2.2 p:=
 pick_inv h n2 n4 n3 n2 n3 n4 n3 n4 n4 (fun Y Y Y p q r=>⟨p,q.trans (congrArg (fun z:Expr×Expr×Expr=>Expr.IfExp z.1 z.2.1 z.2.2 p) (bn r))⟩) n4
noncomputable def ifT(e:Expr):Expr:=((ifOf e).map (·.1)).getD e
noncomputable def ifB(e:Expr):Expr:=((ifOf e).map (·.2.1)).getD e
noncomputable def ifO(e:Expr):Expr:=((ifOf e).map (·.2.2)).getD e
noncomputable def isIf(e:Expr):Bool:=(ifOf e).isSome
theorem pe_if{cn:List Str}{ρ:Rho}{e:Expr}{n:Nat}{b:Bool}{p:PV}(hs:isIf e=true)(h1:pt n cn ρ (ifT e)=some b)(h2:pe n cn ρ (if b then ifB e else ifO e)=some p):pe (n+1) cn ρ e=some p:=by
 refine xE (Option.isSome_iff_exists.mp hs) fun z hz=>?_
 refine xE (ifOf_eq hz) fun q Y=>?_;subst Y
 refine o1_mk (x:=pt n cn ρ z.1) h1 ?_
 cases b<;>exact h2
noncomputable def GLaw:Rho:=[("len", .bi .len),("range", .bi .range),("sum", .bi .sum),("enumerate", .en),("list", .bi .list),("_law_word", .lfn f_lwS),("_levenshtein_distance", .lfn f_levS),("max", .lbi .max),("chr", .lbi .chr)]
noncomputable def lawB:List Stmt:=(dT 77).body
noncomputable def scLaw:SC:=frameSC (dT 77).scope.names "ways"
noncomputable def asgOf:Stmt→Option (List Expr×Expr)
 | .Assign ts v _=>some (ts,v)
 |_=>none
theorem asgOf_eq{s:Stmt}{z:List Expr×Expr}(h:asgOf s=some z):∃p,s= .Assign z.1 z.2 p:=by
 have key:∀{G:Prop},(∀p,s= .Assign z.1 z.2 p→G)→G:=by
  intro G k
  generalize hh:s=x at h
  cases x<;>first|exact nn h|exact k _ (hh.trans (congrArg (fun z:List Expr×Expr=>Stmt.Assign z.1 z.2 _) (bn h)))
 exact key fun p e=>⟨p,e⟩
noncomputable def stE(s:Stmt):Expr:=((asgOf s).map (·.2)).getD default
noncomputable def isAsg(sc:SC)(x:Str)(s:Stmt):Bool:=(asgOf s).any fun z=>(sgl z.1).any fun t=>(nmOf t).any fun y=>y==x&&!(y==sc.own)&&sc.bk y
theorem px_asg{n:Nat}{sc:SC}{ρ:Rho}{st:Stmt}(x:Str){p:PV}(hs:isAsg sc x st=true)(h:pe n sc.cn ρ (stE st)=some p):px (n+1) sc ρ st=some (.next (setR ρ x (.val p))):=any_inv hs fun z hz k=>any_inv k fun t ht k=>any_inv k fun y hy k=>by
 rw[bp,bp,Bool.not_eq_true']at k
 have e:stE st=z.2:=by unfold stE;rw[hz];rfl
 rw[e]at h
 refine xE (asgOf_eq hz) fun q e=>?_
 rw[e,←beq_iff_eq.mp k.1.1]
 refine oe_mk ht (oe_mk hy (gd_mk k.2 ?_))
 rw[k.1.2]
 exact o1_mk h rfl
theorem pxs_cons{n:Nat}{sc:SC}{ρ ρ':Rho}{st:Stmt}{r:List Stmt}{R:Option SR}(h:px n sc ρ st=some (.next ρ'))(h2:pxs n sc ρ' r=R):pxs (n+1) sc ρ (st::r)=R:=by
 rw[←h2]
 show o1 (px n sc ρ st) _=_
 rw[h];rfl
noncomputable def cprOf:Expr→Option (Expr×List CmpOp×List Expr):=pick k1 k4 k1 k1 k2 k3 k3 k3 k4 k2 k3 (fun l o r=>some (l,o,r)) none
theorem cprOf_eq{e:Expr}{z:Expr×List CmpOp×List Expr}(h:cprOf e=some z):∃p,e= .Compare z.1 z.2.1 z.2.2 p:=
 pick_inv h n2 n4 n3 n2 n3 n4 n3 n4 n4 n4 (fun Y Y Y p q r=>⟨p,q.trans (congrArg (fun z:Expr×List CmpOp×List Expr=>Expr.Compare z.1 z.2.1 z.2.2 p) (bn r))⟩)
noncomputable def cmpL(e:Expr):Expr:=((cprOf e).map (·.1)).getD e
noncomputable def cmpR(e:Expr):Expr:=((cprOf e).bind fun z=>sgl z.2.2).getD e
noncomputable def isGtO:CmpOp→Bool
 | .Gt=>true
 |_=>false
theorem isGtO_eq{o:CmpOp}(h:isGtO o=true):o= .Gt:=by cases o<;>first|rfl|exact ff h
noncomputable def isGt(e:Expr):Bool:=(cprOf e).any fun z=>(sgl z.2.1).any fun o=>isGtO o&&(sgl z.2.2).any fun r=>!behindInMarks .Gt r
theorem pt_gt{cn:List Str}{ρ:Rho}{e:Expr}{n:Nat}{a b:PV}{t:Bool}(hs:isGt e=true)(h1:pe n cn ρ (cmpL e)=some a)(h2:pe n cn ρ (cmpR e)=some b)(hd:(depPV a).ble n=true)(h:cmpPV .Gt a b=some t):pt (n+1) cn ρ e=some t:=any_inv hs fun z hz k=>any_inv k fun o ho k=>by
 rw[bp]at k
 refine any_inv k.2 fun r hr kr=>?_
 have er:cmpR e=r:=by unfold cmpR;rw[hz];exact congrArg (·.getD e) hr
 rw[er]at h2
 refine xE (cprOf_eq hz) fun p Y=>?_;subst Y
 rw[isGtO_eq k.1]at ho
 exact o1_mk ho (o1_mk hr (gd_mk kr (o2_mk (x:=pe n cn ρ z.1) h1 h2 (gd_mk hd h))))
noncomputable def rowS:List Int:=[13,24,50,96,171,77]
noncomputable def drw(xs:List Int)(k:Nat):Int:=(rowS.getD k 0+((xs.drop k).take 1).sum).fmod 1000000
theorem clipAt_nat(n k:Nat):clipAt n (k:Int)=min k n:=by
 unfold clipAt
 rw[if_neg (Int.not_lt.mpr (Int.natCast_nonneg k))]
 refine Or.elim (Nat.le_total k n) (fun h=>?_) fun h=>?_
 ·rw[Int.min_eq_left (Int.ofNat_le.mpr h),Int.max_eq_right (Int.natCast_nonneg _),Int.toNat_natCast,Nat.min_eq_left h]
 ·rw[Int.min_eq_right (Int.ofNat_le.mpr h),Int.max_eq_right (Int.natCast_nonneg _),Int.toNat_natCast,Nat.min_eq_right h]
theorem cutL_one{xs:List Int}{k:Nat}:cutL (xs.map PV.int) (some (k:Int)) (some ((k:Int)+1))=((xs.drop k).take 1).map PV.int:=by
 unfold cutL
 have c1:clipAt (xs.map PV.int).length (k:Int)=min k xs.length:=by rw[List.length_map];exact clipAt_nat _ _
 have c2:clipAt (xs.map PV.int).length ((k:Int)+1)=min (k+1) xs.length:=by rw[List.length_map];exact clipAt_nat _ (k+1)
 simp only[Option.elim_some,c1,c2]
 rw[←List.map_drop,←List.map_take]
 congr 1
 by_cases h:k<xs.length
 ·rw[Nat.min_eq_left (Nat.le_of_lt h),Nat.min_eq_left h]
  congr 1;lia
 ·rw[Nat.min_eq_right (by lia),Nat.min_eq_right (by lia),List.drop_eq_nil_of_le (Nat.le_refl _),List.drop_eq_nil_of_le (by lia)]
  simp
theorem sumPV_int:∀xs:List Int,sumPV (xs.map PV.int)=some xs.sum
 |[]=>rfl
 |x::xs=>by simp[sumPV,sumPV_int xs]
theorem sum_one{xs:List Int}{k:Nat}:callBI .sum [.list (((xs.drop k).take 1).map PV.int)]=some (.int ((xs.drop k).take 1).sum):=by
 show(sumPV _).map PV.int=_
 rw[sumPV_int];rfl
noncomputable def e2:Expr:=stE (nthS 2 lawB)
noncomputable def dElt:Expr:=cmpE e2
theorem draws_elt{xs:List Int}(hx:xs.length<10000){ρ:Rho}{cn:List Str}{k:Nat}(hk:k<6)(h1:ρ.lookup (br "row")=some (.val (.list (rowS.map PV.int))))(h2:ρ.lookup (br "script")=some (.val (.list (xs.map PV.int))))(h3:ρ.lookup (br "k")=some (.val (.int k)))(h4:ρ.lookup (br "sum")=some (.bi .sum))(n:Nat):
  pe (n+10) cn ρ dElt=some (.int (drw xs k)):=by
 have hrow:subPV (.list (rowS.map PV.int)) (.int k)=some (.int (rowS.getD k 0)):=by
  exact below6 (P:=fun k:Nat=>subPV (.list (rowS.map PV.int)) (.int k)=some (.int (rowS.getD k 0))) rfl rfl rfl rfl rfl rfl k hk
 refine pe_bin .Mod (a:= .int (rowS.getD k 0+((xs.drop k).take 1).sum)) (b:= .int 1000000) (by kernel_rfl) (pe_bin .Add (a:= .int (rowS.getD k 0)) (b:= .int ((xs.drop k).take 1).sum) (by kernel_rfl)
  (pe_sub (by kernel_rfl) (pown_nm "row" (by kernel_rfl) h1) (pe_nm "row" (by kernel_rfl) h1) (pe_nm "k" (by kernel_rfl) h3) hrow) ?_ rfl) (by kernel_rfl) rfl
 refine pe_call (n:=n+5) "sum" (by kernel_rfl) h4 (pe_sli (a:= .list (xs.map PV.int)) (b:= .int k) (c:= .int (k+1)) (by kernel_rfl) (pe_nm "script" (by kernel_rfl) h2) (pe_nm "k" (by kernel_rfl) h3) (pe_bin .Add (a:= .int k) (b:= .int 1) (by kernel_rfl) (pe_nm "k" (by kernel_rfl) h3) (by kernel_rfl) rfl) ?_) sum_one
 show(if(xs.map PV.int).length.blt 10000 then some (PV.list (cutL (xs.map PV.int) (some (k:Int)) (some ((k:Int)+1))))else none)=_
 rw[cutL_one,if_pos (by simpa using hx)]
noncomputable def e6:Expr:=stE (nthS 6 lawB)
noncomputable def nElt:Expr:=cmpE e6
noncomputable def iOf(v:Int):Nat:=((v.fdiv 9).fmod 4).toNat
noncomputable def jOf(v:Int):Nat:=(v.fmod 9).toNat
theorem iOf_lt(v:Int):iOf v<4:=by
 have h1:=Int.fmod_nonneg_of_pos (v.fdiv 9) (show(0:Int)<4 by decide)
 have h2:=Int.fmod_lt_of_pos (v.fdiv 9) (show(0:Int)<4 by decide)
 unfold iOf;lia
theorem jOf_lt(v:Int):jOf v<9:=by
 have h1:=Int.fmod_nonneg_of_pos v (show(0:Int)<9 by decide)
 have h2:=Int.fmod_lt_of_pos v (show(0:Int)<9 by decide)
 unfold jOf;lia
theorem names_elt{v:Int}{ρ:Rho}{cn:List Str}{k:Nat}(hk:k<6)(h1:ρ.lookup (br "n")=some (.val (.int v)))(h2:ρ.lookup (br "forms")=some (.val (.list (formS.map fun c=>PV.int (c:Nat)))))(h3:ρ.lookup (br "k")=some (.val (.int k)))(h4:ρ.lookup (br "chr")=some (.bi .chr))(n:Nat):
  pe (n+10) cn ρ nElt=some (.str (spell (iOf v) (jOf v) k)):=by
 have hi:subPV (.list (markS.map PV.str)) (.int ((v.fdiv 9).fmod 4))=some (.str (markS.getD (iOf v) [])):=by
  have h1:=Int.fmod_nonneg_of_pos (v.fdiv 9) (show(0:Int)<4 by decide)
  have h2:=Int.fmod_lt_of_pos (v.fdiv 9) (show(0:Int)<4 by decide)
  unfold iOf
  generalize (v.fdiv 9).fmod 4=i at h1 h2⊢
  refine xE (Int.eq_ofNat_of_zero_le h1) fun n Y=>?_;subst Y
  have h:=Int.ofNat_lt.mp h2
  clear h1 h2
  revert n
  exact below4 rfl rfl rfl rfl
 have hj:subPV (.list (formS.map fun c=>PV.int (c:Nat))) (.int (v.fmod 9))=some (.int (formS.getD (jOf v) 0:Nat)):=by
  have h1:=Int.fmod_nonneg_of_pos v (show(0:Int)<9 by decide)
  have h2:=Int.fmod_lt_of_pos v (show(0:Int)<9 by decide)
  unfold jOf
  generalize v.fmod 9=i at h1 h2⊢
  refine xE (Int.eq_ofNat_of_zero_le h1) fun n Y=>?_;subst Y
  have h:=Int.ofNat_lt.mp h2
  clear h1 h2
  revert n
  exact below9 rfl rfl rfl rfl rfl rfl rfl rfl rfl
 have hf:∀j,formS.getD j 0≤120432:=by
  intro j
  by_cases h:j<9
  ·have:∀j<9,formS.getD j 0≤120432:=by decide
   exact this j h
  ·rw[List.getD_eq_getElem?_getD,List.getElem?_eq_none (by show 9≤j;lia)];exact Nat.zero_le _
 have hc:callBI .chr [.int ((formS.getD (jOf v) 0:Nat)+(k:Int))]=some (.str [formS.getD (jOf v) 0+k]):=by
  have:=hf (jOf v)
  generalize formS.getD (jOf v) 0=c at*
  show(if decide _&&decide _ then some (PV.str [Int.toNat _])else none)=_
  rw[if_pos (by simp only[bp,decide_eq_true_eq];lia)]
  congr 3
 refine pe_bin .Add (a:= .str (markS.getD (iOf v) [])) (b:= .str [formS.getD (jOf v) 0+k]) (by kernel_rfl) ?_ ?_ ?_
 ·refine pe_sub (a:= .list (markS.map PV.str)) (b:= .int ((v.fdiv 9).fmod 4)) (by kernel_rfl) (pown_not (by kernel_rfl)) (by kernel_rfl) (pe_bin .Mod (a:= .int (v.fdiv 9)) (b:= .int 4) (by kernel_rfl) (pe_bin .FloorDiv (a:= .int v) (b:= .int 9) (by kernel_rfl) (pe_nm "n" (by kernel_rfl) h1) (by kernel_rfl) rfl) (by kernel_rfl) rfl) hi
 ·refine pe_call (n:=n+6) (p:= .int ((formS.getD (jOf v) 0:Nat)+(k:Int))) "chr" (by kernel_rfl) h4 (pe_bin .Add (a:= .int (formS.getD (jOf v) 0:Nat)) (b:= .int k) (by kernel_rfl) (pe_sub (a:= .list (formS.map fun c=>PV.int (c:Nat))) (b:= .int (v.fmod 9)) (by kernel_rfl) (pown_nm "forms" (by kernel_rfl) h2) (pe_nm "forms" (by kernel_rfl) h2) (pe_bin .Mod (a:= .int v) (b:= .int 9) (by kernel_rfl) (pe_nm "n" (by kernel_rfl) h1) (by kernel_rfl) rfl) hj) (pe_nm "k" (by kernel_rfl) h3) rfl) hc
 ·have:(markS.getD (iOf v) []).length≤1:=by
   have:∀j<4,(markS.getD j []).length≤1:=by decide
   exact this _ (iOf_lt v)
  show(if isAdd .Add&&Nat.blt _ _ then some (PV.str _)else none)=_
  rw[if_pos (by show Nat.blt _ _=true;simp only[bx,List.length_nil,Nat.blt_eq];lia)]
  rfl
noncomputable def topI(xs:List Int)(k:Nat):Int:=(drw xs k).fmod (if(1:Int)>(k:Int)then 1 else(k:Int))
noncomputable def spI(xs:List Int)(k:Nat):Int:=(drw xs k).fdiv (if(1:Int)>(k:Int)then 1 else(k:Int))
noncomputable def nameI(xs:List Int)(k:Nat):List Nat:=spell (iOf (spI xs k)) (jOf (spI xs k)) k
noncomputable def drawL(m:Nat)(xs:List Int):List Int:=(List.range m).map (drw xs)
noncomputable def topL(m:Nat)(xs:List Int):List Int:=(List.range m).map (topI xs)
noncomputable def spL(m:Nat)(xs:List Int):List Int:=(List.range m).map (spI xs)
noncomputable def nameL(m:Nat)(xs:List Int):List (List Nat):=(List.range m).map (nameI xs)
noncomputable def r0(xs:List Int):Rho:=argsR ["script"] [.list (xs.map PV.int)] GLaw
noncomputable def r1(xs:List Int):Rho:=setR (r0 xs) "row" (.val (.list (rowS.map PV.int)))
noncomputable def r2(m:Nat)(xs:List Int):Rho:=setR (r1 xs) "many" (.val (.int m))
noncomputable def r3(m:Nat)(xs:List Int):Rho:=setR (r2 m xs) "draws" (.val (.list ((drawL m xs).map PV.int)))
noncomputable def r4(m:Nat)(xs:List Int):Rho:=setR (r3 m xs) "tops" (.val (.list ((topL m xs).map PV.int)))
noncomputable def r5(m:Nat)(xs:List Int):Rho:=setR (r4 m xs) "spelled" (.val (.list ((spL m xs).map PV.int)))
noncomputable def r6(m:Nat)(xs:List Int):Rho:=setR (r5 m xs) "forms" (.val (.list (formS.map fun c=>PV.int (c:Nat))))
noncomputable def r7(m:Nat)(xs:List Int):Rho:=setR (r6 m xs) "names" (.val (.list ((nameL m xs).map PV.str)))
noncomputable def manyS(xs:List Int):Nat:=if(xs.length:Int)>2 then 6 else 5
noncomputable def st1E:Expr:=stE (nthS 1 lawB)
theorem many_ok{xs:List Int}(hx:xs.length<10000):pe 37 scLaw.cn (r1 xs) st1E=some (.int (manyS xs)):=by
 refine pe_if (b:=decide ((xs.length:Int)>2)) (by kernel_rfl) (pt_gt (a:= .int xs.length) (b:= .int 2) (by kernel_rfl) (pe_call (n:=32) (f:= .len) (p:= .list (xs.map PV.int)) "len" (by kernel_rfl) (by kernel_rfl) (pe_nm "script" (by kernel_rfl) (by kernel_rfl)) ?_) (by kernel_rfl) rfl ?_) ?_
 ·show(if(xs.map PV.int).length.blt 10000 then some (PV.int (xs.map PV.int).length)else none)=_
  rw[if_pos (by simpa using hx),List.length_map]
 ·rfl
 ·unfold manyS
  by_cases h:(xs.length:Int)>2
  ·rw[if_pos h,decide_eq_true h];kernel_rfl
  ·rw[if_neg h,decide_eq_false h];kernel_rfl
noncomputable def bnd(e:Expr)(ρ:Rho)(p:PV):Rho:=(bindT (okKind (cmpS e).names) (cmpT e) p (filtR ρ (cmpS e).names)).getD []
noncomputable def fDraw(xs:List Int):PV→PV
 | .int k=> .int (drw xs k.toNat)
 |_=> .none
theorem draws_ok{xs:List Int}(hx:xs.length<10000):∀m,m=5∨m=6→pe 36 scLaw.cn (r2 m xs) e2=some (.list ((drawL m xs).map PV.int)):=by
 rintro m (rfl|rfl)
 ·refine pe_cmp (n:=35) (m:=10) (items:=rangeL 0 1 5) (f:=fDraw xs) (by kernel_rfl) (by kernel_rfl) (by kernel_rfl) (by kernel_rfl) (fun p hp=>?_) (by decide) (by decide)
  simp only[rangeL,bz,cj,or_false]at hp
  rcases hp with rfl|rfl|rfl|rfl|rfl
  ·exact⟨bnd e2 (r2 5 xs) (.int 0),by kernel_rfl,draws_elt (k:=0) hx (by decide) (by kernel_rfl) (by kernel_rfl) (by kernel_rfl) (by kernel_rfl)⟩
  ·exact⟨bnd e2 (r2 5 xs) (.int 1),by kernel_rfl,draws_elt (k:=1) hx (by decide) (by kernel_rfl) (by kernel_rfl) (by kernel_rfl) (by kernel_rfl)⟩
  ·exact⟨bnd e2 (r2 5 xs) (.int 2),by kernel_rfl,draws_elt (k:=2) hx (by decide) (by kernel_rfl) (by kernel_rfl) (by kernel_rfl) (by kernel_rfl)⟩
  ·exact⟨bnd e2 (r2 5 xs) (.int 3),by kernel_rfl,draws_elt (k:=3) hx (by decide) (by kernel_rfl) (by kernel_rfl) (by kernel_rfl) (by kernel_rfl)⟩
  ·exact⟨bnd e2 (r2 5 xs) (.int 4),by kernel_rfl,draws_elt (k:=4) hx (by decide) (by kernel_rfl) (by kernel_rfl) (by kernel_rfl) (by kernel_rfl)⟩
 ·refine pe_cmp (n:=35) (m:=10) (items:=rangeL 0 1 6) (f:=fDraw xs) (by kernel_rfl) (by kernel_rfl) (by kernel_rfl) (by kernel_rfl) (fun p hp=>?_) (by decide) (by decide)
  simp only[rangeL,bz,cj,or_false]at hp
  rcases hp with rfl|rfl|rfl|rfl|rfl|rfl
  ·exact⟨bnd e2 (r2 6 xs) (.int 0),by kernel_rfl,draws_elt (k:=0) hx (by decide) (by kernel_rfl) (by kernel_rfl) (by kernel_rfl) (by kernel_rfl)⟩
  ·exact⟨bnd e2 (r2 6 xs) (.int 1),by kernel_rfl,draws_elt (k:=1) hx (by decide) (by kernel_rfl) (by kernel_rfl) (by kernel_rfl) (by kernel_rfl)⟩
  ·exact⟨bnd e2 (r2 6 xs) (.int 2),by kernel_rfl,draws_elt (k:=2) hx (by decide) (by kernel_rfl) (by kernel_rfl) (by kernel_rfl) (by kernel_rfl)⟩
  ·exact⟨bnd e2 (r2 6 xs) (.int 3),by kernel_rfl,draws_elt (k:=3) hx (by decide) (by kernel_rfl) (by kernel_rfl) (by kernel_rfl) (by kernel_rfl)⟩
  ·exact⟨bnd e2 (r2 6 xs) (.int 4),by kernel_rfl,draws_elt (k:=4) hx (by decide) (by kernel_rfl) (by kernel_rfl) (by kernel_rfl) (by kernel_rfl)⟩
  ·exact⟨bnd e2 (r2 6 xs) (.int 5),by kernel_rfl,draws_elt (k:=5) hx (by decide) (by kernel_rfl) (by kernel_rfl) (by kernel_rfl) (by kernel_rfl)⟩
noncomputable def fName:PV→PV
 | .tuple [.int k, .int v]=> .str (spell (iOf v) (jOf v) k.toNat)
 |_=> .none
theorem names_ok{xs:List Int}:∀m,m=5∨m=6→pe 32 scLaw.cn (r6 m xs) e6=some (.list ((nameL m xs).map PV.str)):=by
 rintro m (rfl|rfl)
 ·refine pe_cmp (n:=31) (m:=10) (items:=enumL 0 ((spL 5 xs).map PV.int)) (f:=fName) (by kernel_rfl) (by kernel_rfl) (by kernel_rfl) (by kernel_rfl) (fun p hp=>?_) (by show 5<10000;decide) (by show 10+5+2≤31;decide)
  have e:enumL 0 ((spL 5 xs).map PV.int)=[.tuple [.int 0, .int (spI xs 0)], .tuple [.int 1, .int (spI xs 1)], .tuple [.int 2, .int (spI xs 2)], .tuple [.int 3, .int (spI xs 3)], .tuple [.int 4, .int (spI xs 4)]]:=rfl
  rw[e]at hp
  simp only[bz,cj,or_false]at hp
  rcases hp with rfl|rfl|rfl|rfl|rfl
  ·exact⟨bnd e6 (r6 5 xs) (.tuple [.int 0, .int (spI xs 0)]),by kernel_rfl,names_elt (v:=spI xs 0) (k:=0) (by decide) (by kernel_rfl) (by kernel_rfl) (by kernel_rfl) (by kernel_rfl)⟩
  ·exact⟨bnd e6 (r6 5 xs) (.tuple [.int 1, .int (spI xs 1)]),by kernel_rfl,names_elt (v:=spI xs 1) (k:=1) (by decide) (by kernel_rfl) (by kernel_rfl) (by kernel_rfl) (by kernel_rfl)⟩
  ·exact⟨bnd e6 (r6 5 xs) (.tuple [.int 2, .int (spI xs 2)]),by kernel_rfl,names_elt (v:=spI xs 2) (k:=2) (by decide) (by kernel_rfl) (by kernel_rfl) (by kernel_rfl) (by kernel_rfl)⟩
  ·exact⟨bnd e6 (r6 5 xs) (.tuple [.int 3, .int (spI xs 3)]),by kernel_rfl,names_elt (v:=spI xs 3) (k:=3) (by decide) (by kernel_rfl) (by kernel_rfl) (by kernel_rfl) (by kernel_rfl)⟩
  ·exact⟨bnd e6 (r6 5 xs) (.tuple [.int 4, .int (spI xs 4)]),by kernel_rfl,names_elt (v:=spI xs 4) (k:=4) (by decide) (by kernel_rfl) (by kernel_rfl) (by kernel_rfl) (by kernel_rfl)⟩
 ·refine pe_cmp (n:=31) (m:=10) (items:=enumL 0 ((spL 6 xs).map PV.int)) (f:=fName) (by kernel_rfl) (by kernel_rfl) (by kernel_rfl) (by kernel_rfl) (fun p hp=>?_) (by show 6<10000;decide) (by show 10+6+2≤31;decide)
  have e:enumL 0 ((spL 6 xs).map PV.int)=[.tuple [.int 0, .int (spI xs 0)], .tuple [.int 1, .int (spI xs 1)], .tuple [.int 2, .int (spI xs 2)], .tuple [.int 3, .int (spI xs 3)], .tuple [.int 4, .int (spI xs 4)], .tuple [.int 5, .int (spI xs 5)]]:=rfl
  rw[e]at hp
  simp only[bz,cj,or_false]at hp
  rcases hp with rfl|rfl|rfl|rfl|rfl|rfl
  ·exact⟨bnd e6 (r6 6 xs) (.tuple [.int 0, .int (spI xs 0)]),by kernel_rfl,names_elt (v:=spI xs 0) (k:=0) (by decide) (by kernel_rfl) (by kernel_rfl) (by kernel_rfl) (by kernel_rfl)⟩
  ·exact⟨bnd e6 (r6 6 xs) (.tuple [.int 1, .int (spI xs 1)]),by kernel_rfl,names_elt (v:=spI xs 1) (k:=1) (by decide) (by kernel_rfl) (by kernel_rfl) (by kernel_rfl) (by kernel_rfl)⟩
  ·exact⟨bnd e6 (r6 6 xs) (.tuple [.int 2, .int (spI xs 2)]),by kernel_rfl,names_elt (v:=spI xs 2) (k:=2) (by decide) (by kernel_rfl) (by kernel_rfl) (by kernel_rfl) (by kernel_rfl)⟩
  ·exact⟨bnd e6 (r6 6 xs) (.tuple [.int 3, .int (spI xs 3)]),by kernel_rfl,names_elt (v:=spI xs 3) (k:=3) (by decide) (by kernel_rfl) (by kernel_rfl) (by kernel_rfl) (by kernel_rfl)⟩
  ·exact⟨bnd e6 (r6 6 xs) (.tuple [.int 4, .int (spI xs 4)]),by kernel_rfl,names_elt (v:=spI xs 4) (k:=4) (by decide) (by kernel_rfl) (by kernel_rfl) (by kernel_rfl) (by kernel_rfl)⟩
  ·exact⟨bnd e6 (r6 6 xs) (.tuple [.int 5, .int (spI xs 5)]),by kernel_rfl,names_elt (v:=spI xs 5) (k:=5) (by decide) (by kernel_rfl) (by kernel_rfl) (by kernel_rfl) (by kernel_rfl)⟩
theorem tops_ok{xs:List Int}:∀m,m=5∨m=6→pe 35 scLaw.cn (r3 m xs) (stE (nthS 3 lawB))=some (.list ((topL m xs).map PV.int))∧pe 34 scLaw.cn (r4 m xs) (stE (nthS 4 lawB))=some (.list ((spL m xs).map PV.int))∧pe 33 scLaw.cn (r5 m xs) (stE (nthS 5 lawB))=some (.list (formS.map fun c=>PV.int (c:Nat))):=by
 rintro m (rfl|rfl)
 ·exact⟨by kernel_rfl,by kernel_rfl,by kernel_rfl⟩
 ·exact⟨by kernel_rfl,by kernel_rfl,by kernel_rfl⟩
theorem many_56(xs:List Int):manyS xs=5∨manyS xs=6:=by
 unfold manyS;split
 ·exact .inr rfl
 ·exact .inl rfl
theorem lines_ok{xs:List Int}(hx:xs.length<10000):pxs 40 scLaw (r0 xs) (lawB.take 7)=some (.next (r7 (manyS xs) xs)):=by
 have hm:=many_56 xs
 have h1:=many_ok hx
 have h2:=draws_ok hx _ hm
 refine xAA (tops_ok (xs:=xs) _ hm) fun h3 h4 h5=>?_
 have h6:=names_ok (xs:=xs) _ hm
 have hl:lawB.take 7=[nthS 0 lawB,nthS 1 lawB,nthS 2 lawB,nthS 3 lawB,nthS 4 lawB,nthS 5 lawB,nthS 6 lawB]:=by kernel_rfl
 rw[hl]
 refine pxs_cons (ρ':=r1 xs) (px_asg "row" (by kernel_rfl) (by kernel_rfl)) ?_
 refine pxs_cons (px_asg "many" (by kernel_rfl) h1) ?_
 refine pxs_cons (px_asg "draws" (by kernel_rfl) h2) ?_
 refine pxs_cons (px_asg "tops" (by kernel_rfl) h3) ?_
 refine pxs_cons (px_asg "spelled" (by kernel_rfl) h4) ?_
 refine pxs_cons (px_asg "forms" (by kernel_rfl) h5) ?_
 refine pxs_cons (px_asg "names" (by kernel_rfl) h6) ?_
 rfl
theorem execs_app:∀(a b:List Stmt) (env:Env),execs (a++b) env=(execs a env>>=fun f=>match f with| .next=>execs b env|f=>pure f)
 |[],b,env=>by rw[List.nil_append];show _=((pure Flow.next:Sem Flow)>>=_);rw[pure_bind]
 |st::a,b,env=>by
  rw[List.cons_append,execs_cons,execs_cons,bind_assoc]
  congr 1
  funext f
  cases f<;>first|exact execs_app a b env|rfl|(rw[pure_bind])
theorem wpAny_execs_app{M:Model}{A:Around}{a b:List Stmt}{env:Env}{Q:Flow→Shared→Prop}{E:Value→Shared→Prop}{s:Shared}
  (h:wpAny M A (execs a env) (fun f s'=>match f with| .next=>wpAny M A (execs b env) Q E s'|f=>Q f s') E s):wpAny M A (execs (a++b) env) Q E s:=by
 rw[execs_app]
 refine ac (aj h (fun f s' z=>?_) fun Y Y z=>z)
 cases f<;>first|exact z|exact ah z
theorem Inv.shrink{g:Gnd}{env:Env}{ρ:Rho}{h:Heap}{F F' M:Addr→Prop}(I:Inv g env ρ h F M)(hs:∀a,F' a→F a)(hM:∀a,M a→F' a):Inv g env ρ h F' M:=by
 have V:Up h F h F':=fun a o ho nf=>⟨fun q=>nf (hs a q),ho⟩
 refine⟨I.kind,I.base,I.low,fun a q=>I.fl a (hs a q),hM,fun q=>I.glob (hs _ q),fun q=>I.blt (hs _ q),I.glive,I.loc,I.mloc,I.cel,I.celd,fun x e hx=>⟨?_,(I.ents x e hx).2⟩⟩
 have ok:=(I.ents x e hx).1
 cases e with
 |val p=>refine xEA ok fun v a b=>?_;exact⟨v,a,b.up V _⟩
 |own xs=>refine xEEAAAA ok fun a vs v m l c Y=>?_;refine xAAA Y fun n q f r=>?_;exact⟨a,vs,v,m,l,c,n,q,f,r.flat f⟩
 |gv p=>refine xAAE ok fun k f mg Y=>?_;refine xEAA Y fun v n e r=>?_;exact⟨k,f,mg,v,n,e,r.flat f⟩
 |bi f=>exact ok
 |en=>exact ok
 |fn f=>refine xA ok fun k Y=>?_;refine xEEEEAAA Y fun mg a o fd n e ho Y1=>?_;refine xAA Y1 fun nf hd C=>?_;exact⟨k,mg,a,o,fd,n,e,ho,fun q=>nf (hs _ q),hd,C⟩
 |lgv p=>refine xA ok fun f Y=>?_;refine xEEAA Y fun mg v n e r=>?_;exact⟨f,mg,v,n,e,r.flat f⟩
 |lbi f=>exact ok
 |len=>exact ok
 |lfn f=>refine xEEEEAAA ok fun mg a o fd n e ho Y=>?_;refine xAA Y fun nf hd C=>?_;exact⟨mg,a,o,fd,n,e,ho,fun q=>nf (hs _ q),hd,C⟩
theorem Inv.objRv{g:Gnd}{env:Env}{ρ:Rho}{h:Heap}{F M:Addr→Prop}{x:Str}{u:Value}{p:PV}(I:Inv g env ρ h F M)(hx:ρ.lookup x=some (.val (.obj u)))(r:Rv g.prog g.w h F p u):Inv g env (setR ρ x (.val p)) h F M:=
 ⟨I.kind,I.base,I.low,I.fl,I.sub,I.glob,I.blt,I.glive,I.loc,I.mloc,I.cel,I.celd,fun z e hz=>by
  rw[setR_lookup]at hz
  split at hz
  ·rename_i hh
   cases hz
   subst hh
   refine xA (I.ents _ _ hx) fun Y d=>?_;refine xEA Y fun v a b=>?_
   rw[Rv.obj_iff.mp b]at a
   exact⟨⟨u,a,r⟩,d⟩
  ·exact I.ents z e hz⟩
noncomputable def fnLaw:FuncData:=fd (dT 77) (z "law") 3 .none .none (vs "law_kl0465_01" 2807) (.ref 279) 0
noncomputable def KLaw(P:Params):Frag:=[(280,ob280 P),(279,ob279 P)]
structure GroundL(g:Gnd)(mg mb:Str→Option Value):Prop where
 W:Ground' g mg mb
 R:GroundR g mg mb
 L:(KLaw g.w.params).In g.h₀
theorem fnLaw_at{g:Gnd}{mg mb:Str→Option Value}(B:GroundL g mg mb):FnAt g 280 fnLaw lawB:=by
 refine⟨⟨ob280 g.w.params,B.L _ _ rfl,rfl⟩,rfl,rfl,rfl,rfl,codeRec_of B.L (by kernel_rfl),rfl,rfl⟩
structure LawN(g:Gnd)(mg mb:Str→Option Value):Prop extends RN g mg mb where
 set1:mg "set" =none
 set2:mb "set" =some (.type "set")
 so1:mg "sorted" =none
 so2:mb "sorted" =some (.builtin "sorted")
 rg1:mg "range" =none
 rg2:mb "range" =some (.type "range")
 ls1:mg "list" =none
 ls2:mb "list" =some (.type "list")
 sm1:mg "sum" =none
 sm2:mb "sum" =some (.builtin "sum")
 en1:mg "enumerate" =none
 en2:mb "enumerate" =some (.type "enumerate")
 mx1:mg "max" =none
 mx2:mb "max" =some (.builtin "max")
 ch1:mg "chr" =none
 ch2:mb "chr" =some (.builtin "chr")
 tell:mg "_law_tell" =some (.ref 263)
 cls:mg "C14NWriterTarget" =some (.ref 238)
 wds:mg "_law_words" =some (.ref 275)
 esc:mg "_escape_cdata_c14n" =some (.ref 249)
 nsm:mg "_namespace_map" =some (.ref 132)
 lev:mg "_levenshtein_distance" =some (.ref 52)
 c52:Contract g 52 f_levS
 c268':Contract g 268 f_lwS
theorem spell_ok{i j k:Nat}(hk:k<6)(hi:i<4)(hj:j<9):NmOk (spell i j k)∧EscOk (spell i j k)∧(spell i j k).length≤2:=by
 have key:∀k<6,∀i<4,∀j<9,((match spell i j k with|[]=>false|a::r=>r.length.ble 1&&!(a==123))&&(spell i j k).all (fun c=>!(c==125))&&!(spell i j k).elem 38&&!(spell i j k).elem 60&&!(spell i j k).elem 62&&!(spell i j k).elem 13&&(spell i j k).length.ble 2)=true:=by decide+kernel
 have h:=key k hk i hi j hj
 simp only[bp,Bool.not_eq_true']at h
 refine xA h fun Y h7=>?_;refine xA Y fun Y h6=>?_;obtain⟨⟨⟨⟨h1,h2⟩,h3⟩,h4⟩,h5⟩:=Y
 refine⟨?_,⟨h3,h4,h5,h6⟩,by simpa using h7⟩
 generalize spell i j k=nm at*
 cases nm with
 |nil=>exact ff h1
 |cons a r=>
  simp only[bp,Bool.not_eq_true',Nat.ble_eq]at h1
  exact⟨a,r,rfl,h1.1,h1.2,fun c hc=>by have:=bs.mp h2 c hc;simpa using this⟩
theorem nameI_ok(xs:List Int){k:Nat}(hk:k<6):NmOk (nameI xs k)∧EscOk (nameI xs k)∧(nameI xs k).length≤2:=spell_ok hk (iOf_lt _) (jOf_lt _)
noncomputable def remark(nm:List Nat):List Nat:=[60,33,45,45]++nm++[45,45,62]
noncomputable def pagePcs(m:Nat)(xs:List Int):List (List Nat):=[]++pcs (nameL m xs) (topL m xs) m 0++[[10]]++[remark (nameI xs (m-1))]
noncomputable def rhoP(m:Nat)(xs:List Int):Rho:=("pieces", .val (.list ((pagePcs m xs).map PV.str)))::("many", .val (.int m))::("tops", .val (.list ((topL m xs).map PV.int)))::GLaw
theorem tb_ok{m:Nat}(hm:m=5∨m=6)(xs:List Int):Tb (nameL m xs) (topL m xs):=by
 refine⟨fun nm h=>?_,by simp[nameL,topL],by simp[nameL];lia⟩
 refine xEA (List.mem_map.mp h) fun k hk Y=>?_;subst Y
 exact(nameI_ok xs (by have:=List.mem_range.mp hk;lia)).1
section
def RepL(h:Heap)(T:BT)(m:Nat):Prop:=h.objs.size=m∧∀i o,T.get i=some o→h.get? i=some o
section
variable{w:World}{L:Life}{A:Around}{R:Result→Shared→Prop}{d:Drawn}{os:OsState}{h:Heap}{T:BT}{m:Nat}
theorem v0_ok:(V0 w L A R d os).Ok:=⟨rfl,trivial,fun Y Y e=>nomatch e⟩
theorem rep_of(x:RepL h T m):X.Rep (V0 w L A R d os) h T m [] where
 size:=x.1.trans (Nat.zero_add m).symm
 own:=fun i o e=>⟨x.1▸bh (x.2 i o e),by rw[show(V0 w L A R d os).n₁+i=i from Nat.zero_add i];exact x.2 i o e⟩
 keep:=fun b o e Y=>by
  have:(⟨#[],L⟩:Heap).get? b=none:=by simp[Heap.get?]
  rw[show(V0 w L A R d os).h₀.get? b=none from this]at e;cases e
 ch:=fun Y Y e=>nomatch e
theorem of_rep(x:X.Rep (V0 w L A R d os) h T m []):RepL h T m:=
 ⟨x.size.trans (Nat.zero_add m),fun i o e=>by have:=(x.own i o e).2;rwa [show(V0 w L A R d os).n₁+i=i from Nat.zero_add i]at this⟩
end
noncomputable def Γc:Ctx:=⟨.builtin "claim.caller" {},none,none,[],none⟩
noncomputable def Γb(q:Pos):Ctx:=Γc.enter topC none q
theorem b_below(q:Pos):(Γb q).Below callerA:=by
 have:=(caller_in:Γc.In callerA).enter topC none q (by nofun)
 exact this
theorem piece_wp{w:World}{L:Life}{d:Drawn}{os:OsState}{p q:Pos}{b:List Stmt}{n:Nat}{T T':BT}{m m' i i':Nat}{h:Heap}{Q:Flow→Pos→Shared→Prop}{E:Value→Pos→Shared→Prop}
  (hS:∀R,EndsR (V0 w L callerA R d os) T' m' i'→SIM (V0 w L callerA R d os) n topC none .base (ans topC (belC q) (pieceT b) p) T m i [] [])
  (hr:RepL h T m) (H:∀h' p',RepL h' T' m'→Q .next p' ⟨h',⟨[]⟩,d,0+i',os⟩):Sem.wp (model pw w) (Γb q) (execs b topEnv) Q E p ⟨h,⟨[]⟩,d,0+i,os⟩:=by
 have S:=hS (fun r s'=>∃h',r= .ok .next∧s'=⟨h',⟨[]⟩,d,0+i',os⟩∧RepL h' T' m') fun h' x=>⟨h',rfl,rfl,of_rep x⟩
 rw[←sim_q]at S
 have Mn:=X.sim_sound v0_ok n topC none .base _ T m i [] [] h S (rep_of hr)
 have W:=ans_wp (Γ:=Γb q) _ _ _ (Mn (Γb q) p rfl (b_below q))
 unfold pieceT at W
 rw[Sem.wp_bind']at W
 refine Sem.wp_mono _ _ _ (fun f p' s' z=>?_) (fun e p' s' z=>?_) _ _ W
 ·rw[Sem.wp_pure']at z
  refine xEAA z fun h' e Y x=>?_;clear z;subst Y
  cases e
  exact H h' p' x
 ·refine xEA z fun h' e Y=>?_
  cases e
theorem wp_app{M:Model}{Γ:Ctx}{a b:List Stmt}{env:Env}{Q:Flow→Pos→Shared→Prop}{E:Value→Pos→Shared→Prop}{p:Pos}{s:Shared}
  (h:Sem.wp M Γ (execs a env) (fun f p' s'=>match f with| .next=>Sem.wp M Γ (execs b env) Q E p' s'|f=>Q f p' s') E p s):Sem.wp M Γ (execs (a++b) env) Q E p s:=by
 rw[execs_app,Sem.wp_bind']
 refine Sem.wp_mono _ _ _ (fun f p' s' z=>?_) (fun Y Y Y z=>z) _ _ h
 cases f<;>first|exact z|(rw[Sem.wp_pure'];exact z)
end
section
noncomputable abbrev dob(es:List DictEntry)(n:Nat):Obj:=⟨.type "dict",none, .dict es.toArray n, #[]⟩
def Fresh(es:List DictEntry)(k:Int):Prop:=∀e∈es,∃j t,e.key= .int j t∧e.hash=hashInt j∧j≠k
section
variable{prog:Program}{w:World}{A:Around}{s:Shared}
theorem find_none{d:Addr}{es:List DictEntry}{n:Nat}{k:Int}{t:Tok}{Q:Option Nat→Shared→Prop}{E:Value→Shared→Prop}(ho:s.heap.get? d=some (dob es n))(hf:Fresh es k)(H:Q none s):
  wpAny (model prog w) A (dictFind d (.int k t) (hashInt k)) Q E s:=by
 refine wpAny_dictFind_int (o:=dob es n) (es:=es.toArray) ho rfl (fun e he=>?_) ?_
 ·refine xEEAA (hf e (by simpa using he)) fun j t a b Y=>?_;exact⟨j,t,a,b⟩
 ·have:(es.toArray.findIdx? fun e=>Value.isInt k e.key)=none:=by
   rw[Array.findIdx?_eq_none_iff]
   intro e he
   refine xEEAA (hf e (by simpa using he)) fun j t a Y c=>?_
   rw[a]
   simp only[Value.isInt,beq_eq_false_iff_ne]
   exact c
  rw[this];exact H
theorem push_ok{d:Addr}{es:List DictEntry}{n:Nat}{e:DictEntry}{part:Option Value}{Q:Unit→Shared→Prop}{E:Value→Shared→Prop}(ho:s.heap.get? d=some (dob es n))(hz:es.length≤5000)
  (H:∀h',Heap.SameBut d s.heap h'→h'.get? d=some (dob (es++[e]) (n+1))→Q () {s with heap:=h'}):
  wpAny (model prog w) A (updateDictKeys d (·.push e) part) Q E s:=by
 refine wpAny_updateDictKeys (o:=dob es n) (es:=es.toArray) ho rfl (H _ (Heap.SameBut.update ..) ?_) (by rw[bb];simp;lia)
 have:(s.heap.update d (Obj.mapDictKeys (·.push e))).get? d=some (Obj.mapDictKeys (·.push e) (dob es n)):=Heap.get?_update_self _ ho rfl
 rw[this]
 show some (Obj.mk (.type "dict") none (.dict (es.toArray.push e) (n+1)) #[])=some (Obj.mk (.type "dict") none (.dict (es++[e]).toArray (n+1)) #[])
 rw[List.push_toArray]
theorem set_new{d:Addr}{es:List DictEntry}{n:Nat}{k:Int}{t:Tok}{v:Value}{Q:Unit→Shared→Prop}{E:Value→Shared→Prop}(ho:s.heap.get? d=some (dob es n))(hf:Fresh es k)(hz:es.length≤5000)
  (H:∀h',Heap.SameBut d s.heap h'→h'.get? d=some (dob (es++[⟨hashInt k, .int k t,v⟩]) (n+1))→Q () {s with heap:=h',toks:=s.toks+1}):
  wpAny (model prog w) A (dictSet d (.int k t) v) Q E s:=by
 unfold dictSet
 try with_reducible refine ak ?_
 refine ac (wpAny_pyHash_int ?_)
 unfold dictSetHashed
 try with_reducible refine ak ?_
 refine ac (find_none (s:= {s with toks:=s.toks+1}) ho hf ?_)
 exact ac (wpAny_rule (push_ok (s:= {s with toks:=s.toks+1}) ho hz H))
theorem put_new{d:Addr}{es:List DictEntry}{n:Nat}{k:Int}{t:Tok}{v:Value}{Q:Unit→Shared→Prop}{E:Value→Shared→Prop}(ho:s.heap.get? d=some (dob es n))(hf:Fresh es k)(hz:es.length≤5000)
  (H:∀h',Heap.SameBut d s.heap h'→h'.get? d=some (dob (es++[⟨hashInt k, .int k t,v⟩]) (n+1))→Q () {s with heap:=h'}):
  wpAny (model prog w) A (dictPut d (hashInt k) (.int k t) v) Q E s:=by
 unfold dictPut
 refine ac (find_none ho hf ?_)
 exact push_ok ho hz H
def Lit(prog:Program)(w:World)(A:Around)(p:Sem Value×Sem Value)(q:Int×Str):Prop:=∀(s:Shared) (Q:Value→Shared→Prop),(Q (.int q.1 s.toks) {s with toks:=s.toks+1}→wpAny (model prog w) A p.1 Q noE s)∧(Q (.str q.2 s.toks) {s with toks:=s.toks+1}→wpAny (model prog w) A p.2 Q noE s)
noncomputable def Lits(prog:Program)(w:World)(A:Around):List (Sem Value×Sem Value)→List (Int×Str)→Prop
 |[],[]=>True
 |p::ps,q::qs=>Lit prog w A p q∧Lits prog w A ps qs
 |_,_=>False
noncomputable def entL:List (Int×Str)→Nat→List DictEntry
 |[],_=>[]
 |q::qs,t=>⟨hashInt q.1, .int q.1 t, .str q.2 (t+1)⟩::entL qs (t+3)
noncomputable def entS:List (Int×Str)→Nat→List DictEntry
 |[],_=>[]
 |q::qs,t=>⟨hashInt q.1, .int q.1 t, .str q.2 (t+1)⟩::entS qs (t+2)
theorem entL_len:∀(qs:List (Int×Str)) (t:Nat),(entL qs t).length=qs.length
 |[],_=>rfl
 |_::qs,t=>by simp[entL,entL_len qs]
theorem entS_len:∀(qs:List (Int×Str)) (t:Nat),(entS qs t).length=qs.length
 |[],_=>rfl
 |_::qs,t=>by simp[entS,entS_len qs]
noncomputable def Nod:List (Int×Str)→Prop
 |[]=>True
 |q::qs=>(∀p∈qs,q.1≠p.1)∧Nod qs
theorem same_trans{a:Addr}{h h' h'':Heap}(x:Heap.SameBut a h h')(y:Heap.SameBut a h' h''):Heap.SameBut a h h'':=⟨y.1.trans x.1,fun b ne=>(y.2 b ne).trans (x.2 b ne)⟩
theorem same_refl(a:Addr)(h:Heap):Heap.SameBut a h h:=⟨rfl,fun Y Y=>rfl⟩
theorem fresh_snoc{es:List DictEntry}{k j:Int}{t:Tok}{v:Value}(h:Fresh es k)(ne:j≠k):Fresh (es++[⟨hashInt j, .int j t,v⟩]) k:=by
 intro e he
 refine Or.elim (List.mem_append.mp he) (fun he=>?_) fun he=>?_
 ·exact h e he
 ·rw[cf]at he;subst he;exact⟨j,t,rfl,rfl,ne⟩
theorem long_loop{d:Addr}{f:Sem Value×Sem Value→PUnit→Sem (ForInStep PUnit)}(hf:∀p,f p ⟨⟩=(do let kv ←p.1;let vv ←holding [kv] p.2;holding [kv,vv] (dictSet d kv vv);pure (ForInStep.yield PUnit.unit))):
  ∀(ps:List (Sem Value×Sem Value)) (qs:List (Int×Str)) (es:List DictEntry) (n:Nat) (s:Shared) (Q:PUnit→Shared→Prop),Lits prog w A ps qs→Nod qs→(∀q∈qs,Fresh es q.1)→es.length+qs.length≤5000→s.heap.get? d=some (dob es n)→
   (∀h',Heap.SameBut d s.heap h'→h'.get? d=some (dob (es++entL qs s.toks) (n+qs.length))→Q ⟨⟩ {s with heap:=h',toks:=s.toks+3*qs.length})→wpAny (model prog w) A (forIn ps PUnit.unit f) Q noE s
 |[],[],es,n,s,Q,_,_,_,_,ho,H=>by
  rw[List.forIn_nil]
  have:=H s.heap (same_refl _ _) (by simpa[entL]using ho)
  exact ah this
 |p::ps,q::qs,es,n,s,Q,hl,hn,hfr,hz,ho,H=>by
  refine xA hl fun l1 l2=>?_
  simp only[bx]at hz
  rw[List.forIn_cons,hf]
  refine ac (ac ((l1 s _).1 ?_))
  refine ac (ak ((l1 {s with toks:=s.toks+1} _).2 ?_))
  refine ac (ak (set_new (s:= {s with toks:=s.toks+1+1}) ho (hfr q (cb ..)) (by lia) fun h1 m1 g1=>?_))
  refine ah ?_
  dsimp only
  refine long_loop hf ps qs (es++[⟨hashInt q.1, .int q.1 s.toks, .str q.2 (s.toks+1)⟩]) (n+1) {s with heap:=h1,toks:=s.toks+1+1+1} Q l2 hn.2 (fun p hp=>fresh_snoc (hfr p (bw _ hp)) (hn.1 p hp)) (by simp only[ck,bx,List.length_nil];lia) g1 fun h2 m2 g2=>?_
  have:=H h2 (same_trans m1 m2) (by
   rw[g2]
   simp only[entL,List.append_assoc,List.singleton_append,bx]
   congr 2;lia)
  have e:s.toks+3*(q::qs).length=s.toks+1+1+1+3*qs.length:=by simp only[bx];lia
  rw[e]at this
  exact this
 |[],_::_,_,_,_,_,hl,_,_,_,_,_=>hl.elim
 |_::_,[],_,_,_,_,hl,_,_,_,_,_=>hl.elim
theorem sub_long{ps:List (Sem Value×Sem Value)}{qs:List (Int×Str)}{Q:Addr→Shared→Prop}(hl:Lits prog w A ps qs)(hn:Nod qs)(h15:¬ps.length≤15)(hz:qs.length≤5000)
  (H:∀h',h'.objs.size=s.heap.objs.size+1→(∀a o,s.heap.get? a=some o→h'.get? a=some o)→h'.get? s.heap.objs.size=some (dob (entL qs s.toks) qs.length)→Q s.heap.objs.size {s with heap:=h',toks:=s.toks+3*qs.length}):
  wpAny (model prog w) A (subDict ps) Q noE s:=by
 unfold subDict
 refine ac (wpAny_alloc ?_)
 have ho:(s.heap.push (dob [] 0)).get? s.heap.objs.size=some (dob [] 0):=bc _ rfl
 have hs:(s.heap.push (dob [] 0)).objs.size=s.heap.objs.size+1:=Heap.size_push ..
 refine ac (ak ?_)
 refine wn h15 ?_
 refine ac (wpAny_rule ?_)
 refine ac (long_loop (d:=s.heap.objs.size) ?hf ps qs [] 0 {s with heap:=s.heap.push (dob [] 0)} _ hl hn (fun Y Y e he=>by cases he) (by simpa using hz) ho fun h1 m1 g1=>?_)
 case hf=>intro p;rfl
 refine ah (ah (H h1 (m1.1.trans hs) (fun a o e=>?_) (by simpa using g1)))
 rw[m1.2 a (Nat.ne_of_lt (bh e))]
 exact bd _ e
end
end
section
section
variable{prog:Program}{w:World}{A:Around}{s:Shared}
noncomputable def valS:List (Int×Str)→Nat→List (Value×Value)
 |[],_=>[]
 |q::qs,t=>(.int q.1 t, .str q.2 (t+1))::valS qs (t+2)
theorem pairs_ok:∀(ps:List (Sem Value×Sem Value)) (qs:List (Int×Str)) (s:Shared) (Q:List (Value×Value)→Shared→Prop),Lits prog w A ps qs→Q (valS qs s.toks) {s with toks:=s.toks+2*qs.length}→wpAny (model prog w) A (evalPairs ps) Q noE s
 |[],[],s,Q,_,H=>by unfold evalPairs;exact ah H
 |p::ps,q::qs,s,Q,hl,H=>by
  unfold evalPairs
  refine ac ((hl.1 s _).1 (ac (ak ((hl.1 {s with toks:=s.toks+1} _).2 (ac (ak (pairs_ok ps qs {s with toks:=s.toks+1+1} _ hl.2 ?_)))))))
  refine ah ?_
  have e:s.toks+2*(q::qs).length=s.toks+1+1+2*qs.length:=by simp only[bx];lia
  rw[e]at H
  exact H
 |[],_::_,_,_,hl,_=>hl.elim
 |_::_,[],_,_,hl,_=>hl.elim
theorem short_loop{d:Addr}{f:Value×Value→PUnit→Sem (ForInStep PUnit)}(hf:∀p,f p ⟨⟩=(do dictSet d p.1 p.2;pure (ForInStep.yield PUnit.unit))):
  ∀(qs:List (Int×Str)) (t:Nat) (es:List DictEntry) (n:Nat) (s:Shared) (Q:PUnit→Shared→Prop),Nod qs→(∀q∈qs,Fresh es q.1)→es.length+qs.length≤5000→s.heap.get? d=some (dob es n)→
   (∀h',Heap.SameBut d s.heap h'→h'.get? d=some (dob (es++entS qs t) (n+qs.length))→Q ⟨⟩ {s with heap:=h',toks:=s.toks+qs.length})→wpAny (model prog w) A (forIn (valS qs t) PUnit.unit f) Q noE s
 |[],t,es,n,s,Q,_,_,_,ho,H=>by
  unfold valS
  rw[List.forIn_nil]
  have:=H s.heap (same_refl _ _) (by simpa[entS]using ho)
  exact ah this
 |q::qs,t,es,n,s,Q,hn,hfr,hz,ho,H=>by
  simp only[bx]at hz
  unfold valS
  rw[List.forIn_cons,hf]
  refine ac (ac (set_new ho (hfr q (cb ..)) (by lia) fun h1 m1 g1=>?_))
  refine ah ?_
  dsimp only
  refine short_loop hf qs (t+2) (es++[⟨hashInt q.1, .int q.1 t, .str q.2 (t+1)⟩]) (n+1) {s with heap:=h1,toks:=s.toks+1} Q hn.2 (fun p hp=>fresh_snoc (hfr p (bw _ hp)) (hn.1 p hp)) (by simp only[ck,bx,List.length_nil];lia) g1 fun h2 m2 g2=>?_
  have:=H h2 (same_trans m1 m2) (by
   rw[g2]
   simp only[entS,List.append_assoc,List.singleton_append,bx]
   congr 2;lia)
  have e:s.toks+(q::qs).length=s.toks+1+qs.length:=by simp only[bx];lia
  rw[e]at this
  exact this
theorem lits_len:∀{ps:List (Sem Value×Sem Value)} {qs:List (Int×Str)},Lits prog w A ps qs→ps.length=qs.length
 |[],[],_=>rfl
 |_::_,_::_,h=>by simp[lits_len h.2]
 |[],_::_,h=>h.elim
 |_::_,[],h=>h.elim
theorem sub_short{ps:List (Sem Value×Sem Value)}{qs:List (Int×Str)}{Q:Addr→Shared→Prop}(hl:Lits prog w A ps qs)(hn:Nod qs)(h15:ps.length≤15)
  (H:∀h',h'.objs.size=s.heap.objs.size+1→(∀a o,s.heap.get? a=some o→h'.get? a=some o)→h'.get? s.heap.objs.size=some (dob (entS qs s.toks) qs.length)→Q s.heap.objs.size {s with heap:=h',toks:=s.toks+3*qs.length}):
  wpAny (model prog w) A (subDict ps) Q noE s:=by
 have hlen:=lits_len hl
 unfold subDict
 refine ac (wpAny_alloc ?_)
 have ho:(s.heap.push (dob [] 0)).get? s.heap.objs.size=some (dob [] 0):=bc _ rfl
 have hs:(s.heap.push (dob [] 0)).objs.size=s.heap.objs.size+1:=Heap.size_push ..
 refine ac (ak ?_)
 refine wy h15 ?_
 refine ac (pairs_ok ps qs {s with heap:=s.heap.push (dob [] 0)} _ hl ?_)
 refine ak ?_
 refine ac (short_loop (d:=s.heap.objs.size) ?hf qs s.toks [] 0 {s with heap:=s.heap.push (dob [] 0),toks:=s.toks+2*qs.length} _ hn (fun Y Y e he=>by cases he) (by simp only[List.length_nil];lia) ho fun h1 m1 g1=>?_)
 case hf=>intro p;rfl
 have e:s.toks+3*qs.length=s.toks+2*qs.length+qs.length:=by lia
 rw[e]at H
 refine ah (ah (H h1 (m1.1.trans hs) (fun a o e=>?_) (by simpa using g1)))
 rw[m1.2 a (Nat.ne_of_lt (bh e))]
 exact bd _ e
def IntE(es:List DictEntry):Prop:=∀e∈es,∃j t v,e=⟨hashInt j, .int j t,v⟩
theorem entL_int:∀(qs:List (Int×Str)) (t:Nat),IntE (entL qs t)
 |[],_,e,he=>by cases he
 |q::qs,t,e,he=>by
  refine Or.elim (bz.mp he) (fun he=>?_) fun he=>?_
  ·exact⟨_,_,_,he⟩
  ·exact entL_int qs _ e he
theorem entS_int:∀(qs:List (Int×Str)) (t:Nat),IntE (entS qs t)
 |[],_,e,he=>by cases he
 |q::qs,t,e,he=>by
  refine Or.elim (bz.mp he) (fun he=>?_) fun he=>?_
  ·exact⟨_,_,_,he⟩
  ·exact entS_int qs _ e he
theorem entries_at{d:Addr}{es:List DictEntry}{n:Nat}{part:Option Value}{Q:Array DictEntry→Shared→Prop}{E:Value→Shared→Prop}(ho:s.heap.get? d=some (dob es n))(H:Q es.toArray s):wpAny (model prog w) A (dictEntries d part) Q E s:=by
 unfold dictEntries
 exact ac (wpAny_loadPart ho (ah H))
theorem epoch_at{d:Addr}{es:List DictEntry}{n:Nat}{part:Option Value}{Q:Nat→Shared→Prop}{E:Value→Shared→Prop}(ho:s.heap.get? d=some (dob es n))(H:Q n s):wpAny (model prog w) A (dictEpoch d part) Q E s:=by
 unfold dictEpoch
 exact ac (wpAny_loadPart ho (ah H))
theorem merge_loop{d a:Addr}(hda:d≠a){all:List DictEntry}{n2:Nat}{f:Nat→PUnit→Sem (ForInStep PUnit)}
  (hf:∀i (s:Shared) (e:DictEntry) (Q:ForInStep PUnit→Shared→Prop),all[i]?=some e→s.heap.get? a=some (dob all n2)→wpAny (model prog w) A (dictPut d e.hash e.key e.val) (fun Y s'=>s'.heap.get? a=some (dob all n2)∧Q (.yield ⟨⟩) s') noE s→wpAny (model prog w) A (f i ⟨⟩) Q noE s) (hi:IntE all):
  ∀(rest:List DictEntry) (k:Nat) (es:List DictEntry) (n:Nat) (s:Shared) (Q:PUnit→Shared→Prop),all.drop k=rest→(∀e∈rest,∀j t v,e=⟨hashInt j, .int j t,v⟩→Fresh es j)→rest.Pairwise (fun x y=>x.key≠y.key∧∀i j t u,x.key= .int i t→y.key= .int j u→i≠j)→es.length+rest.length≤5000→s.heap.get? d=some (dob es n)→s.heap.get? a=some (dob all n2)→
   (∀h',Heap.SameBut d s.heap h'→h'.get? d=some (dob (es++rest) (n+rest.length))→Q ⟨⟩ {s with heap:=h'})→wpAny (model prog w) A (forIn (List.range' k rest.length) PUnit.unit f) Q noE s
 |[],k,es,n,s,Q,_,_,_,_,ho,_,H=>by
  rw[List.length_nil,List.range'_zero,List.forIn_nil]
  exact ah (H s.heap (same_refl _ _) (by simpa using ho))
 |e::rest,k,es,n,s,Q,hd,hfr,hp,hz,ho,hoa,H=>by
  simp only[bx]at hz
  have hk:all[k]?=some e:=by
   have:=congrArg List.head? hd
   rw[List.head?_drop]at this;exact this
  refine xEE (hi e (List.mem_of_getElem? hk)) fun j t Y=>?_;refine xE Y fun v Y1=>?_;subst Y1
  rw[bx,List.range'_succ,List.forIn_cons]
  refine ac (hf k s _ _ hk hoa (put_new ho (hfr _ (cb ..) j t v rfl) (by lia) fun h1 m1 g1=>?_))
  have hoa1:h1.get? a=some (dob all n2):=(m1.2 a (Ne.symm hda)).trans hoa
  refine⟨hoa1,?_⟩
  dsimp only
  refine xA (List.pairwise_cons.mp hp) fun hp1 hp2=>?_
  refine merge_loop hda hf hi rest (k+1) (es++[⟨hashInt j, .int j t,v⟩]) (n+1) {s with heap:=h1} Q (by rw[←List.tail_drop,hd];rfl) (fun e' he' j' t' v' ee=>?_) hp2 (by simp only[ck,bx,List.length_nil];lia) g1 hoa1 fun h2 m2 g2=>?_
  ·refine fresh_snoc (hfr e' (bw _ he') j' t' v' ee) ((hp1 e' he').2 j j' t t' rfl (by rw[ee]))
  ·exact H h2 (same_trans m1 m2) (by
    rw[g2]
    simp only[List.append_assoc,List.singleton_append,bx]
    congr 2;lia)
end
end
section
section
variable{prog:Program}{w:World}{A:Around}{s:Shared}
theorem merge_ok{d a:Addr}{es all:List DictEntry}{n n2:Nat}{Q:Unit→Shared→Prop}(hda:d≠a)(hlo:(a==sysModules)=false)(ho:s.heap.get? d=some (dob es n))(hoa:s.heap.get? a=some (dob all n2))(hne:es≠[])(hi:IntE all)
  (hfr:∀e∈all,∀j t v,e=⟨hashInt j, .int j t,v⟩→Fresh es j) (hp:all.Pairwise (fun x y=>x.key≠y.key∧∀i j t u,x.key= .int i t→y.key= .int j u→i≠j)) (hz:es.length+all.length≤5000)
  (H:∀h',Heap.SameBut d s.heap h'→h'.get? d=some (dob (es++all) (n+all.length))→Q () {s with heap:=h'}):wpAny (model prog w) A (mergeMapping d (.ref a) false) Q noE s:=by
 have hT:s.TypeIs (.ref a) "dict" :=⟨_,hoa,rfl⟩
 unfold mergeMapping
 refine ac (wpAny_isInstance hT isSubtype_dict_dict ?_)
 refine wy rfl ?_
 refine ac (wpAny_specialOf hT F.slot_dict_iter.lookup ?_)
 refine ac (ah ?_)
 simp only[beq_self_eq_true]
 refine wn (by rw[hlo];decide) ?_
 refine ac (entries_at ho ?_)
 have hem:es.toArray.isEmpty=false:=by cases es with|nil=>exact absurd rfl hne|cons=>rfl
 simp only[hem,Bool.false_eq_true,if_false]
 refine ac (entries_at hoa ?_)
 refine ac (epoch_at hoa ?_)
 rw[List.range_eq_range',show all.toArray.size=all.length from by simp]
 refine ac (merge_loop hda (all:=all) (n2:=n2) (fun i s e Q hk hoa hw=>?_) hi all 0 es n s _ rfl hfr hp hz ho hoa fun h' m g=>?_)
 ·refine ac (entries_at hoa ?_)
  have:all.toArray[i]?=some e:=by simpa using hk
  rw[this]
  dsimp only
  refine ac (ak ?_)
  show wpAny _ _ (dictPut d e.hash e.key e.val) _ _ _
  refine aj hw (fun Y s' z=>?_) fun Y Y z=>z
  refine ac (epoch_at z.1 ?_)
  simp only[bne_self_eq_false,Bool.false_eq_true,if_false]
  exact ah z.2
 ·exact ah (H h' m g)
end
end
section
noncomputable abbrev DItem:=Option (Sem Value)×Sem Value
noncomputable abbrev DSt:=Option Addr×List (Sem Value×Sem Value)
noncomputable def dit(p:Sem Value×Sem Value):DItem:=(some p.1,p.2)
section
variable{prog:Program}{w:World}{A:Around}
theorem lits_take:∀(n:Nat) {ps:List (Sem Value×Sem Value)} {qs:List (Int×Str)},Lits prog w A ps qs→Lits prog w A (ps.take n) (qs.take n)
 |0,_,_,_=>by rw[List.take_zero,List.take_zero];exact True.intro
 |n+1,[],[],_=>True.intro
 |n+1,_::_,_::_,h=>And.intro h.1 (lits_take n h.2)
 |_+1,[],_::_,h=>h.elim
 |_+1,_::_,[],h=>h.elim
theorem lits_drop:∀(n:Nat) {ps:List (Sem Value×Sem Value)} {qs:List (Int×Str)},Lits prog w A ps qs→Lits prog w A (ps.drop n) (qs.drop n)
 |0,_,_,h=>by simpa using h
 |n+1,[],[],_=>True.intro
 |n+1,_::_,_::_,h=>lits_drop n h.2
 |_+1,[],_::_,h=>h.elim
 |_+1,_::_,[],h=>h.elim
theorem nod_iff:∀{qs:List (Int×Str)},Nod qs↔qs.Pairwise fun a b=>a.1≠b.1
 |[]=>by simp[Nod]
 |q::qs=>by simp only[Nod,List.pairwise_cons,nod_iff (qs:=qs)]
theorem entL_app:∀(a b:List (Int×Str)) (t:Nat),entL (a++b) t=entL a t++entL b (t+3*a.length)
 |[],b,t=>by simp[entL]
 |q::a,b,t=>by simp only[List.cons_append,entL,entL_app a b,bx];congr 3;lia
theorem entL_mem:∀{qs:List (Int×Str)} {t:Nat} {e:DictEntry},e∈entL qs t→∃q∈qs,∃t' v,e=⟨hashInt q.1, .int q.1 t',v⟩
 |[],_,_,h=>absurd h cj
 |q::qs,t,e,h=>by
  refine Or.elim (bz.mp h) (fun h=>?_) fun h=>?_
  ·exact⟨q,cb ..,_,_,h⟩
  ·refine xEA (entL_mem h) fun q' m r=>?_;exact⟨q',bw _ m,r⟩
theorem entS_mem:∀{qs:List (Int×Str)} {t:Nat} {e:DictEntry},e∈entS qs t→∃q∈qs,∃t' v,e=⟨hashInt q.1, .int q.1 t',v⟩
 |[],_,_,h=>absurd h cj
 |q::qs,t,e,h=>by
  refine Or.elim (bz.mp h) (fun h=>?_) fun h=>?_
  ·exact⟨q,cb ..,_,_,h⟩
  ·refine xEA (entS_mem h) fun q' m r=>?_;exact⟨q',bw _ m,r⟩
theorem pair_keys{a b:DictEntry}{p q:Int×Str}(ha:∃t v,a=⟨hashInt p.1, .int p.1 t,v⟩)(hb:∃t v,b=⟨hashInt q.1, .int q.1 t,v⟩)(ne:p.1≠q.1):a.key≠b.key∧∀i j t u,a.key= .int i t→b.key= .int j u→i≠j:=by
 refine xEE ha fun t v Y=>?_;clear ha;subst Y
 refine xEE hb fun u v' Y=>?_;clear hb;subst Y
 refine⟨fun e=>ne (by injection e),fun i j t' u' e1 e2=>?_⟩
 injection e1 with e1
 injection e2 with e2
 rw[←e1,←e2];exact ne
theorem entL_pair:∀{qs:List (Int×Str)} {t:Nat},Nod qs→(entL qs t).Pairwise (fun x y=>x.key≠y.key∧∀i j t u,x.key= .int i t→y.key= .int j u→i≠j)
 |[],_,_=>List.Pairwise.nil
 |q::qs,t,h=>by
  refine List.pairwise_cons.mpr ⟨fun e he=>?_,entL_pair h.2⟩
  refine xEA (entL_mem he) fun q' m r=>?_
  exact pair_keys ⟨_,_,rfl⟩ r (h.1 q' m)
theorem entS_pair:∀{qs:List (Int×Str)} {t:Nat},Nod qs→(entS qs t).Pairwise (fun x y=>x.key≠y.key∧∀i j t u,x.key= .int i t→y.key= .int j u→i≠j)
 |[],_,_=>List.Pairwise.nil
 |q::qs,t,h=>by
  refine List.pairwise_cons.mpr ⟨fun e he=>?_,entS_pair h.2⟩
  refine xEA (entS_mem he) fun q' m r=>?_
  exact pair_keys ⟨_,_,rfl⟩ r (h.1 q' m)
theorem entL_fresh{qs:List (Int×Str)}{t:Nat}{k:Int}(h:∀q∈qs,q.1≠k):Fresh (entL qs t) k:=fun e he=>by
 refine xEA (entL_mem he) fun q m Y=>?_;refine xEE Y fun t' v Y1=>?_;subst Y1
 exact⟨q.1,t',rfl,rfl,h q m⟩
theorem nod_cross{a b:List (Int×Str)}(h:Nod (a++b)):∀p∈a,∀q∈b,p.1≠q.1:=(List.pairwise_append.mp (nod_iff.mp h)).2.2
theorem nod_left{a b:List (Int×Str)}(h:Nod (a++b)):Nod a:=nod_iff.mpr (List.pairwise_append.mp (nod_iff.mp h)).1
theorem nod_right{a b:List (Int×Str)}(h:Nod (a++b)):Nod b:=nod_iff.mpr (List.pairwise_append.mp (nod_iff.mp h)).2.1
theorem gather{f:DItem→DSt→Sem (ForInStep DSt)}(h1:∀main p run,run.length+1<17→f (dit p) (main,run)=pure (.yield (main,run++[p])))(main:Option Addr):
  ∀(items run:List (Sem Value×Sem Value)) (rest:List DItem),run.length+items.length<17→forIn (items.map dit++rest) ((main,run):DSt) f=forIn rest ((main,run++items):DSt) f
 |[],run,rest,_=>by simp
 |p::items,run,rest,h=>by
  rw[List.map_cons,List.cons_append,List.forIn_cons,h1 main p run (by simp at h;lia),pure_bind]
  have:=gather h1 main items (run++[p]) rest (by simp at h⊢;lia)
  simpa using this
structure DP(s0:Shared)(qs:List (Int×Str))(j:Nat)(h:Heap):Prop where
 size:h.objs.size=s0.heap.objs.size+j
 old:∀a o,s0.heap.get? a=some o→h.get? a=some o
 main:h.get? s0.heap.objs.size=some (dob (entL (qs.take (17*j)) s0.toks) (17*j))
 subs:∀i,1≤i→i<j→h.get? (s0.heap.objs.size+i)=some (dob (entL ((qs.drop (17*i)).take 17) (s0.toks+51*i)) 17)
theorem disp_loop{f:DItem→DSt→Sem (ForInStep DSt)}(h1:∀main p run,run.length+1<17→f (dit p) (main,run)=pure (.yield (main,run++[p])))
  (h2:∀p run (s:Shared) Q,run.length=16→wpAny (model prog w) A (subDict (run++[p])) (fun d s'=>Q (.yield (some d,[])) s') noE s→wpAny (model prog w) A (f (dit p) (none,run)) Q noE s)
  (h3:∀p run d (s:Shared) Q,run.length=16→wpAny (model prog w) A (subDict (run++[p])) (fun sub s'=>wpAny (model prog w) A (mergeMapping d (.ref sub) false) (fun Y s''=>Q (.yield (some d,[])) s'') noE s') noE s→wpAny (model prog w) A (f (dit p) (some d,run)) Q noE s)
  {s0:Shared} {ps:List (Sem Value×Sem Value)} {qs:List (Int×Str)} (hl:Lits prog w A ps qs) (hn:Nod qs) (hq:qs.length≤2000) (hlow:sysModules<s0.heap.objs.size) {Q:DSt→Shared→Prop}:
  ∀(k j:Nat) (h:Heap),17*(j+k)≤qs.length→qs.length-17*(j+k)<17→1≤j→DP s0 qs j h→
   (∀h',DP s0 qs (j+k) h'→Q (some s0.heap.objs.size,ps.drop (17*(j+k))) {s0 with heap:=h',toks:=s0.toks+51*(j+k)})→
   wpAny (model prog w) A (forIn ((ps.drop (17*j)).map dit) ((some s0.heap.objs.size,[]):DSt) f) Q noE {s0 with heap:=h,toks:=s0.toks+51*j}
 |0,j,h,hk,hk2,hj,P,H=>by
  have hlen:=lits_len hl
  have:=gather h1 (some s0.heap.objs.size) (ps.drop (17*j)) [] [] (by simp only[List.length_nil,List.length_drop];rw[Nat.add_zero]at hk2;lia)
  rw[List.append_nil,List.nil_append]at this
  rw[this,List.forIn_nil]
  exact ah (H h P)
 |k+1,j,h,hk,hk2,hj,P,H=>by
  have hlen:=lits_len hl
  have hc:(ps.drop (17*j))=(ps.drop (17*j)).take 17++ps.drop (17*(j+1)):=by
   rw[show 17*(j+1)=17*j+17 by lia,←List.drop_drop];exact(List.take_append_drop 17 _).symm
  have hcl:((ps.drop (17*j)).take 17).length=17:=by simp only[List.length_take,List.length_drop];lia
  have lc:Lits prog w A ((ps.drop (17*j)).take 17) ((qs.drop (17*j)).take 17):=lits_take 17 (lits_drop _ hl)
  have hql:((qs.drop (17*j)).take 17).length=17:=(lits_len lc).symm.trans hcl
  rw[hc,List.map_append]
  generalize hC:(ps.drop (17*j)).take 17=C at hcl lc
  refine xEE (⟨C.dropLast,C.getLast (by intro e;rw[e]at hcl;cases hcl),(List.dropLast_concat_getLast _).symm⟩:∃D p,C=D++[p]) fun D p Y=>?_;subst Y
  have hD:D.length=16:=by simp only[ck,bx,List.length_nil]at hcl;lia
  rw[List.map_append,List.append_assoc,gather h1 _ D [] _ (by simp only[List.length_nil];lia),List.nil_append,List.map_cons,List.map_nil,List.singleton_append,List.forIn_cons]
  have split:qs=qs.take (17*j)++qs.drop (17*j):=(List.take_append_drop _ _).symm
  have splitc:qs.drop (17*j)=(qs.drop (17*j)).take 17++(qs.drop (17*j)).drop 17:=(List.take_append_drop _ _).symm
  have nod1:Nod (qs.take (17*j)++(qs.drop (17*j)).take 17):=by
   have:Nod ((qs.take (17*j)++(qs.drop (17*j)).take 17)++(qs.drop (17*j)).drop 17):=by rw[List.append_assoc,←splitc,←split];exact hn
   exact nod_left this
  have htl:(qs.take (17*j)).length=17*j:=by simp only[List.length_take];lia
  refine ac (h3 p D _ _ _ hD (sub_long (s:= {s0 with heap:=h,toks:=s0.toks+51*j}) lc (nod_right nod1) (by lia) (by lia) fun h4 z4 k4 g4=>?_))
  simp only[P.size]at g4 z4
  have hm4:=k4 _ _ P.main
  refine merge_ok (s:= {s0 with heap:=h4,toks:=s0.toks+51*j+3*((qs.drop (17*j)).take 17).length}) (d:=s0.heap.objs.size) (a:=h.objs.size) (by rw[P.size];exact Nat.ne_of_lt (by lia)) (beq_eq_false_iff_ne.mpr (by rw[P.size];exact Nat.ne_of_gt (by have:sysModules<s0.heap.objs.size:=hlow;exact Nat.lt_of_lt_of_le this (Nat.le_add_right _ _)))) hm4 (by rw[P.size];exact g4) (fun e=>?_) (entL_int _ _) (fun e he i t v ee=>?_) (entL_pair (nod_right nod1)) (by rw[entL_len,entL_len,hql,htl];lia) fun h5 m5 g5=>?_
  ·have:=congrArg List.length e
   rw[entL_len,htl]at this;simp at this;lia
  ·subst ee
   refine xEA (entL_mem he) fun q mq Y=>?_;refine xEE Y fun t' v' ee=>?_
   injection ee with _ e2 _
   injection e2 with e2
   exact entL_fresh fun q' mq'=>by rw[e2];exact nod_cross nod1 q' mq' q mq
  ·have et:s0.toks+51*j+3*((qs.drop (17*j)).take 17).length=s0.toks+51*(j+1):=by rw[hql];lia
   have etk:qs.take (17*(j+1))=qs.take (17*j)++(qs.drop (17*j)).take 17:=by
    rw[show 17*(j+1)=17*j+17 by lia,List.take_add]
   have P5:DP s0 qs (j+1) h5:=by
    refine⟨m5.1.trans (z4.trans (by lia)),fun a o e=>?_,?_,fun i hi1 hi2=>?_⟩
    ·rw[m5.2 a (fun q=>by have:=bh e;rw[q]at this;exact Nat.lt_irrefl _ this)]
     exact k4 _ _ (P.old a o e)
    ·rw[g5,etk,entL_app,htl,entL_len,hql]
     have:3*(17*j)=51*j:=by lia
     rw[this];congr 2
    ·rw[m5.2 _ (Nat.ne_of_gt (by lia))]
     refine Or.elim (Nat.lt_or_ge i j) (fun hij=>?_) fun hij=>?_
     ·exact k4 _ _ (P.subs i hi1 hij)
     ·obtain rfl:i=j:=by lia
      rw[g4,hql]
   have hk':17*(j+1+k)≤qs.length:=by rw[show j+1+k=j+(k+1) by lia];exact hk
   have:=disp_loop h1 h2 h3 hl hn hq hlow k (j+1) h5 hk' (by rw[show j+1+k=j+(k+1) by lia];exact hk2) (by lia) P5 (fun h' P'=>by
    have:=H h' (by rw[show j+(k+1)=j+1+k by lia];exact P')
    rw[show j+(k+1)=j+1+k by lia]at this
    exact this)
   rw[et]
   exact this
end
end
section
section
variable{prog:Program}{w:World}{A:Around}
theorem disp_all{f:DItem→DSt→Sem (ForInStep DSt)}(h1:∀main p run,run.length+1<17→f (dit p) (main,run)=pure (.yield (main,run++[p])))
  (h2:∀p run (s:Shared) Q,run.length=16→wpAny (model prog w) A (subDict (run++[p])) (fun d s'=>Q (.yield (some d,[])) s') noE s→wpAny (model prog w) A (f (dit p) (none,run)) Q noE s)
  (h3:∀p run d (s:Shared) Q,run.length=16→wpAny (model prog w) A (subDict (run++[p])) (fun sub s'=>wpAny (model prog w) A (mergeMapping d (.ref sub) false) (fun Y s''=>Q (.yield (some d,[])) s'') noE s') noE s→wpAny (model prog w) A (f (dit p) (some d,run)) Q noE s)
  {s0:Shared} {ps:List (Sem Value×Sem Value)} {qs:List (Int×Str)} (hl:Lits prog w A ps qs) (hn:Nod qs) (hq:qs.length≤2000) (hlow:sysModules<s0.heap.objs.size) {Q:DSt→Shared→Prop} (k:Nat) (hk:17*(1+k)≤qs.length) (hk2:qs.length-17*(1+k)<17)
  (H:∀h',DP s0 qs (1+k) h'→Q (some s0.heap.objs.size,ps.drop (17*(1+k))) {s0 with heap:=h',toks:=s0.toks+51*(1+k)}):
  wpAny (model prog w) A (forIn (ps.map dit) ((none,[]):DSt) f) Q noE s0:=by
 have hlen:=lits_len hl
 have hc:ps=ps.take 17++ps.drop (17*1):=(List.take_append_drop 17 _).symm
 have hcl:(ps.take 17).length=17:=by simp only[List.length_take];lia
 have lc:Lits prog w A (ps.take 17) (qs.take 17):=lits_take 17 hl
 have hql:(qs.take 17).length=17:=(lits_len lc).symm.trans hcl
 rw[hc,List.map_append]
 generalize hC:ps.take 17=C at hcl lc
 refine xEE (⟨C.dropLast,C.getLast (by intro e;rw[e]at hcl;cases hcl),(List.dropLast_concat_getLast _).symm⟩:∃D p,C=D++[p]) fun D p Y=>?_;subst Y
 have hD:D.length=16:=by simp only[ck,bx,List.length_nil]at hcl;lia
 rw[List.map_append,List.append_assoc,gather h1 _ D [] _ (by simp only[List.length_nil];lia),List.nil_append,List.map_cons,List.map_nil,List.singleton_append,List.forIn_cons]
 have nodc:Nod (qs.take 17):=by
  have:Nod (qs.take 17++qs.drop 17):=by rw[List.take_append_drop];exact hn
  exact nod_left this
 refine ac (h2 p D _ _ hD (sub_long lc nodc (by lia) (by lia) fun h4 z4 k4 g4=>?_))
 have P:DP s0 qs 1 h4:=⟨z4,k4,by rw[g4,hql],fun i a b=>by lia⟩
 have:=disp_loop h1 h2 h3 hl hn hq hlow k 1 h4 hk hk2 (Nat.le_refl 1) P H
 rw[hql]
 exact this
theorem display_ok{s0:Shared}{ps:List (Sem Value×Sem Value)}{qs:List (Int×Str)}(hl:Lits prog w A ps qs)(hn:Nod qs)(hlow:sysModules<s0.heap.objs.size){Q:Value→Shared→Prop}(k:Nat)(hk:17*(1+k)<qs.length)(hk2:qs.length-17*(1+k)≤15)(hq:qs.length≤2000)
  (H:∀h',h'.objs.size=s0.heap.objs.size+(2+k)→(∀a o,s0.heap.get? a=some o→h'.get? a=some o)→h'.get? s0.heap.objs.size=some (dob (entL (qs.take (17*(1+k))) s0.toks++entS (qs.drop (17*(1+k))) (s0.toks+51*(1+k))) qs.length)→
   (∀i,1≤i→i<1+k→h'.get? (s0.heap.objs.size+i)=some (dob (entL ((qs.drop (17*i)).take 17) (s0.toks+51*i)) 17))→h'.get? (s0.heap.objs.size+(1+k))=some (dob (entS (qs.drop (17*(1+k))) (s0.toks+51*(1+k))) (qs.length-17*(1+k)))→
   Q (.ref s0.heap.objs.size) {s0 with heap:=h',toks:=s0.toks+3*qs.length}):
  wpAny (model prog w) A (dictDisplay (ps.map dit)) Q noE s0:=by
 have hlen:=lits_len hl
 unfold dictDisplay
 dsimp only
 refine ac (disp_all ?h1 ?h2 ?h3 hl hn hq hlow k (by lia) (by lia) fun h P=>?_)
 case h1=>
  intro main p run h
  have hne:((run++[(p.1,p.2)]).length==17)=false:=by simp;lia
  simp only[dit,hne,Bool.false_eq_true,if_false]
 case h2=>
  intro p run s Q hr hw
  have hne:((run++[(p.1,p.2)]).length==17)=true:=by simp[hr]
  have hie:(run++[(p.1,p.2)]).isEmpty=false:=by cases run<;>rfl
  simp only[dit,hne,if_true,hie,Bool.false_eq_true,if_false]
  exact ac (ac (aj hw (fun d s' z=>ah (ah z)) fun Y Y z=>z))
 case h3=>
  intro p run d s Q hr hw
  have hne:((run++[(p.1,p.2)]).length==17)=true:=by simp[hr]
  have hie:(run++[(p.1,p.2)]).isEmpty=false:=by cases run<;>rfl
  simp only[dit,hne,if_true,hie,Bool.false_eq_true,if_false]
  refine ac (ac (ak (aj hw (fun sub s' z=>?_) fun Y Y z=>z)))
  refine ac (wpAny_onRaise (ak (aj z (fun Y s'' z=>ah (ah z)) fun Y Y z=>z.elim)))
 dsimp only
 have ll:Lits prog w A (ps.drop (17*(1+k))) (qs.drop (17*(1+k))):=lits_drop _ hl
 have hdl:(ps.drop (17*(1+k))).length=qs.length-17*(1+k):=by simp only[List.length_drop];lia
 have hne:(ps.drop (17*(1+k))).isEmpty=false:=by
  cases e:ps.drop (17*(1+k))with
  |nil=>rw[e]at hdl;simp at hdl;lia
  |cons=>rfl
 simp only[hne,Bool.false_eq_true,if_false]
 have nod1:Nod (qs.take (17*(1+k))++qs.drop (17*(1+k))):=by rw[List.take_append_drop];exact hn
 have htl:(qs.take (17*(1+k))).length=17*(1+k):=by simp only[List.length_take];lia
 have hqd:(qs.drop (17*(1+k))).length=qs.length-17*(1+k):=by simp only[List.length_drop]
 refine ac (ac (ak (sub_short (s:= {s0 with heap:=h,toks:=s0.toks+51*(1+k)}) ll (nod_right nod1) (by lia) fun h4 z4 k4 g4=>?_)))
 simp only[P.size]at g4 z4
 have hm4:=k4 _ _ P.main
 refine ac (wpAny_onRaise (ak (aj (E:=noE) (merge_ok (s:= {s0 with heap:=h4,toks:=s0.toks+51*(1+k)+3*(qs.drop (17*(1+k))).length}) (d:=s0.heap.objs.size) (a:=h.objs.size) (by rw[P.size];exact Nat.ne_of_lt (by lia)) (beq_eq_false_iff_ne.mpr (by rw[P.size];exact Nat.ne_of_gt (Nat.lt_of_lt_of_le hlow (Nat.le_add_right _ _)))) hm4 (by rw[P.size];exact g4) (fun e=>?_) (entS_int _ _) (fun e he i t v ee=>?_) (entS_pair (nod_right nod1)) (by rw[entL_len,entS_len,hqd,htl];lia) fun h5 m5 g5=>?_) (fun Y Y z=>z) fun Y Y z=>z.elim)))
 ·have:=congrArg List.length e
  rw[entL_len,htl,List.length_nil]at this;lia
 ·subst ee
  refine xEA (entS_mem he) fun q mq Y=>?_;refine xEE Y fun t' v' ee=>?_
  injection ee with _ e2 _
  injection e2 with e2
  exact entL_fresh fun q' mq'=>by rw[e2];exact nod_cross nod1 q' mq' q mq
 ·refine ah (ah ?_)
  have et:s0.toks+51*(1+k)+3*(qs.drop (17*(1+k))).length=s0.toks+3*qs.length:=by rw[hqd];lia
  rw[et]
  refine H h5 (m5.1.trans (z4.trans (by lia))) (fun a o e=>?_) ?_ (fun i a b=>?_) ?_
  ·rw[m5.2 a (fun q=>by have:=bh e;rw[q]at this;exact Nat.lt_irrefl _ this)]
   exact k4 _ _ (P.old a o e)
  ·rw[g5,entS_len,hqd];congr 2;lia
  ·rw[m5.2 _ (Nat.ne_of_gt (by lia))]
   exact k4 _ _ (P.subs i a b)
  ·rw[m5.2 _ (Nat.ne_of_gt (by lia)),g4,hqd]
end
end
def Full(t:BT)(n:Nat):Prop:=∀i,(t.get i).isSome=true↔i<n
theorem full_ins:∀(t:BT) (n:Nat) (o:Obj),Full t n→((t.ins n o).get n).isSome=true
 | .nil,n,o,h=>by
  have:n=0:=by
   refine Or.elim (Nat.eq_zero_or_pos n) (fun q=>?_) fun q=>?_
   ·exact q
   ·have:=(h 0).mpr q;simp[BT.get]at this
  subst this
  rfl
 | .node v l r,n,o,h=>by
  have hn:n≠0:=by
   intro q
   have:=(h 0).mp (by rw[BT.get_node,if_pos rfl];rfl)
   lia
  rw[BT.ins_node,if_neg hn]
  by_cases p:n% 2=1
  ·rw[if_pos p,BT.get_node,if_neg hn,if_pos p]
   refine full_ins l (n/2) o fun i=>?_
   have:=h (2*i+1)
   rw[BT.get_node,if_neg (by lia),if_pos (by lia),show(2*i+1)/2=i by lia]at this
   rw[this];lia
  ·rw[if_neg p,BT.get_node,if_neg hn,if_neg p]
   refine full_ins r (n/2-1) o fun i=>?_
   have:=h (2*i+2)
   rw[BT.get_node,if_neg (by lia),if_neg (by lia),show(2*i+2)/2-1=i by lia]at this
   rw[this];lia
theorem btOf_go:∀(l:List Obj) (k:Nat) (t:BT) (g:Nat→Option Obj),(∀i,t.get i=g i)→Full t k→∀i,((l.zipIdx k).foldl (fun t oi=>t.ins oi.2 oi.1) t).get i=if i<k then g i else l[i-k]?
 |[],k,t,g,hg,hf,i=>by
  simp only[List.zipIdx_nil,List.foldl_nil,List.getElem?_nil]
  by_cases h:i<k
  ·rw[if_pos h];exact hg i
  ·rw[if_neg h]
   have:¬(t.get i).isSome=true:=fun q=>h ((hf i).mp q)
   simpa using this
 |o::l,k,t,g,hg,hf,i=>by
  have hi:=full_ins t k o hf
  simp only[List.zipIdx_cons,List.foldl_cons]
  have hg':∀i,(t.ins k o).get i=if i=k then some o else g i:=fun i=>by rw[BT.get_ins o t k hi,hg]
  have hf':Full (t.ins k o) (k+1):=fun i=>by
   rw[BT.get_ins o t k hi]
   by_cases e:i=k
   ·subst e;simp
   ·rw[if_neg e,hf i];lia
  rw[btOf_go l (k+1) (t.ins k o) _ hg' hf' i]
  by_cases h:i<k
  ·rw[if_pos (by lia),if_pos h,if_neg (by lia)]
  ·rw[if_neg h]
   by_cases e:i=k
   ·subst e;rw[if_pos (by lia),if_pos rfl];simp
   ·rw[if_neg (by lia),show i-k=(i-(k+1))+1 by lia,List.getElem?_cons_succ]
theorem btOf_get(l:List Obj)(i:Nat):(btOf l).get i=l[i]?:=by
 have:=btOf_go l 0 .nil (fun Y=>none) (fun Y=>rfl) (fun i=>by simp[BT.get]) i
 simpa[btOf]using this
noncomputable def litI:Expr→Option Int
 | .Constant (.int k) _ _=>some k
 |_=>none
noncomputable def litS:Expr→Option Str
 | .Constant (.str x) _ _=>some x
 |_=>none
set_option tactic.hygienic true in
theorem litI_eq{e:Expr}{k:Int}(h:litI e=some k):∃j p,e= .Constant (.int k) j p:=by
 cases e<;>try exact nn h
 rename_i c j p
 cases c<;>first|exact nn h|exact⟨j,p,congrArg (fun z=>Expr.Constant (.int z) j p) (bn h)⟩
set_option tactic.hygienic true in
theorem litS_eq{e:Expr}{k:Str}(h:litS e=some k):∃j p,e= .Constant (.str k) j p:=by
 cases e<;>try exact nn h
 rename_i c j p
 cases c<;>first|exact nn h|exact⟨j,p,congrArg (fun z=>Expr.Constant (.str z) j p) (bn h)⟩
noncomputable def litQ:List (Option Expr)→List Expr→Option (List (Int×Str))
 |[],vs=>gd vs.isEmpty (some [])
 |k::ks,vs=>match vs with
  |[]=>none
  |v::vs=>o2 (o1 k litI) (litS v) fun a x=>o1 (litQ ks vs) fun r=>some ((a,x)::r)
theorem litQ_ok{prog:Program}{w:World}{A:Around}{env:Env}{pos:Pos}:∀(ks:List (Option Expr)) (vs:List Expr) (qs:List (Int×Str)),litQ ks vs=some qs→
  ∃ps,(evalEachOpt ks env).zip ((evalEach vs env).map fun v=>do let x ←v;standAt pos;pure x)=ps.map dit∧Lits prog w A ps qs
 |[],vs,qs,h=>gd_inv h fun hv h=>⟨[],by rw[List.isEmpty_iff.mp hv];rfl,bn h▸trivial⟩
 |k::ks,[],qs,h=>nn h
 |k::ks,v::vs,qs,h=>o2_inv h fun a x ha hx h=>o1_inv h fun r hr h=>o1_inv ha fun e he ha=>by
  obtain⟨ps,e1,e2⟩:=litQ_ok ks vs r hr
  obtain⟨j1,p1,e3⟩:=litI_eq ha
  obtain⟨j2,p2,e4⟩:=litS_eq hx
  rw[he,e3,e4,←bn h]
  refine⟨(eval (.Constant (.int a) j1 p1) env,do let x ←eval (.Constant (.str x) j2 p2) env;standAt pos;pure x)::ps,?_,⟨fun s Q=>⟨fun H=>wpAny_Constant_int (env:=env) (k:=j1) (pos:=p1) H,fun H=>ac (wpAny_Constant_str (ac (aw (ah H))))⟩,e2⟩⟩
  rw[List.map_cons,←e1]
  rfl
noncomputable def st10:Stmt:=nthS 10 topSts
noncomputable def dKeys:List (Option Expr):=match st10 with
 | .Assign _ (.Dict ks _ _) _=>ks
 |_=>[]
noncomputable def dVals:List Expr:=match st10 with
 | .Assign _ (.Dict _ vs _) _=>vs
 |_=>[]
noncomputable def qsB:List (Int×Str):=(litQ dKeys dVals).getD []
theorem qsB_ok:litQ dKeys dVals=some qsB:=by kernel_rfl
theorem qsB_len:qsB.length=650:=by decide+kernel
noncomputable def incr:List (Int×Str)→Bool
 |a::b::r=>decide (a.1<b.1)&&incr (b::r)
 |_=>true
theorem incr_lt:∀(r:List (Int×Str)) (a:Int×Str),incr (a::r)=true→∀b∈r,a.1<b.1
 |[],_,_,_,h=>by cases h
 |c::r,a,h,b,hb=>by
  have h:=Bool.and_eq_true_iff.mp (show(decide (a.1<c.1)&&incr (c::r))=true from h)
  have h:a.1<c.1∧incr (c::r)=true:=⟨of_decide_eq_true h.1,h.2⟩
  refine Or.elim (bz.mp hb) (fun e=>?_) fun hb=>?_
  ·subst e;exact h.1
  ·exact Int.lt_trans h.1 (incr_lt r c h.2 b hb)
theorem incr_nod:∀(r:List (Int×Str)),incr r=true→Nod r
 |[],_=>trivial
 |a::r,h=>⟨fun p hp=>Int.ne_of_lt (incr_lt r a h p hp),incr_nod r (by
  cases r with
  |nil=>rfl
  |cons b r=>exact(Bool.and_eq_true_iff.mp (show(decide (a.1<b.1)&&incr (b::r))=true from h)).2)⟩
theorem qsB_nod:Nod qsB:=incr_nod _ (by decide+kernel)
theorem qsB_all:entL (qsB.take 646) 394++entS (qsB.drop 646) 2332=b3L:=by kernel_rfl
noncomputable def dP1:Pos:=match st10 with
 | .Assign (.Name _ p::_) _ _=>p
 |_=>default
noncomputable def dP2:Pos:=match st10 with
 | .Assign _ (.Dict _ _ p) _=>p
 |_=>default
noncomputable def dP3:Pos:=match st10 with
 | .Assign _ _ p=>p
 |_=>default
theorem st10_eq:st10= .Assign [.Name "b3_exceptions" dP1] (.Dict dKeys dVals dP2) dP3:=by kernel_rfl
section
theorem blk1t(w0:World)(L:Life)(R:Result→Shared→Prop)(d:Drawn)(os:OsState)(p q:Pos):
  blk1P (rowW w0 true) L R d os p q=(∀(p':Pos) (below:List (Code×Pos)),X.Lies (((((callerA.under topC).mark none).under tcall).mark none).under lnew) ((lnew,p')::below)→
   EndsR (V0 (rowW w0 true) L callerA R d os) (btM (rowW w0 true).params 71 (om (rowW w0 true).params (vs "cpy313.stringprep" 325) 18) (ot9 (rowW w0 true).params)) 71 394):=by kernel_rfl
def blkP(w:World)(L:Life)(R:Result→Shared→Prop)(d:Drawn)(os:OsState)(p q:Pos)(n a k:Nat)(T:BT)(m i:Nat):Prop:=
 SIM (V0 w L callerA R d os) n topC none .base (ans topC (belC q) (pieceT ((topSts.drop a).take k)) p) T m i [] []
noncomputable def bt10(P:Params):BT:=btM P 110 (om P (vs "cpy313.stringprep" 325) 19) (ot9 P)
noncomputable def bt61(P:Params):BT:=btM P 117 (om P (vs "cpy313.token" 2353) 69) (ot61 P)
noncomputable def bt62(P:Params):BT:=btM P 120 (om P (vs "cpy313.token" 2353) 70) (ot62 P)
noncomputable def bt68(P:Params):BT:=btM P 141 (om P (vs "cpy313.xml.etree.ElementTree" 2557) 75) (ot68 P)
noncomputable def bt69(P:Params):BT:=btM P 243 (om P (vs "cpy313.xml.etree.ElementTree" 2557) 76) (ot69 P)
noncomputable def btE(P:Params):BT:=btOf (obs P)
noncomputable def keyHashQ(P:Params)(x:Str):Int:=if x.cps.isEmpty then 0 else PySem.W.ZFast.zw12210062019545310541 (P.strHash x.cps)
theorem keyHashQ_eq:keyHashQ=PyData.keyHash:=by
 funext P x
 unfold keyHashQ PyData.keyHash
 rw[←PySem.W.ZFast.ze12210062019545310541]
noncomputable def reH(H:Params→Str→Int)(P:Params)(ok:Nat→Bool):Obj→Obj
 |⟨c,d, .dict es n,sl⟩=>⟨c,d, .dict (es.toList.zipIdx.map fun ei=>if ok ei.2 then {ei.1 with hash:=H P (match ei.1.key with| .str s _=>s|_=>br "")}else ei.1).toArray n,sl⟩
 |o=>o
noncomputable def bt69H(H:Params→Str→Int)(P:Params):BT:=btOf (((obs P).take 243).zipIdx.map fun oi=>if oi.2==3 then om P (vs "cpy313.xml.etree.ElementTree" 2557) 76 else if oi.2==29 then ot69 P
 else if oi.2==143 then reH H P (fun i=>Nat.ble 3 i&&Nat.ble i 14) oi.1 else if oi.2==148 then reH H P (fun Y=>true) oi.1 else if oi.2==237 then reH H P (fun i=>(Nat.ble 2 i&&Nat.ble i 13)||Nat.ble 15 i) oi.1 else oi.1)
theorem bt69H_eq(P:Params):bt69H keyHashQ P=bt69 P:=by
 rw[keyHashQ_eq]
 kernel_rfl
section
variable(w:World)(L:Life)(R:Result→Shared→Prop)(d:Drawn)(os:OsState)(p q:Pos)
theorem blk2:blkP w L R d os p q 4000 11 51 (bt10 w.params) 110 2345=EndsR (V0 w L callerA R d os) (bt61 w.params) 117 2453:=by kernel_rfl
theorem blk5:blkP w L R d os p q 4000 69 1 (bt68 w.params) 141 2628=EndsR (V0 w L callerA R d os) (bt69H keyHashQ w.params) 243 2793:=by kernel_rfl
theorem blk6:blkP w L R d os p q 4000 70 7 (bt69 w.params) 243 2793=EndsR (V0 w L callerA R d os) (btE w.params) 281 2845:=by kernel_rfl
theorem blk3f:blkP (rowW w false) L R d os p q 4000 62 1 (bt61 (rowW w false).params) 117 2453=EndsR (V0 (rowW w false) L callerA R d os) (bt62 (rowW w false).params) 120 2550:=by kernel_rfl
theorem blk3t:blkP (rowW w true) L R d os p q 4000 62 1 (bt61 (rowW w true).params) 117 2453=EndsR (V0 (rowW w true) L callerA R d os) (bt62 (rowW w true).params) 120 2550:=by kernel_rfl
theorem blk4f:blkP (rowW w false) L R d os p q 4000 63 6 (bt62 (rowW w false).params) 120 2550=EndsR (V0 (rowW w false) L callerA R d os) (bt68 (rowW w false).params) 141 2628:=by kernel_rfl
theorem blk4t:blkP (rowW w true) L R d os p q 4000 63 6 (bt62 (rowW w true).params) 120 2550=EndsR (V0 (rowW w true) L callerA R d os) (bt68 (rowW w true).params) 141 2628:=by kernel_rfl
end
end
noncomputable def A10:Around:=callerA.under topC
noncomputable def A0:Around:= {A10 with frames:=none,guards:=none}
theorem below_of{Γ:Ctx}(h:Γ.In A10):Γ.Below A0:=by
 refine xAAAA h fun a b c d e=>?_
 refine⟨a,Nat.le_trans (Nat.le_add_right _ _) b,fun Y q=>(by exact nn q),fun Y q=>(by exact nn q),?_⟩
 have:Γ.units=Γ.code.cUnits+unitsOf Γ.below:=rfl
 show unitsOf Γ.below≤A10.units
 lia
noncomputable def bt9(P:Params):BT:=btM P 71 (om P (vs "cpy313.stringprep" 325) 18) (ot9 P)
noncomputable def bt9d(P:Params):BT:=btM P 110 (om P (vs "cpy313.stringprep" 325) 18) (ot9 P)
theorem storeB(w:World)(L:Life)(R:Result→Shared→Prop)(d:Drawn)(os:OsState)(c:Code):
  SIM (V0 w L A0 R d os) 60 c none .base (storeName topEnv "b3_exceptions" (.ref 71)>>=fun Y=>pure (.done .next)) (bt9d w.params) 110 2344 [] []=EndsR (V0 w L A0 R d os) (bt10 w.params) 110 2345:=by kernel_rfl
theorem lst_get(P:Params)(n:Nat)(m t:Obj)(i:Nat):(btM P n m t).get i=if i<n then(if i=3∧3<(obs P).length then some m else if i=29∧29<(obs P).length then some t else(obs P)[i]?)else none:=by
 unfold btM
 rw[btOf_get,List.getElem?_map,List.getElem?_zipIdx]
 by_cases h:i<n
 ·rw[if_pos h,List.getElem?_take_of_lt h]
  by_cases e3:i=3
  ·subst e3
   have:3<(obs P).length:=by show 3<281;decide
   rw[if_pos ⟨rfl,this⟩,List.getElem?_eq_getElem this];rfl
  ·by_cases e29:i=29
   ·subst e29
    have:29<(obs P).length:=by show 29<281;decide
    rw[if_neg (fun q=>e3 q.1),if_pos ⟨rfl,this⟩,List.getElem?_eq_getElem this];rfl
   ·rw[if_neg (fun q=>e3 q.1),if_neg (fun q=>e29 q.1)]
    cases q:(obs P)[i]? with
    |none=>rfl
    |some o=>simp[e3,e29]
 ·rw[if_neg h]
  have:((obs P).take n)[i]?=none:=by rw[List.getElem?_eq_none];simp only[List.length_take];lia
  rw[this];rfl
theorem obs_dicts(P:Params):((obs P).drop 72).take 37=(List.range 37).map fun k=>dob ((b3L.drop (17*(k+1))).take 17) 17:=by kernel_rfl
theorem obs_dict(P:Params):(obs P)[71]?=some (dob b3L 650)∧∀i,1≤i→i<38→(obs P)[71+i]?=some (dob ((b3L.drop (17*i)).take 17) 17):=by
 refine⟨by kernel_rfl,fun i h1 h2=>?_⟩
 refine xE (⟨i-1,by lia⟩:∃k,i=k+1) fun k Y=>?_;subst Y
 have e:=congrArg (fun l=>l[k]?) (obs_dicts P)
 simp only[List.getElem?_map,List.getElem?_take_of_lt (show k<37 by lia),List.getElem?_drop,List.getElem?_range (show k<37 by lia),Option.map_some]at e
 rw[show 71+(k+1)=72+k by lia]
 exact e
theorem obs_last(P:Params):(obs P)[109]?=some (dob (b3L.drop 646) 4):=by kernel_rfl
theorem any_of_sim{w:World}{L:Life}{d:Drawn}{os:OsState}{n m m' i i':Nat}{T T':BT}{h:Heap}{t:Sem Unit}{Q:Unit→Shared→Prop}
  (S:∀R c,EndsR (V0 w L A0 R d os) T' m' i'→SIM (V0 w L A0 R d os) n c none .base (t>>=fun Y=>pure (.done .next)) T m i [] []) (hr:RepL h T m)
  (H:∀h',RepL h' T' m'→Q () ⟨h',⟨[]⟩,d,0+i',os⟩):wpAny (model pw w) A10 t Q noE ⟨h,⟨[]⟩,d,0+i,os⟩:=by
 intro Γ p hΓ
 have S:=S (fun r s'=>∃h',r= .ok .next∧s'=⟨h',⟨[]⟩,d,0+i',os⟩∧RepL h' T' m') Γ.code fun h' x=>⟨h',rfl,rfl,of_rep x⟩
 rw[←sim_q]at S
 have W:=X.sim_sound v0_ok n Γ.code none .base _ T m i [] [] h S (rep_of hr) Γ p rfl (below_of hΓ)
 rw[Sem.wp_bind']at W
 refine Sem.wp_mono _ _ _ (fun Y p' s' z=>?_) (fun e p' s' z=>?_) _ _ W
 ·rw[Sem.wp_pure']at z
  refine xEAA z fun h' e Y x=>?_;clear z;subst Y
  exact H h' x
 ·refine xEA z fun h' e Y=>?_
  cases e
theorem st10_any{w:World}{d:Drawn}{os:OsState}(L:Life){h:Heap}{Q:Flow→Shared→Prop}(hr:RepL h (bt9 w.params) 71)(H:∀h',RepL h' (bt10 w.params) 110→Q .next ⟨h',⟨[]⟩,d,0+2345,os⟩):
  wpAny (model pw w) A10 (exec st10 topEnv) Q noE ⟨h,⟨[]⟩,d,0+394,os⟩:=by
 obtain⟨hsz,hget⟩:=hr
 rw[st10_eq]
 refine aq ?_
 rw[arm_eval_Dict]
 refine xEA (litQ_ok (prog:=pw) (w:=w) (A:=A10) (env:=topEnv) (pos:=dP2) dKeys dVals qsB qsB_ok) fun ps e1 e2=>?_
 rw[e1]
 refine ac (aw (display_ok (k:=37) e2 qsB_nod (by show sysModules<h.objs.size;rw[hsz];decide) (by rw[qsB_len];decide) (by rw[qsB_len];decide) (by rw[qsB_len];decide) fun h' z1 k1 g1 g2 g3=>?_))
 dsimp only at z1 k1 g1 g2 g3⊢
 rw[hsz]at z1 g1 g2 g3⊢
 rw[qsB_len]at g1 g3⊢
 have hall:=qsB_all
 have hL:entL (qsB.take 646) 394=b3L.take 646:=by
  have:=congrArg (List.take 646) hall
  rw[List.take_append_of_le_length (by rw[entL_len,List.length_take,qsB_len];decide),List.take_of_length_le (by rw[entL_len,List.length_take,qsB_len];decide)]at this
  exact this
 have hS:entS (qsB.drop 646) 2332=b3L.drop 646:=by
  have:=congrArg (List.drop 646) hall
  rw[List.drop_append_of_le_length (by rw[entL_len,List.length_take,qsB_len];decide),List.drop_of_length_le (by rw[entL_len,List.length_take,qsB_len];decide),List.nil_append]at this
  exact this
 have hr9:RepL h' (bt9d w.params) 110:=by
  refine⟨z1,fun i o e=>?_⟩
  unfold bt9d at e
  rw[lst_get]at e
  split at e
  ·rename_i hi
   by_cases h71:i<71
   ·refine k1 i o (hget i o ?_)
    unfold bt9
    rw[lst_get,if_pos h71];exact e
   ·rw[if_neg (by lia),if_neg (by lia)]at e
    by_cases e71:i=71
    ·subst e71
     rw[(obs_dict w.params).1]at e
     cases e
     have:entL (qsB.take (17*(1+37))) (0+394)++entS (qsB.drop (17*(1+37))) (0+394+51*(1+37))=b3L:=hall
     rw[this]at g1
     exact g1
    ·by_cases e109:i=109
     ·subst e109
      rw[obs_last]at e
      cases e
      have:entS (qsB.drop (17*(1+37))) (0+394+51*(1+37))=b3L.drop 646:=hS
      rw[this]at g3
      exact g3
     ·refine xE (⟨i-71,by lia⟩:∃j,i=71+j) fun j Y=>?_;subst Y
      rw[(obs_dict w.params).2 j (by lia) (by lia)]at e
      cases e
      have g:=g2 j (by lia) (by lia)
      have:entL ((qsB.drop (17*j)).take 17) (0+394+51*j)=(b3L.drop (17*j)).take 17:=by
       have q1:qsB.take 646=qsB.take (17*j)++((qsB.drop (17*j)).take 17++((qsB.take 646).drop (17*j)).drop 17):=by
        have a:(qsB.drop (17*j)).take 17=((qsB.take 646).drop (17*j)).take 17:=by
         rw[List.drop_take,List.take_take,Nat.min_eq_left (by lia)]
        rw[a,List.take_append_drop]
        have b:qsB.take (17*j)=(qsB.take 646).take (17*j):=by rw[List.take_take,Nat.min_eq_left (by lia)]
        rw[b,List.take_append_drop]
       have l1:(qsB.take (17*j)).length=17*j:=by rw[List.length_take,qsB_len];lia
       have l2:((qsB.drop (17*j)).take 17).length=17:=by rw[List.length_take,List.length_drop,qsB_len];lia
       rw[q1,entL_app,entL_app,l1,l2]at hL
       have c:=congrArg (fun l=>(l.drop (17*j)).take 17) hL
       rw[List.drop_append_of_le_length (by rw[entL_len,l1];exact Nat.le_refl _),List.drop_of_length_le (by rw[entL_len,l1];exact Nat.le_refl _),List.nil_append,List.take_append_of_le_length (by rw[entL_len,l2];exact Nat.le_refl _),List.take_of_length_le (by rw[entL_len,l2];exact Nat.le_refl _),List.drop_take,List.take_take,Nat.min_eq_left (by lia)]at c
       rw[←c];congr 1;lia
      rw[this]at g
      exact g
  ·cases e
 exact any_of_sim (L:=L) (i:=2344) (fun R c K=>by rw[storeB];exact K) hr9 fun h'' x=>H h'' x
section
theorem cons_one{M:Model}{A:Around}{st:Stmt}{env:Env}{Q:Flow→Shared→Prop}{s:Shared}(h:∀Q',(∀s',Q .next s'→Q' .next s')→wpAny M A (exec st env) Q' noE s):wpAny M A (execs [st] env) Q noE s:=
 af (h _ fun s' z=>ag z)
theorem s10_any{w:World}{d:Drawn}{os:OsState}{h:Heap}(L:Life)(hr:RepL h (bt9 w.params) 71):
  wpAny (model pw w) A10 (execs [st10] topEnv) (fun f s'=>f= .next∧∃h',RepL h' (bt10 w.params) 110∧s'=⟨h',⟨[]⟩,d,0+2345,os⟩) noE ⟨h,⟨[]⟩,d,0+394,os⟩:=
 @cons_one (model pw w) A10 st10 topEnv _ _ (fun Q' K=> @st10_any w d os L h Q' hr (fun h' x=>K _ (And.intro rfl (Exists.intro h' (And.intro x rfl)))))
section
variable{w0:World}{L:Life}{d:Drawn}{os:OsState}{p q:Pos}{h:Heap}{Q:Flow→Pos→Shared→Prop}{E:Value→Pos→Shared→Prop}
theorem b1_wp(b:Bool)(L:Life)(hr:RepL h (bt0 (rowW w0 b).params) 32)(H:∀h' p',RepL h' (bt9 (rowW w0 b).params) 71→Q .next p' ⟨h',⟨[]⟩,d,0+394,os⟩):
  Sem.wp (model pw (rowW w0 b)) (Γb q) (execs (topSts.take 10) topEnv) Q E p ⟨h,⟨[]⟩,d,0+282,os⟩:=by
 refine piece_wp (L:=L) (n:=1400) (fun R K=>?_) hr H
 cases b
 ·have X:=blk1f w0 L R d os p q
  unfold blk1P at X
  rw[X];exact fun Y Y Y=>K
 ·have X:=blk1t w0 L R d os p q
  unfold blk1P at X
  rw[X];exact fun Y Y Y=>K
theorem b2_wp{w:World}(L:Life)(hr:RepL h (bt10 w.params) 110)(H:∀h' p',RepL h' (bt61 w.params) 117→Q .next p' ⟨h',⟨[]⟩,d,0+2453,os⟩):
  Sem.wp (model pw w) (Γb q) (execs ((topSts.drop 11).take 51) topEnv) Q E p ⟨h,⟨[]⟩,d,0+2345,os⟩:=
 piece_wp (L:=L) (n:=4000) (fun R K=>by have X:=blk2 w L R d os p q;unfold blkP at X;rw[X];exact K) hr H
theorem b3_wp(b:Bool)(L:Life)(hr:RepL h (bt61 (rowW w0 b).params) 117)(H:∀h' p',RepL h' (bt62 (rowW w0 b).params) 120→Q .next p' ⟨h',⟨[]⟩,d,0+2550,os⟩):
  Sem.wp (model pw (rowW w0 b)) (Γb q) (execs ((topSts.drop 62).take 1) topEnv) Q E p ⟨h,⟨[]⟩,d,0+2453,os⟩:=by
 refine piece_wp (L:=L) (n:=4000) (fun R K=>?_) hr H
 cases b
 ·have X:=blk3f w0 L R d os p q
  unfold blkP at X
  rw[X];exact K
 ·have X:=blk3t w0 L R d os p q
  unfold blkP at X
  rw[X];exact K
theorem b4_wp(b:Bool)(L:Life)(hr:RepL h (bt62 (rowW w0 b).params) 120)(H:∀h' p',RepL h' (bt68 (rowW w0 b).params) 141→Q .next p' ⟨h',⟨[]⟩,d,0+2628,os⟩):
  Sem.wp (model pw (rowW w0 b)) (Γb q) (execs ((topSts.drop 63).take 6) topEnv) Q E p ⟨h,⟨[]⟩,d,0+2550,os⟩:=by
 refine piece_wp (L:=L) (n:=4000) (fun R K=>?_) hr H
 cases b
 ·have X:=blk4f w0 L R d os p q
  unfold blkP at X
  rw[X];exact K
 ·have X:=blk4t w0 L R d os p q
  unfold blkP at X
  rw[X];exact K
theorem b5_wp{w:World}(L:Life)(hr:RepL h (bt68 w.params) 141)(H:∀h' p',RepL h' (bt69 w.params) 243→Q .next p' ⟨h',⟨[]⟩,d,0+2793,os⟩):
  Sem.wp (model pw w) (Γb q) (execs ((topSts.drop 69).take 1) topEnv) Q E p ⟨h,⟨[]⟩,d,0+2628,os⟩:=
 piece_wp (L:=L) (n:=4000) (fun R K=>by have X:=blk5 w L R d os p q;unfold blkP at X;rw[X];exact K) hr fun h' p' x=>H h' p' (by rw[←bt69H_eq];exact x)
theorem b6_wp{w:World}(L:Life)(hr:RepL h (bt69 w.params) 243)(H:∀h' p',RepL h' (btE w.params) 281→Q .next p' ⟨h',⟨[]⟩,d,0+2845,os⟩):
  Sem.wp (model pw w) (Γb q) (execs ((topSts.drop 70).take 7) topEnv) Q E p ⟨h,⟨[]⟩,d,0+2793,os⟩:=
 piece_wp (L:=L) (n:=4000) (fun R K=>by have X:=blk6 w L R d os p q;unfold blkP at X;rw[X];exact K) hr H
end
end
section
theorem t10_eq:(topSts.drop 10).take 1=[st10]:=by kernel_rfl
theorem at_ctx{α:Type}{M:Model}{A:Around}{Γ:Ctx}{t:Sem α}{P:α→Shared→Prop}{s:Shared}{p:Pos}{Q:α→Pos→Shared→Prop}{E:Value→Pos→Shared→Prop}(W:wpAny M A t P noE s)(hΓ:Γ.In A)(K:∀a p' s',P a s'→Q a p' s'):Sem.wp M Γ t Q E p s:=
 Sem.wp_mono _ _ _ (fun f p' s' z=>K f p' s' z) (fun Y Y Y z=>z.elim) _ _ (W Γ p hΓ)
structure Bx(P:Prop):Prop where
 un:P
theorem cast_list{a b:List Stmt}(e:a=b){M:Model}{A:Around}{env:Env}{P:Flow→Shared→Prop}{s:Shared}(h:wpAny M A (execs b env) P noE s):wpAny M A (execs a env) P noE s:=by rw[e];exact h
noncomputable def S10:List Stmt:=(topSts.drop 10).take 1
theorem s10_eq:S10=[st10]:=t10_eq
theorem s10_any'{w:World}{d:Drawn}{os:OsState}{h:Heap}(L:Life)(hr:RepL h (bt9 w.params) 71):
  Bx (wpAny (model pw w) A10 (execs S10 topEnv) (fun f s'=>f= .next∧∃h',RepL h' (bt10 w.params) 110∧s'=⟨h',⟨[]⟩,d,0+2345,os⟩) noE ⟨h,⟨[]⟩,d,0+394,os⟩):=
 ⟨@cast_list S10 [st10] s10_eq (model pw w) A10 topEnv _ _ (@s10_any w d os h L hr)⟩
theorem at_bx{α:Type}{M:Model}{A:Around}{Γ:Ctx}{t:Sem α}{P:α→Shared→Prop}{s:Shared}{p:Pos}{Q:α→Pos→Shared→Prop}{E:Value→Pos→Shared→Prop}(W:Bx (wpAny M A t P noE s))(hΓ:Γ.In A)(K:∀a p' s',P a s'→Q a p' s'):Bx (Sem.wp M Γ t Q E p s):=
 ⟨at_ctx W.un hΓ K⟩
theorem s10_wp{w:World}{d:Drawn}{os:OsState}{p q:Pos}{h:Heap}{Q:Flow→Pos→Shared→Prop}{E:Value→Pos→Shared→Prop}(L:Life)(hr:RepL h (bt9 w.params) 71)(H:∀h' p',RepL h' (bt10 w.params) 110→Q .next p' ⟨h',⟨[]⟩,d,0+2345,os⟩):
  Bx (Sem.wp (model pw w) (Γb q) (execs S10 topEnv) Q E p ⟨h,⟨[]⟩,d,0+394,os⟩):=
 @at_bx Flow (model pw w) A10 (Γb q) (execs S10 topEnv) _ _ p Q E (@s10_any' w d os h L hr) (b_below q).in fun f p' s' z=>by
  refine xAEA z fun e1 h' x e2=>?_
  rw[e1,e2];exact H h' p' x
theorem wp_appB{M:Model}{Γ:Ctx}{a b:List Stmt}{env:Env}{Q:Flow→Pos→Shared→Prop}{E:Value→Pos→Shared→Prop}{p:Pos}{s:Shared}(R:Pos→Shared→Prop)
  (h:∀Q':Flow→Pos→Shared→Prop,(∀p' s',R p' s'→Q' .next p' s')→Bx (Sem.wp M Γ (execs a env) Q' E p s)) (k:∀p' s',R p' s'→Bx (Sem.wp M Γ (execs b env) Q E p' s')):Bx (Sem.wp M Γ (execs (a++b) env) Q E p s):=
 ⟨wp_app (h _ fun p' s' r=>(k p' s' r).un).un⟩
noncomputable def S1:List Stmt:=topSts.take 10
noncomputable def S2:List Stmt:=(topSts.drop 11).take 51
noncomputable def S3:List Stmt:=(topSts.drop 62).take 1
noncomputable def S4:List Stmt:=(topSts.drop 63).take 6
noncomputable def S5:List Stmt:=(topSts.drop 69).take 1
noncomputable def S6:List Stmt:=(topSts.drop 70).take 7
theorem top_split:topSts=S1++(S10++(S2++(S3++(S4++(S5++S6))))):=by kernel_rfl
section
variable{w0:World}{d:Drawn}{os:OsState}{p q:Pos}{h:Heap}{Q:Flow→Pos→Shared→Prop}{E:Value→Pos→Shared→Prop}
theorem body_wp(b:Bool)(L:Life)(hr:RepL h (bt0 (rowW w0 b).params) 32)(H:∀h' p',RepL h' (btE (rowW w0 b).params) 281→Q .next p' ⟨h',⟨[]⟩,d,0+2845,os⟩):
  Bx (Sem.wp (model pw (rowW w0 b)) (Γb q) (execs (S1++(S10++(S2++(S3++(S4++(S5++S6)))))) topEnv) Q E p ⟨h,⟨[]⟩,d,0+282,os⟩):=by
 refine wp_appB (fun p' s'=>∃h',RepL h' (bt9 (rowW w0 b).params) 71∧s'=⟨h',⟨[]⟩,d,0+394,os⟩) (fun Q' K=>⟨@b1_wp w0 d os p q h Q' E b L hr fun h' p' x=>K p' _ ⟨h',x,rfl⟩⟩) ?_
 rintro p1 _ ⟨h1,r1,rfl⟩
 refine wp_appB (fun p' s'=>∃h',RepL h' (bt10 (rowW w0 b).params) 110∧s'=⟨h',⟨[]⟩,d,0+2345,os⟩) (fun Q' K=> @s10_wp (rowW w0 b) d os p1 q h1 Q' E L r1 fun h' p' x=>K p' _ ⟨h',x,rfl⟩) ?_
 rintro p2 _ ⟨h2,r2,rfl⟩
 refine wp_appB (fun p' s'=>∃h',RepL h' (bt61 (rowW w0 b).params) 117∧s'=⟨h',⟨[]⟩,d,0+2453,os⟩) (fun Q' K=>⟨@b2_wp d os p2 q h2 Q' E (rowW w0 b) L r2 fun h' p' x=>K p' _ ⟨h',x,rfl⟩⟩) ?_
 rintro p3 _ ⟨h3,r3,rfl⟩
 refine wp_appB (fun p' s'=>∃h',RepL h' (bt62 (rowW w0 b).params) 120∧s'=⟨h',⟨[]⟩,d,0+2550,os⟩) (fun Q' K=>⟨@b3_wp w0 d os p3 q h3 Q' E b L r3 fun h' p' x=>K p' _ ⟨h',x,rfl⟩⟩) ?_
 rintro p4 _ ⟨h4,r4,rfl⟩
 refine wp_appB (fun p' s'=>∃h',RepL h' (bt68 (rowW w0 b).params) 141∧s'=⟨h',⟨[]⟩,d,0+2628,os⟩) (fun Q' K=>⟨@b4_wp w0 d os p4 q h4 Q' E b L r4 fun h' p' x=>K p' _ ⟨h',x,rfl⟩⟩) ?_
 rintro p5 _ ⟨h5,r5,rfl⟩
 refine wp_appB (fun p' s'=>∃h',RepL h' (bt69 (rowW w0 b).params) 243∧s'=⟨h',⟨[]⟩,d,0+2793,os⟩) (fun Q' K=>⟨@b5_wp d os p5 q h5 Q' E (rowW w0 b) L r5 fun h' p' x=>K p' _ ⟨h',x,rfl⟩⟩) ?_
 rintro p6 _ ⟨h6,r6,rfl⟩
 exact⟨@b6_wp d os p6 q h6 Q E (rowW w0 b) L r6 H⟩
end
end
section
noncomputable def lst0(P:Params):List Obj:=((obs P).take 32).zipIdx.map fun oi=>if oi.2==3 then oa3 P else if oi.2==29 then oa29 P else oi.1
noncomputable def btS(P:Params):BT:=btOf ((lst0 P).take 28)
noncomputable def btS31(P:Params):BT:=btOf ((lst0 P).take 31)
def EndsV(V:X.XV)(f:Flow)(T:BT)(m i:Nat):Prop:=∀h,X.Rep V h T m []→V.R₀ (.ok f) ⟨h,⟨[]⟩,V.d,V.t₀+i,V.os⟩
noncomputable def clC:Code:= .builtin "claim.caller" {}
section
variable(w:World)(L:Life)(R:Result→Shared→Prop)(d:Drawn)(os:OsState)
theorem preA:SIM (V0 w L callerA R d os) 60 clC none .base (moduleCode pw.main>>=fun v=>pure (.done (.ret v))) (btS w.params) 28 276 [] []=EndsV (V0 w L callerA R d os) (.ret (.ref 30)) (btS31 w.params) 31 282:=by kernel_rfl
theorem preB:SIM (V0 w L callerA R d os) 60 clC none .base (newBodyFrame (.ref 30) mainNs mainNs>>=fun a=>pure (.done (.ret (.ref a)))) (btS31 w.params) 31 282 [] []=EndsV (V0 w L callerA R d os) (.ret (.ref 31)) (bt0 w.params) 32 282:=by kernel_rfl
end
theorem c_below:Γc.Below callerA:=⟨rfl,by decide,fun l e=>by cases e;rfl,fun l e=>by cases e;rfl,by decide⟩
theorem pre_wp{α:Type}{w:World}{L:Life}{d:Drawn}{os:OsState}{p:Pos}{n:Nat}{T T':BT}{m m' i i':Nat}{h:Heap}{t:Sem α}{enc:α→Flow}{f:Flow}{Q:α→Pos→Shared→Prop}{E:Value→Pos→Shared→Prop}
  (hS:∀R,EndsV (V0 w L callerA R d os) f T' m' i'→SIM (V0 w L callerA R d os) n clC none .base (t>>=fun a=>pure (.done (enc a))) T m i [] [])
  (hr:RepL h T m) (H:∀a h' p',enc a=f→RepL h' T' m'→Q a p' ⟨h',⟨[]⟩,d,0+i',os⟩):Sem.wp (model pw w) Γc t Q E p ⟨h,⟨[]⟩,d,0+i,os⟩:=by
 have S:=hS (fun r s'=>∃h',r= .ok f∧s'=⟨h',⟨[]⟩,d,0+i',os⟩∧RepL h' T' m') fun h' x=>⟨h',rfl,rfl,of_rep x⟩
 rw[←sim_q]at S
 have W:=X.sim_sound v0_ok n clC none .base _ T m i [] [] h S (rep_of hr) Γc p rfl c_below
 rw[Sem.wp_bind']at W
 refine Sem.wp_mono _ _ _ (fun a p' s' z=>?_) (fun e p' s' z=>?_) _ _ W
 ·rw[Sem.wp_pure']at z
  refine xEAA z fun h' e Y x=>?_;clear z;subst Y
  have e':enc a=f:=by injection e
  exact H a h' p' e' x
 ·refine xEA z fun h' e Y=>?_
  cases e
theorem body_code(b:Bool){w0:World}{d:Drawn}{os:OsState}{p q:Pos}{h:Heap}{R:Result→Shared→Prop}(L:Life)(hr:RepL h (bt0 (rowW w0 b).params) 32)(H:∀h',RepL h' (btE (rowW w0 b).params) 281→R (.ok .next) ⟨h',⟨[]⟩,d,0+2845,os⟩):
  Bx (wpCode (model pw (rowW w0 b)) (Γb q) R p ⟨h,⟨[]⟩,d,0+282,os⟩):=by
 refine⟨(wpCode_iff_wp _ _ _ _ _).mpr ?_⟩
 have hb:blockStart topSts topEnv=pure ():=by
  unfold blockStart
  rw[show hasAnns topSts=false by decide+kernel,show docOf topSts=none by kernel_rfl]
  cases interactive topEnv<;>rfl
 show Sem.wp _ _ (do blockStart topSts topEnv;return Fin.done (←(execs topSts topEnv).onRaise (leaving topEnv))) _ _ _ _
 rw[hb]
 rw[Sem.wp_bind',Sem.wp_pure',Sem.wp_bind',Sem.wp_onRaise,top_split]
 exact(@body_wp w0 d os p q h _ _ b L hr (fun h' p' x=>by rw[Sem.wp_pure'];exact H h' x)).un
end
theorem halt_through{den:Code→Sem Fin}{p:Program}{w:World}{s s':Shared}{t:Thread}{f:Flow}(hl:t.calm=true)(h:step den p w s t= .halt (.done f) s'):through t=true∧s'=s:=by
 have hK:stepK den p w s t= .halt (.done f) s':=by
  obtain⟨cur,code,pos,stack⟩:=t
  cases cur with
  |pure fin=>cases fin with
   |done g=>exact h
   |again c=>exact nomatch h
  |call=>exact nomatch h
  |_=>exact h
 have hI:stepI den p w s t= .halt (.done f) s':=by
  have hc:=Thread.calm_eq t
  rw[hl]at hc
  rw[stepI_quiet]
  ·exact hK
  ·cases hq:t.loud with
   |false=>rfl
   |true=>rw[hq]at hc;exact nomatch hc
 obtain⟨cur,code,pos,stack⟩:=t
 refine xAAA (step_halt_result (M:=⟨den,p,w⟩) (r:= .ok f) hI) fun Y Y1 q Y2=>?_;subst Y Y1;clear Y2
 exact⟨rfl,q⟩
theorem run_through{den:Code→Sem Fin}{p:Program}{w:World}{f:Flow}{s':Shared}:∀(n:Nat) (s:Shared) (t:Thread),runN den p w n s t= .halted (.done f) s'→(∀k s₁ t₁,runN den p w k s t= .running s₁ t₁→t₁.calm=true)→s.asleep→
  ∃m t₁,schedN den p w m (.single s t)= .running (.single s' t₁)∧through t₁=true
 |0,s,t,h,_,_=>by simp[runN]at h
 |n+1,s,t,h,hc,ha=>by
  unfold runN at h
  cases hs:step den p w s t with
  |halt o s₁=>
   rw[hs]at h
   cases h
   refine xA (halt_through (hc 0 s t rfl) hs) fun a Y=>?_;subst Y
   exact⟨0,t,rfl,a⟩
  |go s₁ t₁=>
   rw[hs]at h
   have hcalm:=hc 0 s t rfl
   have hl:=step_life den p w s s₁ t t₁ hs
   refine xEEA (run_through n s₁ t₁ h (fun k s₂ t₂ e=>hc (k+1) s₂ t₂ (by unfold runN;rw[hs];exact e)) (Shared.asleep_of_life hl ha)) fun m t₂ a b=>?_
   have e:sstep den p w (.single s t)= .go (.single s₁ t₁):=by
    refine Or.elim (sstep_single den p w s t hcalm ha) (fun e=>?_) fun e=>?_
    ·rw[e,hs];rfl
    ·rw[hs]at e;cases e
   exact⟨m+1,t₂,by simp only[schedN,e];exact a,b⟩
theorem run_wp{M:Model}{Γ:Ctx}{c:Code}{Q:Flow→Pos→Shared→Prop}{E:Value→Pos→Shared→Prop}{p:Pos}{s:Shared}(h:Bx (wpCode M (Γ.enter c none p) (fun r s'=>match r with| .ok f=>Q f p s'| .error e=>E e p s') p s)):Sem.wp M Γ (run c) Q E p s:=by
 unfold run
 rw[Sem.wp]
 refine wpCode_mono (fun r s' z=>?_) h.un
 cases r with
 |ok f=>exact z
 |error e=>exact z
theorem stub_wp(b:Bool){w0:World}{d:Drawn}{os:OsState}{p:Pos}{h:Heap}{Q:Fin→Pos→Shared→Prop}{E:Value→Pos→Shared→Prop}(L:Life)(hr:RepL h (btS (rowW w0 b).params) 28)
  (H:∀h' p',RepL h' (btE (rowW w0 b).params) 281→Q (.done (.ret .none)) p' ⟨h',⟨[]⟩,d,0+2845,os⟩):Bx (Sem.wp (model pw (rowW w0 b)) Γc (topStub pw).cur Q E p ⟨h,⟨[]⟩,d,0+276,os⟩):=by
 refine⟨?_⟩
 show Sem.wp _ _ (do
  let code ←moduleCode pw.main
  let frame ←newBodyFrame code mainNs mainNs
  let _ ←run (.body topSts {scope:=pw.main.scope,locals:=mainNs,globals:=mainNs,cells:=[],code,frame:=some frame})
  ret .none) _ _ _ _
 rw[Sem.wp_bind']
 refine pre_wp (L:=L) (enc:=fun v=> .ret v) (fun R K=>by rw[preA];exact K) hr fun v h1 p1 e1 r1=>?_
 have e1:v= .ref 30:=by injection e1
 subst e1
 rw[Sem.wp_bind']
 refine pre_wp (L:=L) (enc:=fun a=> .ret (.ref a)) (fun R K=>by rw[preB];exact K) r1 fun a h2 p2 e2 r2=>?_
 have e2:a=31:=by injection e2 with e2;injection e2
 subst e2
 rw[Sem.wp_bind']
 refine run_wp ?_
 exact body_code b (q:=p2) L r2 fun h' x=>by
  show Sem.wp _ _ (ret .none:Sem Fin) _ _ _ _
  unfold ret
  rw[Sem.wp_pure']
  exact H h' p2 x
def RT(w:World)(d:Drawn)(os:OsState)(r:Result)(s':Shared):Prop:=r= .ok (.ret .none)∧s'.gens= #[]∧∃h',RepL h' (btE w.params) 281∧s'=⟨h', #[],d,2845,os⟩
theorem top_runs(w:World){d:Drawn}{os:OsState}{h:Heap}(hr:RepL h (btS w.params) 28)(ha:(⟨h, #[],d,276,os⟩:Shared).asleep):
  ∃h',RepL h' (btE w.params) 281∧h'.life=h.life∧∃m t₁,schedN (denote table) pw w m (.single ⟨h, #[],d,276,os⟩ (topStub pw))= .running (.single ⟨h', #[],d,2845,os⟩ t₁)∧through t₁=true:=by
 have e:=World.withFollow_self w "special-get-raises"
 generalize w.params.followText "special-get-raises" =b at e
 have hr':RepL h (btS (rowW w b).params) 28:=by rw[show rowW w b=w from e];exact hr
 have W:=(@stub_wp b w d os default h (Sem.finPost (model pw (rowW w b)) Γc fun r s'=>RT (rowW w b) d os r s'∧leftWithCleanup s'.gens=false) (fun e Y s'=>RT (rowW w b) d os (.error e) s'∧leftWithCleanup s'.gens=false) h.life hr' (fun h' p' x=>⟨⟨rfl,rfl,h',x,rfl⟩,by simp[leftWithCleanup]⟩)).un
 rw[show rowW w b=w from e]at W
 refine xEEEAAA ((wp_iff_halts (M:=model pw w) (c:= .builtin "claim.caller" {}) (topStub pw).cur (RT w d os) default ⟨h, #[],d,276,os⟩).mp W) fun n r s₁ hn hR hg Y=>?_;refine xEA Y fun h' x Y1=>?_;subst Y1
 subst hR
 refine xEAA (runNI_real _ _ _ hn (outcomeOf_ends _)) fun s₂ hrun hf hc=>?_
 obtain rfl:s₂=⟨h', #[],d,2845,os⟩:=Shared.eq_of_forget_eq hf rfl
 refine xEEA (run_through n _ _ hrun hc ha) fun m t₁ a c=>?_
 exact⟨h',x,runN_life _ _ _ hrun,m,t₁,a,c⟩
noncomputable def H0(P:Params):Heap:=⟨((lst0 P).take 28).toArray,{}⟩
theorem open_ok(w:World):(fencedOpening treeTable pw w 900).map (fun s=>(s.heap,s.gens,s.drawn,s.toks))=some (H0 w.params, #[],{},276):=by kernel_rfl
noncomputable def H1(P:Params):Heap:=⟨(obs P).toArray,{}⟩
theorem behind0(w:World):(∃s,AfterRun (opening pw) w s)∧∀s,AfterRun (opening pw) w s→∃os,fenceModules? pw s=some ⟨H0 w.params, #[],{},276,os⟩:=by
 have h:=open_ok w
 rw[←table_eq_tree]at h
 refine xEA (Option.map_eq_some_iff.mp h) fun s₀ h2 e=>?_
 refine xEA (Option.bind_eq_some_iff.mp h2) fun s h4 h5=>?_
 have A:=AfterImport.of_importEnds h4
 refine⟨⟨s,A⟩,fun s' hs'=>?_⟩
 obtain rfl:s'=s:=AfterImport.unique hs' A
 obtain⟨hp,gs,dr,tk,os⟩:=s₀
 simp only[Prod.mk.injEq]at e
 refine xAAA e fun Y Y1 Y2 Y3=>?_;clear e;subst Y Y1 Y2 Y3
 exact⟨os,h5⟩
theorem get_of_objs{h:Heap}{a:Addr}{o:Obj}(e:h.get? a=some o):h.objs[a]?=some o:=by
 unfold Heap.get? at e
 split at e
 ·exact nn e
 ·exact e
theorem heap_is{h:Heap}{P:Params}(r:RepL h (btE P) 281)(l:h.life= {}):h=H1 P:=by
 obtain⟨objs,life⟩:=h
 cases l
 unfold H1
 congr 1
 have hl:(obs P).length=281:=by kernel_rfl
 have hz:objs.size=281:=r.1
 refine Array.ext (hz.trans (by simp[hl])) fun i hi hj=>?_
 have g:=get_of_objs (r.2 i ((obs P)[i]'(by simpa using hj)) (by unfold btE;rw[btOf_get];exact List.getElem?_eq_getElem _))
 have g':objs[i]?=some ((obs P)[i]'(by simpa using hj)):=g
 rw[Array.getElem?_eq_getElem hi]at g'
 simpa using g'
theorem h0_rep(P:Params):RepL (H0 P) (btS P) 28:=by
 have hl:((lst0 P).take 28).length=28:=by kernel_rfl
 refine⟨by show((lst0 P).take 28).toArray.size=28;simpa using hl,fun i o e=>?_⟩
 unfold btS at e
 rw[btOf_get]at e
 have nf:((lst0 P).take 28).all (fun o=>match o.data with| .freed=>false|_=>true)=true:=by kernel_rfl
 have hm:=bs.mp nf o (List.mem_of_getElem? e)
 have e':(H0 P).objs[i]?=some o:=by show((lst0 P).take 28).toArray[i]?=some o;simpa using e
 unfold Heap.get?
 rw[e']
 obtain⟨c,d,dt,sl⟩:=o
 cases dt<;>first|rfl|(simp at hm)
theorem ran(w:World)(os:OsState):∃m t₁,schedN (denote table) pw w m (.single ⟨H0 w.params, #[],{},276,os⟩ (topStub pw))= .running (.single ⟨H1 w.params, #[],{},2845,os⟩ t₁)∧through t₁=true:=by
 refine xEAA (top_runs w (d:= {}) (os:=os) (h0_rep w.params) ⟨rfl,rfl⟩) fun h' r l Y=>?_;refine xEEA Y fun m t₁ a b=>?_
 have e:=heap_is r l
 subst e
 exact⟨m,t₁,a,b⟩
section
noncomputable def mds:List Str:=importedModules pw.main.body
variable(P:Params)
theorem k_mainNs:(H1 P).isNs mainGlobals=true:=by kernel_rfl
theorem k_bltNs:(H1 P).isNs builtinsNs=true:=by kernel_rfl
theorem k_statics:staticsOk mds (H0 P) (H1 P)=true:=by kernel_rfl
theorem k_acc:(H1 P).accountedOkI mds=true:=by kernel_rfl
theorem k_bound:namesBound pw (H1 P)=true:=by kernel_rfl
theorem k_kept:laidKept (H0 P) (H1 P)=true:=by kernel_rfl
theorem k_blt:(H1 P).bltView=bltViewBooted:=by kernel_rfl
theorem k_bmain:(H1 P).bmainOk=true:=by kernel_rfl
theorem k_frame:∀b<28,b=3∨((H1 P).objs[b]?=(H0 P).objs[b]?):=by
 have a1:(obs P).take 3=(lst0 P).take 3:=by kernel_rfl
 have a2:((obs P).drop 4).take 24=((lst0 P).drop 4).take 24:=by kernel_rfl
 intro b hb
 by_cases h3:b=3
 ·exact .inl h3
 refine .inr ?_
 show(obs P).toArray[b]?=((lst0 P).take 28).toArray[b]?
 rw[List.getElem?_toArray,List.getElem?_toArray,List.getElem?_take_of_lt hb]
 by_cases h:b<3
 ·rw[←List.getElem?_take_of_lt h,a1,List.getElem?_take_of_lt h]
 ·refine xE (⟨b-4,by lia⟩:∃j,b=4+j) fun j e=>?_
  subst e
  have hj:j<24:=by lia
  have:=congrArg (fun l:List Obj=>l[j]?) a2
  simp only[List.getElem?_take_of_lt hj,List.getElem?_drop]at this
  exact this
end
noncomputable def SB1(w:World)(os:OsState):Shared:=⟨H1 w.params, #[],{},2845,os⟩
noncomputable def SB0(w:World)(os:OsState):Shared:=⟨H0 w.params, #[],{},276,os⟩
theorem top_ran(w:World)(os:OsState):TopRan pw w (SB0 w os) (SB1 w os):=by
 refine xEEA (ran w os) fun m t a b=>?_
 refine⟨⟨m,t,a,b⟩,rfl,Shared.rest_eq rfl,fun b o hb hn=>?_,Heap.accountedI_of_ok (k_acc w.params),statics_of_ok (k_statics w.params),Pin.keysAreStrs_of (k_mainNs w.params),fun x hx=>(Pin.builtinOf_eq (k_bltNs w.params) x).trans (Heap.of_bltView (k_bltNs w.params) (k_blt w.params) x hx),?_,fun g hg=>by simp[SB1]at hg,names_of_bound (k_bound w.params),laid_of_kept (k_kept w.params)⟩
 ·have hl:((lst0 w.params).take 28).length=28:=by kernel_rfl
  have hb':b<28:=by
   have q:b<(SB0 w os).heap.objs.size:=bh hb
   have e:(SB0 w os).heap.objs.size=28:=by show((lst0 w.params).take 28).toArray.size=28;simpa using hl
   exact e▸q
  refine Or.elim (k_frame w.params b hb') (fun q=>?_) fun q=>?_
  ·exact absurd (.inl q) hn
  ·show(H1 w.params).get? b=some o
   have hb:(H0 w.params).get? b=some o:=hb
   unfold Heap.get? at hb⊢
   rw[q]
   exact hb
 ·refine xEEAAAA (Heap.bmainOk_spec (k_bmain w.params)) fun bm ob a Y9 c d Y=>?_;refine xA Y fun f Y9=>?_
  exact⟨bm,ob,(Pin.globalOf_eq (k_mainNs w.params) _).trans a,c,d,f⟩
theorem keep_cls(P:Params):keepIn (KW P) (.ref 238)=true:=by kernel_rfl
theorem own_not_seq{g:Gnd}{env:Env}{ρ:Rho}{h:Heap}{F M:Addr→Prop}(I:Inv g env ρ h F M){c:Addr}{o:Obj}{xs:Array Value}{n:Nat}(ho:h.get? c=some o)(hd:o.data= .seq xs n):¬OwnOf env c:=by
 rintro (q|⟨x,q⟩)
 ·refine xEEEEAA I.loc fun m o' es ep ho' hd' Y=>?_
  rw[←q,ho]at ho';cases ho'
  rw[hd]at hd';cases hd'
 ·refine xAAE (I.cel x c q) fun Y9 Y9 v Y=>?_;refine xEA Y fun o' ho' hd'=>?_
  rw[ho]at ho';cases ho'
  rw[hd]at hd';cases hd'
theorem mid_ok{g:Gnd}{mg mb:Str→Option Value}(B:GroundL g mg mb)(N:LawN g mg mb){A:Around}{s0h:Heap}{env:Env}{m:Nat}{xs:List Int}{s:Shared}{Q:Flow→Shared→Prop}
  (hm:m=5∨m=6) (hlen:lenP m (topL m xs) m 0≤60) (okd:AOk (150+g.K) A) (I:Inv g env (r7 m xs) s.heap (fun a=>a=211∨OwnOf env a) (OwnOf env)) (S:SOk g env scLaw) (kk:∀x,env.kindOf x=fnLaw.scope.names.lookup x) (hglob:env.globals=mainNs) (hblt:env.builtins=builtinsNs)
  (base0:Ext g.h₀ s0h) (X0:Ext s0h s.heap) (new:∀a,OwnOf env a→s0h.get? a=none) (htab:s0h.get? 211=some (tabObj #[])) (g0:g.h₀.get? 211=none)
  (H:∀h' g' t',Inv g env (rhoP m xs) h' (OwnOf env) (OwnOf env)→(∀a o,s0h.get? a=some o→a≠211→h'.get? a=some o)→(∃ps,h'.get? 211=some (tabObj ps))→(AllBare s.gens→AllBare g')→Q .next {s with heap:=h',gens:=g',toks:=t'}):
  wpAny (model g.prog g.w) A (execs ((lawB.drop 7).take 4) env) Q noE s:=by
 have cn0:Cn env []:=fun Y q=>by cases q
 have hmo:∀a,OwnOf env a→g.h₀.get? a=none:=fun a q=>by
  cases e:g.h₀.get? a with
  |none=>rfl
  |some o=>have:=base0 a o e;rw[new a q]at this;exact nn this
 refine af (aq (wpAny_List (spl0 ⟨by decide,?_⟩)))
 have I1:=I.pushF {cls:= .type "list",data:= .seq ([]:List Value).toArray} rfl
 have x1:=Ext.push s.heap {cls:= .type "list",data:= .seq ([]:List Value).toArray}
 have n1:s.heap.get? s.heap.objs.size=none:=get?_size _
 have p1:(s.heap.push {cls:= .type "list",data:= .seq ([]:List Value).toArray}).PlainList s.heap.objs.size #[]:=⟨0,bc _ rfl⟩
 have lo1:(s.heap.objs.size==sysModules)=false:=beq_eq_false_iff_ne.mpr fun q=>Nat.lt_irrefl _ (q▸I.size)
 dsimp only
 generalize (s.heap.push {cls:= .type "list",data:= .seq ([]:List Value).toArray})=h1 at*
 generalize s.heap.objs.size=lp at*
 have nlp:¬OwnOf env lp:=fun q=>by refine xE (I.fl lp (.inr q)) fun o ho=>?_;rw[n1]at ho;cases ho
 refine store_own (s:= {s with heap:=h1,toks:=_}) (bk:=scLaw.bk) I1 S.bind (by kernel_rfl) (fun a q=>hmo a q.of) (p:= .obj (.ref lp)) (Rv.obj_iff.mpr rfl) fun h2 t2 m2 I2=>?_
 have p2:h2.PlainList lp #[]:=p1.at fun o ho=>m2 lp o ho fun q=>nlp q.of
 refine af (aq (ar (nmG (s:= {s with heap:=h2,toks:=t2}) B.W.toBase I2 hglob (by rw[kk];kernel_rfl) (by decide+kernel) N.cls (callWith_KW (K:=KW g.w.params) (h₀:=g.h₀) B.W.K (keep_cls _) (by rfl) ?_))))
 refine splC (by rfl) (Attribute_name (nmO (s:= {s with heap:=h2,toks:=t2}) (v:= .ref lp) I2 rfl (getAttr_append (s:= {s with heap:=h2,toks:=t2}) p2 (spl0 (evalAll_cons ?_)))))
 have x3:=Ext.push h2 (bmObj lp)
 have I3:=I2.ext x3
 have n3:h2.get? h2.objs.size=none:=get?_size _
 have p3:(h2.push (bmObj lp)).get? h2.objs.size=some (bmObj lp):=bc _ rfl
 dsimp only
 generalize (h2.push (bmObj lp))=h3 at*
 generalize h2.objs.size=bm at*
 refine ac (wpAny_Constant_bool ?_)
 refine ac (aw (ah (evalAll_nil ⟨B.W.K.keeps (I3.base),?_⟩)))
 refine wpAny_call (mk_ok (s:= {s with heap:=h3,toks:=_}) (bm:=bm) (lp:=lp) B.W (okd.lt) I3.base p3 (p2.at fun o ho=>x3 _ _ ho) (x3 _ _ (m2 _ _ (x1 _ _ (X0 _ _ htab)) fun q=>?_)) ?_ N.ls1 N.ls2 N.nsm ?_ fun W a1 a2 h4 t4 eb el wn wrn w4 x4=>?_)
 ·exact absurd (new 211 q.of) (by rw[htab];nofun)
 ·rintro a (rfl|rfl)
  ·cases e:g.h₀.get? a with
   |none=>rfl
   |some o=>have:=I.base a o e;rw[n1]at this;exact nn this
  ·exact g0
 ·have l211:=X0 _ _ htab
  have a1:lp≠211:=fun q=>by rw[q]at n1;rw[n1]at l211;cases l211
  have a2:lp≠bm:=fun q=>by rw[←q]at n3;refine xE p2 fun n ho=>?_;rw[n3]at ho;cases ho
  have a3:211≠bm:=fun q=>by rw[←q]at n3;refine xE (I2.fl 211 (.inl (.inl rfl))) fun o ho=>?_;rw[n3]at ho;cases ho
  simp[a1,a2,a3]
 have F4:∀a,WM W a→¬OwnOf env a:=fun a q z=>by
  rcases wn a q with q|q|q
  ·subst q;exact nlp z
  ·subst q;have:=new _ z;rw[htab]at this;exact sn this
  ·refine xE (I3.fl a (.inl (.inr z))) fun o ho=>?_;rw[q]at ho;cases ho
 have wlp:WM W lp:= .inr (.inl el.symm)
 have I4:Inv g env (setR (r7 m xs) "pieces" (.val (.obj (.ref lp)))) h4 (fun a=>WM W a∨OwnOf env a) (OwnOf env):=I3.grow x4 (fun a q=>?_) (fun a o ho nf=>?_) (fun a q=>?_) (fun Y q=>q) fun Y q=> .inr q
 rotate_left
 ·rcases q with (q|q)|q
  ·exact .inl (.inr (.inr (.inr (.inr (.inr q)))))
  ·exact .inr q
  ·exact .inl (q▸wlp)
 ·rintro (q|q)
  ·rcases wn a q with q|q|q
   ·exact nf (.inr q)
   ·exact nf (.inl (.inl q))
   ·rw[q]at ho;exact nn ho
  ·exact nf (.inl (.inr q))
 ·rcases q with q|q
  ·exact w4.places a q
  ·refine xE (I3.fl a (.inl (.inr q))) fun o ho=>?_;exact⟨o,x4 _ _ ho⟩
 have T4:Here g W {ps:=[],es:=[],ns:=[.ref a1, .ref a2],lv:=1,seen:=false,done:=false} env (setR (r7 m xs) "pieces" (.val (.obj (.ref lp)))) s0h h4:=by
  refine⟨I4,w4,fun a o ho nw=>x4 _ _ (x3 _ _ (m2 _ _ (x1 _ _ (X0 _ _ ho)) fun q=>?_)),new,?_⟩
  ·have:=new a q.of;rw[ho]at this;exact sn this
  ·rintro a (q|q|q)
   ·exact F4 a q
   ·rcases q with q|q|q|q|q
    ·subst q;intro z;refine xE (I3.fl W.wr (.inl (.inr z))) fun o ho=>?_;rw[wrn]at ho;exact nn ho
    ·subst q;rw[eb];intro z;refine xE (I2.fl bm (.inl (.inr z))) fun o ho=>?_;rw[n3]at ho;exact nn ho
    ·subst q;refine xE w4.lda fun n ho=>?_;exact own_not_seq I4 ho rfl
    ·subst q;refine xE w4.t0 fun n ho=>?_;exact own_not_seq I4 ho rfl
    ·subst q;refine xEEEAA w4.tp fun t t' o ho Y9 Y=>?_;refine xE Y fun n hd=>?_;exact own_not_seq I4 ho hd
   ·cases q
 dsimp only
 refine T4.store (s:= {s with heap:=h4,toks:=t4}) base0 S.bind (bk:=scLaw.bk) (by kernel_rfl) (q:= .obj (.ref W.wr)) (Rv.obj_iff.mpr rfl) fun h5 t5 T5 m5=>?_
 have nl:(nameL m xs).length=m:=by simp[nameL]
 have hpl:=(pcs_len (names:=nameL m xs) (tops:=topL m xs) nl (fun k=>by
  rw[List.getD_eq_getElem?_getD]
  by_cases hk:k<m
  ·simp only[nameL,List.getElem?_map,List.getElem?_range hk,Option.map_some,Option.getD_some]
   exact(nameI_ok xs (by lia)).2.2
  ·rw[List.getElem?_eq_none (by lia)];exact Nat.zero_le _) m 0).2
 refine af (ay (ar (nmG (s:= {s with heap:=h5,toks:=t5}) B.W.toBase T5.inv hglob (by rw[kk];kernel_rfl) (by decide+kernel) N.tell
  (callWith_fn (s:= {s with heap:=h5,toks:=t5}) B.W T5.base (by decide) (splC (by rfl) (nmO (s:= {s with heap:=h5,toks:=t5}) (v:= .ref W.wr) T5.inv (by rfl) (splC (by rfl) (nmP (s:= {s with heap:=h5,toks:=t5}) (p:= .list ((nameL m xs).map PV.str)) T5.inv (by rfl) fun vn rn=>splC (by rfl) (nmP (s:= {s with heap:=h5,toks:=t5}) (p:= .list ((topL m xs).map PV.int)) T5.inv (by rfl) fun vt rt=>splC (by rfl) (wpAny_Constant_int (spl0 ⟨T5.base,?_⟩)))))))))) (hi:=S.inter))
 have U5:Up h5 (fun a=>WM W a∨OwnOf env a) h5 (WM W):=fun a o ho nf=>⟨fun q=>nf (.inl q),ho⟩
 refine wpAny_call (tell_ok B.W (tb_ok hm xs) N.set1 N.set2 N.so1 N.so2 N.len1 N.len2 N.rg1 N.rg2 N.tell m 0 (by lia) (by lia) (s:= {s with heap:=h5,toks:=_}) (okd.le (by lia)) T5.base T5.w (rn.up U5 _) (rt.up U5 _) ?_ (by show 2+m≤900;lia) (by show 1+m≤900;lia) (by show 0+m≤900;lia) (Nat.le_refl 1) fun h6 g6 t6 w6 m6 ab6=>?_)
 ·show 0+_≤90000;lia
 have T6:=T5.mod m6 w6 fun e q=>by cases q
 refine af (ay (bj (nmO (s:= {s with heap:=h6,gens:=g6,toks:=t6}) (v:= .ref W.wr) T6.inv rfl (T6.w.getM (s:= {s with heap:=h6,gens:=g6,toks:=t6}) B.W T6.base (f_comment _) (by decide) (fun Y=>rfl)
  (callWith_fn (s:= {s with heap:=h6,gens:=g6,toks:=t6}) B.W T6.base (by decide) (splC (by rfl) ((sound g 8).e [] _ _ (.str (nameI xs (m-1))) env _ _ _ _ {s with heap:=h6,gens:=g6,toks:=t6} _ ?pe3 (okd.lt) T6.inv cn0 fun v7 h7 t7 x7 r7=>spl0 ⟨(T6.ext x7).base,?_⟩)))))) (hi:=S.inter))
 case pe3=>rcases hm with rfl|rfl<;>kernel_rfl
 refine xE (Rv.str_iff.mp r7) fun tk7 Y=>?_;subst Y
 have T7:=T6.ext x7
 refine xAA (nameI_ok xs (k:=m-1) (by lia)) fun nok eok Y=>?_
 refine wpAny_call (comment_ok (s:= {s with heap:=h7,gens:=g6,toks:=t7}) B.W (okd.lt) T7.base T7.w nok eok rfl rfl N.esc ?_ fun h8 t8 w8 m8=>?_)
 ·show([]++pcs (nameL m xs) (topL m xs) m 0).length+2≤100000;rw[List.nil_append];lia
 have T8:=T7.mod m8 w8 fun e q=>by cases q
 refine ag ?_
 refine xEA T8.w.lp fun vs pl rvs=>?_
 rw[el]at pl
 have I8:=T8.inv.shrink (F':=OwnOf env) (fun a q=> .inr q) (fun Y q=>q)
 have rl:Rv g.prog g.w h8 (OwnOf env) (.list ((pagePcs m xs).map PV.str)) (.ref lp):=by
  refine Rv.list_iff.mpr ⟨lp,vs,rfl,nlp,lo1,pl,Rvs.flat ?_ rvs⟩
  rw[List.all_map,bs]
  intro _ _;rfl
 refine H h8 g6 t8 ((I8.objRv (x:= "pieces") (u:= .ref lp) (by kernel_rfl) rl).weak ?_) ?_ ?_ ab6
 ·intro q hq
  simp only[rhoP,GLaw,bz,cj,or_false]at hq
  rcases hq with rfl|rfl|rfl|rfl|rfl|rfl|rfl|rfl|rfl|rfl|rfl|rfl<;>kernel_rfl
 ·intro a o ho ne
  refine T8.old a o ho fun z=>?_
  rcases wn a z with q|q|q
  ·subst q;have:=X0 _ _ ho;rw[n1]at this;exact nn this
  ·exact ne q
  ·have:=x3 _ _ (m2 _ _ (x1 _ _ (X0 _ _ ho)) fun q=>(by have:=new a q.of;rw[ho]at this;exact sn this))
   rw[q]at this;exact nn this
 ·refine xEA T8.w.tab fun ps q Y=>?_;exact⟨ps,q⟩
section
theorem rising_le:∀(l:List Str) (p:Str),risingS p l=true→(p::l).Pairwise (fun a b=>a.cps.toList≤b.cps.toList)
 |[],p,_=>List.pairwise_singleton _ p
 |x::r,p,h=>by
  have h':(!Spec.ltCps x.cps.toList p.cps.toList&&risingS x r)=true:=h
  simp only[bp,Bool.not_eq_true',PyProof.Rows.ltCps_eq,decide_eq_false_iff_not]at h'
  have hle:p.cps.toList≤x.cps.toList:=List.not_lt.mp h'.1
  have ih:=rising_le r x h'.2
  refine List.pairwise_cons.mpr ⟨fun b hb=>?_,ih⟩
  refine Or.elim (bz.mp hb) (fun e=>?_) fun hb=>?_
  ·rw[e];exact hle
  ·exact List.le_trans hle (List.rel_of_pairwise_cons ih hb)
theorem sorted_le{l:List Str}(h:sortedS l=true):l.Pairwise (fun a b=>a.cps.toList≤b.cps.toList):=by
 cases l with
 |nil=>exact List.Pairwise.nil
 |cons x r=>exact rising_le r x h
theorem sorted_eq{a b:List Str}(h1:sortedS a=true)(h2:sortedS b=true)(p:a.Perm b):a=b:=by
 refine List.Perm.eq_of_pairwise (fun x y Y Y hx hy=>?_) (sorted_le h1) (sorted_le h2) p
 have:=List.le_antisymm hx hy
 cases x;cases y
 simp only[Str.mk.injEq]at this⊢
 exact Array.toList_inj.mp this
section
variable{prog:Program}{w:World}{A:Around}{E:Value→Shared→Prop}{s:Shared}
theorem sorted_dict{D:Addr}{kvs:List (Str×Value)}{srt:List Str}{Q:Value→Shared→Prop}(hh:A.handled=none)(lo:(D==sysModules)=false)(hD:s.heap.DictOf (PySem.strKind prog w) D kvs)
  (hp:(kvs.map (·.1)).Perm srt) (hs:sortedS srt=true) (hl:srt.length<60)
  (H:∀h' t' L vs,Ext s.heap h'→(∀a o,s.heap.get? a=some o→a<L)→h'.PlainList L vs→StrsAre vs.toList srt→Q (.ref L) {s with heap:=h',toks:=t'}):wpAny (model prog w) A (call (.builtin "sorted") [.ref D]) Q E s:=by
 refine xE hD.dictAt fun ep hat=>?_
 have hlen:kvs.length=srt.length:=by have:=hp.length_eq;simpa using this
 refine call_function_entry kind_sorted plain_sorted entry_sorted (args_sorted1 _) ?_
 unfold Builtin.«sorted»
 refine ac (m:=checkCount "sorted" 1 1 _) (ah ?_)
 refine ac (kdu_collect (A:=A.in1) (kdl_dict (knd:=PySem.strKind prog w) (kvs:=kvs) (ep:=ep) lo) hh hat (by rw[bb];lia) fun h' tk acc hk hacc=>?_)
 have hal:acc.toList.length=kvs.length:=by rw[cp];exact hacc.1
 have hS:StrsAre acc.toList (kvs.map (·.1)):=by
  have key:∀(vs:List Value) (l:List (Str×Value)),vs.length=l.length→(∀(j:Nat) (v:Value),vs[j]?=some v→∃(k:Str) (x:Value),l[j]?=some (k,x)∧(PySem.strKind prog w).is k v=true)→StrsAre vs (l.map (·.1)):=by
   intro vs
   induction vs with
   |nil=>intro l h1 _;cases l with
    |nil=>exact .nil
    |cons=>simp at h1
   |cons v vs ih=>
    intro l h1 h2
    cases l with
    |nil=>simp at h1
    |cons q l=>
     refine xEEA (h2 0 v rfl) fun k x e1 e2=>?_
     simp only[List.getElem?_cons_zero,Option.some.injEq]at e1
     subst e1
     have hv:∃t,v= .str k t:=by
      have e3:Value.isStrOf k v=true:=e2
      cases v<;>first|(simp[Value.isStrOf]at e3;exact⟨_,by rw[e3]⟩)|(simp[Value.isStrOf]at e3;done)|cases e3
     refine xE hv fun t Y=>?_;clear hv;subst Y
     exact .cons k t (ih l (by simpa using h1) fun j u hj=>h2 (j+1) u hj)
  refine key acc.toList kvs hal fun j v e=>hacc.2 j v (by rw[←Array.getElem?_toList];exact e)
 refine ac (wpAny_newList ?_ (by rw[hal,bb];lia))
 have hoL:(h'.push (seqObj "list" acc.toList.toArray 0)).get? h'.objs.size=some (seqObj "list" acc.toList.toArray 0):=bc _ rfl
 have xL:=Ext.push h' (seqObj "list" acc.toList.toArray 0)
 have nL:h'.get? h'.objs.size=none:=get?_size _
 have szL:(h'.push (seqObj "list" acc.toList.toArray 0)).objs.size=h'.objs.size+1:=Heap.size_push ..
 show wpAny _ _ _ _ _ {s with heap:=h'.push (seqObj "list" acc.toList.toArray 0),toks:=tk}
 refine ac (ak (wpAny_call_entry slot_list_sort ⟨_,hoL,rfl⟩ entry_list_sort (list_sort_treeK (s:= {s with heap:=h'.push (seqObj "list" acc.toList.toArray 0),toks:=tk}) strKind_oneLt hoL hS.keysOf (fun v₁ v₂ rest e=>keyKind_strs (by rw[←e];exact hS)) (by lia) fun st' a1 a2=>⟨_,rfl,?_⟩) (args_list_sort _)))
 refine xEAA (sorted_out_str hS a1 a2) fun ss' b1 b2 b3=>?_
 refine xE (sortedHeap_at (out:=(arrOf st').map (·.2)) hoL) fun e he=>?_
 have es:ss'=srt:=sorted_eq b3 hs (b2.trans hp)
 subst es
 refine ah ⟨_,rfl,H _ tk h'.objs.size ((arrOf st').map (·.2)) (fun a o ho=>?_) ?_ ⟨e,he⟩ b1⟩
 ·have h1:=hk a o ho
  have ne:a≠h'.objs.size:=Nat.ne_of_lt (bh h1)
  exact(sortedHeap_old ne (by rw[szL];exact Nat.lt_succ_of_lt (bh h1))).trans (xL _ _ h1)
 ·exact fun a o ho=>bh (hk a o ho)
end
end
noncomputable def lettersS(m:Nat):List (List Nat):=([97,98,99,100,101,102].take m).map fun c=>[c]
noncomputable def rhoR(m:Nat)(tops:List Int)(ks:List (List Nat))(vs:List PV):Rho:=("many", .val (.int m))::("tops", .val (.list (tops.map PV.int)))::("words", .val (.dict ks vs))::("letters", .val (.list ((lettersS m).map .str)))::GLaw
noncomputable def slots:List Str:=GLaw.map (·.1)++(["many","tops","words","letters","table","below","depths","sizes","lost","k","x","parts","ways"]:List Str)
noncomputable def ret1(r:Option Q.SQ):Bool:=match r with
 |some (.ret (.bool b))=>b
 |_=>false
noncomputable def restB(v:Q.SQ):Bool:=match v with
 | .next v=>match (Q.cLook (Q.layOf 0 slots) "ways").get v with
  |some (.own xs)=>match Q.cW (Q.layOf 0 slots) "ways"with
   |some w=>xs.length.blt 10000&&ret1 (((Q.ev 40).xs scLaw (Q.layOf 0 slots) (lawB.drop 23)).run (w.put v (.val (.list xs))))
   |none=>false
  |_=>false
 |_=>false
noncomputable def restS(m:Nat)(tops:List Int)(ks:List (List Nat))(vs:List PV):Bool:=match Q.runC 40 scLaw slots (rhoR m tops ks vs) ((lawB.drop 14).take 9)with
 |some v=>restB v
 |_=>false
set_option tactic.hygienic true in
theorem rest_ok{m:Nat}{tops:List Int}{ks:List (List Nat)}{vs:List PV}(h:restS m tops ks vs=true):∃ρ2 xs,pxs 40 scLaw (rhoR m tops ks vs) ((lawB.drop 14).take 9)=some (.next ρ2)∧ρ2.lookup (br "ways")=some (.own xs)∧xs.length<10000∧
  pxs 40 scLaw (setR ρ2 "ways" (.val (.list xs))) (lawB.drop 23)=some (.ret (.bool true)):=by
 unfold restS at h
 split at h
 ·rename_i v e
  unfold Q.runC at e
  split at e
  ·rename_i c
   simp only[bp]at c
   have A:=(Q.simSt 40).xs _ _ _ _ _ _ (Q.fillS_sim _ slots (by simpa using c.1) c.2) (Q.slotsOk_layOf slots) e
   unfold restB at h
   split at h
   ·rename_i v'
    refine xEA A fun ρ2 e1 S=>?_
    split at h
    ·rename_i xs e2
     split at h
     ·rename_i w e3
      simp only[bp,Nat.blt_eq]at h
      refine xA h fun h1 h2=>?_
      refine⟨ρ2,xs,e1,S.up _ _ e2,h1,?_⟩
      have S2:=S.put (Q.slotsOk_layOf slots) e3 (.val (.list xs))
      unfold ret1 at h2
      split at h2
      ·rename_i b e4
       subst h2
       exact(Q.simSt 40).xs _ _ _ _ _ _ S2 (Q.slotsOk_layOf slots) e4
      ·cases h2
     ·cases h
    ·cases h
   ·cases h
  ·cases e
 ·cases h
noncomputable def rdT(m:Nat)(tops:List Int):Option (List (List Nat)×List PV):=rdP (pcs (canon m) tops m 0).flatten ⟨[],[],[],false⟩
noncomputable def keysOk(m:Nat)(ks:List (List Nat)):Bool:=ks.isPerm (lettersS m)
noncomputable def treeOk(m:Nat)(tops:List Int):Bool:=(lenP m tops m 0).ble 60&&match rdT m tops with
 |some (ks,vs)=>vs.all flatPV&&keysOk m ks&&restS m tops ks vs
 |none=>false
noncomputable def trees:Nat→List (List Int)
 |0=>[[]]
 |n+1=>(trees n).flatMap fun t=>(List.range (if n=0 then 1 else n)).map fun i=>t++[((i:Nat):Int)]
theorem tr5:(trees 5).all (treeOk 5)=true:=by decide+kernel
theorem tr6a:((trees 6).take 24).all (treeOk 6)=true:=by decide+kernel
theorem tr6b:(((trees 6).drop 24).take 24).all (treeOk 6)=true:=by decide+kernel
theorem tr6c:(((trees 6).drop 48).take 24).all (treeOk 6)=true:=by decide+kernel
theorem tr6d:(((trees 6).drop 72).take 24).all (treeOk 6)=true:=by decide+kernel
theorem tr6e:((trees 6).drop 96).all (treeOk 6)=true:=by decide+kernel
theorem tr_all{m:Nat}(hm:m=5∨m=6):∀t∈trees m,treeOk m t=true:=by
 rcases hm with rfl|rfl
 ·exact bs.mp tr5
 ·have e:trees 6=(trees 6).take 24++(((trees 6).drop 24).take 24++(((trees 6).drop 48).take 24++(((trees 6).drop 72).take 24++(trees 6).drop 96))):=by decide+kernel
  intro t ht
  rw[e]at ht
  simp only[List.mem_append]at ht
  rcases ht with ht|ht|ht|ht|ht
  ·exact bs.mp tr6a t ht
  ·exact bs.mp tr6b t ht
  ·exact bs.mp tr6c t ht
  ·exact bs.mp tr6d t ht
  ·exact bs.mp tr6e t ht
theorem topL_mem(xs:List Int):∀n,topL n xs∈trees n
 |0=>cb ..
 |n+1=>by
  have ih:=topL_mem xs n
  unfold trees
  refine List.mem_flatMap.mpr ⟨_,ih,List.mem_map.mpr ⟨(topI xs n).toNat,?_,?_⟩⟩
  ·unfold topI
   have hp:(0:Int)<if(1:Int)>(n:Int)then 1 else(n:Int):=by split<;>omega
   have h1:=Int.fmod_nonneg_of_pos (drw xs n) hp
   have h2:=Int.fmod_lt_of_pos (drw xs n) hp
   rw[List.mem_range]
   by_cases h:n=0
   ·rw[if_pos h];subst h;rw[if_pos (by decide)]at h1 h2⊢;omega
   ·rw[if_neg h];rw[if_neg (by omega)]at h1 h2⊢;omega
  ·have hp:(0:Int)<if(1:Int)>(n:Int)then 1 else(n:Int):=by split<;>omega
   have h1:0≤topI xs n:=Int.fmod_nonneg_of_pos (drw xs n) hp
   rw[Int.toNat_of_nonneg h1]
   unfold topL
   rw[List.range_succ,List.map_append]
   rfl
theorem Inv.freeze{g:Gnd}{env:Env}{ρ:Rho}{h:Heap}{F M:Addr→Prop}{x:Str}{xs:List PV}(I:Inv g env ρ h F M)(o:OwnIs ρ x)(hx:ρ.lookup x=some (.own xs))(hM:∀a,OwnOf env a→M a):Inv g env (setR ρ x (.val (.list xs))) h (OwnOf env) (OwnOf env):=by
 have V:Up h F h (OwnOf env):=fun a o ho nf=>⟨fun q=>nf (I.sub a (hM a q)),ho⟩
 refine⟨I.kind,I.base,I.low,fun a q=>I.fl a (I.sub a (hM a q)),fun Y q=>q,fun q=>I.glob (I.sub _ (hM _ q)),fun q=>I.blt (I.sub _ (hM _ q)),I.glive,I.loc, .inl rfl,fun n c hc=>⟨.inr ⟨n,hc⟩,(I.cel n c hc).2⟩,I.celd,fun z e hz=>?_⟩
 rw[setR_lookup]at hz
 split at hz
 ·rename_i hh
  cases hz
  subst hh
  refine xA (I.ents _ _ hx) fun Y d=>?_;refine xEEAAAA Y fun a vs v m l c Y=>?_;refine xAAA Y fun n q f r=>?_
  refine⟨⟨.ref a,v,Rv.list_iff.mpr ⟨a,vs,rfl,?_,n,q,r.flat f⟩⟩,d⟩
  rintro (q|⟨n,q⟩)
  ·exact l q
  ·exact c n a q rfl
 ·refine⟨?_,(I.ents z e hz).2⟩
  have ok:=(I.ents z e hz).1
  cases e with
  |val p=>refine xEA ok fun v a b=>?_;exact⟨v,a,b.up V _⟩
  |own ys=>exact absurd (o z ys hz) (by assumption)
  |gv p=>refine xAAE ok fun k f mg Y=>?_;refine xEAA Y fun v n e r=>?_;exact⟨k,f,mg,v,n,e,r.flat f⟩
  |bi f=>exact ok
  |en=>exact ok
  |fn f=>refine xA ok fun k Y=>?_;refine xEEEEAAA Y fun mg a o fd n e ho Y1=>?_;refine xAA Y1 fun nf hd C=>?_;exact⟨k,mg,a,o,fd,n,e,ho,(V _ _ ho nf).1,hd,C⟩
  |lgv p=>refine xA ok fun f Y=>?_;refine xEEAA Y fun mg v n e r=>?_;exact⟨f,mg,v,n,e,r.flat f⟩
  |lbi f=>exact ok
  |len=>exact ok
  |lfn f=>refine xEEEEAAA ok fun mg a o fd n e ho Y=>?_;refine xAA Y fun nf hd C=>?_;exact⟨mg,a,o,fd,n,e,ho,(V _ _ ho nf).1,hd,C⟩
theorem strs_rvs{prog:Program}{w:World}{h:Heap}{F:Addr→Prop}:∀{l:List (List Nat)} {vs:List Value},StrsAre vs (l.map sv)→Rvs prog w h F (l.map PV.str) vs
 |[],vs,h=>by
  have:vs=[]:=by cases h;rfl
  subst this
  exact rfl
 |x::l,vs,h=>by
  obtain⟨t,r,rfl,hr⟩:∃t r,vs= .str (sv x) t::r∧StrsAre r (l.map sv):=by
   cases h with
   |cons y t hr=>exact⟨_,_,rfl,hr⟩
  show Exists _
  exact⟨_,_,rfl,Rv.str_iff.mpr ⟨t,rfl⟩,strs_rvs hr⟩
noncomputable def pageS(m:Nat)(xs:List Int):List Nat:=(pagePcs m xs).flatten
theorem joinPV_flat:∀l:List (List Nat),joinPV (l.map PV.str)=some l.flatten
 |[]=>rfl
 |x::l=>o2_mk (x:=isS (.str x)) rfl (joinPV_flat l) rfl
noncomputable def mthA(e:Expr):Expr:=((calOf e).bind fun z=>sgl z.2.1).getD e
noncomputable def nilC:Expr→Bool
 | .Constant c _ _=>(o1 (constPV c) isS).any (·.isEmpty)
 |_=>false
theorem nilC_ok{n:Nat}{cn:List Str}{ρ:Rho}{e:Expr}(h:nilC e=true):pe (n+1) cn ρ e=some (.str []):=by
 cases e<;>try exact ff h
 exact any_inv h fun x hx e=>o1_inv hx fun q hq hx=>hq.trans (by rw[isS_eq hx,List.isEmpty_iff.mp e])
noncomputable def isJoin(e:Expr):Bool:=(calOf e).any fun z=>z.2.2.1.isEmpty&&(nmOf z.1).isNone&&(atOf z.1).any fun t=>(sgl z.2.1).any fun a=>nilC t.1&&(notCall t.1&&(t.2.2.endLine==z.2.2.2.line)&&plainArg a&&(t.2.1==br "join"))
theorem pe_join{n:Nat}{cn:List Str}{ρ:Rho}{e:Expr}{l:List (List Nat)}(hs:isJoin e=true)(ha:pe (n+1) cn ρ (mthA e)=some (.list (l.map PV.str)))(h1:l.flatten.length<10000)(h2:l.length<10000):pe (n+2) cn ρ e=some (.str l.flatten):=any_inv hs fun z hz k=>by
 rw[bp,bp]at k
 refine any_inv k.2 fun t ht k2=>any_inv k2 fun a hc k2=>?_
 have ea:mthA e=a:=by unfold mthA;rw[hz];exact congrArg (·.getD e) hc
 rw[ea]at ha
 rw[bp,bp,bp]at k2
 rw[calOf_eq hz]
 refine gd_mk k.1.1 (oe_no (Option.isNone_iff_eq_none.mp k.1.2) (o1_mk ht ?_))
 rw[sgl_eq hc]
 refine gd_mk (by rw[k2.2.1.1,k2.2.1.2,k2.2.2];rfl) (o2_mk (o1_mk (nilC_ok k2.1) rfl) (o1_mk ha rfl) ?_)
 exact o1_mk (joinPV_flat l) (gd_mk (by rw[List.length_map,bp,Nat.blt_eq,Nat.blt_eq];exact⟨h1,h2⟩) rfl)
structure Tree(m:Nat)(xs:List Int)(ks:List (List Nat))(vs:List PV):Prop where
 m56:m=5∨m=6
 len:lenP m (topL m xs) m 0≤60
 rd:rdT m (topL m xs)=some (ks,vs)
 fl:vs.all flatPV=true
 perm:ks.Perm (lettersS m)
 rest:restS m (topL m xs) ks vs=true
set_option tactic.hygienic true in
theorem tree_ok{m:Nat}(hm:m=5∨m=6)(xs:List Int):∃ks vs,Tree m xs ks vs:=by
 have h:=tr_all hm _ (topL_mem xs m)
 unfold treeOk at h
 simp only[bp,Nat.ble_eq]at h
 refine xA h fun h1 h2=>?_
 split at h2
 ·rename_i ks vs e
  simp only[bp]at h2
  exact⟨ks,vs,hm,h1,e,h2.1.1,List.isPerm_iff.mp h2.1.2,h2.2⟩
 ·cases h2
theorem names_len{m:Nat}(hm:m=5∨m=6)(xs:List Int)(k:Nat):((nameL m xs).getD k []).length≤2:=by
 rw[List.getD_eq_getElem?_getD]
 by_cases hk:k<m
 ·simp only[nameL,List.getElem?_map,List.getElem?_range hk,Option.map_some,Option.getD_some]
  exact(nameI_ok xs (by lia)).2.2
 ·rw[List.getElem?_eq_none (by simp[nameL];lia)];exact Nat.zero_le _
theorem Tree.page{m:Nat}{xs:List Int}{ks:List (List Nat)}{vs:List PV}(T:Tree m xs ks vs):rdP (pageS m xs) ⟨[],[],[],false⟩=some (ks,vs)∧(pageS m xs).length≤100∧(pagePcs m xs).length≤100:=by
 have hm:=T.m56
 have nl:(nameL m xs).length=m:=by simp[nameL]
 have e:pageS m xs=(pcs (nameL m xs) (topL m xs) m 0).flatten++(10::remark (nameI xs (m-1))):=by
  simp[pageS,pagePcs]
 refine xA (pcs_len (tops:=topL m xs) nl (names_len hm xs) m 0) fun l1 l2=>?_
 have hl:=T.len
 refine⟨?_,?_,?_⟩
 ·rw[e]
  have hL:=pcs_like (names:=nameL m xs) (tops:=topL m xs) (m:=m) (by lia) nl (fun k hk=>by
   rw[List.getD_eq_getElem?_getD]
   simp only[nameL,List.getElem?_map,List.getElem?_range hk,Option.map_some,Option.getD_some]
   exact⟨_,_,iOf_lt _,jOf_lt _,rfl⟩) m 0 (by lia) (p:=10::remark (nameI xs (m-1))) (q:=10::remark (nameI xs (m-1))) (fun Y=>rfl)
  rw[hL]
  exact rdP_stop T.rd
 ·rw[e]
  have:=(nameI_ok xs (k:=m-1) (by lia)).2.2
  simp only[ck,bx,remark,List.length_nil]
  lia
 ·simp only[pagePcs,List.nil_append,ck,bx,List.length_nil]
  lia
theorem joinE_ok{m:Nat}{xs:List Int}{ks:List (List Nat)}{vs:List PV}(T:Tree m xs ks vs):pe 8 [] (rhoP m xs) (callA (stE (nthS 11 lawB)))=some (.str (pageS m xs)):=by
 refine xAA T.page fun Y h1 h2=>?_
 exact pe_join (n:=6) (by kernel_rfl) (by kernel_rfl) (by show(pageS m xs).length<10000;lia) (by lia)
noncomputable def srtS(m:Nat):List Str:=(lettersS m).map sv
theorem srt_ok{m:Nat}(hm:m=5∨m=6):sortedS (srtS m)=true∧(srtS m).length<60∧cmpPV .NotEq (.list ((lettersS m).map PV.str)) (.list ((lettersS m).map PV.str))=some false∧depPV (.list ((lettersS m).map PV.str))≤20:=by
 rcases hm with rfl|rfl
 ·exact⟨by decide+kernel,by decide+kernel,by kernel_rfl,by decide+kernel⟩
 ·exact⟨by decide+kernel,by decide+kernel,by kernel_rfl,by decide+kernel⟩
noncomputable def noOwnB(ρ:Rho):Bool:=ρ.all fun e=>match e.2 with
 | .own _=>false
 |_=>true
theorem noOwnB_no{ρ:Rho}(h:noOwnB ρ=true):NoOwn ρ:=fun x xs hx=>by
 have:=bs.mp h _ (lookup_mem hx)
 cases this
theorem noOwnB_ok{ρ:Rho}(h:noOwnB ρ=true)(o:Str):OwnIs ρ o:=fun x xs hx=>(noOwnB_no h x xs hx).elim
theorem fin_ok{g:Gnd}{mg mb:Str→Option Value}(B:GroundL g mg mb)(N:LawN g mg mb){A:Around}{env:Env}{m:Nat}{xs:List Int}{ks:List (List Nat)}{vs:List PV}{s:Shared}{Q:Flow→Shared→Prop}
  (T:Tree m xs ks vs) (okd:AOk (150+g.K) A) (I:Inv g env (rhoP m xs) s.heap (OwnOf env) (OwnOf env)) (S:SOk g env scLaw) (kk:∀x,env.kindOf x=fnLaw.scope.names.lookup x) (hglob:env.globals=mainNs) (hblt:env.builtins=builtinsNs)
  (hmo:∀a,OwnOf env a→g.h₀.get? a=none) (hN:2845≤s.toks)
  (H:∀h' t',Mod (OwnOf env) s.heap h'→Ext g.h₀ h'→Q (.ret (.bool true)) {s with heap:=h',toks:=t'}):
  wpAny (model g.prog g.w) A (execs (lawB.drop 11) env) Q noE s:=by
 have cn0:Cn env []:=fun Y q=>by cases q
 refine xAA T.page fun pg1 pg2 pg3=>?_
 have pj:=joinE_ok T
 refine af (aq (ar (nmG (s:=s) B.W.toBase I hglob (by rw[kk];kernel_rfl) (by decide+kernel) N.wds (callWith_rd (s:=s) B.R I.base (by decide) (splC (by rfl) (wpAny_keepToks hN ((sound g 8).e [] _ _ (.str (pageS m xs)) env _ _ _ _ s _ pj (okd.lt) I cn0 fun v1 h1 t1 x1 r1 hN1=>spl0 ⟨(I.ext x1).base,?_⟩)))))))
 have I1:=I.ext x1
 refine xE (Rv.str_iff.mp r1) fun tk1 Y=>?_;subst Y
 refine words_ok (s:= {s with heap:=h1,toks:=t1}) B.R N.toRN (okd.lt) I1.base hN1 pg1 pg2 T.fl fun v2 h2 t2 x2 r2=>?_
 have I2:=I1.ext x2
 have r2':Rv g.prog g.w h2 (OwnOf env) (.dict ks vs) v2:=r2.up (fun a o ho nf=>⟨fun q=>nf (I1.fl a q),ho⟩) _
 refine store_own (s:= {s with heap:=h2,toks:=t2}) (bk:=scLaw.bk) I2 S.bind (by kernel_rfl) (fun a q=>hmo a q.of) (p:= .dict ks vs) r2' fun h3 t3 m3 I3=>?_
 have M3:Mod (OwnOf env) s.heap h3:=((x1.mod _).trans (x2.mod _)).trans (m3.mono fun a q=>q.of)
 have own12:OwnIs (setR (rhoP m xs) "words" (.val (.dict ks vs))) scLaw.own:=by
  exact noOwnB_ok (by kernel_rfl) _
 refine af ?_
 refine(soundS g 19).s scLaw _ (nthS 12 lawB) (.next (setR (setR (rhoP m xs) "words" (.val (.dict ks vs))) "letters" (.val (.list ((lettersS m).map PV.str))))) env (OwnOf env) (OwnOf env) A noE {s with heap:=h3,toks:=t3} _ ?e12 (okd.lt) S I3 own12 hmo fun h4 t4 F4 M4 n4=>?_
 case e12=>refine Or.elim T.m56 (fun h=>?_) fun h=>?_<;>(subst h;kernel_rfl)
 have o4:∀a,OwnOf env a→F4 a:=fun a q=>n4.fsub a q
 have I4:Inv g env (setR (setR (rhoP m xs) "words" (.val (.dict ks vs))) "letters" (.val (.list ((lettersS m).map PV.str)))) h4 (OwnOf env) (OwnOf env):=
  (n4.inv.reM (M':=OwnOf env) (noOwnB_no (by kernel_rfl)) (.inl rfl) (fun n c hc=> .inr ⟨n,hc⟩) o4).shrink o4 fun Y q=>q
 have M4':Mod (OwnOf env) s.heap h4:=M3.trans n4.mod
 clear n4
 dsimp only
 refine xAAA (srt_ok T.m56) fun so1 so2 so3 so4=>?_
 refine af (wpAny_If (az (ar (nmB (s:= {s with heap:=h4,toks:=t4}) B.W.toBase I4 hglob hblt (by rw[kk];kernel_rfl) (by decide+kernel) N.so1 N.so2 (callWith_method1 (splC (by rfl) (nmP (s:= {s with heap:=h4,toks:=t4}) (p:= .dict ks vs) I4 (by kernel_rfl) fun v5 r5=>spl0 ?_)))))))
 refine xEEAAAA (Rv.dict_iff.mp r5) fun D kvs Y nD loD hD Y1=>?_;refine xA Y1 fun hks rvs=>?_;subst Y
 refine sorted_dict (s:= {s with heap:=h4,toks:=t4}) okd.handled loD hD (srt:=srtS m) (by rw[hks];exact T.perm.map sv) so1 so2 fun h6 t6 L vl x6 nL pL sL=>?_
 have I6:=I4.ext x6
 have rL:Rv g.prog g.w h6 (OwnOf env) (.list ((lettersS m).map PV.str)) (.ref L):=by
  refine Rv.list_iff.mpr ⟨L,vl,rfl,fun q=>?_,?_,pL,strs_rvs sL⟩
  ·refine xE (I4.fl L q) fun o ho=>?_;exact Nat.lt_irrefl _ (nL L o ho)
  ·refine xEEA I4.low fun a o la ho=>?_
   refine beq_eq_false_iff_ne.mpr fun q=>?_
   have:=nL a o (I4.base _ _ ho)
   rw[q]at this;exact Nat.lt_irrefl _ (Nat.lt_of_le_of_lt la this)
 refine nmP (s:= {s with heap:=h6,toks:=t6}) (p:= .list ((lettersS m).map PV.str)) I6 (by kernel_rfl) fun v7 r7=>?_
 refine cmpPV_ok (s:= {s with heap:=h6,toks:=t6}) so3 (okd.le (by lia)) rL r7 (av ?_)
 show wpAny _ _ (execs [] env) _ _ _
 refine ag ?_
 have M6:Mod (OwnOf env) s.heap h6:=M4'.trans (x6.mod _)
 refine xEEAAA (rest_ok T.rest) fun ρ2 ws p1 p2 p3 p4=>?_
 have I7:Inv g env (rhoR m (topL m xs) ks vs) h6 (OwnOf env) (OwnOf env):=I6.weak (by
  intro q hq
  simp only[rhoR,GLaw,bz,cj,or_false]at hq
  rcases hq with rfl|rfl|rfl|rfl|rfl|rfl|rfl|rfl|rfl|rfl|rfl|rfl|rfl<;>kernel_rfl)
 refine wpAny_execs_app (a:=(lawB.drop 14).take 9) (b:=lawB.drop 23) ?_
 refine(soundS g 40).l scLaw _ _ _ env (OwnOf env) (OwnOf env) A noE {s with heap:=h6,toks:=t6} _ p1 (okd.lt) S I7 (noOwnB_ok (by kernel_rfl) _) hmo fun h8 t8 F8 M8 n8=>?_
 have I8:=n8.inv.freeze n8.own p2 (fun a q=>n8.msub a q)
 have M8':Mod (OwnOf env) s.heap h8:=M6.trans n8.mod
 have o8:=n8.own
 clear n8
 dsimp only
 refine(soundS g 40).l scLaw _ _ _ env (OwnOf env) (OwnOf env) A noE {s with heap:=h8,toks:=t8} _ p4 (okd.lt) S I8 ?own hmo fun v9 h9 t9 m9 fl9 r9=>?_
 case own=>
  intro x ys h
  rw[setR_lookup]at h
  split at h
  ·cases h
  ·exact o8 x ys h
 rw[Rv.bool_iff.mp r9]
 have M9:=M8'.trans m9
 exact H h9 t9 M9 fun a o ho=>M9 a o (I.base a o ho) fun q=>by rw[hmo a q]at ho;cases ho
noncomputable def fnSub:FuncData:=fd (dT 6) (z "_substitution_cost") 3 .none .none (vs "cpy313.traceback" 289) (.ref 44) 0
theorem fnSub_at{g:Gnd}{mg mb:Str→Option Value}(B:GroundR g mg mb):FnAt g 45 fnSub (dT 6).body:=by
 refine⟨⟨ob45 g.w.params,B.R _ _ rfl,rfl⟩,rfl,rfl,rfl,rfl,codeRec_of B.R (by kernel_rfl),rfl,rfl⟩
noncomputable def fnLev:FuncData:=fd (dT 7) (z "_levenshtein_distance") 3 .none .none (vs "cpy313.traceback" 289) (.ref 51) 0
theorem fnLev_at{g:Gnd}{mg mb:Str→Option Value}(B:GroundR g mg mb):FnAt g 52 fnLev (dT 7).body:=by
 refine⟨⟨ob52 g.w.params,B.R _ _ rfl,rfl⟩,rfl,rfl,rfl,rfl,codeRec_of B.R (by kernel_rfl),rfl,rfl⟩
noncomputable def abc:List Nat:=[65,66,67,68,69,70,97,98,99,100,101,102]
noncomputable def lowS(c:Nat):Nat:=if c.blt 97 then c+32 else c
noncomputable def subN(a b:Nat):Int:=if a==b then 0 else if lowS a==lowS b then 1 else 2
noncomputable def f_sub(ps:List PV):Option PV:=o1 (dbl ps) fun z=>o2 (o1 (isS z.1) sgl) (o1 (isS z.2) sgl) fun a b=>gd (abc.elem a&&abc.elem b) (some (.int (subN a b)))
noncomputable def GSub:Rho:=[("_MOVE_COST", .gv (.int 2)),("_CASE_COST", .gv (.int 1))]
noncomputable def subSlots:List Str:=["ch_a","ch_b","_MOVE_COST","_CASE_COST"]
noncomputable def isPI(i:Int):Option PV→Bool
 |some (.int j)=>i==j
 |_=>false
theorem isPI_eq{i:Int}{p:Option PV}(h:isPI i p=true):p=some (.int i):=by
 rcases p with _|q
 ·exact ff h
 ·cases q<;>first|exact ff h|exact congrArg (fun z=>some (PV.int z)) (beq_iff_eq.mp h).symm
theorem sub_tab:(abc.all fun a=>abc.all fun b=>isPI (subN a b) (Q.retP (Q.runC 20 (frameSC fnSub.scope.names "") subSlots (argsR ["ch_a","ch_b"] [.str [a], .str [b]] GSub) (dT 6).body)))=true:=by decide+kernel
theorem subc_ok{g:Gnd}{mg mb:Str→Option Value}(B:GroundR g mg mb){t1 t2:Tok}(h1:mg "_MOVE_COST" =some (.int 2 t1))(h2:mg "_CASE_COST" =some (.int 1 t2)):Contract {g with K:=20+g.K+1} 45 f_sub:=by
 refine contract_of (own:= "") (G:=GSub) (names:=["ch_a","ch_b"]) B.toBase (fnSub_at B) (fun vals h=>?_) rfl ?_ (by kernel_rfl) (by kernel_rfl) (by kernel_rfl) (by kernel_rfl) fun ps p h=>?_
 ·refine xEE (len_2 h) fun v u Y=>?_;subst Y;rfl
 ·intro x e q
  have hm:=lookup_mem q
  simp only[GSub,bz,cj,or_false,Prod.mk.injEq]at hm
  rcases hm with ⟨rfl,rfl⟩|⟨rfl,rfl⟩
  ·exact⟨rfl,_,h1,fun Y Y=>Rv.int_iff.mpr ⟨_,rfl⟩⟩
  ·exact⟨rfl,_,h2,fun Y Y=>Rv.int_iff.mpr ⟨_,rfl⟩⟩
 ·refine o1_inv h fun z hz h=>o2_inv h fun a b ha hb h=>gd_inv h fun c h=>o1_inv ha fun x hx ha=>o1_inv hb fun y hy hb=>?_
  rw[dbl_eq hz,isS_eq hx,isS_eq hy,sgl_eq ha,sgl_eq hb,←bn h]
  rw[bp]at c
  exact⟨rfl,Q.runC_ret (isPI_eq (bs.mp (bs.mp sub_tab a (List.elem_iff.mp c.1)) b (List.elem_iff.mp c.2))),rfl⟩
noncomputable def GLev:Rho:=[("_MOVE_COST", .gv (.int 2)),("_MAX_STRING_SIZE", .gv (.int 40)),("len", .bi .len),("list", .bi .list),("range", .bi .range),("min", .bi .min),("_substitution_cost", .fn f_sub)]
noncomputable def levSlots:List Str:=(["pre","post","row","result","bindex","bchar","distance","minimum","index","substitute","insert_delete","a","b","max_cost"]:List Str)++GLev.map (·.1)
noncomputable def levOk(m:Int)(x y:List Nat):Bool:=isPI (diffS x y) (Q.retP (Q.runC 60 (frameSC fnLev.scope.names "row") levSlots (argsR ["a","b","max_cost"] [.str x, .str y, .int m] GLev) (dT 7).body))
noncomputable def words5:List (List Nat):=((subsL [98,99,100,101]).map (97::·)).map wordS
noncomputable def levRow(m:Int)(ws:List (List Nat))(x:List Nat):Bool:=ws.all fun y=>!compatS x y||levOk m x y
theorem lev5a:((words5.drop 0).take 8).all (levRow 5 words5)=true:=by decide+kernel
theorem lev5b:((words5.drop 8).take 8).all (levRow 5 words5)=true:=by decide+kernel
theorem lev6a:((words6.drop 0).take 4).all (levRow 6 words6)=true:=by decide+kernel
theorem lev6b:((words6.drop 4).take 4).all (levRow 6 words6)=true:=by decide+kernel
theorem lev6c:((words6.drop 8).take 4).all (levRow 6 words6)=true:=by decide+kernel
theorem lev6d:((words6.drop 12).take 4).all (levRow 6 words6)=true:=by decide+kernel
theorem lev6e:((words6.drop 16).take 4).all (levRow 6 words6)=true:=by decide+kernel
theorem lev6f:((words6.drop 20).take 4).all (levRow 6 words6)=true:=by decide+kernel
theorem lev6g:((words6.drop 24).take 4).all (levRow 6 words6)=true:=by decide+kernel
theorem lev6h:((words6.drop 28).take 4).all (levRow 6 words6)=true:=by decide+kernel
theorem lev5_all:∀x∈words5,levRow 5 words5 x=true:=by
 have e:words5=(words5.drop 0).take 8++(words5.drop 8).take 8:=by decide+kernel
 intro x hx
 rw[e]at hx
 simp only[List.mem_append]at hx
 refine Or.elim hx (fun hx=>?_) fun hx=>?_
 ·exact bs.mp lev5a x hx
 ·exact bs.mp lev5b x hx
theorem lev6_all:∀x∈words6,levRow 6 words6 x=true:=by
 have e:words6=(words6.drop 0).take 4++((words6.drop 4).take 4++((words6.drop 8).take 4++((words6.drop 12).take 4++((words6.drop 16).take 4++((words6.drop 20).take 4++((words6.drop 24).take 4++(words6.drop 28).take 4)))))):=by decide+kernel
 intro x hx
 rw[e]at hx
 simp only[List.mem_append]at hx
 refine Or.elim hx (fun hx=>?_) fun Y=>Or.elim Y (fun hx=>?_) fun Y=>Or.elim Y (fun hx=>?_) fun Y=>Or.elim Y (fun hx=>?_) fun Y=>Or.elim Y (fun hx=>?_) fun Y=>Or.elim Y (fun hx=>?_) fun Y=>Or.elim Y (fun hx=>?_) fun hx=>?_
 ·exact bs.mp lev6a x hx
 ·exact bs.mp lev6b x hx
 ·exact bs.mp lev6c x hx
 ·exact bs.mp lev6d x hx
 ·exact bs.mp lev6e x hx
 ·exact bs.mp lev6f x hx
 ·exact bs.mp lev6g x hx
 ·exact bs.mp lev6h x hx
theorem isWord_mem{x:List Nat}(h:isWord x=true):x∈words6∧(noF x=true→x∈words5):=by
 rcases x with _|⟨a,_|⟨b,_|⟨c,_|⟨d,_|⟨e,_|⟨f,_|⟨g,x⟩⟩⟩⟩⟩⟩⟩<;>try exact ff h
 ·replace h:(a==65&&(b==66||b==98)&&(c==67||c==99)&&(d==68||d==100)&&(e==69||e==101)&&(f==70||f==102))=true:=h
  simp only[bp,Bool.or_eq_true,beq_iff_eq]at h
  obtain⟨⟨⟨⟨⟨rfl,hb⟩,hc⟩,hd⟩,he⟩,hf⟩:=h
  have key:∀b∈[66,98],∀c∈[67,99],∀d∈[68,100],∀e∈[69,101],∀f∈[70,102],words6.elem [65,b,c,d,e,f]=true∧(noF [65,b,c,d,e,f]=true→words5.elem [65,b,c,d,e,f]=true):=by decide+kernel
  obtain⟨k1,k2⟩:=key b (by simpa using hb) c (by simpa using hc) d (by simpa using hd) e (by simpa using he) f (by simpa using hf)
  exact⟨by simpa using k1,fun q=>by simpa using k2 q⟩
theorem lev_ok{g:Gnd}{mg mb:Str→Option Value}(B:GroundR g mg mb){t1 t2:Tok}(h1:mg "_MOVE_COST" =some (.int 2 t1))(h2:mg "_MAX_STRING_SIZE" =some (.int 40 t2))(ln1:mg "len" =none)(ln2:mb "len" =some (.builtin "len"))(ls1:mg "list" =none)(ls2:mb "list" =some (.type "list"))
  (rg1:mg "range" =none) (rg2:mb "range" =some (.type "range")) (mn1:mg "min" =none) (mn2:mb "min" =some (.builtin "min")) (sb:mg "_substitution_cost" =some (.ref 45)) (C:Contract g 45 f_sub):Contract {g with K:=60+g.K+1} 52 f_levS:=by
 refine contract_of (own:= "row") (G:=GLev) (names:=["a","b","max_cost"]) B.toBase (fnLev_at B) (fun vals h=>?_) rfl ?_ (by kernel_rfl) (by kernel_rfl) (by kernel_rfl) (by kernel_rfl) fun ps p h=>?_
 ·obtain⟨v,u,w,rfl⟩:=len_3 h;rfl
 ·intro x e q
  have hm:=lookup_mem q
  simp only[GLev,bz,cj,or_false,Prod.mk.injEq]at hm
  rcases hm with ⟨rfl,rfl⟩|⟨rfl,rfl⟩|⟨rfl,rfl⟩|⟨rfl,rfl⟩|⟨rfl,rfl⟩|⟨rfl,rfl⟩|⟨rfl,rfl⟩
  ·exact⟨rfl,_,h1,fun Y Y=>Rv.int_iff.mpr ⟨_,rfl⟩⟩
  ·exact⟨rfl,_,h2,fun Y Y=>Rv.int_iff.mpr ⟨_,rfl⟩⟩
  ·exact⟨ln1,ln2⟩
  ·exact⟨ls1,ls2⟩
  ·exact⟨rg1,rg2⟩
  ·exact⟨mn1,mn2⟩
  ·obtain⟨o,q1,q2⟩:=(fnSub_at B).at_;exact⟨45,o,_,sb,q1,q2,C⟩
 ·refine o1_inv h fun z hz h=>o2_inv h fun x y hx hy h=>o1_inv h fun m hm h=>gd_inv h fun c h=>?_
  rw[tpl_eq hz,isS_eq hx,isS_eq hy,isI_eq hm,←bn h]
  simp only[bp,Bool.or_eq_true,beq_iff_eq]at c
  obtain⟨⟨⟨cx,cy⟩,cc⟩,cm⟩:=c
  obtain⟨x6,x5⟩:=isWord_mem cx
  obtain⟨y6,y5⟩:=isWord_mem cy
  have key:levOk m x y=true:=by
   rcases cm with rfl|⟨⟨rfl,fx⟩,fy⟩
   ·have:=bs.mp (lev6_all x x6) y y6
    rw[cc]at this;exact this
   ·have:=bs.mp (lev5_all x (x5 fx)) y (y5 fy)
    rw[cc]at this;exact this
  exact⟨rfl,Q.runC_ret (isPI_eq key),rfl⟩
theorem law_ok{g:Gnd}{mg mb:Str→Option Value}(B:GroundL g mg mb)(N:LawN g mg mb){A:Around}{s:Shared}{xs:List Int}{v:Value}{Q:Value→Shared→Prop}
  (okd:AOk (200+g.K) A) (base:Ext g.h₀ s.heap) (hN:2845≤s.toks) (htab:s.heap.get? 211=some (tabObj #[])) (g0:g.h₀.get? 211=none) (hv:Rv g.prog g.w s.heap (fun a=>a=211) (.list (xs.map PV.int)) v) (hx:xs.length≤9000) (hb:AllBare s.gens)
  (H:∀h' g' t',(∀a o,s.heap.get? a=some o→a≠211→h'.get? a=some o)→(∃ps,h'.get? 211=some (tabObj ps))→AllBare g'→Q (.bool true) {s with heap:=h',gens:=g',toks:=t'}):
  wpAny (model g.prog g.w) A (call (.ref 280) [v]) Q noE s:=by
 refine wpAny_call (enter_fnT (k:=199+g.K) (F:=fun a=>a=211) (own:= "ways") (G:=GLaw) (names:=["script"]) (ps:=[.list (xs.map PV.int)]) (vals:=[v]) B.W.toBase (fnLaw_at B) rfl ?hG (by kernel_rfl) (by kernel_rfl) (by kernel_rfl) (by kernel_rfl)
   (okd.le (by lia)) base (fun a q=>⟨_,q▸htab⟩) (by decide) (by decide) (fun b q=>q▸g0) (BindsTo.of_eq (by rfl)) ?rs rfl fun env h t hT fr okd=>?_)
 case hG=>
  have at_:∀{a:Addr} {fd:FuncData} {body:List Stmt},FnAt g a fd body→∃o,g.h₀.get? a=some o∧o.data= .func fd:=fun X=>X.at_
  intro x e q
  have hm:=lookup_mem q
  simp only[GLaw,bz,cj,or_false,Prod.mk.injEq]at hm
  rcases hm with ⟨rfl,rfl⟩|⟨rfl,rfl⟩|⟨rfl,rfl⟩|⟨rfl,rfl⟩|⟨rfl,rfl⟩|⟨rfl,rfl⟩|⟨rfl,rfl⟩|⟨rfl,rfl⟩|⟨rfl,rfl⟩
  ·exact⟨N.len1,N.len2⟩
  ·exact⟨N.rg1,N.rg2⟩
  ·exact⟨N.sm1,N.sm2⟩
  ·exact⟨N.en1,N.en2⟩
  ·exact⟨N.ls1,N.ls2⟩
  ·refine xEA (at_ (fnLw_at B.R)) fun o h1 h2=>?_;exact⟨268,o,_,N.lw,h1,h2,N.c268'⟩
  ·refine xEA (at_ (fnLev_at B.R)) fun o h1 h2=>?_;exact⟨52,o,_,N.lev,h1,h2,N.c52⟩
  ·exact⟨N.mx1,N.mx2⟩
  ·exact⟨N.ch1,N.ch2⟩
 case rs=>exact .cons hv .nil
 have hN0:2845≤t:=Nat.le_trans hN hT
 have kk:∀x,env.kindOf x=fnLaw.scope.names.lookup x:=fun x=>by rw[←fr.scope];rfl
 have hmo:∀a,OwnOf env a→g.h₀.get? a=none:=fun a q=>by
  cases e:g.h₀.get? a with
  |none=>rfl
  |some o=>have:=base a o e;rw[fr.new a q]at this;cases this
 have hm:=many_56 xs
 refine xEE (tree_ok hm xs) fun ks vs T=>?_
 have S:SOk g env scLaw:=fr.sok
 refine wpAny_execs_app (a:=lawB.take 7) (b:=lawB.drop 7) ?_
 refine wpAny_keepToks (s:= {s with heap:=h,toks:=t}) hN0 ((soundS g 40).l scLaw _ _ _ env _ _ _ noE {s with heap:=h,toks:=t} _ (lines_ok (xs:=xs) (by lia)) (okd.lt) S fr.inv (noOwnB_ok (by kernel_rfl) _) hmo fun h1 t1 F1 M1 n1 hN1=>?_)
 have I1:Inv g env (r7 (manyS xs) xs) h1 (fun a=>a=211∨OwnOf env a) (OwnOf env):=
  (n1.inv.reM (M':=OwnOf env) (noOwnB_no (by kernel_rfl)) (.inl rfl) (fun n c hc=> .inr ⟨n,hc⟩) fun a q=>n1.fsub a (.inr q)).shrink (fun a q=>n1.fsub a q) fun Y q=> .inr q
 have X1:Ext s.heap h1:=fun a o ho=>n1.mod a o (fr.ext a o ho) fun q=>by rw[fr.new a q]at ho;cases ho
 clear n1
 dsimp only
 refine wpAny_execs_app (a:=(lawB.drop 7).take 4) (b:=lawB.drop 11) ?_
 refine wpAny_keepToks (s:= {s with heap:=h1,toks:=t1}) hN1 (mid_ok (s:= {s with heap:=h1,toks:=t1}) (s0h:=s.heap) B N hm T.len (okd.lt) I1 S kk fr.glob fr.blt base X1 fr.new htab g0 fun h2 g2 t2 I2 old2 tab2 ab2 hN2=>?_)
 dsimp only
 refine fin_ok (s:= {s with heap:=h2,gens:=g2,toks:=t2}) B N T (okd.lt) I2 S kk fr.glob fr.blt hmo hN2 fun h3 t3 m3 b3=>?_
 refine H h3 g2 t3 (fun a o ho ne=>m3 a o (old2 a o ho ne) fun q=>by rw[fr.new a q]at ho;exact nn ho) ?_ (ab2 hb)
 refine xE tab2 fun ps q=>?_
 exact⟨ps,m3 _ _ q fun z=>by have:=fr.new _ z;rw[htab]at this;exact sn this⟩
section
noncomputable def mgE(P:Params):Str→Option Value:=(H1 P).nsMap mainGlobals
noncomputable def mbE(P:Params):Str→Option Value:=(H1 P).nsMap builtinsNs
theorem h1_get{P:Params}{a:Addr}{o:Obj}(e:(obs P)[a]?=some o):(H1 P).get? a=some o:=by
 have nf:(obs P).all (fun o=>match o.data with| .freed=>false|_=>true)=true:=by kernel_rfl
 have hm:=bs.mp nf o (List.mem_of_getElem? e)
 have e':(H1 P).objs[a]?=some o:=by show(obs P).toArray[a]?=some o;simpa using e
 unfold Heap.get?
 rw[e']
 obtain⟨c,d,dt,sl⟩:=o
 cases dt<;>first|rfl|(simp at hm)
theorem nlook_mem{α:Type}:∀{l:List (Nat×α)} {a:Nat} {o:α},l.lookup a=some o→(a,o)∈l
 |(b,u)::r,a,o,e=>by
  rw[bt]at e
  split at e
  ·rename_i h
   cases e
   rw[eq_of_beq h]
   exact .head _
  ·exact .tail _ (nlook_mem e)
theorem frag_in{P:Params}{K:Frag}(h:K.map (fun x=>(obs P)[x.1]?)=K.map (fun x=>some x.2))(n:K.all (fun x=>x.1 !=211)=true){hp:Heap}(k:∀b o,b≠211→(H1 P).get? b=some o→hp.get? b=some o):K.In hp:=by
 intro a o e
 have hm:=nlook_mem e
 have h1:=List.map_inj_left.mp h _ hm
 have h2:=bs.mp n _ hm
 exact k a o (by simpa using h2) (h1_get h1)
section
variable(P:Params)
theorem kw_in:(KW P).map (fun x=>(obs P)[x.1]?)=(KW P).map (fun x=>some x.2):=by kernel_rfl
theorem krd_in:(KRd P).map (fun x=>(obs P)[x.1]?)=(KRd P).map (fun x=>some x.2):=by kernel_rfl
theorem klaw_in:(KLaw P).map (fun x=>(obs P)[x.1]?)=(KLaw P).map (fun x=>some x.2):=by kernel_rfl
theorem k_statNs:(H1 P).isNs cStatics=true:=by kernel_rfl
theorem k_lim:(H1 P).nsMap cStatics "sys.recursionlimit" =none:=by kernel_rfl
end
structure Above(w:World)(hp:Heap):Prop where
 k:∀b o,b≠211→(H1 w.params).get? b=some o→hp.get? b=some o
theorem base_ok{w:World}{hp:Heap}(X:Above w hp)(K:Nat):Base ⟨pw,w,hp,K⟩ (mgE w.params) (mbE w.params) where
 ng:=(Heap.Ns.of_isNs (k_mainNs w.params)).at' fun o e=>X.k _ o (by decide) e
 nb:=(Heap.Ns.of_isNs (k_bltNs w.params)).at' fun o e=>X.k _ o (by decide) e
 lim:=⟨_,(Heap.Ns.of_isNs (k_statNs w.params)).at' fun o e=>X.k _ o (by decide) e,k_lim w.params⟩
 low:=⟨280,ob280 w.params,by decide,X.k _ _ (by decide) (h1_get rfl)⟩
theorem ground_ok{w:World}{hp:Heap}(X:Above w hp)(K:Nat):GroundL ⟨pw,w,hp,K⟩ (mgE w.params) (mbE w.params) where
 W:= {base_ok X K with
  K:=frag_in (kw_in w.params) (by kernel_rfl) X.k
  bi:=by
   refine⟨4,ob4 w.params,by kernel_rfl,by decide,by decide,by decide,X.k _ _ (by decide) (h1_get rfl),by kernel_rfl,by kernel_rfl,by kernel_rfl⟩}
 R:= {base_ok X K with R:=frag_in (krd_in w.params) (by kernel_rfl) X.k}
 L:=frag_in (klaw_in w.params) (by kernel_rfl) X.k
end
theorem lw_ways:ways6.all (fun x=>(f_lw [.str x]).any fun p=>(isS p).any fun y=>y==wordS x)=true:=by decide+kernel
theorem Contract.less{g:Gnd}{a:Addr}{f f':List PV→Option PV}(h:∀ps p,f' ps=some p→f ps=some p)(x:Contract g a f):Contract g a f':=
 fun A E s F ps vs p Q ok base fl rs hp H=>x A E s F ps vs p Q ok base fl rs (h _ _ hp) H
theorem lwS_lw(ps:List PV)(p:PV)(h:f_lwS ps=some p):f_lw ps=some p:=by
 refine o1_inv h fun x hx h=>gd_inv h fun hw h=>o1_inv hx fun q hq hx=>?_
 rw[sgl_eq hq,isS_eq hx,←bn h]
 have:=bs.mp lw_ways x (List.elem_iff.mp hw)
 exact any_inv (x:=f_lw [.str x]) this fun p hp k=>any_inv k fun y hy k=>by rw[hp,isS_eq hy,beq_iff_eq.mp k]
theorem lawN_ok{w:World}{hp:Heap}(X:Above w hp):LawN ⟨pw,w,hp,100⟩ (mgE w.params) (mbE w.params) where
 ord1:=by kernel_rfl
 ord2:=by kernel_rfl
 len1:=by kernel_rfl
 len2:=by kernel_rfl
 b3:=by kernel_rfl
 m3:=by kernel_rfl
 tok:=by kernel_rfl
 b1:=by kernel_rfl
 eof:=by kernel_rfl
 lw:=by kernel_rfl
 c70:=Contract.mono (K:=12+0) (by decide) (b1_ok (ground_ok X 0).R (by kernel_rfl) (by kernel_rfl) (by kernel_rfl))
 c126:=Contract.mono (K:=8+0+1) (by decide) (eof_ok (ground_ok X 0).R (tk:=2355) (by kernel_rfl))
 c268:=Contract.mono (K:=16+0+1) (by decide) (lw_ok (ground_ok X 0).R)
 set1:=by kernel_rfl
 set2:=by kernel_rfl
 so1:=by kernel_rfl
 so2:=by kernel_rfl
 rg1:=by kernel_rfl
 rg2:=by kernel_rfl
 ls1:=by kernel_rfl
 ls2:=by kernel_rfl
 sm1:=by kernel_rfl
 sm2:=by kernel_rfl
 en1:=by kernel_rfl
 en2:=by kernel_rfl
 mx1:=by kernel_rfl
 mx2:=by kernel_rfl
 ch1:=by kernel_rfl
 ch2:=by kernel_rfl
 tell:=by kernel_rfl
 cls:=by kernel_rfl
 wds:=by kernel_rfl
 esc:=by kernel_rfl
 nsm:=by kernel_rfl
 lev:=by kernel_rfl
 c52:=Contract.mono (K:=60+21+1) (by decide) (lev_ok (ground_ok X 21).R (t1:=293) (t2:=291) (by kernel_rfl) (by kernel_rfl) (by kernel_rfl) (by kernel_rfl) (by kernel_rfl) (by kernel_rfl) (by kernel_rfl) (by kernel_rfl) (by kernel_rfl) (by kernel_rfl) (by kernel_rfl) (subc_ok (t1:=293) (t2:=295) (ground_ok X 0).R (by kernel_rfl) (by kernel_rfl)))
 c268':=Contract.less lwS_lw (Contract.mono (K:=16+0+1) (by decide) (lw_ok (ground_ok X 0).R))
theorem lay_ints{R:WRecords}{cl:Str→Option Addr}{P:Params}{ord:List DictEntry→List DictEntry}{prog:Program}{w:World}{h:Heap}{F:Addr→Prop}:∀(xs:List Int) (s:Shared),∃vs,layAllW R cl P ord (xs.map WData.int) s=some (vs,{s with toks:=s.toks+xs.length})∧Rvs prog w h F (xs.map PV.int) vs
 |[],s=>⟨[],rfl,rfl⟩
 |x::xs,s=>by
  refine xEA (lay_ints (R:=R) (cl:=cl) (P:=P) (ord:=ord) (prog:=prog) (w:=w) (h:=h) (F:=F) xs {s with toks:=s.toks+1}) fun vs e r=>?_
  refine⟨.int x s.toks::vs,?_,?_⟩
  ·simp only[List.map_cons,layAllW,layW,e,bx]
   rw[show s.toks+1+xs.length=s.toks+(xs.length+1) by lia]
  ·show Exists _
   exact⟨_,_,rfl,⟨_,rfl⟩,r⟩
theorem items_int{R:WRecords}:∀{ds:List WData},WShape.hasItems R ds .int=true→∃xs:List Int,ds=xs.map WData.int
 |[],_=>⟨[],rfl⟩
 |d::ds,h=>by
  simp only[WShape.hasItems,bp]at h
  refine xE (hasW_int h.1) fun i Y=>?_;subst Y
  refine xE (items_int h.2) fun xs Y=>?_;subst Y
  exact⟨i::xs,rfl⟩
noncomputable def rwL:OpenLaw:=PySem.Challenge.rw_kl0465_01
noncomputable def cwL:ClaimW:=PySem.Challenge.rw_kl0465_01.row.toRowW.claim
theorem holds_and{R:WRecords}{a b:WTm}{e:WCtx}(h:WTm.holds R (.and a b) e=true)(hx:WTm.value R a e=some (.bool false)):False:=by
 have e1:WTm.value R (.and a b) e=some (.bool false):=by
  show(match WTm.value R a e with
   |some (.bool false)=>some (WData.bool false)
   |some (.bool true)=>(match WTm.value R b e with
    |some (.bool x)=>some (WData.bool x)
    |_=>none)
   |_=>none)=_
  rw[hx]
 have e2:(match WTm.value R (.and a b) e with
  |some (.bool true)=>true
  |_=>false)=true:=h
 rw[e1]at e2
 exact ff e2
theorem pre_len{xs:List Int}(h:rwL.row.toRowW.claim.pre [.list (xs.map WData.int)]=true):xs.length≤63:=by
 have h:=(pre_splitW h).2
 have e:rwL.row.toRowW.pre= .and (.not (.lt (.lit (.int 63)) (.len (.arg 0)))) (.lit (.bool true)):=rfl
 rw[e]at h
 by_cases q:xs.length≤63
 ·exact q
 ·refine(holds_and h ?_).elim
  have z:less? (WData.int 63) (WData.int ↑xs.length)=some true:=by
   show some (decide ((63:Int)< ↑xs.length))=some true
   rw[decide_eq_true (by lia)]
  show(match (less? (WData.int 63) (WData.int ((xs.map WData.int).length:Nat))).map WData.bool with
   |some (.bool b)=>some (WData.bool (!b))
   |_=>none)=_
  rw[List.length_map,z]
  rfl
theorem ints_of{args:List WData}(h:rwL.row.toRowW.claim.pre args=true):∃xs:List Int,args=[.list (xs.map WData.int)]∧xs.length≤63:=by
 have k:=(pre_splitW h).1
 have e:rwL.row.toRowW.args=[.list .int]:=rfl
 rw[e]at k
 refine xEEAA (hasAllW_cons k) fun d r Y hd hr=>?_;subst Y
 obtain rfl:=hasAllW_nil hr
 refine xEA (hasW_list hd) fun ds Y hi=>?_;subst Y
 refine xE (items_int hi) fun xs Y=>?_;subst Y
 exact⟨xs,rfl,pre_len h⟩
theorem caller_ok:AOk 300 callerA:=⟨rfl,by decide,by decide⟩
noncomputable def SC1(w:World)(os:OsState)(vs:List Value)(t:Nat):Shared:=⟨(H1 w.params).push {cls:= .type "list",data:= .seq vs.toArray}, #[],{},t,os⟩
theorem h1_size(P:Params):(H1 P).objs.size=281:=by
 show(obs P).toArray.size=281
 have hl:(obs P).length=281:=by kernel_rfl
 simpa using hl
theorem tab_code(P:Params):isCodeTable (H1 P) 211:=⟨213,ob213 P,_,h1_get rfl,rfl,rfl,by kernel_rfl⟩
theorem call_law(w:World)(os:OsState){xs:List Int}{vs:List Value}{t:Nat}(hx:xs.length≤63)(ht:2845≤t)(hr:∀h F,Rvs pw w h F (xs.map PV.int) vs){Q:Value→Shared→Prop}
  (H:∀s',OldK (SC1 w os vs t).heap s'.heap→s'.os=os→AllBare s'.gens→Q (.bool true) s'):
  wpAny (model pw w) callerA (PySem.call (.ref 280) [.ref 281]) Q noE (SC1 w os vs t):=by
 have k1:∀b o,(H1 w.params).get? b=some o→(SC1 w os vs t).heap.get? b=some o:=fun b o e=>bd _ e
 have X:Above w ((SC1 w os vs t).heap.hide 211):=⟨fun b o nb e=>(Heap.hide_ne _ nb).trans (k1 b o e)⟩
 have t211:(SC1 w os vs t).heap.get? 211=some (tabObj #[]):=k1 _ _ (h1_get (by kernel_rfl))
 have me:(SC1 w os vs t).heap.get? 281=some {cls:= .type "list",data:= .seq vs.toArray}:=by
  show((H1 w.params).push _).get? 281=_
  rw[←h1_size w.params]
  exact bc _ rfl
 refine law_ok (g:=⟨pw,w,(SC1 w os vs t).heap.hide 211,100⟩) (A:=callerA) (s:=SC1 w os vs t) (xs:=xs) (v:= .ref 281) (ground_ok X 100) (lawN_ok X) caller_ok (fun a o e=>Heap.of_hide e) ht t211 (Heap.hide_self _ _) ?_ (by lia) (by intro g hg;simp[SC1]at hg) ?_
 ·show Exists _
  exact⟨281,vs.toArray,rfl,by decide,by decide,⟨_,me⟩,by simpa using hr _ _⟩
 ·intro h' g' t' old tab ab
  refine H _ ?_ rfl ab
  have cod:isCodeTable (SC1 w os vs t).heap 211:=by
   refine xEEEA (tab_code w.params) fun c o ws a b=>?_
   exact⟨c,o,ws,k1 _ _ a,b⟩
  refine xE tab fun ps q=>?_
  refine⟨fun b o e=>?_,fun b o e=>?_⟩
  ·by_cases hb:b=211
   ·subst hb
    rw[t211]at e
    cases e
    exact .inr (.inl ⟨cod,rfl, #[],ps,rfl,by rw[q];simp⟩)
   ·exact .inl (old b o e hb)
  ·by_cases hb:b=211
   ·subst hb
    exact⟨_,q⟩
   ·exact⟨o,old b o e hb⟩
theorem the_def:pw.theDef "law" =some (fnLaw.params,lawB,fnLaw.scope):=by kernel_rfl
theorem pinned_law(w:World)(os:OsState):isTheDefsW pw (SB1 w os).heap "law" :=by
 refine⟨280,ob280 w.params,fnLaw,fnLaw.params,lawB,fnLaw.scope,(Pin.globalOf_eq (k_mainNs w.params) _).trans (by kernel_rfl),h1_get rfl,rfl,the_def,by kernel_rfl,by kernel_rfl,rfl,rfl,rfl,by kernel_rfl,by kernel_rfl,by kernel_rfl, .inl ⟨by kernel_rfl,by kernel_rfl⟩,[],by kernel_rfl, .inl ⟨rfl,by kernel_rfl⟩⟩
theorem opens_well:opensWell pw=true:=by kernel_rfl
theorem promised_law:rwL.row.toRowW.promised:=⟨[.list []],by kernel_rfl,by kernel_rfl⟩
theorem post_ok(xs:List WData):rwL.row.toRowW.claim.post [.list xs] (.bool true) [.list xs]=true:=by kernel_rfl
theorem law_name:(H1 (P:Params)).nsMap mainGlobals "law" =some (.ref 280):=by kernel_rfl
theorem law_holds:cwL.HoldsOpenBy (callStub "law") ["law"] rwL.own false:=by
 refine⟨⟨⟨rfl,rfl,rfl,rfl,rfl,by decide+kernel⟩,opens_well,rfl⟩,promised_law.witness,fun w=>⟨(behind0 w).1,fun s' hs'=>?_⟩⟩
 refine xE ((behind0 w).2 s' hs') fun os hf=>?_
 refine⟨SB0 w os,hf,rfl,SB1 w os,top_ran w os,fun n hn=>?_,fun x hx=>(nomatch hx),fun x hx=>(nomatch hx),?_⟩
 ·rw[cf.mp hn]
  exact pinned_law w os
 refine ClaimW.callFrom_of_specG (c:=cwL) (s:=SB1 w os) (tree:=fun vs=>do match ←nsGet mainNs "law"with
   |some f=>do ret (←PySem.call f vs)
   |none=>unsupported "claim.caller:no-such-global") ⟨rfl,rfl⟩ rfl fun args hpre hlay ord hord=>?_
 refine xEA (ints_of hpre) fun xs Y hx=>?_;subst Y
 refine xEA (lay_ints (R:=[]) (cl:=classAt (SB1 w os).heap) (P:=w.params) (ord:=ord) (prog:=pw) (w:=w) (h:=(SB1 w os).heap) (F:=fun Y=>False) xs (SB1 w os)) fun us eu Y=>?_
 have hr:∀h F,Rvs pw w h F (xs.map PV.int) us:=fun h F=>by
  refine xEA (lay_ints (R:=[]) (cl:=classAt (SB1 w os).heap) (P:=w.params) (ord:=ord) (prog:=pw) (w:=w) (h:=h) (F:=F) xs (SB1 w os)) fun us' eu' r=>?_
  rw[eu]at eu'
  cases eu'
  exact r
 have hlaid:layAllW [] (classAt (SB1 w os).heap) w.params ord [.list (xs.map WData.int)] (SB1 w os)=some ([.ref 281],SC1 w os us (2845+xs.length)):=by
  simp only[layAllW,layW,eu]
  have z:(SB1 w os).heap.objs.size=281:=h1_size w.params
  rw[z]
  rfl
 refine⟨_,_,hlaid,?_⟩
 refine xEAA (reads_layAllW hord _ _ _ hlaid hlay _ (fun Y Y e=>e)) fun as hrd hin hold=>?_
 have L:Laid [] w (SB1 w os) (SC1 w os us (2845+xs.length)) [.list (xs.map WData.int)] [.ref 281] as:=⟨⟨ord,hord,hlaid⟩,hrd,hin,hold,layAllW_keeps _ _ _ hlaid,rfl,rfl⟩
 have hg:(SC1 w os us (2845+xs.length)).heap.Ns mainNs (mgE w.params):=(Heap.Ns.of_isNs (k_mainNs w.params)).keeps fun Y Y e=>bd _ e
 refine ac (wpAny_nsGet hg ?_)
 rw[show mgE w.params "law" =some (.ref 280)from law_name]
 refine ac (aj (call_law w os hx (Nat.le_add_right _ _) hr (Q:=fun v s'=>v= .bool true∧OldK (SC1 w os us (2845+xs.length)).heap s'.heap∧s'.os=os∧AllBare s'.gens) fun s' a b c=>⟨rfl,a,b,c⟩) (fun v s' z=>?_) fun e s' z=>z.elim)
 refine xAAA z fun Y a b c=>?_;clear z;subst Y
 refine ah ⟨_,rfl,?_⟩
 have g:GoodWG cwL (classAt (SB1 w os).heap) (ExcName.means (SB1 w os).heap) [.list (xs.map WData.int)] (SC1 w os us (2845+xs.length)) (.ok (.ret (.bool true))) s':=
  ⟨.inl ⟨.bool true, .bool true,[],rfl,fun Y=>rfl, .bool true,post_ok _,fun Y=>⟨.nil,fun Y h=>(nomatch h)⟩⟩,a,b,c⟩
 have z:=g.laid (c:=cwL) rfl rfl (ident_freeW (r:=rwL.row.toRowW) rfl rfl rfl) L
 exact⟨z.1,z.2.1,z.2.2,fun q=>nomatch q⟩
theorem ls1:sreFenced rwL.prog.main=true:=by kernel_rfl
theorem ls2:((moduleNames rwL.prog.main.body).isEmpty||lookedIntoSs (moduleNames rwL.prog.main.body) rwL.prog.main.body)=true:=by kernel_rfl
theorem ls3:namesResolve rwL.prog=true:=by
 rw[PySem.W.Fast.te8377067652309620493]
 kernel_rfl
theorem ls4:rwL.prog.boundNames.all (fun n=>!worldNames.contains n)=true:=by kernel_rfl
theorem ls5:noRoadLSs {strict:=!(importedModules rwL.prog.main.body).all cThrough.contains,foot:=none,bare:=(["vars","dir","locals"]:List Str).filter (readsOut rwL.prog rwL.prog.main.body)} rwL.prog.main.body=true:=by
 rw[PySem.W.Fast.te8326940854005059898]
 kernel_rfl
theorem ls6:(namesMeet rwL.prog rwL.prog.main.body fun Y n=>attrL n)=true:=by
 rw[PySem.W.Fast.te17119622794617984870]
 kernel_rfl
theorem looks_open:looksOpen rwL.prog=true:=look_both (look_both (look_both (look_both (look_both ls1 ls2) ls3) ls4) ls5) ls6
theorem row_part:rwL.row.partSaid=true:=
 look_both (look_both (look_both (look_both (look_both (look_both (look_both (look_both (look_both (look_both (look_both (look_both (look_both looks_open rfl) rfl) rfl) rfl) (by decide+kernel)) rfl) (by kernel_rfl)) (by kernel_rfl)) (by kernel_rfl)) rfl) (by kernel_rfl)) (by kernel_rfl)) rfl
theorem row_well:rwL.row.wellSaid=true:=look_both (look_both row_part (by kernel_rfl)) (by kernel_rfl)
theorem lw1:noClassBlock rwL.prog rwL.footing=true:=by kernel_rfl
theorem lw2:noRoadLSs {strict:=true,foot:=some rwL.bound',writes:=rwL.writes,may:=rwL.may} rwL.footing=true:=by kernel_rfl
theorem lw3:(rwL.bound'.all (fun n=>!builtinNamed n||rwL.about==[n]||!rwL.reads n))=true:=by kernel_rfl
theorem lw4:namesMeet rwL.prog rwL.above (fun Y n=>!rwL.own.contains n)=true:=by
 rw[PySem.W.Fast.te17119622794617984870]
 kernel_rfl
theorem law_well:rwL.wellSaid=true:=
 look_both (look_both (look_both (look_both (look_both (look_both (look_both (look_both (look_both (look_both (look_both (look_both (look_both (look_both (look_both (look_both (look_both (look_both row_well (by kernel_rfl)) (by kernel_rfl)) lw1) (by kernel_rfl)) rfl) lw2) (by kernel_rfl)) (by kernel_rfl)) (by kernel_rfl)) lw3) rfl) (by kernel_rfl)) (by kernel_rfl)) (by kernel_rfl)) (by kernel_rfl)) (by kernel_rfl)) lw4) (by kernel_rfl)
end
end Mine.Internal
set_option maxRecDepth 100000 in
set_option maxHeartbeats 8000000 in
theorem PySem.Challenge.cw_kl0465_01_holds : PySem.Challenge.rw_kl0465_01.Holds :=
  holds_law Mine.Internal.law_well fun h => ⟨h, Mine.Internal.promised_law, Mine.Internal.law_holds⟩
