import PyProof.Rows.All
import Wide.All
import OpenK.AllK
import Wide.FinOn
import PySem.Challenge.RW_dm0165_04
set_option Elab.async false
set_option linter.all false
section
open PySem
namespace Mine
def Ya:=@PySem.W.Fast.te14364793385576792824
def Yb:=@PySem.W.Fast.te10110043849684766642
def Yc:=@Option.some.inj
def Yd:=@Nat.lt_of_lt_of_le
def Ye:=@Nat.le_of_ble_eq_true
def Yf:=@Nat.le_of_lt
def Yg:=@Nat.le_trans
def Yh:=@Nat.lt_of_le_of_lt
def Yi:=@List.getElem?_eq_some_iff
def Yj:=@List.append_nil
def Yk:=@PySem.Heap.lt_size
def Yl:=@Nat.lt_irrefl
def Ym:=@List.mem_cons
def Yn:=@List.mem_iff_getElem
def Yo:=@List.getElem?_eq_getElem
def Yp:=@PySem.Heap.get?_push_of_some
def Yq:=@PySem.Heap.get?_push_size
def Yr:=@Nat.not_lt_zero
def Ys:=@Nat.lt_of_succ_lt_succ
def Yt:=@List.getElem_mem
def Yu:=@List.nodup_cons
def Yv:=@Option.map_eq_some_iff
def Yw:=@List.mem_of_getElem?
def Yx:=@List.mem_singleton
def Yy:=@Bool.false_ne_true
def Yz:=@List.length_cons
def Yaa:=@Nat.le_refl
def Yab:=@PyProof.noPylong_small
def Yac:=@Option.bind_eq_some_iff
def Yad:=@Int.natCast_nonneg
def Yae:=@List.mem_map_of_mem
def Yaf:=@List.map_congr_left
def Yag:=@Nat.succ_le_succ
def Yah:=@List.nodup_nil
def Yai:=@PySem.W.KFB.if_so
def Yaj:=@PySem.Code.quiet_builtin
def Yak:=@Nat.add_le_add_right
def Yal:=@Nat.add_le_add_left
def Yam:=@Nat.le_add_right
def Yan:=@List.take_sublist
def Yao:=@Nat.ne_of_lt
def Yap:=@Int.eq_ofNat_of_zero_le
def Yaq:=@Int.ofNat_le
def Yar:=@PySem.Heap.IsSliceOf.new
def Yas:=@Nat.zero_le
def Yat:=@Nat.sub_lt_sub_left
def Yau:=@Nat.lt_succ_self
def Yav:=@PySem.callWith_type
def Yaw:=@PySem.F.slot_str_find
def Yax:=@PySem.F.slot_str_rfind
def Yay:=@PySem.F.plainAttrs_str
def Yaz:=@Nat.ne_of_gt
def Yba:=@Nat.le_succ
def Ybb:=@PySem.W.KFB.if_not
def Ybc:=@PySem.F.slot_str_translate
def Ybd:=@Nat.not_lt
def Ybe:=@Nat.add_right_comm
def Ybf:=@Nat.min_eq_right
def Ybg:=@Nat.le_of_eq
def Ybh:=@List.takeWhile_prefix
def Ybi:=@Nat.sub_add_cancel
def Ybj:=@Exists.intro
def Ybk:=@And.intro
def Ybl:=@Nat.le_add_left
def Ybm:=@Nat.succ_pos
def Ybn:=@Nat.le_of_succ_le_succ
def Ybo:=@Nat.add_sub_cancel'
def Ybp:=@PySem.F.slot_str_strip
def Ybq:=@PySem.F.type_str_strip
def Ybr:=@List.mem_map
def Ybu:=@Nat.le_of_succ_le
def Ybv:=@List.all_eq_true
def Ybw:=@List.mem_append
def Ybx:=@List.foldl_append
def Yby:=@Nat.le_succ_of_le
def Ybz:=@List.mem_of_getLast?
def Yca:=@List.getLast?_eq_some_iff
def Ycb:=@Nat.lt_trans
def Ycc:=@Nat.le_total
def Ycd:=@List.eq_nil_of_length_eq_zero
def Yce:=@List.length_set
def Ycf:=@List.getLast?_eq_none_iff
def Ycg:=@Nat.le_of_lt_succ
def Ych:=@List.eq_nil_or_concat
def Yci:=@List.take_append_drop
def Ycj:=@List.prefix_of_prefix_length_le
def Yck:=@List.count_pos_iff
def Ycl:=@List.pairwise_cons
def Ycm:=@List.pairwise_iff_getElem
def Ycp:=@List.getElem?_set_ne
def Ycr:=@PySem.W.Fast.te11892475500146522536
def Yct:=@PySem.W.Fast.te10295753902157049106
noncomputable def ig:Nat→List Int→List Value
 |_,[]=>[]
 |t,i::l=>.int i t::ig (t+1) l
noncomputable def ia(t:Nat)(l:List Int):Array Value:=(ig t l).toArray
end Mine
end
set_option genSizeOf false
set_option bootstrap.genMatcherCode false
set_option compiler.extract_closed false
section
open PySem PySem.W PySem.Calls PyProof.Rows
set_option maxRecDepth 100000
set_option maxHeartbeats 0
namespace Mine
abbrev Pm:=Params
theorem via9{F F':(String→Option Builtin)→Program→World→Nat→Option Value→Nat→Nat→SharedT→Thread→Option (Flow × SharedT × Code × Pos)}{tb tb':String→Option Builtin}(e:F=F')(e':tb=tb')
  {p:Program} {w:World} {m:Nat} {a:Option Value} {b n:Nat} {s:SharedT} {t:Thread} {r:Option (Flow × SharedT × Code × Pos)} (h:F' tb' p w m a b n s t=r):F tb p w m a b n s t=r:=by
 subst e; subst e'; exact h
theorem via8{F F':(String→Option Builtin)→Program→World→Nat→Option Value→Nat→Nat→Shared→Thread→Option (Flow × Shared × Code × Pos)}{tb tb':String→Option Builtin}(e:F=F')(e':tb=tb')
  {p:Program} {w:World} {m:Nat} {a:Option Value} {b n:Nat} {s:Shared} {t:Thread} {r:Option (Flow × Shared × Code × Pos)} (h:F' tb' p w m a b n s t=r):F tb p w m a b n s t=r:=by
 subst e; subst e'; exact h
noncomputable def lf(o:Obj):BT:=.node o .nil .nil
noncomputable def en(P:Params)(x:Str)(t:Tok)(v:Value):DictEntry:=⟨PyData.keyHash P x,.str x t,v⟩
noncomputable def ie(k:Int)(t u:Tok):DictEntry:=⟨k,.int k t,.int 120 u⟩
noncomputable section
noncomputable abbrev prg:Program:=PySem.Challenge.pw_dm0165_04
noncomputable def nothing:Stmt:=.Pass ⟨0,0,0,0⟩
noncomputable def stm(i:Nat):Stmt:=prg.main.body.getD i nothing
noncomputable def sub(s:Stmt)(i:Nat):Stmt:=match s with | .ClassDef _ _ _ b _ _ _ _ _ _ _=>b.getD i nothing | _=>s
noncomputable def fPar(s:Stmt):Arguments:=match s with | .FunctionDef _ a _ _ _ _ _ _ _ _=>a | _=>⟨[],[],none,[],[],none,[]⟩
noncomputable def Zad(s:Stmt):List Stmt:=match s with | .FunctionDef _ _ b _ _ _ _ _ _ _=>b | _=>[]
noncomputable def fSc(s:Stmt):Scope:=match s with | .FunctionDef _ _ _ _ _ _ sc _ _ _=>sc | _=>⟨.function,[],false,false,[]⟩
noncomputable def fd(s:Stmt)(nm ql:Str)(gl:Addr)(df kd dc pm cd ct:Value)(bl:Addr):FuncData:={ name:=nm,qualname:=ql,params:=fPar s,body:=.stmts (Zad s),scope:=fSc s,globals:=gl,closure:=[],defaults:=df,kwdefaults:=kd,doc:=dc,pyModule:=pm,annotations:=none,code:=cd,closureTuple:=ct,builtins:=bl }
noncomputable def o0(P:Pm):Obj:=⟨.type "dict",none,.dict #[en P "__name__" 1 (.str "builtins" 160),en P "__doc__" 2 (.builtin "builtins.__doc__:str#opaque"),en P "__package__" 3 (.builtin "builtins.__package__:str#opaque"),en P "__loader__" 4 (.builtin "builtins.__loader__:shared#opaque"),en P "__spec__" 5 (.builtin "builtins.__spec__#opaque"),en P "__build_class__" 6 (.builtin "__build_class__"),en P "__import__" 7 (.builtin "__import__"),en P "abs" 8 (.builtin "abs"),en P "all" 9 (.builtin "all"),en P "any" 10 (.builtin "any"),en P "ascii" 11 (.builtin "ascii"),en P "bin" 12 (.builtin "bin"),en P "breakpoint" 13 (.builtin "breakpoint"),en P "callable" 14 (.builtin "callable"),en P "chr" 15 (.builtin "chr"),en P "compile" 16 (.builtin "compile"),en P "delattr" 17 (.builtin "delattr"),en P "dir" 18 (.builtin "dir"),en P "divmod" 19 (.builtin "divmod"),en P "eval" 20 (.builtin "eval"),en P "exec" 21 (.builtin "exec"),en P "format" 22 (.builtin "format"),en P "getattr" 23 (.builtin "getattr"),en P "globals" 24 (.builtin "globals"),en P "hasattr" 25 (.builtin "hasattr"),en P "hash" 26 (.builtin "hash"),en P "hex" 27 (.builtin "hex"),en P "id" 28 (.builtin "id"),en P "input" 29 (.builtin "input"),en P "isinstance" 30 (.builtin "isinstance"),en P "issubclass" 31 (.builtin "issubclass"),en P "iter" 32 (.builtin "iter"),en P "aiter" 33 (.builtin "aiter"),en P "len" 34 (.builtin "len"),en P "locals" 35 (.builtin "locals"),en P "max" 36 (.builtin "max"),en P "min" 37 (.builtin "min"),en P "next" 38 (.builtin "next"),en P "anext" 39 (.builtin "anext"),en P "oct" 40 (.builtin "oct"),en P "ord" 41 (.builtin "ord"),en P "pow" 42 (.builtin "pow"),en P "print" 43 (.builtin "print"),en P "repr" 44 (.builtin "repr"),en P "round" 45 (.builtin "round"),en P "setattr" 46 (.builtin "setattr"),en P "sorted" 47 (.builtin "sorted"),en P "sum" 48 (.builtin "sum"),en P "vars" 49 (.builtin "vars"),en P "None" 50 .none,en P "Ellipsis" 51 .ellipsis,en P "NotImplemented" 52 .notImplemented,en P "False" 53 (.bool false),en P "True" 54 (.bool true),en P "bool" 55 (.type "bool"),en P "memoryview" 56 (.type "memoryview"),en P "bytearray" 57 (.type "bytearray"),en P "bytes" 58 (.type "bytes"),en P "classmethod" 59 (.type "classmethod"),en P "complex" 60 (.type "complex"),en P "dict" 61 (.type "dict"),en P "enumerate" 62 (.type "enumerate"),en P "filter" 63 (.type "filter"),en P "float" 64 (.type "float"),en P "frozenset" 65 (.type "frozenset"),en P "property" 66 (.type "property"),en P "int" 67 (.type "int"),en P "list" 68 (.type "list"),en P "map" 69 (.type "map"),en P "object" 70 (.type "object"),en P "range" 71 (.type "range"),en P "reversed" 72 (.type "reversed"),en P "set" 73 (.type "set"),en P "slice" 74 (.type "slice"),en P "staticmethod" 75 (.type "staticmethod"),en P "str" 76 (.type "str"),en P "super" 77 (.type "super"),en P "tuple" 78 (.type "tuple"),en P "type" 79 (.type "type"),en P "zip" 80 (.type "zip"),en P "__debug__" 81 (.bool true),en P "BaseException" 82 (.type "BaseException"),en P "BaseExceptionGroup" 83 (.type "BaseExceptionGroup"),en P "Exception" 84 (.type "Exception"),en P "GeneratorExit" 85 (.type "GeneratorExit"),en P "KeyboardInterrupt" 86 (.type "KeyboardInterrupt"),en P "SystemExit" 87 (.type "SystemExit"),en P "ArithmeticError" 88 (.type "ArithmeticError"),en P "AssertionError" 89 (.type "AssertionError"),en P "AttributeError" 90 (.type "AttributeError"),en P "BufferError" 91 (.type "BufferError"),en P "EOFError" 92 (.type "EOFError"),en P "ImportError" 93 (.type "ImportError"),en P "LookupError" 94 (.type "LookupError"),en P "MemoryError" 95 (.type "MemoryError"),en P "NameError" 96 (.type "NameError"),en P "OSError" 97 (.type "OSError"),en P "ReferenceError" 98 (.type "ReferenceError"),en P "RuntimeError" 99 (.type "RuntimeError"),en P "StopAsyncIteration" 100 (.type "StopAsyncIteration"),en P "StopIteration" 101 (.type "StopIteration"),en P "SyntaxError" 102 (.type "SyntaxError"),en P "SystemError" 103 (.type "SystemError"),en P "TypeError" 104 (.type "TypeError"),en P "ValueError" 105 (.type "ValueError"),en P "Warning" 106 (.type "Warning"),en P "FloatingPointError" 107 (.type "FloatingPointError"),en P "OverflowError" 108 (.type "OverflowError"),en P "ZeroDivisionError" 109 (.type "ZeroDivisionError"),en P "BytesWarning" 110 (.type "BytesWarning"),en P "DeprecationWarning" 111 (.type "DeprecationWarning"),en P "EncodingWarning" 112 (.type "EncodingWarning"),en P "FutureWarning" 113 (.type "FutureWarning"),en P "ImportWarning" 114 (.type "ImportWarning"),en P "PendingDeprecationWarning" 115 (.type "PendingDeprecationWarning"),en P "ResourceWarning" 116 (.type "ResourceWarning"),en P "RuntimeWarning" 117 (.type "RuntimeWarning"),en P "SyntaxWarning" 118 (.type "SyntaxWarning"),en P "UnicodeWarning" 119 (.type "UnicodeWarning"),en P "UserWarning" 120 (.type "UserWarning"),en P "BlockingIOError" 121 (.type "BlockingIOError"),en P "ChildProcessError" 122 (.type "ChildProcessError"),en P "ConnectionError" 123 (.type "ConnectionError"),en P "FileExistsError" 124 (.type "FileExistsError"),en P "FileNotFoundError" 125 (.type "FileNotFoundError"),en P "InterruptedError" 126 (.type "InterruptedError"),en P "IsADirectoryError" 127 (.type "IsADirectoryError"),en P "NotADirectoryError" 128 (.type "NotADirectoryError"),en P "PermissionError" 129 (.type "PermissionError"),en P "ProcessLookupError" 130 (.type "ProcessLookupError"),en P "TimeoutError" 131 (.type "TimeoutError"),en P "IndentationError" 132 (.type "IndentationError"),en P "_IncompleteInputError" 133 (.type "_IncompleteInputError"),en P "IndexError" 134 (.type "IndexError"),en P "KeyError" 135 (.type "KeyError"),en P "ModuleNotFoundError" 136 (.type "ModuleNotFoundError"),en P "NotImplementedError" 137 (.type "NotImplementedError"),en P "PythonFinalizationError" 138 (.type "PythonFinalizationError"),en P "RecursionError" 139 (.type "RecursionError"),en P "UnboundLocalError" 140 (.type "UnboundLocalError"),en P "UnicodeError" 141 (.type "UnicodeError"),en P "BrokenPipeError" 142 (.type "BrokenPipeError"),en P "ConnectionAbortedError" 143 (.type "ConnectionAbortedError"),en P "ConnectionRefusedError" 144 (.type "ConnectionRefusedError"),en P "ConnectionResetError" 145 (.type "ConnectionResetError"),en P "TabError" 146 (.type "TabError"),en P "UnicodeDecodeError" 147 (.type "UnicodeDecodeError"),en P "UnicodeEncodeError" 148 (.type "UnicodeEncodeError"),en P "UnicodeTranslateError" 149 (.type "UnicodeTranslateError"),en P "ExceptionGroup" 150 (.type "ExceptionGroup"),en P "EnvironmentError" 151 (.type "OSError"),en P "IOError" 152 (.type "OSError"),en P "open" 153 (.builtin "open"),en P "quit" 154 (.builtin "builtins.quit#opaque"),en P "exit" 155 (.builtin "builtins.exit#opaque"),en P "copyright" 156 (.builtin "builtins.copyright#opaque"),en P "credits" 157 (.builtin "builtins.credits#opaque"),en P "license" 158 (.builtin "builtins.license#opaque"),en P "help" 159 (.builtin "builtins.help#opaque")] 159,#[]⟩
noncomputable def o1(P:Pm):Obj:=⟨.type "dict",none,.dict #[en P "builtins" 162 (.ref 4),en P "__main__" 163 (.ref 5),en P "_sre" 244 (.ref 12)] 3,#[]⟩
noncomputable def o2(P:Pm):Obj:=⟨.none,none,.dict #[en P "\x69mport.loaded._sre" 183 (.bool true),en P "class._frozen_importlib.BuiltinImporter" 185 (.ref 14),en P "watched.\x69mport" 206 (.ref 18),en P "class._frozen_importlib.ModuleSpec" 216 (.ref 22),en P "sys.modules.booked-epoch" 245 (.int 3 0),en P "\x69mport.later-laid._sre" 270 (.bool true),en P "watched.library" 272 (.ref 27),en P "watched.library-objects" 0 (.str "\x0c" 0),en P "watched.library-deep._sre" 273 (.str "\x04\x00\x00\x0b\x04\x00\x00\x0b\x04\x00\x00\x03\x04\x00\x00\x0b\x08\x04dict\x02" 0)] 9,#[]⟩
noncomputable def e0(P:Pm):DictEntry:=en P "__doc__" 166 .none
noncomputable def e1(P:Pm):DictEntry:=en P "__package__" 167 .none
noncomputable def e2(P:Pm):DictEntry:=en P "__loader__" 168 (.builtin "__main__.__loader__#opaque")
noncomputable def e3(P:Pm):DictEntry:=en P "__spec__" 169 .none
noncomputable def e4(P:Pm):DictEntry:=en P "__annotations__" 170 (.ref 6)
noncomputable def e5(P:Pm):DictEntry:=en P "__builtins__" 171 (.ref 4)
noncomputable def e6(P:Pm):DictEntry:=en P "__file__" 173 (.str "/claim/cut.py" 172)
noncomputable def e7(P:Pm):DictEntry:=en P "__cached__" 174 .none
noncomputable def e8(P:Pm):DictEntry:=en P "_sre" 275 (.ref 12)
noncomputable def o3(P:Pm):Obj:=⟨.type "dict",none,.dict #[en P "__name__" 165 (.str "__main__" 164),e0 P,e1 P,e2 P,e3 P,e4 P,e5 P,e6 P,e7 P,e8 P] 10,#[]⟩
noncomputable def o4(P:Pm):Obj:=⟨.type "module",some 0,.plain,#[]⟩
noncomputable def o5(P:Pm):Obj:=⟨.type "module",some 3,.plain,#[]⟩
noncomputable def o6(P:Pm):Obj:=⟨.type "dict",none,.dict #[] 0,#[]⟩
noncomputable def o7(P:Pm):Obj:=⟨.type "tuple",none,.seq #[] 0,#[]⟩
noncomputable def o8(P:Pm):Obj:=⟨.none,none,.fields #[],#[]⟩
noncomputable def o9(P:Pm):Obj:=⟨.type "code",none,.fields #[.str "<module>" 176,.str "<module>" 177,.str "/claim/cut.py" 178,.int 1 0,.int 0 0,.int 0 0,.int 0 0,.int 0 0,.ref 7,.bool false,.int 175 0,.ref 8,.none,.none,.none,.none,.int 179 0,.int 1 0,.str "/claim/cut.py" 180],#[]⟩
noncomputable def o10(P:Pm):Obj:=⟨.type "frame",none,.plain,#[some (.ref 9),some (.ref 3),some (.ref 3),none,some (.str "__main__" 164),none,some (.ref 0)]⟩
noncomputable def e9(P:Pm):DictEntry:=en P "copyright" 269 (.str " SRE 2.2.2 Copyright (c) 1997-2002 by Secret Labs AB " 268)
noncomputable def o11(P:Pm):Obj:=⟨.type "dict",none,.dict #[en P "__name__" 247 (.str "_sre" 246),en P "__doc__" 248 .none,en P "__package__" 250 (.str "" 249),en P "__loader__" 251 (.ref 14),en P "__spec__" 252 (.ref 26),en P "compile" 253 (.builtin "_sre.compile"),en P "template" 254 (.builtin "_sre.template"),en P "getcodesize" 255 (.builtin "_sre.getcodesize"),en P "ascii_iscased" 256 (.builtin "_sre.ascii_iscased"),en P "unicode_iscased" 257 (.builtin "_sre.unicode_iscased"),en P "ascii_tolower" 258 (.builtin "_sre.ascii_tolower"),en P "unicode_tolower" 259 (.builtin "_sre.unicode_tolower"),en P "MAGIC" 261 (.int 20230612 260),en P "CODESIZE" 263 (.int 4 262),en P "MAXREPEAT" 265 (.int 4294967295 264),en P "MAXGROUPS" 267 (.int 1073741823 266),e9 P] 17,#[]⟩
noncomputable def o12(P:Pm):Obj:=⟨.type "module",some 11,.plain,#[]⟩
noncomputable def o13(P:Pm):Obj:=⟨.type "dict",none,.dict #[en P "__module__" 189 (.str "_frozen_importlib" 186),en P "__firstlineno__" 190 (.int 971 187),en P "__doc__" 191 (.builtin "_frozen_importlib.BuiltinImporter.__doc__:str#opaque"),en P "_ORIGIN" 192 (.str "built-in" 188),en P "find_spec" 193 (.builtin "_frozen_importlib.BuiltinImporter.find_spec#opaque"),en P "create_module" 194 (.builtin "_frozen_importlib.BuiltinImporter.create_module#opaque"),en P "exec_module" 195 (.builtin "_frozen_importlib.BuiltinImporter.exec_module#opaque"),en P "get_code" 196 (.builtin "_frozen_importlib.BuiltinImporter.get_code#opaque"),en P "get_source" 197 (.builtin "_frozen_importlib.BuiltinImporter.get_source#opaque"),en P "is_package" 198 (.builtin "_frozen_importlib.BuiltinImporter.is_package#opaque"),en P "load_module" 199 (.builtin "_frozen_importlib.BuiltinImporter.load_module#opaque"),en P "__static_attributes__" 200 (.ref 15),en P "__dict__" 202 (.ref 16),en P "__weakref__" 204 (.ref 17)] 14,#[]⟩
noncomputable def o14(P:Pm):Obj:=⟨.type "type",none,.cls { name:="BuiltinImporter",bases:=[.type "object"],mro:=[.ref 14,.type "object"],ns:=13,qualname:="BuiltinImporter",hasDict:=true,slotNames:=[],subclasses:=[],abstract:=false,collection:=none,hasDel:=false },#[]⟩
noncomputable def o15(P:Pm):Obj:=⟨.type "getset_descriptor",none,.fields #[.str "__dict__" 201,.ref 14,.builtin "function.__dict__",.builtin "function.__dict__#set"],#[]⟩
noncomputable def o16(P:Pm):Obj:=⟨.type "getset_descriptor",none,.fields #[.str "__weakref__" 203,.ref 14,.builtin "ExceptionGroup.__weakref__",.none],#[]⟩
noncomputable def o17(P:Pm):Obj:=⟨.none,none,.seq #[.int 13 0,.str "\x06½\n__module__\x06º\x11_frozen_importlib\x06¾\x0f__firstlineno__\x04»\x00ϋ\x06¿\x07__doc__\t4_frozen_importlib.BuiltinImporter.__doc__:str#opaque\x06À\x07_ORIGIN\x06¼\x08built-in\x06Á\tfind_spec\t2_frozen_importlib.BuiltinImporter.find_spec#opaque\x06Â\x0dcreate_module\t6_frozen_importlib.BuiltinImporter.create_module#opaque\x06Ã\x0bexec_module\t4_frozen_importlib.BuiltinImporter.exec_module#opaque\x06Ä\x08get_code\t1_frozen_importlib.BuiltinImporter.get_code#opaque\x06Å\nget_source\t3_frozen_importlib.BuiltinImporter.get_source#opaque\x06Æ\nis_package\t3_frozen_importlib.BuiltinImporter.is_package#opaque\x06Ç\x0bload_module\t4_frozen_importlib.BuiltinImporter.load_module#opaque\x06È\x15__static_attributes__\x04\x00\x00\x0f\x06Ê\x08__dict__\x04\x00\x00\x10\x06Ì\x0b__weakref__\x04\x00\x00\x11" 0,.bool true,.bool true,.str "" 205,.int 21 0,.str "\x06ã\n__module__\x06Ù\x11_frozen_importlib\x06ä\x0f__firstlineno__\x04Ú\x00Ȳ\x06å\x07__doc__\t/_frozen_importlib.ModuleSpec.__doc__:str#opaque\x06æ\x08__init__\t,_frozen_importlib.ModuleSpec.__init__#opaque\x06ç\x08__repr__\t,_frozen_importlib.ModuleSpec.__repr__#opaque\x06è\x06__eq__\t*_frozen_importlib.ModuleSpec.__eq__#opaque\x06é\x06cached\t*_frozen_importlib.ModuleSpec.cached#opaque\x06ê\x06parent\t*_frozen_importlib.ModuleSpec.parent#opaque\x06ë\x0chas_location\t0_frozen_importlib.ModuleSpec.has_location#opaque\x06ì\x15__static_attributes__\x04\x00\x00\x17\x06î\x08__dict__\x04\x00\x00\x18\x06ð\x0b__weakref__\x04\x00\x00\x19\x06ñ\x08__hash__\x00" 0,.bool true,.bool true,.str "" 242] 1,#[]⟩
noncomputable def o18(P:Pm):Obj:=⟨.type "list",none,.seq #[] 0,#[]⟩
noncomputable def o19(P:Pm):Obj:=⟨.type "dict",none,.dict #[en P "name" 208 (.str "_sre" 207),en P "loader" 209 (.ref 14),en P "origin" 210 (.str "built-in" 184),en P "loader_state" 211 .none,en P "submodule_search_locations" 212 .none,en P "_uninitialized_submodules" 213 (.ref 19),en P "_set_fileattr" 214 (.bool false),en P "_cached" 215 .none,en P "_initializing" 243 (.bool false)] 9,#[]⟩
noncomputable def o20(P:Pm):Obj:=⟨.type "dict",none,.dict #[en P "__module__" 227 (.str "_frozen_importlib" 217),en P "__firstlineno__" 228 (.int 562 218),en P "__doc__" 229 (.builtin "_frozen_importlib.ModuleSpec.__doc__:str#opaque"),en P "__init__" 230 (.builtin "_frozen_importlib.ModuleSpec.__init__#opaque"),en P "__repr__" 231 (.builtin "_frozen_importlib.ModuleSpec.__repr__#opaque"),en P "__eq__" 232 (.builtin "_frozen_importlib.ModuleSpec.__eq__#opaque"),en P "cached" 233 (.builtin "_frozen_importlib.ModuleSpec.cached#opaque"),en P "parent" 234 (.builtin "_frozen_importlib.ModuleSpec.parent#opaque"),en P "has_location" 235 (.builtin "_frozen_importlib.ModuleSpec.has_location#opaque"),en P "__static_attributes__" 236 (.ref 23),en P "__dict__" 238 (.ref 24),en P "__weakref__" 240 (.ref 25),en P "__hash__" 241 .none] 13,#[]⟩
noncomputable def o21(P:Pm):Obj:=⟨.type "type",none,.cls { name:="ModuleSpec",bases:=[.type "object"],mro:=[.ref 22,.type "object"],ns:=21,qualname:="ModuleSpec",hasDict:=true,slotNames:=[],subclasses:=[],abstract:=false,collection:=none,hasDel:=false },#[]⟩
noncomputable def o22(P:Pm):Obj:=⟨.type "tuple",none,.seq #[.str "_cached" 219,.str "_set_fileattr" 220,.str "_uninitialized_submodules" 221,.str "loader" 222,.str "loader_state" 223,.str "name" 224,.str "origin" 225,.str "submodule_search_locations" 226] 0,#[]⟩
noncomputable def o23(P:Pm):Obj:=⟨.type "getset_descriptor",none,.fields #[.str "__dict__" 237,.ref 22,.builtin "function.__dict__",.builtin "function.__dict__#set"],#[]⟩
noncomputable def o24(P:Pm):Obj:=⟨.type "getset_descriptor",none,.fields #[.str "__weakref__" 239,.ref 22,.builtin "ExceptionGroup.__weakref__",.none],#[]⟩
noncomputable def o25(P:Pm):Obj:=⟨.ref 22,some 20,.plain,#[]⟩
noncomputable def o26(P:Pm):Obj:=⟨.none,none,.seq #[.int 11 0,.str ⟨#[6,247,8,95,95,110,97,109,101,95,95,6,246,4,95,115,114,101,6,248,7,95,95,100,111,99,95,95,0,6,250,11,95,95,112,97,99,107,97,103,101,95,95,6,249,0,6,251,10,95,95,108,111,97,100,101,114,95,95,4,0,0,14,6,252,8,95,95,115,112,101,99,95,95,4,0,0,26,6,253,7,99,111,109,112,105,108,101,9,12,95,115,114,101,46,99,111,109,112,105,108,101,6,254,8,116,101,109,112,108,97,116,101,9,13,95,115,114,101,46,116,101,109,112,108,97,116,101,6,255,11,103,101,116,99,111,100,101,115,105,122,101,9,16,95,115,114,101,46,103,101,116,99,111,100,101,115,105,122,101,6,256,13,97,115,99,105,105,95,105,115,99,97,115,101,100,9,18,95,115,114,101,46,97,115,99,105,105,95,105,115,99,97,115,101,100,6,257,15,117,110,105,99,111,100,101,95,105,115,99,97,115,101,100,9,20,95,115,114,101,46,117,110,105,99,111,100,101,95,105,115,99,97,115,101,100,6,258,13,97,115,99,105,105,95,116,111,108,111,119,101,114,9,18,95,115,114,101,46,97,115,99,105,105,95,116,111,108,111,119,101,114,6,259,15,117,110,105,99,111,100,101,95,116,111,108,111,119,101,114,9,20,95,115,114,101,46,117,110,105,99,111,100,101,95,116,111,108,111,119,101,114,6,261,5,77,65,71,73,67,4,260,0,20230612,6,263,8,67,79,68,69,83,73,90,69,4,262,0,4,6,265,9,77,65,88,82,69,80,69,65,84,4,264,0,4294967295,6,267,9,77,65,88,71,82,79,85,80,83,4,266,0,1073741823,6,269,9,99,111,112,121,114,105,103,104,116,6,268,53,32,83,82,69,32,50,46,50,46,50,32,67,111,112,121,114,105,103,104,116,32,40,99,41,32,49,57,57,55,45,50,48,48,50,32,98,121,32,83,101,99,114,101,116,32,76,97,98,115,32,65,66,32]⟩ 0,.bool true,.bool false,.str "_sre" 271] 0,#[]⟩
noncomputable def lf0:Life:={ registered:=[],finalised:=[],alive:=[],known:=0,ids:=[],orphanDicts:=[],counting:=false,cnt:=#[],zero:=[],soft:=0,below:=false,collecting:=false,loading:=false,debug:=0,thresholds:=[2000,10,10],woke:=false,asked:=0,gcEnabled:=true,old:=[],middle:=[],young:=0,intoMiddle:=false }
noncomputable def he(P:Params):Heap:=⟨⟨[o0 P,o1 P,o2 P,o3 P,o4 P,o5 P,o6 P,o7 P,o8 P,o9 P,o10 P,o11 P,o12 P,o13 P,o14 P,o7 P,o15 P,o16 P,o17 P,o18 P,o19 P,o20 P,o21 P,o22 P,o23 P,o24 P,o25 P,o26 P]⟩,lf0⟩
noncomputable def ge:Array GenState:=#[]
noncomputable def de:Drawn:=⟨0,0,0,0⟩
noncomputable def o27(P:Pm):Obj:=⟨.type "dict",none,.dict #[en P "__name__" 247 (.str "_sre" 246),en P "__doc__" 248 .none,en P "__package__" 250 (.str "" 249),en P "__loader__" 251 (.builtin "off-the-table:_sre.__loader__:shared#opaque"),en P "__spec__" 252 (.builtin "off-the-table:_sre.__spec__:shared#opaque"),en P "compile" 253 (.builtin "_sre.compile"),en P "template" 254 (.builtin "off-the-table:_sre.template:shared#opaque"),en P "getcodesize" 255 (.builtin "off-the-table:_sre.getcodesize:shared#opaque"),en P "ascii_iscased" 256 (.builtin "off-the-table:_sre.ascii_iscased:shared#opaque"),en P "unicode_iscased" 257 (.builtin "off-the-table:_sre.unicode_iscased:shared#opaque"),en P "ascii_tolower" 258 (.builtin "off-the-table:_sre.ascii_tolower:shared#opaque"),en P "unicode_tolower" 259 (.builtin "off-the-table:_sre.unicode_tolower:shared#opaque"),en P "MAGIC" 261 (.int 20230612 260),en P "CODESIZE" 263 (.int 4 262),en P "MAXREPEAT" 265 (.int 4294967295 264),en P "MAXGROUPS" 267 (.int 1073741823 266),e9 P] 17,#[]⟩
noncomputable def h0(P:Pm):Heap:=⟨⟨[o0 P,o1 P,o2 P,o3 P,o4 P,o5 P,o6 P,o7 P,o8 P,o9 P,o10 P,o27 P,o12 P,o13 P,o14 P,o7 P,o15 P,o16 P,o17 P,o18 P,o19 P,o20 P,o21 P,o22 P,o23 P,o24 P,o25 P,o26 P]⟩,lf0⟩
noncomputable def g0:Array GenState:=#[]
noncomputable def d0:Drawn:=⟨0,0,0,0⟩
noncomputable def o28(P:Pm):Obj:=⟨.type "code",none,.fields #[.str "<module>" 277,.str "<module>" 278,.str "/claim/cut.py" 279,.int 1 0,.int 0 0,.int 0 0,.int 0 0,.int 0 0,.ref 28,.bool false,.int 276 0,.ref 29,.none,.none,.none,.none,.int 280 0,.int 1 0,.str "/claim/cut.py" 281],#[]⟩
noncomputable def o29(P:Pm):Obj:=⟨.type "frame",none,.plain,#[some (.ref 30),some (.ref 3),some (.ref 3),none,some (.str "__main__" 164),none,some (.ref 0)]⟩
noncomputable def ha(P:Params):Heap:=⟨⟨[o0 P,o1 P,o2 P,o3 P,o4 P,o5 P,o6 P,o7 P,o8 P,o9 P,o10 P,o27 P,o12 P,o13 P,o14 P,o7 P,o15 P,o16 P,o17 P,o18 P,o19 P,o20 P,o21 P,o22 P,o23 P,o24 P,o25 P,o26 P,o7 P,o8 P,o28 P,o29 P]⟩,lf0⟩
noncomputable def ga:Array GenState:=#[]
noncomputable def da:Drawn:=⟨0,0,0,0⟩
noncomputable def u0(P:Pm):BT:=.node (o7 P) (.node (o7 P) (lf (o29 P)) .nil) (lf (o22 P))
noncomputable def tb(P:Params):BT:=(.node (o0 P) (.node (o1 P) (.node (o3 P) (u0 P) (.node (o27 P) (lf (o18 P)) (lf (o26 P)))) (.node (o5 P) (.node (o9 P) (lf (o16 P)) (lf (o24 P))) (.node (o13 P) (lf (o20 P)) (lf (o8 P))))) (.node (o2 P) (.node (o4 P) (.node (o8 P) (lf (o15 P)) (lf (o23 P))) (.node (o12 P) (lf (o19 P)) (lf (o7 P)))) (.node (o6 P) (.node (o10 P) (lf (o17 P)) (lf (o25 P))) (.node (o14 P) (lf (o21 P)) (lf (o28 P))))))
noncomputable def sb(w:World)(os:OsState):SharedT:=⟨tb w.params,32,lf0,#[],⟨0,0,0,0⟩,282,os⟩
noncomputable def e10(P:Pm):DictEntry:=en P "_wall" 288 (.ref 38)
noncomputable def o30(P:Pm):Obj:=⟨.type "dict",none,.dict #[en P "__name__" 165 (.str "__main__" 164),e0 P,e1 P,e2 P,e3 P,e4 P,e5 P,e6 P,e7 P,e8 P,e10 P] 11,#[]⟩
noncomputable def o31(P:Pm):Obj:=⟨.none,none,.fields #[.int 2 0,.int 0 0,.ref 37],#[]⟩
noncomputable def o32(P:Pm):Obj:=⟨.type "tuple",none,.seq #[.str "k" 285] 0,#[]⟩
noncomputable def o33(P:Pm):Obj:=⟨.none,none,.func (fd (stm 1) "_wall" "_wall" 0 .none .none .none .none .none .none 0),#[]⟩
noncomputable def o34(P:Pm):Obj:=⟨.type "code",none,.fields #[.str "_wall" 282,.str "_wall" 283,.str "/claim/cut.py" 284,.int 2 0,.int 1 0,.int 0 0,.int 0 0,.int 3 0,.ref 32,.bool true,.int 276 0,.ref 33,.none,.ref 34,.ref 35,.ref 36,.int 286 0,.int 2 0,.str "/claim/cut.py" 287],#[]⟩
noncomputable def o35(P:Pm):Obj:=⟨.type "function",none,.func (fd (stm 1) "_wall" "_wall" 3 .none .none .none (.str "__main__" 164) (.ref 37) .none 0),#[]⟩
noncomputable def u1(P:Pm):BT:=.node (o27 P) (.node (o18 P) (lf (o7 P)) .nil) (lf (o26 P))
noncomputable def u2(P:Pm):BT:=.node (o9 P) (.node (o16 P) (lf (o8 P)) .nil) (lf (o24 P))
noncomputable def u3(P:Pm):BT:=.node (o13 P) (.node (o20 P) (lf (o34 P)) .nil) (lf (o31 P))
noncomputable def u4(P:Pm):BT:=.node (o5 P) (u2 P) (u3 P)
noncomputable def u5(P:Pm):BT:=.node (o8 P) (.node (o15 P) (lf (o7 P)) .nil) (lf (o23 P))
noncomputable def u6(P:Pm):BT:=.node (o12 P) (.node (o19 P) (lf (o33 P)) .nil) (lf (o7 P))
noncomputable def u7(P:Pm):BT:=.node (o4 P) (u5 P) (u6 P)
noncomputable def u8(P:Pm):BT:=.node (o10 P) (.node (o17 P) (lf (o32 P)) .nil) (lf (o25 P))
noncomputable def u9(P:Pm):BT:=.node (o14 P) (.node (o21 P) (lf (o35 P)) .nil) (lf (o28 P))
noncomputable def u10(P:Pm):BT:=.node (o6 P) (u8 P) (u9 P)
noncomputable def u11(P:Pm):BT:=.node (o2 P) (u7 P) (u10 P)
noncomputable def t0(P:Pm):BT:=(.node (o0 P) (.node (o1 P) (.node (o30 P) (u0 P) (u1 P)) (u4 P)) (u11 P))
noncomputable def s0(w:World)(os:OsState):SharedT:=⟨t0 w.params,39,lf0,#[],⟨0,0,0,0⟩,289,os⟩
noncomputable def e11(P:Pm):DictEntry:=en P "__name__" 165 (.str "cpy313.idlelib.pyparse" 289)
noncomputable def o36(P:Pm):Obj:=⟨.type "dict",none,.dict #[e11 P,e0 P,e1 P,e2 P,e3 P,e4 P,e5 P,e6 P,e7 P,e8 P,e10 P] 11,#[]⟩
noncomputable def t1(P:Pm):BT:=(.node (o0 P) (.node (o1 P) (.node (o36 P) (u0 P) (u1 P)) (u4 P)) (u11 P))
noncomputable def s1(w:World)(os:OsState):SharedT:=⟨t1 w.params,39,lf0,#[],⟨0,0,0,0⟩,291,os⟩
noncomputable def e12(P:Pm):DictEntry:=en P "_twin_re_1" 504 (.ref 43)
noncomputable def o37(P:Pm):Obj:=⟨.type "dict",none,.dict #[e11 P,e0 P,e1 P,e2 P,e3 P,e4 P,e5 P,e6 P,e7 P,e8 P,e10 P,e12 P] 12,#[]⟩
noncomputable def o38(P:Pm):Obj:=⟨.type "list",none,.seq (ia 294 [14,4,0,3,4294967295,6,1,24,11,0,4294967295,13,6,16,32,16,9,0,1,7,13,16,119,16,104,16,105,16,108,16,101,15,173,11,16,101,16,108,16,115,16,101,15,162,9,16,100,16,101,16,102,15,153,15,16,114,16,101,16,116,16,117,16,114,16,110,15,138,15,16,97,16,115,16,115,16,101,16,114,16,116,15,123,13,16,98,16,114,16,101,16,97,16,107,15,110,13,16,99,16,108,16,97,16,115,16,115,15,97,19,16,99,16,111,16,110,16,116,16,105,16,110,16,117,16,101,15,78,11,16,101,16,108,16,105,16,102,15,67,9,16,116,16,114,16,121,15,58,15,16,101,16,120,16,99,16,101,16,112,16,116,15,43,13,16,114,16,97,16,105,16,115,16,101,15,30,15,16,105,16,109,16,112,16,111,16,114,16,116,15,15,13,16,121,16,105,16,101,16,108,16,100,15,2,0,6,10,1]) 0,#[]⟩
noncomputable def o39(P:Pm):Obj:=⟨.type "tuple",none,.seq #[.none] 0,#[]⟩
noncomputable def o40(P:Pm):Obj:=⟨.type "tuple",none,.seq #[.int 14 0,.int 4 0,.int 0 0,.int 3 0,.int 4294967295 0,.int 6 0,.int 1 0,.int 24 0,.int 11 0,.int 0 0,.int 4294967295 0,.int 13 0,.int 6 0,.int 16 0,.int 32 0,.int 16 0,.int 9 0,.int 0 0,.int 1 0,.int 7 0,.int 13 0,.int 16 0,.int 119 0,.int 16 0,.int 104 0,.int 16 0,.int 105 0,.int 16 0,.int 108 0,.int 16 0,.int 101 0,.int 15 0,.int 173 0,.int 11 0,.int 16 0,.int 101 0,.int 16 0,.int 108 0,.int 16 0,.int 115 0,.int 16 0,.int 101 0,.int 15 0,.int 162 0,.int 9 0,.int 16 0,.int 100 0,.int 16 0,.int 101 0,.int 16 0,.int 102 0,.int 15 0,.int 153 0,.int 15 0,.int 16 0,.int 114 0,.int 16 0,.int 101 0,.int 16 0,.int 116 0,.int 16 0,.int 117 0,.int 16 0,.int 114 0,.int 16 0,.int 110 0,.int 15 0,.int 138 0,.int 15 0,.int 16 0,.int 97 0,.int 16 0,.int 115 0,.int 16 0,.int 115 0,.int 16 0,.int 101 0,.int 16 0,.int 114 0,.int 16 0,.int 116 0,.int 15 0,.int 123 0,.int 13 0,.int 16 0,.int 98 0,.int 16 0,.int 114 0,.int 16 0,.int 101 0,.int 16 0,.int 97 0,.int 16 0,.int 107 0,.int 15 0,.int 110 0,.int 13 0,.int 16 0,.int 99 0,.int 16 0,.int 108 0,.int 16 0,.int 97 0,.int 16 0,.int 115 0,.int 16 0,.int 115 0,.int 15 0,.int 97 0,.int 19 0,.int 16 0,.int 99 0,.int 16 0,.int 111 0,.int 16 0,.int 110 0,.int 16 0,.int 116 0,.int 16 0,.int 105 0,.int 16 0,.int 110 0,.int 16 0,.int 117 0,.int 16 0,.int 101 0,.int 15 0,.int 78 0,.int 11 0,.int 16 0,.int 101 0,.int 16 0,.int 108 0,.int 16 0,.int 105 0,.int 16 0,.int 102 0,.int 15 0,.int 67 0,.int 9 0,.int 16 0,.int 116 0,.int 16 0,.int 114 0,.int 16 0,.int 121 0,.int 15 0,.int 58 0,.int 15 0,.int 16 0,.int 101 0,.int 16 0,.int 120 0,.int 16 0,.int 99 0,.int 16 0,.int 101 0,.int 16 0,.int 112 0,.int 16 0,.int 116 0,.int 15 0,.int 43 0,.int 13 0,.int 16 0,.int 114 0,.int 16 0,.int 97 0,.int 16 0,.int 105 0,.int 16 0,.int 115 0,.int 16 0,.int 101 0,.int 15 0,.int 30 0,.int 15 0,.int 16 0,.int 105 0,.int 16 0,.int 109 0,.int 16 0,.int 112 0,.int 16 0,.int 111 0,.int 16 0,.int 114 0,.int 16 0,.int 116 0,.int 15 0,.int 15 0,.int 13 0,.int 16 0,.int 121 0,.int 16 0,.int 105 0,.int 16 0,.int 101 0,.int 16 0,.int 108 0,.int 16 0,.int 100 0,.int 15 0,.int 2 0,.int 0 0,.int 6 0,.int 10 0,.int 1 0] 0,#[]⟩
noncomputable def o41(P:Pm):Obj:=⟨.type "re.Pattern",none,.fields #[.str "\n    ^\n    [ \\t]*\n    (?: while\n    |   else\n    |   def\n    |   return\n    |   assert\n    |   break\n    |   class\n    |   continue\n    |   elif\n    |   try\n    |   except\n    |   raise\n    |   \x69mport\n    |   yield\n    )\n    \\b\n" 292,.int 104 503,.int 0 0,.none,.none,.ref 42,.int 0 0],#[]⟩
noncomputable def u12(P:Pm):BT:=.node (o27 P) (.node (o18 P) (lf (o7 P)) .nil) (.node (o26 P) (lf (o41 P)) .nil)
noncomputable def u13(P:Pm):BT:=.node (o9 P) (.node (o16 P) (lf (o8 P)) .nil) (.node (o24 P) (lf (o39 P)) .nil)
noncomputable def u14(P:Pm):BT:=.node (o10 P) (.node (o17 P) (lf (o32 P)) .nil) (.node (o25 P) (lf (o40 P)) .nil)
noncomputable def t2(P:Pm):BT:=(.node (o0 P) (.node (o1 P) (.node (o37 P) (.node (o7 P) (.node (o7 P) (lf (o29 P)) .nil) (.node (o22 P) (lf (o38 P)) .nil)) (u12 P)) (.node (o5 P) (u13 P) (u3 P))) (.node (o2 P) (.node (o4 P) (.node (o8 P) (.node (o15 P) (lf (o7 P)) .nil) (.node (o23 P) (lf (o6 P)) .nil)) (u6 P)) (.node (o6 P) (u14 P) (u9 P))))
noncomputable def s2(w:World)(os:OsState):SharedT:=⟨t2 w.params,44,lf0,#[],⟨0,0,0,0⟩,505,os⟩
noncomputable def e13(P:Pm):DictEntry:=en P "_twin_re_2" 548 (.ref 48)
noncomputable def o42(P:Pm):Obj:=⟨.type "dict",none,.dict #[e11 P,e0 P,e1 P,e2 P,e3 P,e4 P,e5 P,e6 P,e7 P,e8 P,e10 P,e12 P,e13 P] 13,#[]⟩
noncomputable def o43(P:Pm):Obj:=⟨.type "list",none,.seq (ia 508 [14,4,0,1,4294967295,24,11,0,4294967295,13,6,16,32,16,9,0,1,23,16,0,1,16,35,13,4,8,13,0,24,5,0,4294967295,2,1,18,16,10,1]) 0,#[]⟩
noncomputable def o44(P:Pm):Obj:=⟨.type "tuple",none,.seq #[.int 14 0,.int 4 0,.int 0 0,.int 1 0,.int 4294967295 0,.int 24 0,.int 11 0,.int 0 0,.int 4294967295 0,.int 13 0,.int 6 0,.int 16 0,.int 32 0,.int 16 0,.int 9 0,.int 0 0,.int 1 0,.int 23 0,.int 16 0,.int 0 0,.int 1 0,.int 16 0,.int 35 0,.int 13 0,.int 4 0,.int 8 0,.int 13 0,.int 0 0,.int 24 0,.int 5 0,.int 0 0,.int 4294967295 0,.int 2 0,.int 1 0,.int 18 0,.int 16 0,.int 10 0,.int 1 0] 0,#[]⟩
noncomputable def o45(P:Pm):Obj:=⟨.type "re.Pattern",none,.fields #[.str "\n    [ \\t]*\n    (?: \\# \\S .* )?\n    \\n\n" 506,.int 96 547,.int 0 0,.none,.none,.ref 47,.int 0 0],#[]⟩
noncomputable def u15(P:Pm):BT:=.node (o7 P) (.node (o7 P) (lf (o29 P)) (lf (o44 P))) (.node (o22 P) (lf (o38 P)) .nil)
noncomputable def u16(P:Pm):BT:=.node (o8 P) (.node (o15 P) (lf (o7 P)) (lf (o45 P))) (.node (o23 P) (lf (o6 P)) .nil)
noncomputable def u17(P:Pm):BT:=.node (o14 P) (.node (o21 P) (lf (o35 P)) .nil) (.node (o28 P) (lf (o39 P)) .nil)
noncomputable def t3(P:Pm):BT:=(.node (o0 P) (.node (o1 P) (.node (o42 P) (u15 P) (u12 P)) (.node (o5 P) (u13 P) (.node (o13 P) (.node (o20 P) (lf (o34 P)) .nil) (.node (o31 P) (lf (o6 P)) .nil)))) (.node (o2 P) (.node (o4 P) (u16 P) (.node (o12 P) (.node (o19 P) (lf (o33 P)) .nil) (.node (o7 P) (lf (o43 P)) .nil))) (.node (o6 P) (u14 P) (u17 P))))
noncomputable def s3(w:World)(os:OsState):SharedT:=⟨t3 w.params,49,lf0,#[],⟨0,0,0,0⟩,549,os⟩
noncomputable def e14(P:Pm):DictEntry:=en P "_twin_re_3" 823 (.ref 53)
noncomputable def o46(P:Pm):Obj:=⟨.type "dict",none,.dict #[e11 P,e0 P,e1 P,e2 P,e3 P,e4 P,e5 P,e6 P,e7 P,e8 P,e10 P,e12 P,e13 P,e14 P] 14,#[]⟩
noncomputable def o47(P:Pm):Obj:=⟨.type "list",none,.seq (ia 552 [14,9,4,1,4294967295,16,34,16,39,0,7,72,16,34,16,34,16,34,24,12,0,4294967295,13,7,21,16,34,16,92,0,1,23,37,0,4294967295,7,6,16,92,3,15,15,13,16,34,5,7,0,16,34,16,34,1,15,2,0,24,12,0,4294967295,13,7,21,16,34,16,92,0,1,18,23,9,0,1,16,34,16,34,16,34,18,15,186,56,16,34,24,17,0,4294967295,13,12,21,9,1024,4,268435456,0,0,0,0,0,0,1,23,24,0,4294967295,16,92,3,24,17,0,4294967295,13,12,21,9,1024,4,268435456,0,0,0,0,0,0,1,18,24,6,0,1,16,34,1,15,130,72,16,39,16,39,16,39,24,12,0,4294967295,13,7,21,16,39,16,92,0,1,23,37,0,4294967295,7,6,16,92,3,15,15,13,16,39,5,7,0,16,39,16,39,1,15,2,0,24,12,0,4294967295,13,7,21,16,39,16,92,0,1,18,23,9,0,1,16,39,16,39,16,39,18,15,58,56,16,39,24,17,0,4294967295,13,12,21,9,1024,128,268435456,0,0,0,0,0,0,1,23,24,0,4294967295,16,92,3,24,17,0,4294967295,13,12,21,9,1024,128,268435456,0,0,0,0,0,0,1,18,24,6,0,1,16,39,1,15,2,0,1]) 0,#[]⟩
noncomputable def o48(P:Pm):Obj:=⟨.type "tuple",none,.seq #[.int 14 0,.int 9 0,.int 4 0,.int 1 0,.int 4294967295 0,.int 16 0,.int 34 0,.int 16 0,.int 39 0,.int 0 0,.int 7 0,.int 72 0,.int 16 0,.int 34 0,.int 16 0,.int 34 0,.int 16 0,.int 34 0,.int 24 0,.int 12 0,.int 0 0,.int 4294967295 0,.int 13 0,.int 7 0,.int 21 0,.int 16 0,.int 34 0,.int 16 0,.int 92 0,.int 0 0,.int 1 0,.int 23 0,.int 37 0,.int 0 0,.int 4294967295 0,.int 7 0,.int 6 0,.int 16 0,.int 92 0,.int 3 0,.int 15 0,.int 15 0,.int 13 0,.int 16 0,.int 34 0,.int 5 0,.int 7 0,.int 0 0,.int 16 0,.int 34 0,.int 16 0,.int 34 0,.int 1 0,.int 15 0,.int 2 0,.int 0 0,.int 24 0,.int 12 0,.int 0 0,.int 4294967295 0,.int 13 0,.int 7 0,.int 21 0,.int 16 0,.int 34 0,.int 16 0,.int 92 0,.int 0 0,.int 1 0,.int 18 0,.int 23 0,.int 9 0,.int 0 0,.int 1 0,.int 16 0,.int 34 0,.int 16 0,.int 34 0,.int 16 0,.int 34 0,.int 18 0,.int 15 0,.int 186 0,.int 56 0,.int 16 0,.int 34 0,.int 24 0,.int 17 0,.int 0 0,.int 4294967295 0,.int 13 0,.int 12 0,.int 21 0,.int 9 0,.int 1024 0,.int 4 0,.int 268435456 0,.int 0 0,.int 0 0,.int 0 0,.int 0 0,.int 0 0,.int 0 0,.int 1 0,.int 23 0,.int 24 0,.int 0 0,.int 4294967295 0,.int 16 0,.int 92 0,.int 3 0,.int 24 0,.int 17 0,.int 0 0,.int 4294967295 0,.int 13 0,.int 12 0,.int 21 0,.int 9 0,.int 1024 0,.int 4 0,.int 268435456 0,.int 0 0,.int 0 0,.int 0 0,.int 0 0,.int 0 0,.int 0 0,.int 1 0,.int 18 0,.int 24 0,.int 6 0,.int 0 0,.int 1 0,.int 16 0,.int 34 0,.int 1 0,.int 15 0,.int 130 0,.int 72 0,.int 16 0,.int 39 0,.int 16 0,.int 39 0,.int 16 0,.int 39 0,.int 24 0,.int 12 0,.int 0 0,.int 4294967295 0,.int 13 0,.int 7 0,.int 21 0,.int 16 0,.int 39 0,.int 16 0,.int 92 0,.int 0 0,.int 1 0,.int 23 0,.int 37 0,.int 0 0,.int 4294967295 0,.int 7 0,.int 6 0,.int 16 0,.int 92 0,.int 3 0,.int 15 0,.int 15 0,.int 13 0,.int 16 0,.int 39 0,.int 5 0,.int 7 0,.int 0 0,.int 16 0,.int 39 0,.int 16 0,.int 39 0,.int 1 0,.int 15 0,.int 2 0,.int 0 0,.int 24 0,.int 12 0,.int 0 0,.int 4294967295 0,.int 13 0,.int 7 0,.int 21 0,.int 16 0,.int 39 0,.int 16 0,.int 92 0,.int 0 0,.int 1 0,.int 18 0,.int 23 0,.int 9 0,.int 0 0,.int 1 0,.int 16 0,.int 39 0,.int 16 0,.int 39 0,.int 16 0,.int 39 0,.int 18 0,.int 15 0,.int 58 0,.int 56 0,.int 16 0,.int 39 0,.int 24 0,.int 17 0,.int 0 0,.int 4294967295 0,.int 13 0,.int 12 0,.int 21 0,.int 9 0,.int 1024 0,.int 128 0,.int 268435456 0,.int 0 0,.int 0 0,.int 0 0,.int 0 0,.int 0 0,.int 0 0,.int 1 0,.int 23 0,.int 24 0,.int 0 0,.int 4294967295 0,.int 16 0,.int 92 0,.int 3 0,.int 24 0,.int 17 0,.int 0 0,.int 4294967295 0,.int 13 0,.int 12 0,.int 21 0,.int 9 0,.int 1024 0,.int 128 0,.int 268435456 0,.int 0 0,.int 0 0,.int 0 0,.int 0 0,.int 0 0,.int 0 0,.int 1 0,.int 18 0,.int 24 0,.int 6 0,.int 0 0,.int 1 0,.int 16 0,.int 39 0,.int 1 0,.int 15 0,.int 2 0,.int 0 0,.int 1 0] 0,#[]⟩
noncomputable def o49(P:Pm):Obj:=⟨.type "re.Pattern",none,.fields #[.str "\n    \\\"\"\" [^\"\\\\]* (?:\n                     (?: \\\\. | \"(?!\"\") )\n                     [^\"\\\\]*\n                 )*\n    (?: \\\"\"\" )?\n\n|   \" [^\"\\\\\\n]* (?: \\\\. [^\"\\\\\\n]* )* \"?\n\n|   ''' [^'\\\\]* (?:\n                   (?: \\\\. | '(?!'') )\n                   [^'\\\\]*\n                )*\n    (?: ''' )?\n\n|   ' [^'\\\\\\n]* (?: \\\\. [^'\\\\\\n]* )* '?\n" 550,.int 112 822,.int 0 0,.none,.none,.ref 52,.int 0 0],#[]⟩
noncomputable def u18(P:Pm):BT:=.node (o27 P) (.node (o18 P) (lf (o7 P)) (lf (o39 P))) (.node (o26 P) (lf (o41 P)) .nil)
noncomputable def u19(P:Pm):BT:=.node (o20 P) (lf (o34 P)) (lf (o49 P))
noncomputable def u20(P:Pm):BT:=.node (o13 P) (u19 P) (.node (o31 P) (lf (o6 P)) .nil)
noncomputable def u21(P:Pm):BT:=.node (o19 P) (lf (o33 P)) (lf (o48 P))
noncomputable def u22(P:Pm):BT:=.node (o12 P) (u21 P) (.node (o7 P) (lf (o43 P)) .nil)
noncomputable def t4(P:Pm):BT:=(.node (o0 P) (.node (o1 P) (.node (o46 P) (u15 P) (u18 P)) (.node (o5 P) (.node (o9 P) (.node (o16 P) (lf (o8 P)) (lf (o47 P))) (.node (o24 P) (lf (o39 P)) .nil)) (u20 P))) (.node (o2 P) (.node (o4 P) (u16 P) (u22 P)) (.node (o6 P) (.node (o10 P) (.node (o17 P) (lf (o32 P)) (lf (o6 P))) (.node (o25 P) (lf (o40 P)) .nil)) (u17 P))))
noncomputable def s4(w:World)(os:OsState):SharedT:=⟨t4 w.params,54,lf0,#[],⟨0,0,0,0⟩,824,os⟩
noncomputable def e15(P:Pm):DictEntry:=en P "_twin_re_6" 853 (.ref 58)
noncomputable def o50(P:Pm):Obj:=⟨.type "dict",none,.dict #[e11 P,e0 P,e1 P,e2 P,e3 P,e4 P,e5 P,e6 P,e7 P,e8 P,e10 P,e12 P,e13 P,e14 P,e15 P] 15,#[]⟩
noncomputable def o51(P:Pm):Obj:=⟨.type "list",none,.seq (ia 827 [14,4,0,1,4294967295,24,17,1,4294967295,13,12,21,9,0,908,939524096,671088640,0,0,0,0,0,1,1]) 0,#[]⟩
noncomputable def o52(P:Pm):Obj:=⟨.type "tuple",none,.seq #[.int 14 0,.int 4 0,.int 0 0,.int 1 0,.int 4294967295 0,.int 24 0,.int 17 0,.int 1 0,.int 4294967295 0,.int 13 0,.int 12 0,.int 21 0,.int 9 0,.int 0 0,.int 908 0,.int 939524096 0,.int 671088640 0,.int 0 0,.int 0 0,.int 0 0,.int 0 0,.int 0 0,.int 1 0,.int 1 0] 0,#[]⟩
noncomputable def o53(P:Pm):Obj:=⟨.type "re.Pattern",none,.fields #[.str "\n    [^[\\](){}#'\"\\\\]+\n" 825,.int 96 852,.int 0 0,.none,.none,.ref 57,.int 0 0],#[]⟩
noncomputable def u23(P:Pm):BT:=.node (o7 P) (.node (o7 P) (lf (o29 P)) (lf (o44 P))) (.node (o22 P) (lf (o38 P)) (lf (o6 P)))
noncomputable def u24(P:Pm):BT:=.node (o24 P) (lf (o39 P)) (lf (o52 P))
noncomputable def u25(P:Pm):BT:=.node (o9 P) (.node (o16 P) (lf (o8 P)) (lf (o47 P))) (u24 P)
noncomputable def u26(P:Pm):BT:=.node (o8 P) (.node (o15 P) (lf (o7 P)) (lf (o45 P))) (.node (o23 P) (lf (o6 P)) (lf (o39 P)))
noncomputable def u27(P:Pm):BT:=.node (o25 P) (lf (o40 P)) (lf (o53 P))
noncomputable def u28(P:Pm):BT:=.node (o10 P) (.node (o17 P) (lf (o32 P)) (lf (o6 P))) (u27 P)
noncomputable def u29(P:Pm):BT:=.node (o21 P) (lf (o35 P)) (lf (o51 P))
noncomputable def t5(P:Pm):BT:=(.node (o0 P) (.node (o1 P) (.node (o50 P) (u23 P) (u18 P)) (.node (o5 P) (u25 P) (u20 P))) (.node (o2 P) (.node (o4 P) (u26 P) (u22 P)) (.node (o6 P) (u28 P) (.node (o14 P) (u29 P) (.node (o28 P) (lf (o39 P)) .nil)))))
noncomputable def s5(w:World)(os:OsState):SharedT:=⟨t5 w.params,59,lf0,#[],⟨0,0,0,0⟩,854,os⟩
noncomputable def e16(P:Pm):DictEntry:=en P "C_NONE" 862 (.int 0 857)
noncomputable def e17(P:Pm):DictEntry:=en P "C_BACKSLASH" 863 (.int 1 858)
noncomputable def e18(P:Pm):DictEntry:=en P "C_STRING_FIRST_LINE" 864 (.int 2 859)
noncomputable def e19(P:Pm):DictEntry:=en P "C_STRING_NEXT_LINES" 865 (.int 3 860)
noncomputable def e20(P:Pm):DictEntry:=en P "C_BRACKET" 866 (.int 4 861)
noncomputable def o54(P:Pm):Obj:=⟨.type "dict",none,.dict #[e11 P,e0 P,e1 P,e2 P,e3 P,e4 P,e5 P,e6 P,e7 P,e8 P,e10 P,e12 P,e13 P,e14 P,e15 P,e16 P,e17 P,e18 P,e19 P,e20 P] 20,#[]⟩
noncomputable def o55(P:Pm):Obj:=⟨.type "range",none,.fields #[.int 0 855,.int 5 854,.int 1 856],#[]⟩
noncomputable def o56(P:Pm):Obj:=⟨.type "range_iterator",none,.fields #[.int 5 0,.int 0 0,.int 1 0],#[]⟩
noncomputable def o57(P:Pm):Obj:=⟨.type "StopIteration",none,.fields #[.ref 61,.none,.none,.none,.bool false,.none],#[]⟩
noncomputable def u30(P:Pm):BT:=.node (o26 P) (lf (o41 P)) (lf (o55 P))
noncomputable def u31(P:Pm):BT:=.node (o27 P) (.node (o18 P) (lf (o7 P)) (lf (o39 P))) (u30 P)
noncomputable def u32(P:Pm):BT:=.node (o13 P) (u19 P) (.node (o31 P) (lf (o6 P)) (lf (o7 P)))
noncomputable def u33(P:Pm):BT:=.node (o5 P) (u25 P) (u32 P)
noncomputable def u34(P:Pm):BT:=.node (o12 P) (u21 P) (.node (o7 P) (lf (o43 P)) (lf (o56 P)))
noncomputable def u35(P:Pm):BT:=.node (o4 P) (u26 P) (u34 P)
noncomputable def u36(P:Pm):BT:=.node (o28 P) (lf (o39 P)) (lf (o57 P))
noncomputable def u37(P:Pm):BT:=.node (o14 P) (u29 P) (u36 P)
noncomputable def u38(P:Pm):BT:=.node (o6 P) (u28 P) (u37 P)
noncomputable def u39(P:Pm):BT:=.node (o2 P) (u35 P) (u38 P)
noncomputable def t6(P:Pm):BT:=(.node (o0 P) (.node (o1 P) (.node (o54 P) (u23 P) (u31 P)) (u33 P)) (u39 P))
noncomputable def s6(w:World)(os:OsState):SharedT:=⟨t6 w.params,63,lf0,#[],⟨0,0,0,0⟩,867,os⟩
noncomputable def e21(P:Pm):DictEntry:=en P "_synchre" 868 (.ref 63)
noncomputable def o58(P:Pm):Obj:=⟨.type "dict",none,.dict #[e11 P,e0 P,e1 P,e2 P,e3 P,e4 P,e5 P,e6 P,e7 P,e8 P,e10 P,e12 P,e13 P,e14 P,e15 P,e16 P,e17 P,e18 P,e19 P,e20 P,e21 P] 21,#[]⟩
noncomputable def o59(P:Pm):Obj:=⟨.type "builtin_function_or_method",none,.fields #[.builtin "re.Pattern.search",.ref 43],#[]⟩
noncomputable def u40(P:Pm):BT:=.node (o7 P) (.node (o29 P) (lf (o59 P)) .nil) (lf (o44 P))
noncomputable def u41(P:Pm):BT:=.node (o7 P) (u40 P) (.node (o22 P) (lf (o38 P)) (lf (o6 P)))
noncomputable def t7(P:Pm):BT:=(.node (o0 P) (.node (o1 P) (.node (o58 P) (u41 P) (u31 P)) (u33 P)) (u39 P))
noncomputable def s7(w:World)(os:OsState):SharedT:=⟨t7 w.params,64,lf0,#[],⟨0,0,0,0⟩,869,os⟩
noncomputable def e22(P:Pm):DictEntry:=en P "_junkre" 870 (.ref 64)
noncomputable def o60(P:Pm):Obj:=⟨.type "dict",none,.dict #[e11 P,e0 P,e1 P,e2 P,e3 P,e4 P,e5 P,e6 P,e7 P,e8 P,e10 P,e12 P,e13 P,e14 P,e15 P,e16 P,e17 P,e18 P,e19 P,e20 P,e21 P,e22 P] 22,#[]⟩
noncomputable def o61(P:Pm):Obj:=⟨.type "builtin_function_or_method",none,.fields #[.builtin "re.Pattern.match",.ref 48],#[]⟩
noncomputable def u42(P:Pm):BT:=.node (o15 P) (.node (o7 P) (lf (o61 P)) .nil) (lf (o45 P))
noncomputable def u43(P:Pm):BT:=.node (o8 P) (u42 P) (.node (o23 P) (lf (o6 P)) (lf (o39 P)))
noncomputable def u44(P:Pm):BT:=.node (o4 P) (u43 P) (u34 P)
noncomputable def u45(P:Pm):BT:=.node (o2 P) (u44 P) (u38 P)
noncomputable def t8(P:Pm):BT:=(.node (o0 P) (.node (o1 P) (.node (o60 P) (u41 P) (u31 P)) (u33 P)) (u45 P))
noncomputable def s8(w:World)(os:OsState):SharedT:=⟨t8 w.params,65,lf0,#[],⟨0,0,0,0⟩,871,os⟩
noncomputable def e23(P:Pm):DictEntry:=en P "_match_stringre" 872 (.ref 65)
noncomputable def o62(P:Pm):Obj:=⟨.type "dict",none,.dict #[e11 P,e0 P,e1 P,e2 P,e3 P,e4 P,e5 P,e6 P,e7 P,e8 P,e10 P,e12 P,e13 P,e14 P,e15 P,e16 P,e17 P,e18 P,e19 P,e20 P,e21 P,e22 P,e23 P] 23,#[]⟩
noncomputable def o63(P:Pm):Obj:=⟨.type "builtin_function_or_method",none,.fields #[.builtin "re.Pattern.match",.ref 53],#[]⟩
noncomputable def u46(P:Pm):BT:=.node (o16 P) (.node (o8 P) (lf (o63 P)) .nil) (lf (o47 P))
noncomputable def u47(P:Pm):BT:=.node (o9 P) (u46 P) (u24 P)
noncomputable def u48(P:Pm):BT:=.node (o5 P) (u47 P) (u32 P)
noncomputable def t9(P:Pm):BT:=(.node (o0 P) (.node (o1 P) (.node (o62 P) (u41 P) (u31 P)) (u48 P)) (u45 P))
noncomputable def s9(w:World)(os:OsState):SharedT:=⟨t9 w.params,66,lf0,#[],⟨0,0,0,0⟩,873,os⟩
noncomputable def e24(P:Pm):DictEntry:=en P "_chew_ordinaryre" 874 (.ref 66)
noncomputable def o64(P:Pm):Obj:=⟨.type "dict",none,.dict #[e11 P,e0 P,e1 P,e2 P,e3 P,e4 P,e5 P,e6 P,e7 P,e8 P,e10 P,e12 P,e13 P,e14 P,e15 P,e16 P,e17 P,e18 P,e19 P,e20 P,e21 P,e22 P,e23 P,e24 P] 24,#[]⟩
noncomputable def o65(P:Pm):Obj:=⟨.type "builtin_function_or_method",none,.fields #[.builtin "re.Pattern.match",.ref 58],#[]⟩
noncomputable def t10(P:Pm):BT:=(.node (o0 P) (.node (o1 P) (.node (o64 P) (u41 P) (u31 P)) (u48 P)) (.node (o2 P) (u44 P) (.node (o6 P) (.node (o10 P) (.node (o17 P) (.node (o32 P) (lf (o65 P)) .nil) (lf (o6 P))) (u27 P)) (u37 P))))
noncomputable def s10(w:World)(os:OsState):SharedT:=⟨t10 w.params,67,lf0,#[],⟨0,0,0,0⟩,875,os⟩
noncomputable def e25(P:Pm):DictEntry:=en P "ParseMap" 902 (.ref 83)
noncomputable def o66(P:Pm):Obj:=⟨.type "dict",none,.dict #[e11 P,e0 P,e1 P,e2 P,e3 P,e4 P,e5 P,e6 P,e7 P,e8 P,e10 P,e12 P,e13 P,e14 P,e15 P,e16 P,e17 P,e18 P,e19 P,e20 P,e21 P,e22 P,e23 P,e24 P,e25 P] 25,#[]⟩
noncomputable def o67(P:Pm):Obj:=⟨.none,none,.fields #[.int 2 0,.int 0 0,.ref 37,.int 15 0,.int 0 0,.ref 72],#[]⟩
noncomputable def o68(P:Pm):Obj:=⟨.type "tuple",none,.seq #[.type "dict"] 0,#[]⟩
noncomputable def o69(P:Pm):Obj:=⟨.type "builtin_function_or_method",none,.fields #[.builtin "type.__prepare__",.type "type"],#[]⟩
noncomputable def e26(P:Pm):DictEntry:=en P "__module__" 882 (.str "cpy313.idlelib.pyparse" 289)
noncomputable def o70(P:Pm):Obj:=⟨.type "dict",none,.dict #[e26 P,en P "__qualname__" 884 (.str "ParseMap" 883),en P "__firstlineno__" 886 (.int 15 885),en P "__missing__" 894 (.ref 80),en P "__static_attributes__" 895 (.ref 81)] 5,#[]⟩
noncomputable def o71(P:Pm):Obj:=⟨.none,none,.fields #[.int 17 0,.int 4 0,.ref 79],#[]⟩
noncomputable def o72(P:Pm):Obj:=⟨.type "code",none,.fields #[.str "ParseMap" 877,.str "ParseMap" 878,.str "/claim/cut.py" 879,.int 15 0,.int 0 0,.int 0 0,.int 0 0,.int 0 0,.ref 70,.bool false,.int 276 0,.ref 71,.none,.none,.none,.none,.int 880 0,.int 15 0,.str "/claim/cut.py" 881],#[]⟩
noncomputable def o73(P:Pm):Obj:=⟨.type "frame",none,.plain,#[some (.ref 72),some (.ref 3),some (.ref 69),none,some (.str "cpy313.idlelib.pyparse" 289),none,some (.ref 0)]⟩
noncomputable def o74(P:Pm):Obj:=⟨.type "tuple",none,.seq #[.str "self" 890,.str "key" 891] 0,#[]⟩
noncomputable def o75(P:Pm):Obj:=⟨.none,none,.func (fd (sub (stm 12) 0) "__missing__" "ParseMap.__missing__" 0 .none .none .none .none .none .none 0),#[]⟩
noncomputable def o76(P:Pm):Obj:=⟨.type "code",none,.fields #[.str "__missing__" 887,.str "ParseMap.__missing__" 888,.str "/claim/cut.py" 889,.int 17 0,.int 2 0,.int 0 0,.int 0 0,.int 3 0,.ref 74,.bool true,.int 276 0,.ref 75,.none,.ref 76,.ref 77,.ref 78,.int 892 0,.int 17 0,.str "/claim/cut.py" 893],#[]⟩
noncomputable def o77(P:Pm):Obj:=⟨.type "function",none,.func (fd (sub (stm 12) 0) "__missing__" "ParseMap.__missing__" 3 .none .none .none (.str "cpy313.idlelib.pyparse" 289) (.ref 79) .none 0),#[]⟩
noncomputable def o78(P:Pm):Obj:=⟨.type "dict",none,.dict #[e26 P,en P "__firstlineno__" 886 (.int 15 885),en P "__missing__" 894 (.ref 80),en P "__static_attributes__" 895 (.ref 81),en P "__dict__" 897 (.ref 84),en P "__weakref__" 899 (.ref 85),en P "__doc__" 900 .none] 4,#[]⟩
noncomputable def o79(P:Pm):Obj:=⟨.type "type",none,.cls { name:="ParseMap",bases:=[.type "dict"],mro:=[.ref 83,.type "dict",.type "object"],ns:=82,qualname:="ParseMap",hasDict:=true,slotNames:=[],subclasses:=[],abstract:=false,collection:=none,hasDel:=false },#[some (.ref 67),none,some (.str "ParseMap" 875),some (.str "ParseMap" 883),some (.builtin "dict.__new__"),some (.bool true)]⟩
noncomputable def o80(P:Pm):Obj:=⟨.type "getset_descriptor",none,.fields #[.str "__dict__" 896,.ref 83,.builtin "function.__dict__",.builtin "function.__dict__#set"],#[]⟩
noncomputable def o81(P:Pm):Obj:=⟨.type "getset_descriptor",none,.fields #[.str "__weakref__" 898,.ref 83,.builtin "ExceptionGroup.__weakref__",.none],#[]⟩
noncomputable def o82(P:Pm):Obj:=⟨.type "super",none,.fields #[.ref 83,.ref 83,.ref 83],#[]⟩
noncomputable def o83(P:Pm):Obj:=⟨.type "builtin_function_or_method",none,.fields #[.builtin "object.__init_subclass__",.ref 83],#[]⟩
noncomputable def u49(P:Pm):BT:=.node (o7 P) (.node (o29 P) (lf (o59 P)) .nil) (.node (o44 P) (lf (o76 P)) .nil)
noncomputable def u50(P:Pm):BT:=.node (o22 P) (.node (o38 P) (lf (o71 P)) .nil) (.node (o6 P) (lf (o83 P)) .nil)
noncomputable def u51(P:Pm):BT:=.node (o7 P) (u49 P) (u50 P)
noncomputable def u52(P:Pm):BT:=.node (o18 P) (.node (o7 P) (lf (o68 P)) .nil) (.node (o39 P) (lf (o79 P)) .nil)
noncomputable def u53(P:Pm):BT:=.node (o16 P) (.node (o8 P) (lf (o63 P)) .nil) (.node (o47 P) (lf (o7 P)) .nil)
noncomputable def u54(P:Pm):BT:=.node (o20 P) (.node (o34 P) (lf (o70 P)) .nil) (.node (o49 P) (lf (o81 P)) .nil)
noncomputable def u55(P:Pm):BT:=.node (o67 P) (.node (o6 P) (lf (o7 P)) .nil) (lf (o7 P))
noncomputable def u56(P:Pm):BT:=.node (o13 P) (u54 P) (u55 P)
noncomputable def u57(P:Pm):BT:=.node (o15 P) (.node (o7 P) (lf (o61 P)) .nil) (.node (o45 P) (lf (o77 P)) .nil)
noncomputable def u58(P:Pm):BT:=.node (o19 P) (.node (o33 P) (lf (o69 P)) .nil) (.node (o48 P) (lf (o80 P)) .nil)
noncomputable def u59(P:Pm):BT:=.node (o17 P) (.node (o32 P) (lf (o65 P)) .nil) (.node (o6 P) (lf (o78 P)) .nil)
noncomputable def u60(P:Pm):BT:=.node (o21 P) (.node (o35 P) (lf (o7 P)) .nil) (.node (o51 P) (lf (o82 P)) .nil)
noncomputable def u61(P:Pm):BT:=.node (o28 P) (.node (o39 P) (lf (o75 P)) .nil) (lf (o57 P))
noncomputable def u62(P:Pm):BT:=.node (o14 P) (u60 P) (u61 P)
noncomputable def t11(P:Pm):BT:=(.node (o0 P) (.node (o1 P) (.node (o66 P) (u51 P) (.node (o27 P) (u52 P) (.node (o26 P) (.node (o41 P) (lf (o8 P)) .nil) (lf (o55 P))))) (.node (o5 P) (.node (o9 P) (u53 P) (.node (o24 P) (.node (o39 P) (lf (o73 P)) .nil) (lf (o52 P)))) (u56 P))) (.node (o2 P) (.node (o4 P) (.node (o8 P) (u57 P) (.node (o23 P) (.node (o6 P) (lf (o72 P)) .nil) (lf (o39 P)))) (.node (o12 P) (u58 P) (.node (o7 P) (.node (o43 P) (lf (o74 P)) .nil) (lf (o56 P))))) (.node (o6 P) (.node (o10 P) (u59 P) (.node (o25 P) (.node (o40 P) (lf (o7 P)) .nil) (lf (o53 P)))) (u62 P))))
noncomputable def s11(w:World)(os:OsState):SharedT:=⟨t11 w.params,88,lf0,#[],⟨0,0,0,0⟩,903,os⟩
noncomputable def e27(P:Pm):DictEntry:=en P "trans" 1164 (.ref 91)
noncomputable def o84(P:Pm):Obj:=⟨.type "dict",none,.dict #[e11 P,e0 P,e1 P,e2 P,e3 P,e4 P,e5 P,e6 P,e7 P,e8 P,e10 P,e12 P,e13 P,e14 P,e15 P,e16 P,e17 P,e18 P,e19 P,e20 P,e21 P,e22 P,e23 P,e24 P,e25 P,e27 P] 26,#[]⟩
noncomputable def o85(P:Pm):Obj:=⟨.type "builtin_function_or_method",none,.fields #[.builtin "dict.fromkeys",.ref 83],#[]⟩
noncomputable def o86(P:Pm):Obj:=⟨.type "range",none,.fields #[.int 0 905,.int 128 904,.int 1 906],#[]⟩
noncomputable def e28(P:Pm):DictEntry:=ie 0 908 907
noncomputable def e29(P:Pm):DictEntry:=ie 1 910 907
noncomputable def e30(P:Pm):DictEntry:=ie 2 912 907
noncomputable def e31(P:Pm):DictEntry:=ie 3 914 907
noncomputable def e32(P:Pm):DictEntry:=ie 4 916 907
noncomputable def e33(P:Pm):DictEntry:=ie 5 918 907
noncomputable def e34(P:Pm):DictEntry:=ie 6 920 907
noncomputable def e35(P:Pm):DictEntry:=ie 7 922 907
noncomputable def e36(P:Pm):DictEntry:=ie 8 924 907
noncomputable def e37(P:Pm):DictEntry:=ie 9 926 907
noncomputable def e38(P:Pm):DictEntry:=ie 10 928 907
noncomputable def e39(P:Pm):DictEntry:=ie 11 930 907
noncomputable def e40(P:Pm):DictEntry:=ie 12 932 907
noncomputable def e41(P:Pm):DictEntry:=ie 13 934 907
noncomputable def e42(P:Pm):DictEntry:=ie 14 936 907
noncomputable def e43(P:Pm):DictEntry:=ie 15 938 907
noncomputable def e44(P:Pm):DictEntry:=ie 16 940 907
noncomputable def e45(P:Pm):DictEntry:=ie 17 942 907
noncomputable def e46(P:Pm):DictEntry:=ie 18 944 907
noncomputable def e47(P:Pm):DictEntry:=ie 19 946 907
noncomputable def e48(P:Pm):DictEntry:=ie 20 948 907
noncomputable def e49(P:Pm):DictEntry:=ie 21 950 907
noncomputable def e50(P:Pm):DictEntry:=ie 22 952 907
noncomputable def e51(P:Pm):DictEntry:=ie 23 954 907
noncomputable def e52(P:Pm):DictEntry:=ie 24 956 907
noncomputable def e53(P:Pm):DictEntry:=ie 25 958 907
noncomputable def e54(P:Pm):DictEntry:=ie 26 960 907
noncomputable def e55(P:Pm):DictEntry:=ie 27 962 907
noncomputable def e56(P:Pm):DictEntry:=ie 28 964 907
noncomputable def e57(P:Pm):DictEntry:=ie 29 966 907
noncomputable def e58(P:Pm):DictEntry:=ie 30 968 907
noncomputable def e59(P:Pm):DictEntry:=ie 31 970 907
noncomputable def e60(P:Pm):DictEntry:=ie 32 972 907
noncomputable def e61(P:Pm):DictEntry:=ie 33 974 907
noncomputable def e62(P:Pm):DictEntry:=ie 34 976 907
noncomputable def e63(P:Pm):DictEntry:=ie 35 978 907
noncomputable def e64(P:Pm):DictEntry:=ie 36 980 907
noncomputable def e65(P:Pm):DictEntry:=ie 37 982 907
noncomputable def e66(P:Pm):DictEntry:=ie 38 984 907
noncomputable def e67(P:Pm):DictEntry:=ie 39 986 907
noncomputable def e68(P:Pm):DictEntry:=ie 40 988 907
noncomputable def e69(P:Pm):DictEntry:=ie 41 990 907
noncomputable def e70(P:Pm):DictEntry:=ie 42 992 907
noncomputable def e71(P:Pm):DictEntry:=ie 43 994 907
noncomputable def e72(P:Pm):DictEntry:=ie 44 996 907
noncomputable def e73(P:Pm):DictEntry:=ie 45 998 907
noncomputable def e74(P:Pm):DictEntry:=ie 46 1000 907
noncomputable def e75(P:Pm):DictEntry:=ie 47 1002 907
noncomputable def e76(P:Pm):DictEntry:=ie 48 1004 907
noncomputable def e77(P:Pm):DictEntry:=ie 49 1006 907
noncomputable def e78(P:Pm):DictEntry:=ie 50 1008 907
noncomputable def e79(P:Pm):DictEntry:=ie 51 1010 907
noncomputable def e80(P:Pm):DictEntry:=ie 52 1012 907
noncomputable def e81(P:Pm):DictEntry:=ie 53 1014 907
noncomputable def e82(P:Pm):DictEntry:=ie 54 1016 907
noncomputable def e83(P:Pm):DictEntry:=ie 55 1018 907
noncomputable def e84(P:Pm):DictEntry:=ie 56 1020 907
noncomputable def e85(P:Pm):DictEntry:=ie 57 1022 907
noncomputable def e86(P:Pm):DictEntry:=ie 58 1024 907
noncomputable def e87(P:Pm):DictEntry:=ie 59 1026 907
noncomputable def e88(P:Pm):DictEntry:=ie 60 1028 907
noncomputable def e89(P:Pm):DictEntry:=ie 61 1030 907
noncomputable def e90(P:Pm):DictEntry:=ie 62 1032 907
noncomputable def e91(P:Pm):DictEntry:=ie 63 1034 907
noncomputable def e92(P:Pm):DictEntry:=ie 64 1036 907
noncomputable def e93(P:Pm):DictEntry:=ie 65 1038 907
noncomputable def e94(P:Pm):DictEntry:=ie 66 1040 907
noncomputable def e95(P:Pm):DictEntry:=ie 67 1042 907
noncomputable def e96(P:Pm):DictEntry:=ie 68 1044 907
noncomputable def e97(P:Pm):DictEntry:=ie 69 1046 907
noncomputable def e98(P:Pm):DictEntry:=ie 70 1048 907
noncomputable def e99(P:Pm):DictEntry:=ie 71 1050 907
noncomputable def e100(P:Pm):DictEntry:=ie 72 1052 907
noncomputable def e101(P:Pm):DictEntry:=ie 73 1054 907
noncomputable def e102(P:Pm):DictEntry:=ie 74 1056 907
noncomputable def e103(P:Pm):DictEntry:=ie 75 1058 907
noncomputable def e104(P:Pm):DictEntry:=ie 76 1060 907
noncomputable def e105(P:Pm):DictEntry:=ie 77 1062 907
noncomputable def e106(P:Pm):DictEntry:=ie 78 1064 907
noncomputable def e107(P:Pm):DictEntry:=ie 79 1066 907
noncomputable def e108(P:Pm):DictEntry:=ie 80 1068 907
noncomputable def e109(P:Pm):DictEntry:=ie 81 1070 907
noncomputable def e110(P:Pm):DictEntry:=ie 82 1072 907
noncomputable def e111(P:Pm):DictEntry:=ie 83 1074 907
noncomputable def e112(P:Pm):DictEntry:=ie 84 1076 907
noncomputable def e113(P:Pm):DictEntry:=ie 85 1078 907
noncomputable def e114(P:Pm):DictEntry:=ie 86 1080 907
noncomputable def e115(P:Pm):DictEntry:=ie 87 1082 907
noncomputable def e116(P:Pm):DictEntry:=ie 88 1084 907
noncomputable def e117(P:Pm):DictEntry:=ie 89 1086 907
noncomputable def e118(P:Pm):DictEntry:=ie 90 1088 907
noncomputable def e119(P:Pm):DictEntry:=ie 94 1096 907
noncomputable def e120(P:Pm):DictEntry:=ie 95 1098 907
noncomputable def e121(P:Pm):DictEntry:=ie 96 1100 907
noncomputable def e122(P:Pm):DictEntry:=ie 97 1102 907
noncomputable def e123(P:Pm):DictEntry:=ie 98 1104 907
noncomputable def e124(P:Pm):DictEntry:=ie 99 1106 907
noncomputable def o87(P:Pm):Obj:=⟨.ref 83,some 90,.dict #[e28 P,e29 P,e30 P,e31 P,e32 P,e33 P,e34 P,e35 P,e36 P,e37 P,e38 P,e39 P,e40 P,e41 P,e42 P,e43 P,e44 P,e45 P,e46 P,e47 P,e48 P,e49 P,e50 P,e51 P,e52 P,e53 P,e54 P,e55 P,e56 P,e57 P,e58 P,e59 P,e60 P,e61 P,e62 P,e63 P,e64 P,e65 P,e66 P,e67 P,e68 P,e69 P,e70 P,e71 P,e72 P,e73 P,e74 P,e75 P,e76 P,e77 P,e78 P,e79 P,e80 P,e81 P,e82 P,e83 P,e84 P,e85 P,e86 P,e87 P,e88 P,e89 P,e90 P,e91 P,e92 P,e93 P,e94 P,e95 P,e96 P,e97 P,e98 P,e99 P,e100 P,e101 P,e102 P,e103 P,e104 P,e105 P,e106 P,e107 P,e108 P,e109 P,e110 P,e111 P,e112 P,e113 P,e114 P,e115 P,e116 P,e117 P,e118 P,ie 91 1090 907,ie 92 1092 907,ie 93 1094 907,e119 P,e120 P,e121 P,e122 P,e123 P,e124 P,ie 100 1108 907,ie 101 1110 907,ie 102 1112 907,ie 103 1114 907,ie 104 1116 907,ie 105 1118 907,ie 106 1120 907,ie 107 1122 907,ie 108 1124 907,ie 109 1126 907,ie 110 1128 907,ie 111 1130 907,ie 112 1132 907,ie 113 1134 907,ie 114 1136 907,ie 115 1138 907,ie 116 1140 907,ie 117 1142 907,ie 118 1144 907,ie 119 1146 907,ie 120 1148 907,ie 121 1150 907,ie 122 1152 907,ie 123 1154 907,ie 124 1156 907,ie 125 1158 907,ie 126 1160 907,ie 127 1162 907] 128,#[]⟩
noncomputable def o88(P:Pm):Obj:=⟨.type "range_iterator",none,.fields #[.int 128 0,.int 0 0,.int 1 0],#[]⟩
noncomputable def o89(P:Pm):Obj:=⟨.type "StopIteration",none,.fields #[.ref 93,.none,.none,.none,.bool false,.none],#[]⟩
noncomputable def u63(P:Pm):BT:=.node (o26 P) (.node (o41 P) (lf (o8 P)) .nil) (.node (o55 P) (lf (o87 P)) .nil)
noncomputable def u64(P:Pm):BT:=.node (o27 P) (u52 P) (u63 P)
noncomputable def u65(P:Pm):BT:=.node (o24 P) (.node (o39 P) (lf (o73 P)) .nil) (.node (o52 P) (lf (o86 P)) .nil)
noncomputable def u66(P:Pm):BT:=.node (o9 P) (u53 P) (u65 P)
noncomputable def u67(P:Pm):BT:=.node (o23 P) (.node (o6 P) (lf (o72 P)) .nil) (.node (o39 P) (lf (o85 P)) .nil)
noncomputable def u68(P:Pm):BT:=.node (o8 P) (u57 P) (u67 P)
noncomputable def u69(P:Pm):BT:=.node (o7 P) (.node (o43 P) (lf (o74 P)) .nil) (.node (o56 P) (lf (o88 P)) .nil)
noncomputable def u70(P:Pm):BT:=.node (o12 P) (u58 P) (u69 P)
noncomputable def u71(P:Pm):BT:=.node (o4 P) (u68 P) (u70 P)
noncomputable def u72(P:Pm):BT:=.node (o25 P) (.node (o40 P) (lf (o7 P)) .nil) (.node (o53 P) (lf (o6 P)) .nil)
noncomputable def u73(P:Pm):BT:=.node (o10 P) (u59 P) (u72 P)
noncomputable def u74(P:Pm):BT:=.node (o28 P) (.node (o39 P) (lf (o75 P)) .nil) (.node (o57 P) (lf (o89 P)) .nil)
noncomputable def t12(P:Pm):BT:=(.node (o0 P) (.node (o1 P) (.node (o84 P) (u51 P) (u64 P)) (.node (o5 P) (u66 P) (.node (o13 P) (u54 P) (.node (o67 P) (.node (o6 P) (lf (o7 P)) .nil) (.node (o7 P) (lf (o7 P)) .nil))))) (.node (o2 P) (u71 P) (.node (o6 P) (u73 P) (.node (o14 P) (u60 P) (u74 P)))))
noncomputable def s12(w:World)(os:OsState):SharedT:=⟨t12 w.params,95,lf0,#[],⟨0,0,0,0⟩,1165,os⟩
noncomputable def o90(P:Pm):Obj:=⟨.none,none,.fields #[.int 2 0,.int 0 0,.ref 37,.int 15 0,.int 0 0,.ref 72,.int 20 0,.int 13 0,.ref 98],#[]⟩
noncomputable def o91(P:Pm):Obj:=⟨.ref 83,some 90,.dict #[e28 P,e29 P,e30 P,e31 P,e32 P,e33 P,e34 P,e35 P,e36 P,e37 P,e38 P,e39 P,e40 P,e41 P,e42 P,e43 P,e44 P,e45 P,e46 P,e47 P,e48 P,e49 P,e50 P,e51 P,e52 P,e53 P,e54 P,e55 P,e56 P,e57 P,e58 P,e59 P,e60 P,e61 P,e62 P,e63 P,e64 P,e65 P,e66 P,e67 P,⟨40,.int 40 988,.int 40 1181⟩,e69 P,e70 P,e71 P,e72 P,e73 P,e74 P,e75 P,e76 P,e77 P,e78 P,e79 P,e80 P,e81 P,e82 P,e83 P,e84 P,e85 P,e86 P,e87 P,e88 P,e89 P,e90 P,e91 P,e92 P,e93 P,e94 P,e95 P,e96 P,e97 P,e98 P,e99 P,e100 P,e101 P,e102 P,e103 P,e104 P,e105 P,e106 P,e107 P,e108 P,e109 P,e110 P,e111 P,e112 P,e113 P,e114 P,e115 P,e116 P,e117 P,e118 P,⟨91,.int 91 1090,.int 40 1193⟩,ie 92 1092 907,ie 93 1094 907,e119 P,e120 P,e121 P,e122 P,e123 P,e124 P,ie 100 1108 907,ie 101 1110 907,ie 102 1112 907,ie 103 1114 907,ie 104 1116 907,ie 105 1118 907,ie 106 1120 907,ie 107 1122 907,ie 108 1124 907,ie 109 1126 907,ie 110 1128 907,ie 111 1130 907,ie 112 1132 907,ie 113 1134 907,ie 114 1136 907,ie 115 1138 907,ie 116 1140 907,ie 117 1142 907,ie 118 1144 907,ie 119 1146 907,ie 120 1148 907,ie 121 1150 907,ie 122 1152 907,⟨123,.int 123 1154,.int 40 1187⟩,ie 124 1156 907,ie 125 1158 907,ie 126 1160 907,ie 127 1162 907] 128,#[]⟩
noncomputable def o92(P:Pm):Obj:=⟨.type "str_ascii_iterator",none,.fields #[.none,.int 3 0],#[]⟩
noncomputable def o93(P:Pm):Obj:=⟨.type "code",none,.fields #[.str "<genexpr>" 1166,.str "<genexpr>" 1167,.str "/claim/cut.py" 1168,.int 20 0,.int 1 0,.int 0 0,.int 0 0,.int 35 0,.ref 96,.bool true,.int 276 0,.ref 97,.none,.none,.none,.none,.int 1169 0,.int 20 0,.str "/claim/cut.py" 1170],#[]⟩
noncomputable def o94(P:Pm):Obj:=⟨.type "frame",none,.dict #[en P ".0" 1171 (.ref 95),en P "c" 1178 (.str "[" 1189)] 2,#[]⟩
noncomputable def o95(P:Pm):Obj:=⟨.type "generator",none,.fields #[.int 0 0,.str "<genexpr>" 1172,.str "<genexpr>" 1173],#[]⟩
noncomputable def o96(P:Pm):Obj:=⟨.type "tuple",none,.seq #[.str "'generator' object has no attribute 'keys'" 1175] 0,#[]⟩
noncomputable def o97(P:Pm):Obj:=⟨.type "AttributeError",none,.fields #[.ref 101,.none,.none,.none,.bool false,.none,.str "keys" 1176,.ref 100],#[]⟩
noncomputable def o98(P:Pm):Obj:=⟨.type "tuple",none,.seq #[.int 40 1179,.int 40 1181] 0,#[]⟩
noncomputable def o99(P:Pm):Obj:=⟨.type "tuple",none,.seq #[.int 123 1185,.int 40 1187] 0,#[]⟩
noncomputable def o100(P:Pm):Obj:=⟨.type "tuple",none,.seq #[.int 91 1191,.int 40 1193] 0,#[]⟩
noncomputable def o101(P:Pm):Obj:=⟨.type "StopIteration",none,.fields #[.ref 106,.none,.none,.none,.bool false,.none],#[]⟩
noncomputable def o102(P:Pm):Obj:=⟨.type "StopIteration",none,.fields #[.ref 108,.none,.none,.none,.bool false,.none],#[]⟩
noncomputable def u75(P:Pm):BT:=.node (o29 P) (lf (o59 P)) (lf (o92 P))
noncomputable def u76(P:Pm):BT:=.node (o38 P) (lf (o71 P)) (lf (o98 P))
noncomputable def u77(P:Pm):BT:=.node (o41 P) (lf (o8 P)) (lf (o101 P))
noncomputable def u78(P:Pm):BT:=.node (o39 P) (lf (o73 P)) (lf (o100 P))
noncomputable def u79(P:Pm):BT:=.node (o34 P) (lf (o70 P)) (lf (o96 P))
noncomputable def u80(P:Pm):BT:=.node (o33 P) (lf (o69 P)) (lf (o95 P))
noncomputable def u81(P:Pm):BT:=.node (o32 P) (lf (o65 P)) (lf (o93 P))
noncomputable def t13(P:Pm):BT:=(.node (o0 P) (.node (o1 P) (.node (o84 P) (.node (o7 P) (.node (o7 P) (u75 P) (.node (o44 P) (lf (o76 P)) .nil)) (.node (o22 P) (u76 P) (.node (o6 P) (lf (o83 P)) .nil))) (.node (o27 P) (.node (o18 P) (.node (o7 P) (lf (o68 P)) (lf (o94 P))) (.node (o39 P) (lf (o79 P)) .nil)) (.node (o26 P) (u77 P) (.node (o55 P) (lf (o91 P)) .nil)))) (.node (o5 P) (.node (o9 P) (.node (o16 P) (.node (o8 P) (lf (o63 P)) (lf (o8 P))) (.node (o47 P) (lf (o7 P)) .nil)) (.node (o24 P) (u78 P) (.node (o52 P) (lf (o86 P)) .nil))) (.node (o13 P) (.node (o20 P) (u79 P) (.node (o49 P) (lf (o81 P)) .nil)) (.node (o90 P) (.node (o6 P) (lf (o7 P)) (lf (o102 P))) (.node (o7 P) (lf (o7 P)) .nil))))) (.node (o2 P) (.node (o4 P) (.node (o8 P) (.node (o15 P) (.node (o7 P) (lf (o61 P)) (lf (o7 P))) (.node (o45 P) (lf (o77 P)) .nil)) (.node (o23 P) (.node (o6 P) (lf (o72 P)) (lf (o99 P))) (.node (o39 P) (lf (o85 P)) .nil))) (.node (o12 P) (.node (o19 P) (u80 P) (.node (o48 P) (lf (o80 P)) .nil)) (.node (o7 P) (.node (o43 P) (lf (o74 P)) (lf (o7 P))) (.node (o56 P) (lf (o88 P)) .nil)))) (.node (o6 P) (.node (o10 P) (.node (o17 P) (u81 P) (.node (o6 P) (lf (o78 P)) .nil)) (.node (o25 P) (.node (o40 P) (lf (o7 P)) (lf (o7 P))) (.node (o53 P) (lf (o6 P)) .nil))) (.node (o14 P) (.node (o21 P) (.node (o35 P) (lf (o7 P)) (lf (o97 P))) (.node (o51 P) (lf (o82 P)) .nil)) (u74 P)))))
noncomputable def s13(w:World)(os:OsState):SharedT:=⟨t13 w.params,110,lf0,#[.finished],⟨0,0,0,0⟩,1195,os⟩
noncomputable def o103(P:Pm):Obj:=⟨.none,none,.fields #[.int 2 0,.int 0 0,.ref 37,.int 15 0,.int 0 0,.ref 72,.int 20 0,.int 13 0,.ref 98,.int 21 0,.int 13 0,.ref 113],#[]⟩
noncomputable def o104(P:Pm):Obj:=⟨.ref 83,some 90,.dict #[e28 P,e29 P,e30 P,e31 P,e32 P,e33 P,e34 P,e35 P,e36 P,e37 P,e38 P,e39 P,e40 P,e41 P,e42 P,e43 P,e44 P,e45 P,e46 P,e47 P,e48 P,e49 P,e50 P,e51 P,e52 P,e53 P,e54 P,e55 P,e56 P,e57 P,e58 P,e59 P,e60 P,e61 P,e62 P,e63 P,e64 P,e65 P,e66 P,e67 P,⟨40,.int 40 988,.int 40 1181⟩,⟨41,.int 41 990,.int 41 1211⟩,e70 P,e71 P,e72 P,e73 P,e74 P,e75 P,e76 P,e77 P,e78 P,e79 P,e80 P,e81 P,e82 P,e83 P,e84 P,e85 P,e86 P,e87 P,e88 P,e89 P,e90 P,e91 P,e92 P,e93 P,e94 P,e95 P,e96 P,e97 P,e98 P,e99 P,e100 P,e101 P,e102 P,e103 P,e104 P,e105 P,e106 P,e107 P,e108 P,e109 P,e110 P,e111 P,e112 P,e113 P,e114 P,e115 P,e116 P,e117 P,e118 P,⟨91,.int 91 1090,.int 40 1193⟩,ie 92 1092 907,⟨93,.int 93 1094,.int 41 1223⟩,e119 P,e120 P,e121 P,e122 P,e123 P,e124 P,ie 100 1108 907,ie 101 1110 907,ie 102 1112 907,ie 103 1114 907,ie 104 1116 907,ie 105 1118 907,ie 106 1120 907,ie 107 1122 907,ie 108 1124 907,ie 109 1126 907,ie 110 1128 907,ie 111 1130 907,ie 112 1132 907,ie 113 1134 907,ie 114 1136 907,ie 115 1138 907,ie 116 1140 907,ie 117 1142 907,ie 118 1144 907,ie 119 1146 907,ie 120 1148 907,ie 121 1150 907,ie 122 1152 907,⟨123,.int 123 1154,.int 40 1187⟩,ie 124 1156 907,⟨125,.int 125 1158,.int 41 1217⟩,ie 126 1160 907,ie 127 1162 907] 128,#[]⟩
noncomputable def o105(P:Pm):Obj:=⟨.type "code",none,.fields #[.str "<genexpr>" 1196,.str "<genexpr>" 1197,.str "/claim/cut.py" 1198,.int 21 0,.int 1 0,.int 0 0,.int 0 0,.int 35 0,.ref 111,.bool true,.int 276 0,.ref 112,.none,.none,.none,.none,.int 1199 0,.int 21 0,.str "/claim/cut.py" 1200],#[]⟩
noncomputable def o106(P:Pm):Obj:=⟨.type "frame",none,.dict #[en P ".0" 1201 (.ref 110),en P "c" 1208 (.str "]" 1219)] 2,#[]⟩
noncomputable def o107(P:Pm):Obj:=⟨.type "generator",none,.fields #[.int 1 0,.str "<genexpr>" 1202,.str "<genexpr>" 1203],#[]⟩
noncomputable def o108(P:Pm):Obj:=⟨.type "tuple",none,.seq #[.str "'generator' object has no attribute 'keys'" 1205] 0,#[]⟩
noncomputable def o109(P:Pm):Obj:=⟨.type "AttributeError",none,.fields #[.ref 116,.none,.none,.none,.bool false,.none,.str "keys" 1206,.ref 115],#[]⟩
noncomputable def o110(P:Pm):Obj:=⟨.type "tuple",none,.seq #[.int 41 1209,.int 41 1211] 0,#[]⟩
noncomputable def o111(P:Pm):Obj:=⟨.type "tuple",none,.seq #[.int 125 1215,.int 41 1217] 0,#[]⟩
noncomputable def o112(P:Pm):Obj:=⟨.type "tuple",none,.seq #[.int 93 1221,.int 41 1223] 0,#[]⟩
noncomputable def o113(P:Pm):Obj:=⟨.type "StopIteration",none,.fields #[.ref 121,.none,.none,.none,.bool false,.none],#[]⟩
noncomputable def o114(P:Pm):Obj:=⟨.type "StopIteration",none,.fields #[.ref 123,.none,.none,.none,.bool false,.none],#[]⟩
noncomputable def u82(P:Pm):BT:=.node (o6 P) (lf (o83 P)) (lf (o111 P))
noncomputable def u83(P:Pm):BT:=.node (o39 P) (lf (o79 P)) (lf (o107 P))
noncomputable def u84(P:Pm):BT:=.node (o47 P) (lf (o7 P)) (lf (o105 P))
noncomputable def u85(P:Pm):BT:=.node (o49 P) (lf (o81 P)) (lf (o109 P))
noncomputable def u86(P:Pm):BT:=.node (o39 P) (lf (o85 P)) (lf (o112 P))
noncomputable def u87(P:Pm):BT:=.node (o48 P) (lf (o80 P)) (lf (o108 P))
noncomputable def u88(P:Pm):BT:=.node (o56 P) (lf (o88 P)) (lf (o114 P))
noncomputable def u89(P:Pm):BT:=.node (o6 P) (lf (o78 P)) (lf (o106 P))
noncomputable def u90(P:Pm):BT:=.node (o53 P) (lf (o6 P)) (lf (o113 P))
noncomputable def u91(P:Pm):BT:=.node (o51 P) (lf (o82 P)) (lf (o110 P))
noncomputable def u92(P:Pm):BT:=.node (o39 P) (lf (o75 P)) (lf (o92 P))
noncomputable def t14(P:Pm):BT:=(.node (o0 P) (.node (o1 P) (.node (o84 P) (.node (o7 P) (.node (o7 P) (u75 P) (.node (o44 P) (lf (o76 P)) (lf (o7 P)))) (.node (o22 P) (u76 P) (u82 P))) (.node (o27 P) (.node (o18 P) (.node (o7 P) (lf (o68 P)) (lf (o94 P))) (u83 P)) (.node (o26 P) (u77 P) (.node (o55 P) (lf (o104 P)) (lf (o7 P)))))) (.node (o5 P) (.node (o9 P) (.node (o16 P) (.node (o8 P) (lf (o63 P)) (lf (o8 P))) (u84 P)) (.node (o24 P) (u78 P) (.node (o52 P) (lf (o86 P)) (lf (o7 P))))) (.node (o13 P) (.node (o20 P) (u79 P) (u85 P)) (.node (o103 P) (.node (o6 P) (lf (o7 P)) (lf (o102 P))) (.node (o7 P) (lf (o7 P)) .nil))))) (.node (o2 P) (.node (o4 P) (.node (o8 P) (.node (o15 P) (.node (o7 P) (lf (o61 P)) (lf (o7 P))) (.node (o45 P) (lf (o77 P)) (lf (o8 P)))) (.node (o23 P) (.node (o6 P) (lf (o72 P)) (lf (o99 P))) (u86 P))) (.node (o12 P) (.node (o19 P) (u80 P) (u87 P)) (.node (o7 P) (.node (o43 P) (lf (o74 P)) (lf (o7 P))) (u88 P)))) (.node (o6 P) (.node (o10 P) (.node (o17 P) (u81 P) (u89 P)) (.node (o25 P) (.node (o40 P) (lf (o7 P)) (lf (o7 P))) (u90 P))) (.node (o14 P) (.node (o21 P) (.node (o35 P) (lf (o7 P)) (lf (o97 P))) (u91 P)) (.node (o28 P) (u92 P) (.node (o57 P) (lf (o89 P)) .nil))))))
noncomputable def s14(w:World)(os:OsState):SharedT:=⟨t14 w.params,125,lf0,#[.finished,.finished],⟨0,0,0,0⟩,1225,os⟩
noncomputable def o115(P:Pm):Obj:=⟨.none,none,.fields #[.int 2 0,.int 0 0,.ref 37,.int 15 0,.int 0 0,.ref 72,.int 20 0,.int 13 0,.ref 98,.int 21 0,.int 13 0,.ref 113,.int 22 0,.int 13 0,.ref 128],#[]⟩
noncomputable def o116(P:Pm):Obj:=⟨.ref 83,some 90,.dict #[e28 P,e29 P,e30 P,e31 P,e32 P,e33 P,e34 P,e35 P,e36 P,e37 P,⟨10,.int 10 928,.int 10 1255⟩,e39 P,e40 P,e41 P,e42 P,e43 P,e44 P,e45 P,e46 P,e47 P,e48 P,e49 P,e50 P,e51 P,e52 P,e53 P,e54 P,e55 P,e56 P,e57 P,e58 P,e59 P,e60 P,e61 P,⟨34,.int 34 976,.int 34 1240⟩,⟨35,.int 35 978,.int 35 1260⟩,e64 P,e65 P,e66 P,⟨39,.int 39 986,.int 39 1245⟩,⟨40,.int 40 988,.int 40 1181⟩,⟨41,.int 41 990,.int 41 1211⟩,e70 P,e71 P,e72 P,e73 P,e74 P,e75 P,e76 P,e77 P,e78 P,e79 P,e80 P,e81 P,e82 P,e83 P,e84 P,e85 P,e86 P,e87 P,e88 P,e89 P,e90 P,e91 P,e92 P,e93 P,e94 P,e95 P,e96 P,e97 P,e98 P,e99 P,e100 P,e101 P,e102 P,e103 P,e104 P,e105 P,e106 P,e107 P,e108 P,e109 P,e110 P,e111 P,e112 P,e113 P,e114 P,e115 P,e116 P,e117 P,e118 P,⟨91,.int 91 1090,.int 40 1193⟩,⟨92,.int 92 1092,.int 92 1250⟩,⟨93,.int 93 1094,.int 41 1223⟩,e119 P,e120 P,e121 P,e122 P,e123 P,e124 P,ie 100 1108 907,ie 101 1110 907,ie 102 1112 907,ie 103 1114 907,ie 104 1116 907,ie 105 1118 907,ie 106 1120 907,ie 107 1122 907,ie 108 1124 907,ie 109 1126 907,ie 110 1128 907,ie 111 1130 907,ie 112 1132 907,ie 113 1134 907,ie 114 1136 907,ie 115 1138 907,ie 116 1140 907,ie 117 1142 907,ie 118 1144 907,ie 119 1146 907,ie 120 1148 907,ie 121 1150 907,ie 122 1152 907,⟨123,.int 123 1154,.int 40 1187⟩,ie 124 1156 907,⟨125,.int 125 1158,.int 41 1217⟩,ie 126 1160 907,ie 127 1162 907] 128,#[]⟩
noncomputable def o117(P:Pm):Obj:=⟨.type "str_ascii_iterator",none,.fields #[.none,.int 5 0],#[]⟩
noncomputable def o118(P:Pm):Obj:=⟨.type "code",none,.fields #[.str "<genexpr>" 1226,.str "<genexpr>" 1227,.str "/claim/cut.py" 1228,.int 22 0,.int 1 0,.int 0 0,.int 0 0,.int 35 0,.ref 126,.bool true,.int 276 0,.ref 127,.none,.none,.none,.none,.int 1229 0,.int 22 0,.str "/claim/cut.py" 1230],#[]⟩
noncomputable def o119(P:Pm):Obj:=⟨.type "frame",none,.dict #[en P ".0" 1231 (.ref 125),en P "c" 1238 (.str "#" 1257)] 2,#[]⟩
noncomputable def o120(P:Pm):Obj:=⟨.type "generator",none,.fields #[.int 2 0,.str "<genexpr>" 1232,.str "<genexpr>" 1233],#[]⟩
noncomputable def o121(P:Pm):Obj:=⟨.type "tuple",none,.seq #[.str "'generator' object has no attribute 'keys'" 1235] 0,#[]⟩
noncomputable def o122(P:Pm):Obj:=⟨.type "AttributeError",none,.fields #[.ref 131,.none,.none,.none,.bool false,.none,.str "keys" 1236,.ref 130],#[]⟩
noncomputable def o123(P:Pm):Obj:=⟨.type "tuple",none,.seq #[.int 34 1239,.int 34 1240] 0,#[]⟩
noncomputable def o124(P:Pm):Obj:=⟨.type "tuple",none,.seq #[.int 39 1244,.int 39 1245] 0,#[]⟩
noncomputable def o125(P:Pm):Obj:=⟨.type "tuple",none,.seq #[.int 92 1249,.int 92 1250] 0,#[]⟩
noncomputable def o126(P:Pm):Obj:=⟨.type "tuple",none,.seq #[.int 10 1254,.int 10 1255] 0,#[]⟩
noncomputable def o127(P:Pm):Obj:=⟨.type "tuple",none,.seq #[.int 35 1259,.int 35 1260] 0,#[]⟩
noncomputable def o128(P:Pm):Obj:=⟨.type "StopIteration",none,.fields #[.ref 138,.none,.none,.none,.bool false,.none],#[]⟩
noncomputable def o129(P:Pm):Obj:=⟨.type "StopIteration",none,.fields #[.ref 140,.none,.none,.none,.bool false,.none],#[]⟩
noncomputable def t15(P:Pm):BT:=(.node (o0 P) (.node (o1 P) (.node (o84 P) (.node (o7 P) (.node (o7 P) (.node (o29 P) (.node (o59 P) (lf (o8 P)) .nil) (lf (o92 P))) (.node (o44 P) (lf (o76 P)) (lf (o7 P)))) (.node (o22 P) (.node (o38 P) (.node (o71 P) (lf (o125 P)) .nil) (lf (o98 P))) (u82 P))) (.node (o27 P) (.node (o18 P) (.node (o7 P) (.node (o68 P) (lf (o121 P)) .nil) (lf (o94 P))) (u83 P)) (.node (o26 P) (.node (o41 P) (.node (o8 P) (lf (o128 P)) .nil) (lf (o101 P))) (.node (o55 P) (lf (o116 P)) (lf (o7 P)))))) (.node (o5 P) (.node (o9 P) (.node (o16 P) (.node (o8 P) (.node (o63 P) (lf (o119 P)) .nil) (lf (o8 P))) (u84 P)) (.node (o24 P) (.node (o39 P) (.node (o73 P) (lf (o127 P)) .nil) (lf (o100 P))) (.node (o52 P) (lf (o86 P)) (lf (o7 P))))) (.node (o13 P) (.node (o20 P) (.node (o34 P) (.node (o70 P) (lf (o123 P)) .nil) (lf (o96 P))) (u85 P)) (.node (o115 P) (.node (o6 P) (.node (o7 P) (lf (o129 P)) .nil) (lf (o102 P))) (.node (o7 P) (lf (o7 P)) (lf (o117 P))))))) (.node (o2 P) (.node (o4 P) (.node (o8 P) (.node (o15 P) (.node (o7 P) (.node (o61 P) (lf (o118 P)) .nil) (lf (o7 P))) (.node (o45 P) (lf (o77 P)) (lf (o8 P)))) (.node (o23 P) (.node (o6 P) (.node (o72 P) (lf (o126 P)) .nil) (lf (o99 P))) (u86 P))) (.node (o12 P) (.node (o19 P) (.node (o33 P) (.node (o69 P) (lf (o122 P)) .nil) (lf (o95 P))) (u87 P)) (.node (o7 P) (.node (o43 P) (.node (o74 P) (lf (o7 P)) .nil) (lf (o7 P))) (u88 P)))) (.node (o6 P) (.node (o10 P) (.node (o17 P) (.node (o32 P) (.node (o65 P) (lf (o120 P)) .nil) (lf (o93 P))) (u89 P)) (.node (o25 P) (.node (o40 P) (.node (o7 P) (lf (o7 P)) .nil) (lf (o7 P))) (u90 P))) (.node (o14 P) (.node (o21 P) (.node (o35 P) (.node (o7 P) (lf (o124 P)) .nil) (lf (o97 P))) (u91 P)) (.node (o28 P) (u92 P) (.node (o57 P) (lf (o89 P)) (lf (o7 P))))))))
noncomputable def s15(w:World)(os:OsState):SharedT:=⟨t15 w.params,142,lf0,#[.finished,.finished,.finished],⟨0,0,0,0⟩,1262,os⟩
noncomputable def e125(P:Pm):DictEntry:=en P "Parser" 1427 (.ref 249)
noncomputable def o130(P:Pm):Obj:=⟨.type "dict",none,.dict #[e11 P,e0 P,e1 P,e2 P,e3 P,e4 P,e5 P,e6 P,e7 P,e8 P,e10 P,e12 P,e13 P,e14 P,e15 P,e16 P,e17 P,e18 P,e19 P,e20 P,e21 P,e22 P,e23 P,e24 P,e25 P,e27 P,e125 P] 27,#[]⟩
noncomputable def o131(P:Pm):Obj:=⟨.none,none,.fields #[.int 2 0,.int 0 0,.ref 37,.int 15 0,.int 0 0,.ref 72,.int 20 0,.int 13 0,.ref 98,.int 21 0,.int 13 0,.ref 113,.int 22 0,.int 13 0,.ref 128,.int 23 0,.int 0 0,.ref 147],#[]⟩
noncomputable def e126(P:Pm):DictEntry:=en P "__module__" 1269 (.str "cpy313.idlelib.pyparse" 289)
noncomputable def o132(P:Pm):Obj:=⟨.type "dict",none,.dict #[e126 P,en P "__qualname__" 1271 (.str "Parser" 1270),en P "__firstlineno__" 1273 (.int 23 1272),en P "__init__" 1282 (.ref 155),en P "set_code" 1290 (.ref 162),en P "find_good_parse_start" 1305 (.ref 169),en P "set_lo" 1313 (.ref 176),en P "_study1" 1332 (.ref 183),en P "get_continuation_type" 1339 (.ref 190),en P "_study2" 1359 (.ref 197),en P "compute_bracket_indent" 1366 (.ref 204),en P "get_num_lines_in_stmt" 1373 (.ref 211),en P "compute_backslash_indent" 1380 (.ref 218),en P "get_base_indent_string" 1387 (.ref 225),en P "is_block_opener" 1394 (.ref 232),en P "is_block_closer" 1401 (.ref 239),en P "get_last_stmt_bracketing" 1408 (.ref 246),en P "__static_attributes__" 1420 (.ref 247)] 18,#[]⟩
noncomputable def o133(P:Pm):Obj:=⟨.none,none,.fields #[.int 25 0,.int 4 0,.ref 154,.int 29 0,.int 4 0,.ref 161,.int 34 0,.int 4 0,.ref 168,.int 59 0,.int 4 0,.ref 175,.int 64 0,.int 4 0,.ref 182,.int 149 0,.int 4 0,.ref 189,.int 153 0,.int 4 0,.ref 196,.int 226 0,.int 4 0,.ref 203,.int 229 0,.int 4 0,.ref 210,.int 232 0,.int 4 0,.ref 217,.int 235 0,.int 4 0,.ref 224,.int 238 0,.int 4 0,.ref 231,.int 242 0,.int 4 0,.ref 238,.int 245 0,.int 4 0,.ref 245],#[]⟩
noncomputable def o134(P:Pm):Obj:=⟨.type "code",none,.fields #[.str "Parser" 1264,.str "Parser" 1265,.str "/claim/cut.py" 1266,.int 23 0,.int 0 0,.int 0 0,.int 0 0,.int 0 0,.ref 145,.bool false,.int 276 0,.ref 146,.none,.none,.none,.none,.int 1267 0,.int 23 0,.str "/claim/cut.py" 1268],#[]⟩
noncomputable def o135(P:Pm):Obj:=⟨.type "frame",none,.plain,#[some (.ref 147),some (.ref 3),some (.ref 144),none,some (.str "cpy313.idlelib.pyparse" 289),none,some (.ref 0)]⟩
noncomputable def o136(P:Pm):Obj:=⟨.type "tuple",none,.seq #[.str "self" 1277,.str "indentwidth" 1278,.str "tabwidth" 1279] 0,#[]⟩
noncomputable def o137(P:Pm):Obj:=⟨.none,none,.func (fd (sub (stm 17) 0) "__init__" "Parser.__init__" 0 .none .none .none .none .none .none 0),#[]⟩
noncomputable def o138(P:Pm):Obj:=⟨.type "code",none,.fields #[.str "__init__" 1274,.str "Parser.__init__" 1275,.str "/claim/cut.py" 1276,.int 25 0,.int 3 0,.int 0 0,.int 0 0,.int 3 0,.ref 149,.bool true,.int 276 0,.ref 150,.none,.ref 151,.ref 152,.ref 153,.int 1280 0,.int 25 0,.str "/claim/cut.py" 1281],#[]⟩
noncomputable def o139(P:Pm):Obj:=⟨.type "function",none,.func (fd (sub (stm 17) 0) "__init__" "Parser.__init__" 3 .none .none .none (.str "cpy313.idlelib.pyparse" 289) (.ref 154) .none 0),#[]⟩
noncomputable def o140(P:Pm):Obj:=⟨.type "tuple",none,.seq #[.str "self" 1286,.str "s" 1287] 0,#[]⟩
noncomputable def o141(P:Pm):Obj:=⟨.none,none,.func (fd (sub (stm 17) 1) "set_code" "Parser.set_code" 0 .none .none .none .none .none .none 0),#[]⟩
noncomputable def o142(P:Pm):Obj:=⟨.type "code",none,.fields #[.str "set_code" 1283,.str "Parser.set_code" 1284,.str "/claim/cut.py" 1285,.int 29 0,.int 2 0,.int 0 0,.int 0 0,.int 3 0,.ref 156,.bool true,.int 276 0,.ref 157,.none,.ref 158,.ref 159,.ref 160,.int 1288 0,.int 29 0,.str "/claim/cut.py" 1289],#[]⟩
noncomputable def o143(P:Pm):Obj:=⟨.type "function",none,.func (fd (sub (stm 17) 1) "set_code" "Parser.set_code" 3 .none .none .none (.str "cpy313.idlelib.pyparse" 289) (.ref 161) .none 0),#[]⟩
noncomputable def o144(P:Pm):Obj:=⟨.type "tuple",none,.seq #[.str "self" 1294,.str "is_char_in_string" 1295,.str "code" 1296,.str "pos" 1297,.str "limit" 1298,.str "tries" 1299,.str "i" 1300,.str "m" 1301,.str "s" 1302] 0,#[]⟩
noncomputable def o145(P:Pm):Obj:=⟨.none,none,.func (fd (sub (stm 17) 2) "find_good_parse_start" "Parser.find_good_parse_start" 0 .none .none .none .none .none .none 0),#[]⟩
noncomputable def o146(P:Pm):Obj:=⟨.type "code",none,.fields #[.str "find_good_parse_start" 1291,.str "Parser.find_good_parse_start" 1292,.str "/claim/cut.py" 1293,.int 34 0,.int 2 0,.int 0 0,.int 0 0,.int 3 0,.ref 163,.bool true,.int 276 0,.ref 164,.none,.ref 165,.ref 166,.ref 167,.int 1303 0,.int 34 0,.str "/claim/cut.py" 1304],#[]⟩
noncomputable def o147(P:Pm):Obj:=⟨.type "function",none,.func (fd (sub (stm 17) 2) "find_good_parse_start" "Parser.find_good_parse_start" 3 .none .none .none (.str "cpy313.idlelib.pyparse" 289) (.ref 168) .none 0),#[]⟩
noncomputable def o148(P:Pm):Obj:=⟨.type "tuple",none,.seq #[.str "self" 1309,.str "lo" 1310] 0,#[]⟩
noncomputable def o149(P:Pm):Obj:=⟨.none,none,.func (fd (sub (stm 17) 3) "set_lo" "Parser.set_lo" 0 .none .none .none .none .none .none 0),#[]⟩
noncomputable def o150(P:Pm):Obj:=⟨.type "code",none,.fields #[.str "set_lo" 1306,.str "Parser.set_lo" 1307,.str "/claim/cut.py" 1308,.int 59 0,.int 2 0,.int 0 0,.int 0 0,.int 3 0,.ref 170,.bool true,.int 276 0,.ref 171,.none,.ref 172,.ref 173,.ref 174,.int 1311 0,.int 59 0,.str "/claim/cut.py" 1312],#[]⟩
noncomputable def o151(P:Pm):Obj:=⟨.type "function",none,.func (fd (sub (stm 17) 3) "set_lo" "Parser.set_lo" 3 .none .none .none (.str "cpy313.idlelib.pyparse" 289) (.ref 175) .none 0),#[]⟩
noncomputable def o152(P:Pm):Obj:=⟨.type "tuple",none,.seq #[.str "self" 1317,.str "code" 1318,.str "continuation" 1319,.str "level" 1320,.str "lno" 1321,.str "goodlines" 1322,.str "push_good" 1323,.str "i" 1324,.str "n" 1325,.str "ch" 1326,.str "quote" 1327,.str "firstlno" 1328,.str "w" 1329] 0,#[]⟩
noncomputable def o153(P:Pm):Obj:=⟨.none,none,.func (fd (sub (stm 17) 4) "_study1" "Parser._study1" 0 .none .none .none .none .none .none 0),#[]⟩
noncomputable def o154(P:Pm):Obj:=⟨.type "code",none,.fields #[.str "_study1" 1314,.str "Parser._study1" 1315,.str "/claim/cut.py" 1316,.int 64 0,.int 1 0,.int 0 0,.int 0 0,.int 3 0,.ref 177,.bool true,.int 276 0,.ref 178,.none,.ref 179,.ref 180,.ref 181,.int 1330 0,.int 64 0,.str "/claim/cut.py" 1331],#[]⟩
noncomputable def o155(P:Pm):Obj:=⟨.type "function",none,.func (fd (sub (stm 17) 4) "_study1" "Parser._study1" 3 .none .none .none (.str "cpy313.idlelib.pyparse" 289) (.ref 182) .none 0),#[]⟩
noncomputable def o156(P:Pm):Obj:=⟨.type "tuple",none,.seq #[.str "self" 1336] 0,#[]⟩
noncomputable def o157(P:Pm):Obj:=⟨.none,none,.func (fd (sub (stm 17) 5) "get_continuation_type" "Parser.get_continuation_type" 0 .none .none .none .none .none .none 0),#[]⟩
noncomputable def o158(P:Pm):Obj:=⟨.type "code",none,.fields #[.str "get_continuation_type" 1333,.str "Parser.get_continuation_type" 1334,.str "/claim/cut.py" 1335,.int 149 0,.int 1 0,.int 0 0,.int 0 0,.int 3 0,.ref 184,.bool true,.int 276 0,.ref 185,.none,.ref 186,.ref 187,.ref 188,.int 1337 0,.int 149 0,.str "/claim/cut.py" 1338],#[]⟩
noncomputable def o159(P:Pm):Obj:=⟨.type "function",none,.func (fd (sub (stm 17) 5) "get_continuation_type" "Parser.get_continuation_type" 3 .none .none .none (.str "cpy313.idlelib.pyparse" 289) (.ref 189) .none 0),#[]⟩
noncomputable def o160(P:Pm):Obj:=⟨.type "tuple",none,.seq #[.str "self" 1343,.str "code" 1344,.str "goodlines" 1345,.str "i" 1346,.str "p" 1347,.str "q" 1348,.str "nothing" 1349,.str "lastch" 1350,.str "stack" 1351,.str "push_stack" 1352,.str "bracketing" 1353,.str "m" 1354,.str "newp" 1355,.str "ch" 1356] 0,#[]⟩
noncomputable def o161(P:Pm):Obj:=⟨.none,none,.func (fd (sub (stm 17) 6) "_study2" "Parser._study2" 0 .none .none .none .none .none .none 0),#[]⟩
noncomputable def o162(P:Pm):Obj:=⟨.type "code",none,.fields #[.str "_study2" 1340,.str "Parser._study2" 1341,.str "/claim/cut.py" 1342,.int 153 0,.int 1 0,.int 0 0,.int 0 0,.int 3 0,.ref 191,.bool true,.int 276 0,.ref 192,.none,.ref 193,.ref 194,.ref 195,.int 1357 0,.int 153 0,.str "/claim/cut.py" 1358],#[]⟩
noncomputable def o163(P:Pm):Obj:=⟨.type "function",none,.func (fd (sub (stm 17) 6) "_study2" "Parser._study2" 3 .none .none .none (.str "cpy313.idlelib.pyparse" 289) (.ref 196) .none 0),#[]⟩
noncomputable def o164(P:Pm):Obj:=⟨.type "tuple",none,.seq #[.str "self" 1363] 0,#[]⟩
noncomputable def o165(P:Pm):Obj:=⟨.none,none,.func (fd (sub (stm 17) 7) "compute_bracket_indent" "Parser.compute_bracket_indent" 0 .none .none .none .none .none .none 0),#[]⟩
noncomputable def o166(P:Pm):Obj:=⟨.type "code",none,.fields #[.str "compute_bracket_indent" 1360,.str "Parser.compute_bracket_indent" 1361,.str "/claim/cut.py" 1362,.int 226 0,.int 1 0,.int 0 0,.int 0 0,.int 3 0,.ref 198,.bool true,.int 276 0,.ref 199,.none,.ref 200,.ref 201,.ref 202,.int 1364 0,.int 226 0,.str "/claim/cut.py" 1365],#[]⟩
noncomputable def o167(P:Pm):Obj:=⟨.type "function",none,.func (fd (sub (stm 17) 7) "compute_bracket_indent" "Parser.compute_bracket_indent" 3 .none .none .none (.str "cpy313.idlelib.pyparse" 289) (.ref 203) .none 0),#[]⟩
noncomputable def o168(P:Pm):Obj:=⟨.type "tuple",none,.seq #[.str "self" 1370] 0,#[]⟩
noncomputable def o169(P:Pm):Obj:=⟨.none,none,.func (fd (sub (stm 17) 8) "get_num_lines_in_stmt" "Parser.get_num_lines_in_stmt" 0 .none .none .none .none .none .none 0),#[]⟩
noncomputable def o170(P:Pm):Obj:=⟨.type "code",none,.fields #[.str "get_num_lines_in_stmt" 1367,.str "Parser.get_num_lines_in_stmt" 1368,.str "/claim/cut.py" 1369,.int 229 0,.int 1 0,.int 0 0,.int 0 0,.int 3 0,.ref 205,.bool true,.int 276 0,.ref 206,.none,.ref 207,.ref 208,.ref 209,.int 1371 0,.int 229 0,.str "/claim/cut.py" 1372],#[]⟩
noncomputable def o171(P:Pm):Obj:=⟨.type "function",none,.func (fd (sub (stm 17) 8) "get_num_lines_in_stmt" "Parser.get_num_lines_in_stmt" 3 .none .none .none (.str "cpy313.idlelib.pyparse" 289) (.ref 210) .none 0),#[]⟩
noncomputable def o172(P:Pm):Obj:=⟨.type "tuple",none,.seq #[.str "self" 1377] 0,#[]⟩
noncomputable def o173(P:Pm):Obj:=⟨.none,none,.func (fd (sub (stm 17) 9) "compute_backslash_indent" "Parser.compute_backslash_indent" 0 .none .none .none .none .none .none 0),#[]⟩
noncomputable def o174(P:Pm):Obj:=⟨.type "code",none,.fields #[.str "compute_backslash_indent" 1374,.str "Parser.compute_backslash_indent" 1375,.str "/claim/cut.py" 1376,.int 232 0,.int 1 0,.int 0 0,.int 0 0,.int 3 0,.ref 212,.bool true,.int 276 0,.ref 213,.none,.ref 214,.ref 215,.ref 216,.int 1378 0,.int 232 0,.str "/claim/cut.py" 1379],#[]⟩
noncomputable def o175(P:Pm):Obj:=⟨.type "function",none,.func (fd (sub (stm 17) 9) "compute_backslash_indent" "Parser.compute_backslash_indent" 3 .none .none .none (.str "cpy313.idlelib.pyparse" 289) (.ref 217) .none 0),#[]⟩
noncomputable def o176(P:Pm):Obj:=⟨.type "tuple",none,.seq #[.str "self" 1384] 0,#[]⟩
noncomputable def o177(P:Pm):Obj:=⟨.none,none,.func (fd (sub (stm 17) 10) "get_base_indent_string" "Parser.get_base_indent_string" 0 .none .none .none .none .none .none 0),#[]⟩
noncomputable def o178(P:Pm):Obj:=⟨.type "code",none,.fields #[.str "get_base_indent_string" 1381,.str "Parser.get_base_indent_string" 1382,.str "/claim/cut.py" 1383,.int 235 0,.int 1 0,.int 0 0,.int 0 0,.int 3 0,.ref 219,.bool true,.int 276 0,.ref 220,.none,.ref 221,.ref 222,.ref 223,.int 1385 0,.int 235 0,.str "/claim/cut.py" 1386],#[]⟩
noncomputable def o179(P:Pm):Obj:=⟨.type "function",none,.func (fd (sub (stm 17) 10) "get_base_indent_string" "Parser.get_base_indent_string" 3 .none .none .none (.str "cpy313.idlelib.pyparse" 289) (.ref 224) .none 0),#[]⟩
noncomputable def o180(P:Pm):Obj:=⟨.type "tuple",none,.seq #[.str "self" 1391] 0,#[]⟩
noncomputable def o181(P:Pm):Obj:=⟨.none,none,.func (fd (sub (stm 17) 11) "is_block_opener" "Parser.is_block_opener" 0 .none .none .none .none .none .none 0),#[]⟩
noncomputable def o182(P:Pm):Obj:=⟨.type "code",none,.fields #[.str "is_block_opener" 1388,.str "Parser.is_block_opener" 1389,.str "/claim/cut.py" 1390,.int 238 0,.int 1 0,.int 0 0,.int 0 0,.int 3 0,.ref 226,.bool true,.int 276 0,.ref 227,.none,.ref 228,.ref 229,.ref 230,.int 1392 0,.int 238 0,.str "/claim/cut.py" 1393],#[]⟩
noncomputable def o183(P:Pm):Obj:=⟨.type "function",none,.func (fd (sub (stm 17) 11) "is_block_opener" "Parser.is_block_opener" 3 .none .none .none (.str "cpy313.idlelib.pyparse" 289) (.ref 231) .none 0),#[]⟩
noncomputable def o184(P:Pm):Obj:=⟨.type "tuple",none,.seq #[.str "self" 1398] 0,#[]⟩
noncomputable def o185(P:Pm):Obj:=⟨.none,none,.func (fd (sub (stm 17) 12) "is_block_closer" "Parser.is_block_closer" 0 .none .none .none .none .none .none 0),#[]⟩
noncomputable def o186(P:Pm):Obj:=⟨.type "code",none,.fields #[.str "is_block_closer" 1395,.str "Parser.is_block_closer" 1396,.str "/claim/cut.py" 1397,.int 242 0,.int 1 0,.int 0 0,.int 0 0,.int 3 0,.ref 233,.bool true,.int 276 0,.ref 234,.none,.ref 235,.ref 236,.ref 237,.int 1399 0,.int 242 0,.str "/claim/cut.py" 1400],#[]⟩
noncomputable def o187(P:Pm):Obj:=⟨.type "function",none,.func (fd (sub (stm 17) 12) "is_block_closer" "Parser.is_block_closer" 3 .none .none .none (.str "cpy313.idlelib.pyparse" 289) (.ref 238) .none 0),#[]⟩
noncomputable def o188(P:Pm):Obj:=⟨.type "tuple",none,.seq #[.str "self" 1405] 0,#[]⟩
noncomputable def o189(P:Pm):Obj:=⟨.none,none,.func (fd (sub (stm 17) 13) "get_last_stmt_bracketing" "Parser.get_last_stmt_bracketing" 0 .none .none .none .none .none .none 0),#[]⟩
noncomputable def o190(P:Pm):Obj:=⟨.type "code",none,.fields #[.str "get_last_stmt_bracketing" 1402,.str "Parser.get_last_stmt_bracketing" 1403,.str "/claim/cut.py" 1404,.int 245 0,.int 1 0,.int 0 0,.int 0 0,.int 3 0,.ref 240,.bool true,.int 276 0,.ref 241,.none,.ref 242,.ref 243,.ref 244,.int 1406 0,.int 245 0,.str "/claim/cut.py" 1407],#[]⟩
noncomputable def o191(P:Pm):Obj:=⟨.type "function",none,.func (fd (sub (stm 17) 13) "get_last_stmt_bracketing" "Parser.get_last_stmt_bracketing" 3 .none .none .none (.str "cpy313.idlelib.pyparse" 289) (.ref 245) .none 0),#[]⟩
noncomputable def o192(P:Pm):Obj:=⟨.type "tuple",none,.seq #[.str "code" 1409,.str "continuation" 1410,.str "goodlines" 1411,.str "indentwidth" 1412,.str "lastch" 1413,.str "lastopenbracketpos" 1414,.str "stmt_bracketing" 1415,.str "stmt_end" 1416,.str "stmt_start" 1417,.str "study_level" 1418,.str "tabwidth" 1419] 0,#[]⟩
noncomputable def o193(P:Pm):Obj:=⟨.type "dict",none,.dict #[e126 P,en P "__firstlineno__" 1273 (.int 23 1272),en P "__init__" 1282 (.ref 155),en P "set_code" 1290 (.ref 162),en P "find_good_parse_start" 1305 (.ref 169),en P "set_lo" 1313 (.ref 176),en P "_study1" 1332 (.ref 183),en P "get_continuation_type" 1339 (.ref 190),en P "_study2" 1359 (.ref 197),en P "compute_bracket_indent" 1366 (.ref 204),en P "get_num_lines_in_stmt" 1373 (.ref 211),en P "compute_backslash_indent" 1380 (.ref 218),en P "get_base_indent_string" 1387 (.ref 225),en P "is_block_opener" 1394 (.ref 232),en P "is_block_closer" 1401 (.ref 239),en P "get_last_stmt_bracketing" 1408 (.ref 246),en P "__static_attributes__" 1420 (.ref 247),en P "__dict__" 1422 (.ref 250),en P "__weakref__" 1424 (.ref 251),en P "__doc__" 1425 .none] 4,#[]⟩
noncomputable def o194(P:Pm):Obj:=⟨.type "type",none,.cls { name:="Parser",bases:=[.type "object"],mro:=[.ref 249,.type "object"],ns:=248,qualname:="Parser",hasDict:=true,slotNames:=[],subclasses:=[],abstract:=false,collection:=none,hasDel:=false },#[none,none,some (.str "Parser" 1262),some (.str "Parser" 1270),some (.builtin "object.__new__"),some (.bool true)]⟩
noncomputable def o195(P:Pm):Obj:=⟨.type "getset_descriptor",none,.fields #[.str "__dict__" 1421,.ref 249,.builtin "function.__dict__",.builtin "function.__dict__#set"],#[]⟩
noncomputable def o196(P:Pm):Obj:=⟨.type "getset_descriptor",none,.fields #[.str "__weakref__" 1423,.ref 249,.builtin "ExceptionGroup.__weakref__",.none],#[]⟩
noncomputable def o197(P:Pm):Obj:=⟨.type "super",none,.fields #[.ref 249,.ref 249,.ref 249],#[]⟩
noncomputable def o198(P:Pm):Obj:=⟨.type "builtin_function_or_method",none,.fields #[.builtin "object.__init_subclass__",.ref 249],#[]⟩
noncomputable def u93(P:Pm):BT:=.node (o92 P) (lf (o7 P)) (lf (o177 P))
noncomputable def u94(P:Pm):BT:=.node (o29 P) (.node (o59 P) (lf (o8 P)) (lf (o7 P))) (u93 P)
noncomputable def u95(P:Pm):BT:=.node (o76 P) (lf (o69 P)) (lf (o168 P))
noncomputable def u96(P:Pm):BT:=.node (o7 P) (lf (o150 P)) (lf (o187 P))
noncomputable def u97(P:Pm):BT:=.node (o44 P) (u95 P) (u96 P)
noncomputable def u98(P:Pm):BT:=.node (o7 P) (u94 P) (u97 P)
noncomputable def u99(P:Pm):BT:=.node (o71 P) (lf (o125 P)) (lf (o8 P))
noncomputable def u100(P:Pm):BT:=.node (o98 P) (lf (o145 P)) (lf (o182 P))
noncomputable def u101(P:Pm):BT:=.node (o38 P) (u99 P) (u100 P)
noncomputable def u102(P:Pm):BT:=.node (o83 P) (lf (o136 P)) (lf (o7 P))
noncomputable def u103(P:Pm):BT:=.node (o111 P) (lf (o155 P)) (lf (o192 P))
noncomputable def u104(P:Pm):BT:=.node (o6 P) (u102 P) (u103 P)
noncomputable def u105(P:Pm):BT:=.node (o22 P) (u101 P) (u104 P)
noncomputable def u106(P:Pm):BT:=.node (o7 P) (u98 P) (u105 P)
noncomputable def u107(P:Pm):BT:=.node (o68 P) (lf (o121 P)) (lf (o161 P))
noncomputable def u108(P:Pm):BT:=.node (o7 P) (u107 P) (.node (o94 P) (lf (o7 P)) (lf (o8 P)))
noncomputable def u109(P:Pm):BT:=.node (o79 P) (lf (o134 P)) (lf (o171 P))
noncomputable def u110(P:Pm):BT:=.node (o107 P) (lf (o152 P)) (lf (o7 P))
noncomputable def u111(P:Pm):BT:=.node (o39 P) (u109 P) (u110 P)
noncomputable def u112(P:Pm):BT:=.node (o18 P) (u108 P) (u111 P)
noncomputable def u113(P:Pm):BT:=.node (o8 P) (lf (o128 P)) (lf (o166 P))
noncomputable def u114(P:Pm):BT:=.node (o101 P) (lf (o8 P)) (lf (o184 P))
noncomputable def u115(P:Pm):BT:=.node (o41 P) (u113 P) (u114 P)
noncomputable def u116(P:Pm):BT:=.node (o116 P) (lf (o139 P)) (lf (o7 P))
noncomputable def u117(P:Pm):BT:=.node (o55 P) (u116 P) (.node (o7 P) (lf (o7 P)) (lf (o196 P)))
noncomputable def u118(P:Pm):BT:=.node (o26 P) (u115 P) (u117 P)
noncomputable def u119(P:Pm):BT:=.node (o27 P) (u112 P) (u118 P)
noncomputable def u120(P:Pm):BT:=.node (o63 P) (lf (o119 P)) (lf (o160 P))
noncomputable def u121(P:Pm):BT:=.node (o8 P) (lf (o142 P)) (lf (o179 P))
noncomputable def u122(P:Pm):BT:=.node (o8 P) (u120 P) (u121 P)
noncomputable def u123(P:Pm):BT:=.node (o47 P) (.node (o7 P) (lf (o7 P)) (lf (o169 P))) (.node (o105 P) (lf (o7 P)) (lf (o8 P)))
noncomputable def u124(P:Pm):BT:=.node (o16 P) (u122 P) (u123 P)
noncomputable def u125(P:Pm):BT:=.node (o73 P) (lf (o127 P)) (lf (o7 P))
noncomputable def u126(P:Pm):BT:=.node (o100 P) (lf (o147 P)) (lf (o7 P))
noncomputable def u127(P:Pm):BT:=.node (o39 P) (u125 P) (u126 P)
noncomputable def u128(P:Pm):BT:=.node (o86 P) (lf (o137 P)) (lf (o174 P))
noncomputable def u129(P:Pm):BT:=.node (o52 P) (u128 P) (.node (o7 P) (lf (o8 P)) (lf (o194 P)))
noncomputable def u130(P:Pm):BT:=.node (o24 P) (u127 P) (u129 P)
noncomputable def u131(P:Pm):BT:=.node (o9 P) (u124 P) (u130 P)
noncomputable def u132(P:Pm):BT:=.node (o70 P) (lf (o123 P)) (lf (o163 P))
noncomputable def u133(P:Pm):BT:=.node (o96 P) (lf (o144 P)) (lf (o7 P))
noncomputable def u134(P:Pm):BT:=.node (o34 P) (u132 P) (u133 P)
noncomputable def u135(P:Pm):BT:=.node (o109 P) (lf (o153 P)) (lf (o190 P))
noncomputable def u136(P:Pm):BT:=.node (o49 P) (.node (o81 P) (lf (o7 P)) (lf (o8 P))) (u135 P)
noncomputable def u137(P:Pm):BT:=.node (o20 P) (u134 P) (u136 P)
noncomputable def u138(P:Pm):BT:=.node (o102 P) (lf (o7 P)) (lf (o185 P))
noncomputable def u139(P:Pm):BT:=.node (o6 P) (.node (o7 P) (lf (o129 P)) (lf (o7 P))) (u138 P)
noncomputable def u140(P:Pm):BT:=.node (o117 P) (lf (o158 P)) (lf (o198 P))
noncomputable def u141(P:Pm):BT:=.node (o7 P) (.node (o7 P) (lf (o8 P)) (lf (o176 P))) (u140 P)
noncomputable def u142(P:Pm):BT:=.node (o131 P) (u139 P) (u141 P)
noncomputable def u143(P:Pm):BT:=.node (o13 P) (u137 P) (u142 P)
noncomputable def u144(P:Pm):BT:=.node (o5 P) (u131 P) (u143 P)
noncomputable def u145(P:Pm):BT:=.node (o61 P) (lf (o118 P)) (lf (o8 P))
noncomputable def u146(P:Pm):BT:=.node (o7 P) (lf (o141 P)) (lf (o178 P))
noncomputable def u147(P:Pm):BT:=.node (o7 P) (u145 P) (u146 P)
noncomputable def u148(P:Pm):BT:=.node (o77 P) (lf (o132 P)) (lf (o7 P))
noncomputable def u149(P:Pm):BT:=.node (o45 P) (u148 P) (.node (o8 P) (lf (o151 P)) (lf (o7 P)))
noncomputable def u150(P:Pm):BT:=.node (o15 P) (u147 P) (u149 P)
noncomputable def u151(P:Pm):BT:=.node (o72 P) (lf (o126 P)) (lf (o164 P))
noncomputable def u152(P:Pm):BT:=.node (o99 P) (lf (o146 P)) (lf (o183 P))
noncomputable def u153(P:Pm):BT:=.node (o6 P) (u151 P) (u152 P)
noncomputable def u154(P:Pm):BT:=.node (o85 P) (lf (o7 P)) (lf (o173 P))
noncomputable def u155(P:Pm):BT:=.node (o112 P) (lf (o7 P)) (lf (o193 P))
noncomputable def u156(P:Pm):BT:=.node (o39 P) (u154 P) (u155 P)
noncomputable def u157(P:Pm):BT:=.node (o23 P) (u153 P) (u156 P)
noncomputable def u158(P:Pm):BT:=.node (o8 P) (u150 P) (u157 P)
noncomputable def u159(P:Pm):BT:=.node (o69 P) (lf (o122 P)) (lf (o162 P))
noncomputable def u160(P:Pm):BT:=.node (o95 P) (lf (o8 P)) (lf (o180 P))
noncomputable def u161(P:Pm):BT:=.node (o33 P) (u159 P) (u160 P)
noncomputable def u162(P:Pm):BT:=.node (o80 P) (lf (o135 P)) (lf (o7 P))
noncomputable def u163(P:Pm):BT:=.node (o108 P) (lf (o7 P)) (lf (o189 P))
noncomputable def u164(P:Pm):BT:=.node (o48 P) (u162 P) (u163 P)
noncomputable def u165(P:Pm):BT:=.node (o19 P) (u161 P) (u164 P)
noncomputable def u166(P:Pm):BT:=.node (o74 P) (lf (o7 P)) (lf (o167 P))
noncomputable def u167(P:Pm):BT:=.node (o43 P) (u166 P) (.node (o7 P) (lf (o148 P)) (lf (o7 P)))
noncomputable def u168(P:Pm):BT:=.node (o114 P) (lf (o157 P)) (lf (o197 P))
noncomputable def u169(P:Pm):BT:=.node (o56 P) (.node (o88 P) (lf (o7 P)) (lf (o8 P))) (u168 P)
noncomputable def u170(P:Pm):BT:=.node (o7 P) (u167 P) (u169 P)
noncomputable def u171(P:Pm):BT:=.node (o12 P) (u165 P) (u170 P)
noncomputable def u172(P:Pm):BT:=.node (o4 P) (u158 P) (u171 P)
noncomputable def u173(P:Pm):BT:=.node (o65 P) (lf (o120 P)) (lf (o7 P))
noncomputable def u174(P:Pm):BT:=.node (o93 P) (lf (o143 P)) (lf (o7 P))
noncomputable def u175(P:Pm):BT:=.node (o32 P) (u173 P) (u174 P)
noncomputable def u176(P:Pm):BT:=.node (o78 P) (lf (o133 P)) (lf (o170 P))
noncomputable def u177(P:Pm):BT:=.node (o106 P) (lf (o8 P)) (lf (o188 P))
noncomputable def u178(P:Pm):BT:=.node (o6 P) (u176 P) (u177 P)
noncomputable def u179(P:Pm):BT:=.node (o17 P) (u175 P) (u178 P)
noncomputable def u180(P:Pm):BT:=.node (o40 P) (.node (o7 P) (lf (o7 P)) (lf (o165 P))) (.node (o7 P) (lf (o7 P)) (lf (o8 P)))
noncomputable def u181(P:Pm):BT:=.node (o6 P) (lf (o138 P)) (lf (o175 P))
noncomputable def u182(P:Pm):BT:=.node (o113 P) (lf (o156 P)) (lf (o195 P))
noncomputable def u183(P:Pm):BT:=.node (o53 P) (u181 P) (u182 P)
noncomputable def u184(P:Pm):BT:=.node (o25 P) (u180 P) (u183 P)
noncomputable def u185(P:Pm):BT:=.node (o10 P) (u179 P) (u184 P)
noncomputable def u186(P:Pm):BT:=.node (o97 P) (lf (o7 P)) (lf (o181 P))
noncomputable def u187(P:Pm):BT:=.node (o35 P) (.node (o7 P) (lf (o124 P)) (lf (o7 P))) (u186 P)
noncomputable def u188(P:Pm):BT:=.node (o82 P) (lf (o8 P)) (lf (o172 P))
noncomputable def u189(P:Pm):BT:=.node (o110 P) (lf (o154 P)) (lf (o191 P))
noncomputable def u190(P:Pm):BT:=.node (o51 P) (u188 P) (u189 P)
noncomputable def u191(P:Pm):BT:=.node (o21 P) (u187 P) (u190 P)
noncomputable def u192(P:Pm):BT:=.node (o92 P) (lf (o149 P)) (lf (o186 P))
noncomputable def u193(P:Pm):BT:=.node (o39 P) (.node (o75 P) (lf (o7 P)) (lf (o8 P))) (u192 P)
noncomputable def u194(P:Pm):BT:=.node (o89 P) (lf (o140 P)) (lf (o7 P))
noncomputable def u195(P:Pm):BT:=.node (o57 P) (u194 P) (.node (o7 P) (lf (o159 P)) .nil)
noncomputable def u196(P:Pm):BT:=.node (o28 P) (u193 P) (u195 P)
noncomputable def u197(P:Pm):BT:=.node (o14 P) (u191 P) (u196 P)
noncomputable def u198(P:Pm):BT:=.node (o6 P) (u185 P) (u197 P)
noncomputable def u199(P:Pm):BT:=.node (o2 P) (u172 P) (u198 P)
noncomputable def t16(P:Pm):BT:=(.node (o0 P) (.node (o1 P) (.node (o130 P) (u106 P) (u119 P)) (u144 P)) (u199 P))
noncomputable def s16(w:World)(os:OsState):SharedT:=⟨t16 w.params,254,lf0,#[.finished,.finished,.finished],⟨0,0,0,0⟩,1428,os⟩
noncomputable def e127(P:Pm):DictEntry:=en P "__name__" 165 (.str "law_dm0165_04" 1428)
noncomputable def o199(P:Pm):Obj:=⟨.type "dict",none,.dict #[e127 P,e0 P,e1 P,e2 P,e3 P,e4 P,e5 P,e6 P,e7 P,e8 P,e10 P,e12 P,e13 P,e14 P,e15 P,e16 P,e17 P,e18 P,e19 P,e20 P,e21 P,e22 P,e23 P,e24 P,e25 P,e27 P,e125 P] 27,#[]⟩
noncomputable def t17(P:Pm):BT:=(.node (o0 P) (.node (o1 P) (.node (o199 P) (u106 P) (u119 P)) (u144 P)) (u199 P))
noncomputable def s17(w:World)(os:OsState):SharedT:=⟨t17 w.params,254,lf0,#[.finished,.finished,.finished],⟨0,0,0,0⟩,1430,os⟩
noncomputable def e128(P:Pm):DictEntry:=en P "_law_known" 1435 (.ref 260)
noncomputable def o200(P:Pm):Obj:=⟨.type "dict",none,.dict #[e127 P,e0 P,e1 P,e2 P,e3 P,e4 P,e5 P,e6 P,e7 P,e8 P,e10 P,e12 P,e13 P,e14 P,e15 P,e16 P,e17 P,e18 P,e19 P,e20 P,e21 P,e22 P,e23 P,e24 P,e25 P,e27 P,e125 P,e128 P] 28,#[]⟩
noncomputable def o201(P:Pm):Obj:=⟨.none,none,.fields #[.int 2 0,.int 0 0,.ref 37,.int 15 0,.int 0 0,.ref 72,.int 20 0,.int 13 0,.ref 98,.int 21 0,.int 13 0,.ref 113,.int 22 0,.int 13 0,.ref 128,.int 23 0,.int 0 0,.ref 147,.int 249 0,.int 0 0,.ref 259],#[]⟩
noncomputable def o202(P:Pm):Obj:=⟨.none,none,.func (fd (stm 19) "_law_known" "_law_known" 0 .none .none .none .none .none .none 0),#[]⟩
noncomputable def o203(P:Pm):Obj:=⟨.type "code",none,.fields #[.str "_law_known" 1430,.str "_law_known" 1431,.str "/claim/cut.py" 1432,.int 249 0,.int 0 0,.int 0 0,.int 0 0,.int 3 0,.ref 254,.bool true,.int 276 0,.ref 255,.none,.ref 256,.ref 257,.ref 258,.int 1433 0,.int 249 0,.str "/claim/cut.py" 1434],#[]⟩
noncomputable def o204(P:Pm):Obj:=⟨.type "function",none,.func (fd (stm 19) "_law_known" "_law_known" 3 .none .none .none (.str "law_dm0165_04" 1428) (.ref 259) .none 0),#[]⟩
noncomputable def u200(P:Pm):BT:=.node (o59 P) (.node (o8 P) (lf (o8 P)) .nil) (lf (o7 P))
noncomputable def u201(P:Pm):BT:=.node (o29 P) (u200 P) (u93 P)
noncomputable def u202(P:Pm):BT:=.node (o7 P) (u201 P) (u97 P)
noncomputable def u203(P:Pm):BT:=.node (o68 P) (.node (o121 P) (lf (o203 P)) .nil) (lf (o161 P))
noncomputable def u204(P:Pm):BT:=.node (o7 P) (u203 P) (.node (o94 P) (lf (o7 P)) (lf (o8 P)))
noncomputable def u205(P:Pm):BT:=.node (o18 P) (u204 P) (u111 P)
noncomputable def u206(P:Pm):BT:=.node (o63 P) (.node (o119 P) (lf (o7 P)) .nil) (lf (o160 P))
noncomputable def u207(P:Pm):BT:=.node (o8 P) (u206 P) (u121 P)
noncomputable def u208(P:Pm):BT:=.node (o16 P) (u207 P) (u123 P)
noncomputable def u209(P:Pm):BT:=.node (o61 P) (.node (o118 P) (lf (o7 P)) .nil) (lf (o8 P))
noncomputable def u210(P:Pm):BT:=.node (o7 P) (u209 P) (u146 P)
noncomputable def u211(P:Pm):BT:=.node (o15 P) (u210 P) (u149 P)
noncomputable def u212(P:Pm):BT:=.node (o69 P) (.node (o122 P) (lf (o204 P)) .nil) (lf (o162 P))
noncomputable def u213(P:Pm):BT:=.node (o33 P) (u212 P) (u160 P)
noncomputable def u214(P:Pm):BT:=.node (o19 P) (u213 P) (u164 P)
noncomputable def u215(P:Pm):BT:=.node (o12 P) (u214 P) (u170 P)
noncomputable def u216(P:Pm):BT:=.node (o65 P) (.node (o120 P) (lf (o202 P)) .nil) (lf (o7 P))
noncomputable def u217(P:Pm):BT:=.node (o32 P) (u216 P) (u174 P)
noncomputable def u218(P:Pm):BT:=.node (o17 P) (u217 P) (u178 P)
noncomputable def u219(P:Pm):BT:=.node (o57 P) (u194 P) (.node (o7 P) (lf (o159 P)) (lf (o7 P)))
noncomputable def u220(P:Pm):BT:=.node (o28 P) (u193 P) (u219 P)
noncomputable def t18(P:Pm):BT:=(.node (o0 P) (.node (o1 P) (.node (o200 P) (.node (o7 P) (u202 P) (u105 P)) (.node (o27 P) (u205 P) (u118 P))) (.node (o5 P) (.node (o9 P) (u208 P) (u130 P)) (.node (o13 P) (u137 P) (.node (o201 P) (u139 P) (u141 P))))) (.node (o2 P) (.node (o4 P) (.node (o8 P) (u211 P) (u157 P)) (u215 P)) (.node (o6 P) (.node (o10 P) (u218 P) (u184 P)) (.node (o14 P) (u191 P) (u220 P)))))
noncomputable def s18(w:World)(os:OsState):SharedT:=⟨t18 w.params,261,lf0,#[.finished,.finished,.finished],⟨0,0,0,0⟩,1436,os⟩
noncomputable def e129(P:Pm):DictEntry:=en P "_law_told" 1442 (.ref 267)
noncomputable def o205(P:Pm):Obj:=⟨.type "dict",none,.dict #[e127 P,e0 P,e1 P,e2 P,e3 P,e4 P,e5 P,e6 P,e7 P,e8 P,e10 P,e12 P,e13 P,e14 P,e15 P,e16 P,e17 P,e18 P,e19 P,e20 P,e21 P,e22 P,e23 P,e24 P,e25 P,e27 P,e125 P,e128 P,e129 P] 29,#[]⟩
noncomputable def o206(P:Pm):Obj:=⟨.none,none,.fields #[.int 2 0,.int 0 0,.ref 37,.int 15 0,.int 0 0,.ref 72,.int 20 0,.int 13 0,.ref 98,.int 21 0,.int 13 0,.ref 113,.int 22 0,.int 13 0,.ref 128,.int 23 0,.int 0 0,.ref 147,.int 249 0,.int 0 0,.ref 259,.int 251 0,.int 0 0,.ref 266],#[]⟩
noncomputable def o207(P:Pm):Obj:=⟨.type "tuple",none,.seq #[.str "parser" 1439] 0,#[]⟩
noncomputable def o208(P:Pm):Obj:=⟨.none,none,.func (fd (stm 20) "_law_told" "_law_told" 0 .none .none .none .none .none .none 0),#[]⟩
noncomputable def o209(P:Pm):Obj:=⟨.type "code",none,.fields #[.str "_law_told" 1436,.str "_law_told" 1437,.str "/claim/cut.py" 1438,.int 251 0,.int 1 0,.int 0 0,.int 0 0,.int 3 0,.ref 261,.bool true,.int 276 0,.ref 262,.none,.ref 263,.ref 264,.ref 265,.int 1440 0,.int 251 0,.str "/claim/cut.py" 1441],#[]⟩
noncomputable def o210(P:Pm):Obj:=⟨.type "function",none,.func (fd (stm 20) "_law_told" "_law_told" 3 .none .none .none (.str "law_dm0165_04" 1428) (.ref 266) .none 0),#[]⟩
noncomputable def u221(P:Pm):BT:=.node (o71 P) (.node (o125 P) (lf (o207 P)) .nil) (lf (o8 P))
noncomputable def u222(P:Pm):BT:=.node (o38 P) (u221 P) (u100 P)
noncomputable def u223(P:Pm):BT:=.node (o22 P) (u222 P) (u104 P)
noncomputable def u224(P:Pm):BT:=.node (o8 P) (.node (o128 P) (lf (o210 P)) .nil) (lf (o166 P))
noncomputable def u225(P:Pm):BT:=.node (o41 P) (u224 P) (u114 P)
noncomputable def u226(P:Pm):BT:=.node (o26 P) (u225 P) (u117 P)
noncomputable def u227(P:Pm):BT:=.node (o27 P) (u205 P) (u226 P)
noncomputable def u228(P:Pm):BT:=.node (o73 P) (.node (o127 P) (lf (o208 P)) .nil) (lf (o7 P))
noncomputable def u229(P:Pm):BT:=.node (o39 P) (u228 P) (u126 P)
noncomputable def u230(P:Pm):BT:=.node (o24 P) (u229 P) (u129 P)
noncomputable def u231(P:Pm):BT:=.node (o70 P) (.node (o123 P) (lf (o7 P)) .nil) (lf (o163 P))
noncomputable def u232(P:Pm):BT:=.node (o34 P) (u231 P) (u133 P)
noncomputable def u233(P:Pm):BT:=.node (o20 P) (u232 P) (u136 P)
noncomputable def u234(P:Pm):BT:=.node (o72 P) (.node (o126 P) (lf (o7 P)) .nil) (lf (o164 P))
noncomputable def u235(P:Pm):BT:=.node (o6 P) (u234 P) (u152 P)
noncomputable def u236(P:Pm):BT:=.node (o23 P) (u235 P) (u156 P)
noncomputable def u237(P:Pm):BT:=.node (o7 P) (.node (o7 P) (lf (o209 P)) .nil) (lf (o165 P))
noncomputable def u238(P:Pm):BT:=.node (o40 P) (u237 P) (.node (o7 P) (lf (o7 P)) (lf (o8 P)))
noncomputable def u239(P:Pm):BT:=.node (o25 P) (u238 P) (u183 P)
noncomputable def u240(P:Pm):BT:=.node (o7 P) (.node (o124 P) (lf (o8 P)) .nil) (lf (o7 P))
noncomputable def u241(P:Pm):BT:=.node (o35 P) (u240 P) (u186 P)
noncomputable def u242(P:Pm):BT:=.node (o21 P) (u241 P) (u190 P)
noncomputable def t19(P:Pm):BT:=(.node (o0 P) (.node (o1 P) (.node (o205 P) (.node (o7 P) (u202 P) (u223 P)) (u227 P)) (.node (o5 P) (.node (o9 P) (u208 P) (u230 P)) (.node (o13 P) (u233 P) (.node (o206 P) (u139 P) (u141 P))))) (.node (o2 P) (.node (o4 P) (.node (o8 P) (u211 P) (u236 P)) (u215 P)) (.node (o6 P) (.node (o10 P) (u218 P) (u239 P)) (.node (o14 P) (u242 P) (u220 P)))))
noncomputable def s19(w:World)(os:OsState):SharedT:=⟨t19 w.params,268,lf0,#[.finished,.finished,.finished],⟨0,0,0,0⟩,1443,os⟩
noncomputable def o211(P:Pm):Obj:=⟨.type "dict",none,.dict #[e127 P,e0 P,e1 P,e2 P,e3 P,e4 P,e5 P,e6 P,e7 P,e8 P,e10 P,e12 P,e13 P,e14 P,e15 P,e16 P,e17 P,e18 P,e19 P,e20 P,e21 P,e22 P,e23 P,e24 P,e25 P,e27 P,e125 P,e128 P,e129 P,en P "_law_fresh" 1451 (.ref 274)] 30,#[]⟩
noncomputable def o212(P:Pm):Obj:=⟨.none,none,.fields #[.int 2 0,.int 0 0,.ref 37,.int 15 0,.int 0 0,.ref 72,.int 20 0,.int 13 0,.ref 98,.int 21 0,.int 13 0,.ref 113,.int 22 0,.int 13 0,.ref 128,.int 23 0,.int 0 0,.ref 147,.int 249 0,.int 0 0,.ref 259,.int 251 0,.int 0 0,.ref 266,.int 253 0,.int 0 0,.ref 273],#[]⟩
noncomputable def o213(P:Pm):Obj:=⟨.type "tuple",none,.seq #[.str "code" 1446,.str "parser" 1447,.str "kind" 1448] 0,#[]⟩
noncomputable def o214(P:Pm):Obj:=⟨.none,none,.func (fd (stm 21) "_law_fresh" "_law_fresh" 0 .none .none .none .none .none .none 0),#[]⟩
noncomputable def o215(P:Pm):Obj:=⟨.type "code",none,.fields #[.str "_law_fresh" 1443,.str "_law_fresh" 1444,.str "/claim/cut.py" 1445,.int 253 0,.int 1 0,.int 0 0,.int 0 0,.int 3 0,.ref 268,.bool true,.int 276 0,.ref 269,.none,.ref 270,.ref 271,.ref 272,.int 1449 0,.int 253 0,.str "/claim/cut.py" 1450],#[]⟩
noncomputable def o216(P:Pm):Obj:=⟨.type "function",none,.func (fd (stm 21) "_law_fresh" "_law_fresh" 3 .none .none .none (.str "law_dm0165_04" 1428) (.ref 273) .none 0),#[]⟩
noncomputable def u243(P:Pm):BT:=.node (o76 P) (.node (o69 P) (lf (o7 P)) .nil) (lf (o168 P))
noncomputable def u244(P:Pm):BT:=.node (o44 P) (u243 P) (u96 P)
noncomputable def u245(P:Pm):BT:=.node (o7 P) (u201 P) (u244 P)
noncomputable def u246(P:Pm):BT:=.node (o7 P) (.node (o7 P) (lf (o215 P)) .nil) (lf (o169 P))
noncomputable def u247(P:Pm):BT:=.node (o47 P) (u246 P) (.node (o105 P) (lf (o7 P)) (lf (o8 P)))
noncomputable def u248(P:Pm):BT:=.node (o16 P) (u207 P) (u247 P)
noncomputable def u249(P:Pm):BT:=.node (o9 P) (u248 P) (u230 P)
noncomputable def u250(P:Pm):BT:=.node (o7 P) (.node (o129 P) (lf (o8 P)) .nil) (lf (o7 P))
noncomputable def u251(P:Pm):BT:=.node (o6 P) (u250 P) (u138 P)
noncomputable def u252(P:Pm):BT:=.node (o77 P) (.node (o132 P) (lf (o214 P)) .nil) (lf (o7 P))
noncomputable def u253(P:Pm):BT:=.node (o45 P) (u252 P) (.node (o8 P) (lf (o151 P)) (lf (o7 P)))
noncomputable def u254(P:Pm):BT:=.node (o15 P) (u210 P) (u253 P)
noncomputable def u255(P:Pm):BT:=.node (o8 P) (u254 P) (u236 P)
noncomputable def u256(P:Pm):BT:=.node (o74 P) (.node (o7 P) (lf (o7 P)) .nil) (lf (o167 P))
noncomputable def u257(P:Pm):BT:=.node (o43 P) (u256 P) (.node (o7 P) (lf (o148 P)) (lf (o7 P)))
noncomputable def u258(P:Pm):BT:=.node (o7 P) (u257 P) (u169 P)
noncomputable def u259(P:Pm):BT:=.node (o78 P) (.node (o133 P) (lf (o216 P)) .nil) (lf (o170 P))
noncomputable def u260(P:Pm):BT:=.node (o6 P) (u259 P) (u177 P)
noncomputable def u261(P:Pm):BT:=.node (o17 P) (u217 P) (u260 P)
noncomputable def u262(P:Pm):BT:=.node (o10 P) (u261 P) (u239 P)
noncomputable def u263(P:Pm):BT:=.node (o75 P) (.node (o7 P) (lf (o213 P)) .nil) (lf (o8 P))
noncomputable def u264(P:Pm):BT:=.node (o39 P) (u263 P) (u192 P)
noncomputable def u265(P:Pm):BT:=.node (o28 P) (u264 P) (u219 P)
noncomputable def t20(P:Pm):BT:=(.node (o0 P) (.node (o1 P) (.node (o211 P) (.node (o7 P) (u245 P) (u223 P)) (u227 P)) (.node (o5 P) (u249 P) (.node (o13 P) (u233 P) (.node (o212 P) (u251 P) (u141 P))))) (.node (o2 P) (.node (o4 P) (u255 P) (.node (o12 P) (u214 P) (u258 P))) (.node (o6 P) (u262 P) (.node (o14 P) (u242 P) (u265 P)))))
noncomputable def s20(w:World)(os:OsState):SharedT:=⟨t20 w.params,275,lf0,#[.finished,.finished,.finished],⟨0,0,0,0⟩,1452,os⟩
noncomputable def o217(P:Pm):Obj:=⟨.type "dict",none,.dict #[e127 P,e0 P,e1 P,e2 P,e3 P,e4 P,e5 P,e6 P,e7 P,e8 P,e10 P,e12 P,e13 P,e14 P,e15 P,e16 P,e17 P,e18 P,e19 P,e20 P,e21 P,e22 P,e23 P,e24 P,e25 P,e27 P,e125 P,e128 P,e129 P,en P "_law_fresh" 1451 (.ref 274),en P "law" 1457 (.ref 279)] 31,#[]⟩
noncomputable def o218(P:Pm):Obj:=⟨.none,none,.fields #[.int 2 0,.int 0 0,.ref 37,.int 15 0,.int 0 0,.ref 72,.int 20 0,.int 13 0,.ref 98,.int 21 0,.int 13 0,.ref 113,.int 22 0,.int 13 0,.ref 128,.int 23 0,.int 0 0,.ref 147,.int 249 0,.int 0 0,.ref 259,.int 251 0,.int 0 0,.ref 266,.int 253 0,.int 0 0,.ref 273,.int 259 0,.int 0 0,.ref 278],#[]⟩
noncomputable def o219(P:Pm):Obj:=⟨.none,none,.func (fd (stm 22) "law" "law" 0 .none .none .none .none .none .none 0),#[]⟩
noncomputable def o220(P:Pm):Obj:=⟨.type "code",none,.fields #[.str "law" 1452,.str "law" 1453,.str "/claim/cut.py" 1454,.int 259 0,.int 1 0,.int 0 0,.int 0 0,.int 3 0,.ref 275,.bool true,.int 276 0,.ref 276,.none,.none,.none,.ref 277,.int 1455 0,.int 259 0,.str "/claim/cut.py" 1456],#[]⟩
noncomputable def o221(P:Pm):Obj:=⟨.type "function",none,.func (fd (stm 22) "law" "law" 3 .none .none .none (.str "law_dm0165_04" 1428) (.ref 278) .none 0),#[]⟩
noncomputable def t21(P:Pm):BT:=(.node (o0 P) (.node (o1 P) (.node (o217 P) (.node (o7 P) (u245 P) (.node (o22 P) (u222 P) (.node (o6 P) (.node (o83 P) (.node (o136 P) (lf (o221 P)) .nil) (lf (o7 P))) (u103 P)))) (.node (o27 P) (.node (o18 P) (u204 P) (.node (o39 P) (.node (o79 P) (.node (o134 P) (lf (o7 P)) .nil) (lf (o171 P))) (u110 P))) (u226 P))) (.node (o5 P) (u249 P) (.node (o13 P) (.node (o20 P) (u232 P) (.node (o49 P) (.node (o81 P) (.node (o7 P) (lf (o219 P)) .nil) (lf (o8 P))) (u135 P))) (.node (o218 P) (u251 P) (u141 P))))) (.node (o2 P) (.node (o4 P) (u255 P) (.node (o12 P) (.node (o19 P) (u213 P) (.node (o48 P) (.node (o80 P) (.node (o135 P) (lf (o8 P)) .nil) (lf (o7 P))) (u163 P))) (u258 P))) (.node (o6 P) (u262 P) (.node (o14 P) (.node (o21 P) (u241 P) (.node (o51 P) (.node (o82 P) (.node (o8 P) (lf (o220 P)) .nil) (lf (o172 P))) (u189 P))) (u265 P)))))
noncomputable def s21(w:World)(os:OsState):SharedT:=⟨t21 w.params,280,lf0,#[.finished,.finished,.finished],⟨0,0,0,0⟩,1458,os⟩
noncomputable def o222(P:Pm):Obj:=⟨.ref 83,some 90,.dict #[] 0,#[]⟩
noncomputable def o223(P:Pm):Obj:=⟨.type "range_iterator",none,.fields #[.int 0 0,.int 128 0,.int 1 0],#[]⟩
noncomputable def u266(P:Pm):BT:=.node (o5 P) (u66 P) (u56 P)
noncomputable def u267(P:Pm):BT:=.node (o6 P) (u73 P) (u62 P)
noncomputable def tc0(P:Pm):BT:=(.node (o0 P) (.node (o1 P) (.node (o66 P) (u51 P) (.node (o27 P) (u52 P) (.node (o26 P) (.node (o41 P) (lf (o8 P)) .nil) (.node (o55 P) (lf (o222 P)) .nil)))) (u266 P)) (.node (o2 P) (.node (o4 P) (u68 P) (.node (o12 P) (u58 P) (.node (o7 P) (.node (o43 P) (lf (o74 P)) .nil) (.node (o56 P) (lf (o223 P)) .nil)))) (u267 P)))
noncomputable def sc0(w:World)(os:OsState):SharedT:=⟨tc0 w.params,93,lf0,#[],⟨0,0,0,0⟩,908,os⟩
noncomputable def o224(P:Pm):Obj:=⟨.ref 83,some 90,.dict #[e28 P,e29 P,e30 P,e31 P,e32 P,e33 P,e34 P,e35 P,e36 P,e37 P] 10,#[]⟩
noncomputable def o225(P:Pm):Obj:=⟨.type "range_iterator",none,.fields #[.int 10 0,.int 118 0,.int 1 0],#[]⟩
noncomputable def tc10(P:Pm):BT:=(.node (o0 P) (.node (o1 P) (.node (o66 P) (u51 P) (.node (o27 P) (u52 P) (.node (o26 P) (.node (o41 P) (lf (o8 P)) .nil) (.node (o55 P) (lf (o224 P)) .nil)))) (u266 P)) (.node (o2 P) (.node (o4 P) (u68 P) (.node (o12 P) (u58 P) (.node (o7 P) (.node (o43 P) (lf (o74 P)) .nil) (.node (o56 P) (lf (o225 P)) .nil)))) (u267 P)))
noncomputable def sc10(w:World)(os:OsState):SharedT:=⟨tc10 w.params,93,lf0,#[],⟨0,0,0,0⟩,928,os⟩
noncomputable def o226(P:Pm):Obj:=⟨.ref 83,some 90,.dict #[e28 P,e29 P,e30 P,e31 P,e32 P,e33 P,e34 P,e35 P,e36 P,e37 P,e38 P,e39 P,e40 P,e41 P,e42 P,e43 P,e44 P,e45 P,e46 P,e47 P] 20,#[]⟩
noncomputable def o227(P:Pm):Obj:=⟨.type "range_iterator",none,.fields #[.int 20 0,.int 108 0,.int 1 0],#[]⟩
noncomputable def tc20(P:Pm):BT:=(.node (o0 P) (.node (o1 P) (.node (o66 P) (u51 P) (.node (o27 P) (u52 P) (.node (o26 P) (.node (o41 P) (lf (o8 P)) .nil) (.node (o55 P) (lf (o226 P)) .nil)))) (u266 P)) (.node (o2 P) (.node (o4 P) (u68 P) (.node (o12 P) (u58 P) (.node (o7 P) (.node (o43 P) (lf (o74 P)) .nil) (.node (o56 P) (lf (o227 P)) .nil)))) (u267 P)))
noncomputable def sc20(w:World)(os:OsState):SharedT:=⟨tc20 w.params,93,lf0,#[],⟨0,0,0,0⟩,948,os⟩
noncomputable def o228(P:Pm):Obj:=⟨.ref 83,some 90,.dict #[e28 P,e29 P,e30 P,e31 P,e32 P,e33 P,e34 P,e35 P,e36 P,e37 P,e38 P,e39 P,e40 P,e41 P,e42 P,e43 P,e44 P,e45 P,e46 P,e47 P,e48 P,e49 P,e50 P,e51 P,e52 P,e53 P,e54 P,e55 P,e56 P,e57 P] 30,#[]⟩
noncomputable def o229(P:Pm):Obj:=⟨.type "range_iterator",none,.fields #[.int 30 0,.int 98 0,.int 1 0],#[]⟩
noncomputable def tc30(P:Pm):BT:=(.node (o0 P) (.node (o1 P) (.node (o66 P) (u51 P) (.node (o27 P) (u52 P) (.node (o26 P) (.node (o41 P) (lf (o8 P)) .nil) (.node (o55 P) (lf (o228 P)) .nil)))) (u266 P)) (.node (o2 P) (.node (o4 P) (u68 P) (.node (o12 P) (u58 P) (.node (o7 P) (.node (o43 P) (lf (o74 P)) .nil) (.node (o56 P) (lf (o229 P)) .nil)))) (u267 P)))
noncomputable def sc30(w:World)(os:OsState):SharedT:=⟨tc30 w.params,93,lf0,#[],⟨0,0,0,0⟩,968,os⟩
noncomputable def o230(P:Pm):Obj:=⟨.ref 83,some 90,.dict #[e28 P,e29 P,e30 P,e31 P,e32 P,e33 P,e34 P,e35 P,e36 P,e37 P,e38 P,e39 P,e40 P,e41 P,e42 P,e43 P,e44 P,e45 P,e46 P,e47 P,e48 P,e49 P,e50 P,e51 P,e52 P,e53 P,e54 P,e55 P,e56 P,e57 P,e58 P,e59 P,e60 P,e61 P,e62 P,e63 P,e64 P,e65 P,e66 P,e67 P] 40,#[]⟩
noncomputable def o231(P:Pm):Obj:=⟨.type "range_iterator",none,.fields #[.int 40 0,.int 88 0,.int 1 0],#[]⟩
noncomputable def tc40(P:Pm):BT:=(.node (o0 P) (.node (o1 P) (.node (o66 P) (u51 P) (.node (o27 P) (u52 P) (.node (o26 P) (.node (o41 P) (lf (o8 P)) .nil) (.node (o55 P) (lf (o230 P)) .nil)))) (u266 P)) (.node (o2 P) (.node (o4 P) (u68 P) (.node (o12 P) (u58 P) (.node (o7 P) (.node (o43 P) (lf (o74 P)) .nil) (.node (o56 P) (lf (o231 P)) .nil)))) (u267 P)))
noncomputable def sc40(w:World)(os:OsState):SharedT:=⟨tc40 w.params,93,lf0,#[],⟨0,0,0,0⟩,988,os⟩
noncomputable def o232(P:Pm):Obj:=⟨.ref 83,some 90,.dict #[e28 P,e29 P,e30 P,e31 P,e32 P,e33 P,e34 P,e35 P,e36 P,e37 P,e38 P,e39 P,e40 P,e41 P,e42 P,e43 P,e44 P,e45 P,e46 P,e47 P,e48 P,e49 P,e50 P,e51 P,e52 P,e53 P,e54 P,e55 P,e56 P,e57 P,e58 P,e59 P,e60 P,e61 P,e62 P,e63 P,e64 P,e65 P,e66 P,e67 P,e68 P,e69 P,e70 P,e71 P,e72 P,e73 P,e74 P,e75 P,e76 P,e77 P] 50,#[]⟩
noncomputable def o233(P:Pm):Obj:=⟨.type "range_iterator",none,.fields #[.int 50 0,.int 78 0,.int 1 0],#[]⟩
noncomputable def tc50(P:Pm):BT:=(.node (o0 P) (.node (o1 P) (.node (o66 P) (u51 P) (.node (o27 P) (u52 P) (.node (o26 P) (.node (o41 P) (lf (o8 P)) .nil) (.node (o55 P) (lf (o232 P)) .nil)))) (u266 P)) (.node (o2 P) (.node (o4 P) (u68 P) (.node (o12 P) (u58 P) (.node (o7 P) (.node (o43 P) (lf (o74 P)) .nil) (.node (o56 P) (lf (o233 P)) .nil)))) (u267 P)))
noncomputable def sc50(w:World)(os:OsState):SharedT:=⟨tc50 w.params,93,lf0,#[],⟨0,0,0,0⟩,1008,os⟩
noncomputable def o234(P:Pm):Obj:=⟨.ref 83,some 90,.dict #[e28 P,e29 P,e30 P,e31 P,e32 P,e33 P,e34 P,e35 P,e36 P,e37 P,e38 P,e39 P,e40 P,e41 P,e42 P,e43 P,e44 P,e45 P,e46 P,e47 P,e48 P,e49 P,e50 P,e51 P,e52 P,e53 P,e54 P,e55 P,e56 P,e57 P,e58 P,e59 P,e60 P,e61 P,e62 P,e63 P,e64 P,e65 P,e66 P,e67 P,e68 P,e69 P,e70 P,e71 P,e72 P,e73 P,e74 P,e75 P,e76 P,e77 P,e78 P,e79 P,e80 P,e81 P,e82 P,e83 P,e84 P,e85 P,e86 P,e87 P] 60,#[]⟩
noncomputable def o235(P:Pm):Obj:=⟨.type "range_iterator",none,.fields #[.int 60 0,.int 68 0,.int 1 0],#[]⟩
noncomputable def tc60(P:Pm):BT:=(.node (o0 P) (.node (o1 P) (.node (o66 P) (u51 P) (.node (o27 P) (u52 P) (.node (o26 P) (.node (o41 P) (lf (o8 P)) .nil) (.node (o55 P) (lf (o234 P)) .nil)))) (u266 P)) (.node (o2 P) (.node (o4 P) (u68 P) (.node (o12 P) (u58 P) (.node (o7 P) (.node (o43 P) (lf (o74 P)) .nil) (.node (o56 P) (lf (o235 P)) .nil)))) (u267 P)))
noncomputable def sc60(w:World)(os:OsState):SharedT:=⟨tc60 w.params,93,lf0,#[],⟨0,0,0,0⟩,1028,os⟩
noncomputable def o236(P:Pm):Obj:=⟨.ref 83,some 90,.dict #[e28 P,e29 P,e30 P,e31 P,e32 P,e33 P,e34 P,e35 P,e36 P,e37 P,e38 P,e39 P,e40 P,e41 P,e42 P,e43 P,e44 P,e45 P,e46 P,e47 P,e48 P,e49 P,e50 P,e51 P,e52 P,e53 P,e54 P,e55 P,e56 P,e57 P,e58 P,e59 P,e60 P,e61 P,e62 P,e63 P,e64 P,e65 P,e66 P,e67 P,e68 P,e69 P,e70 P,e71 P,e72 P,e73 P,e74 P,e75 P,e76 P,e77 P,e78 P,e79 P,e80 P,e81 P,e82 P,e83 P,e84 P,e85 P,e86 P,e87 P,e88 P,e89 P,e90 P,e91 P,e92 P,e93 P,e94 P,e95 P,e96 P,e97 P] 70,#[]⟩
noncomputable def o237(P:Pm):Obj:=⟨.type "range_iterator",none,.fields #[.int 70 0,.int 58 0,.int 1 0],#[]⟩
noncomputable def tc70(P:Pm):BT:=(.node (o0 P) (.node (o1 P) (.node (o66 P) (u51 P) (.node (o27 P) (u52 P) (.node (o26 P) (.node (o41 P) (lf (o8 P)) .nil) (.node (o55 P) (lf (o236 P)) .nil)))) (u266 P)) (.node (o2 P) (.node (o4 P) (u68 P) (.node (o12 P) (u58 P) (.node (o7 P) (.node (o43 P) (lf (o74 P)) .nil) (.node (o56 P) (lf (o237 P)) .nil)))) (u267 P)))
noncomputable def sc70(w:World)(os:OsState):SharedT:=⟨tc70 w.params,93,lf0,#[],⟨0,0,0,0⟩,1048,os⟩
noncomputable def o238(P:Pm):Obj:=⟨.ref 83,some 90,.dict #[e28 P,e29 P,e30 P,e31 P,e32 P,e33 P,e34 P,e35 P,e36 P,e37 P,e38 P,e39 P,e40 P,e41 P,e42 P,e43 P,e44 P,e45 P,e46 P,e47 P,e48 P,e49 P,e50 P,e51 P,e52 P,e53 P,e54 P,e55 P,e56 P,e57 P,e58 P,e59 P,e60 P,e61 P,e62 P,e63 P,e64 P,e65 P,e66 P,e67 P,e68 P,e69 P,e70 P,e71 P,e72 P,e73 P,e74 P,e75 P,e76 P,e77 P,e78 P,e79 P,e80 P,e81 P,e82 P,e83 P,e84 P,e85 P,e86 P,e87 P,e88 P,e89 P,e90 P,e91 P,e92 P,e93 P,e94 P,e95 P,e96 P,e97 P,e98 P,e99 P,e100 P,e101 P,e102 P,e103 P,e104 P,e105 P,e106 P,e107 P] 80,#[]⟩
noncomputable def o239(P:Pm):Obj:=⟨.type "range_iterator",none,.fields #[.int 80 0,.int 48 0,.int 1 0],#[]⟩
noncomputable def tc80(P:Pm):BT:=(.node (o0 P) (.node (o1 P) (.node (o66 P) (u51 P) (.node (o27 P) (u52 P) (.node (o26 P) (.node (o41 P) (lf (o8 P)) .nil) (.node (o55 P) (lf (o238 P)) .nil)))) (u266 P)) (.node (o2 P) (.node (o4 P) (u68 P) (.node (o12 P) (u58 P) (.node (o7 P) (.node (o43 P) (lf (o74 P)) .nil) (.node (o56 P) (lf (o239 P)) .nil)))) (u267 P)))
noncomputable def sc80(w:World)(os:OsState):SharedT:=⟨tc80 w.params,93,lf0,#[],⟨0,0,0,0⟩,1068,os⟩
noncomputable def o240(P:Pm):Obj:=⟨.ref 83,some 90,.dict #[e28 P,e29 P,e30 P,e31 P,e32 P,e33 P,e34 P,e35 P,e36 P,e37 P,e38 P,e39 P,e40 P,e41 P,e42 P,e43 P,e44 P,e45 P,e46 P,e47 P,e48 P,e49 P,e50 P,e51 P,e52 P,e53 P,e54 P,e55 P,e56 P,e57 P,e58 P,e59 P,e60 P,e61 P,e62 P,e63 P,e64 P,e65 P,e66 P,e67 P,e68 P,e69 P,e70 P,e71 P,e72 P,e73 P,e74 P,e75 P,e76 P,e77 P,e78 P,e79 P,e80 P,e81 P,e82 P,e83 P,e84 P,e85 P,e86 P,e87 P,e88 P,e89 P,e90 P,e91 P,e92 P,e93 P,e94 P,e95 P,e96 P,e97 P,e98 P,e99 P,e100 P,e101 P,e102 P,e103 P,e104 P,e105 P,e106 P,e107 P,e108 P,e109 P,e110 P,e111 P,e112 P,e113 P,e114 P,e115 P,e116 P,e117 P] 90,#[]⟩
noncomputable def o241(P:Pm):Obj:=⟨.type "range_iterator",none,.fields #[.int 90 0,.int 38 0,.int 1 0],#[]⟩
noncomputable def tc90(P:Pm):BT:=(.node (o0 P) (.node (o1 P) (.node (o66 P) (u51 P) (.node (o27 P) (u52 P) (.node (o26 P) (.node (o41 P) (lf (o8 P)) .nil) (.node (o55 P) (lf (o240 P)) .nil)))) (u266 P)) (.node (o2 P) (.node (o4 P) (u68 P) (.node (o12 P) (u58 P) (.node (o7 P) (.node (o43 P) (lf (o74 P)) .nil) (.node (o56 P) (lf (o241 P)) .nil)))) (u267 P)))
noncomputable def sc90(w:World)(os:OsState):SharedT:=⟨tc90 w.params,93,lf0,#[],⟨0,0,0,0⟩,1088,os⟩
noncomputable def o242(P:Pm):Obj:=⟨.ref 83,some 90,.dict #[e28 P,e29 P,e30 P,e31 P,e32 P,e33 P,e34 P,e35 P,e36 P,e37 P,e38 P,e39 P,e40 P,e41 P,e42 P,e43 P,e44 P,e45 P,e46 P,e47 P,e48 P,e49 P,e50 P,e51 P,e52 P,e53 P,e54 P,e55 P,e56 P,e57 P,e58 P,e59 P,e60 P,e61 P,e62 P,e63 P,e64 P,e65 P,e66 P,e67 P,e68 P,e69 P,e70 P,e71 P,e72 P,e73 P,e74 P,e75 P,e76 P,e77 P,e78 P,e79 P,e80 P,e81 P,e82 P,e83 P,e84 P,e85 P,e86 P,e87 P,e88 P,e89 P,e90 P,e91 P,e92 P,e93 P,e94 P,e95 P,e96 P,e97 P,e98 P,e99 P,e100 P,e101 P,e102 P,e103 P,e104 P,e105 P,e106 P,e107 P,e108 P,e109 P,e110 P,e111 P,e112 P,e113 P,e114 P,e115 P,e116 P,e117 P,e118 P,ie 91 1090 907,ie 92 1092 907,ie 93 1094 907,e119 P,e120 P,e121 P,e122 P,e123 P,e124 P] 100,#[]⟩
noncomputable def o243(P:Pm):Obj:=⟨.type "range_iterator",none,.fields #[.int 100 0,.int 28 0,.int 1 0],#[]⟩
noncomputable def tc100(P:Pm):BT:=(.node (o0 P) (.node (o1 P) (.node (o66 P) (u51 P) (.node (o27 P) (u52 P) (.node (o26 P) (.node (o41 P) (lf (o8 P)) .nil) (.node (o55 P) (lf (o242 P)) .nil)))) (u266 P)) (.node (o2 P) (.node (o4 P) (u68 P) (.node (o12 P) (u58 P) (.node (o7 P) (.node (o43 P) (lf (o74 P)) .nil) (.node (o56 P) (lf (o243 P)) .nil)))) (u267 P)))
noncomputable def Zyr(w:World)(os:OsState):SharedT:=⟨tc100 w.params,93,lf0,#[],⟨0,0,0,0⟩,1108,os⟩
noncomputable def o244(P:Pm):Obj:=⟨.ref 83,some 90,.dict #[e28 P,e29 P,e30 P,e31 P,e32 P,e33 P,e34 P,e35 P,e36 P,e37 P,e38 P,e39 P,e40 P,e41 P,e42 P,e43 P,e44 P,e45 P,e46 P,e47 P,e48 P,e49 P,e50 P,e51 P,e52 P,e53 P,e54 P,e55 P,e56 P,e57 P,e58 P,e59 P,e60 P,e61 P,e62 P,e63 P,e64 P,e65 P,e66 P,e67 P,e68 P,e69 P,e70 P,e71 P,e72 P,e73 P,e74 P,e75 P,e76 P,e77 P,e78 P,e79 P,e80 P,e81 P,e82 P,e83 P,e84 P,e85 P,e86 P,e87 P,e88 P,e89 P,e90 P,e91 P,e92 P,e93 P,e94 P,e95 P,e96 P,e97 P,e98 P,e99 P,e100 P,e101 P,e102 P,e103 P,e104 P,e105 P,e106 P,e107 P,e108 P,e109 P,e110 P,e111 P,e112 P,e113 P,e114 P,e115 P,e116 P,e117 P,e118 P,ie 91 1090 907,ie 92 1092 907,ie 93 1094 907,e119 P,e120 P,e121 P,e122 P,e123 P,e124 P,ie 100 1108 907,ie 101 1110 907,ie 102 1112 907,ie 103 1114 907,ie 104 1116 907,ie 105 1118 907,ie 106 1120 907,ie 107 1122 907,ie 108 1124 907,ie 109 1126 907] 110,#[]⟩
noncomputable def o245(P:Pm):Obj:=⟨.type "range_iterator",none,.fields #[.int 110 0,.int 18 0,.int 1 0],#[]⟩
noncomputable def tc110(P:Pm):BT:=(.node (o0 P) (.node (o1 P) (.node (o66 P) (u51 P) (.node (o27 P) (u52 P) (.node (o26 P) (.node (o41 P) (lf (o8 P)) .nil) (.node (o55 P) (lf (o244 P)) .nil)))) (u266 P)) (.node (o2 P) (.node (o4 P) (u68 P) (.node (o12 P) (u58 P) (.node (o7 P) (.node (o43 P) (lf (o74 P)) .nil) (.node (o56 P) (lf (o245 P)) .nil)))) (u267 P)))
noncomputable def Zyq(w:World)(os:OsState):SharedT:=⟨tc110 w.params,93,lf0,#[],⟨0,0,0,0⟩,1128,os⟩
noncomputable def o246(P:Pm):Obj:=⟨.ref 83,some 90,.dict #[e28 P,e29 P,e30 P,e31 P,e32 P,e33 P,e34 P,e35 P,e36 P,e37 P,e38 P,e39 P,e40 P,e41 P,e42 P,e43 P,e44 P,e45 P,e46 P,e47 P,e48 P,e49 P,e50 P,e51 P,e52 P,e53 P,e54 P,e55 P,e56 P,e57 P,e58 P,e59 P,e60 P,e61 P,e62 P,e63 P,e64 P,e65 P,e66 P,e67 P,e68 P,e69 P,e70 P,e71 P,e72 P,e73 P,e74 P,e75 P,e76 P,e77 P,e78 P,e79 P,e80 P,e81 P,e82 P,e83 P,e84 P,e85 P,e86 P,e87 P,e88 P,e89 P,e90 P,e91 P,e92 P,e93 P,e94 P,e95 P,e96 P,e97 P,e98 P,e99 P,e100 P,e101 P,e102 P,e103 P,e104 P,e105 P,e106 P,e107 P,e108 P,e109 P,e110 P,e111 P,e112 P,e113 P,e114 P,e115 P,e116 P,e117 P,e118 P,ie 91 1090 907,ie 92 1092 907,ie 93 1094 907,e119 P,e120 P,e121 P,e122 P,e123 P,e124 P,ie 100 1108 907,ie 101 1110 907,ie 102 1112 907,ie 103 1114 907,ie 104 1116 907,ie 105 1118 907,ie 106 1120 907,ie 107 1122 907,ie 108 1124 907,ie 109 1126 907,ie 110 1128 907,ie 111 1130 907,ie 112 1132 907,ie 113 1134 907,ie 114 1136 907,ie 115 1138 907,ie 116 1140 907,ie 117 1142 907,ie 118 1144 907,ie 119 1146 907] 120,#[]⟩
noncomputable def o247(P:Pm):Obj:=⟨.type "range_iterator",none,.fields #[.int 120 0,.int 8 0,.int 1 0],#[]⟩
noncomputable def tc120(P:Pm):BT:=(.node (o0 P) (.node (o1 P) (.node (o66 P) (u51 P) (.node (o27 P) (u52 P) (.node (o26 P) (.node (o41 P) (lf (o8 P)) .nil) (.node (o55 P) (lf (o246 P)) .nil)))) (u266 P)) (.node (o2 P) (.node (o4 P) (u68 P) (.node (o12 P) (u58 P) (.node (o7 P) (.node (o43 P) (lf (o74 P)) .nil) (.node (o56 P) (lf (o247 P)) .nil)))) (u267 P)))
noncomputable def Zyp(w:World)(os:OsState):SharedT:=⟨tc120 w.params,93,lf0,#[],⟨0,0,0,0⟩,1148,os⟩
noncomputable def tc128(P:Pm):BT:=(.node (o0 P) (.node (o1 P) (.node (o66 P) (u51 P) (u64 P)) (u266 P)) (.node (o2 P) (u71 P) (u267 P)))
noncomputable def Zyo(w:World)(os:OsState):SharedT:=⟨tc128 w.params,93,lf0,#[],⟨0,0,0,0⟩,1164,os⟩
noncomputable def hf(P:Params):Heap:=⟨⟨[o0 P,o1 P,o2 P,o217 P,o4 P,o5 P,o6 P,o7 P,o8 P,o9 P,o10 P,o27 P,o12 P,o13 P,o14 P,o7 P,o15 P,o16 P,o17 P,o18 P,o19 P,o20 P,o21 P,o22 P,o23 P,o24 P,o25 P,o26 P,o7 P,o218 P,o28 P,o29 P,o7 P,o8 P,o32 P,o7 P,o33 P,o34 P,o35 P,o38 P,o6 P,o39 P,o40 P,o41 P,o43 P,o6 P,o39 P,o44 P,o45 P,o47 P,o6 P,o39 P,o48 P,o49 P,o51 P,o6 P,o39 P,o52 P,o53 P,o55 P,o56 P,o7 P,o57 P,o59 P,o61 P,o63 P,o65 P,o68 P,o69 P,o70 P,o7 P,o71 P,o72 P,o73 P,o7 P,o8 P,o74 P,o7 P,o75 P,o76 P,o77 P,o7 P,o78 P,o79 P,o80 P,o81 P,o82 P,o83 P,o85 P,o86 P,o6 P,o116 P,o88 P,o7 P,o89 P,o92 P,o7 P,o8 P,o93 P,o94 P,o95 P,o96 P,o97 P,o98 P,o99 P,o100 P,o7 P,o101 P,o7 P,o102 P,o92 P,o7 P,o8 P,o105 P,o106 P,o107 P,o108 P,o109 P,o110 P,o111 P,o112 P,o7 P,o113 P,o7 P,o114 P,o117 P,o7 P,o8 P,o118 P,o119 P,o120 P,o121 P,o122 P,o123 P,o124 P,o125 P,o126 P,o127 P,o7 P,o128 P,o7 P,o129 P,o7 P,o69 P,o132 P,o7 P,o133 P,o134 P,o135 P,o7 P,o8 P,o136 P,o7 P,o137 P,o138 P,o139 P,o7 P,o8 P,o140 P,o7 P,o141 P,o142 P,o143 P,o7 P,o8 P,o144 P,o7 P,o145 P,o146 P,o147 P,o7 P,o8 P,o148 P,o7 P,o149 P,o150 P,o151 P,o7 P,o8 P,o152 P,o7 P,o153 P,o154 P,o155 P,o7 P,o8 P,o156 P,o7 P,o157 P,o158 P,o159 P,o7 P,o8 P,o160 P,o7 P,o161 P,o162 P,o163 P,o7 P,o8 P,o164 P,o7 P,o165 P,o166 P,o167 P,o7 P,o8 P,o168 P,o7 P,o169 P,o170 P,o171 P,o7 P,o8 P,o172 P,o7 P,o173 P,o174 P,o175 P,o7 P,o8 P,o176 P,o7 P,o177 P,o178 P,o179 P,o7 P,o8 P,o180 P,o7 P,o181 P,o182 P,o183 P,o7 P,o8 P,o184 P,o7 P,o185 P,o186 P,o187 P,o7 P,o8 P,o188 P,o7 P,o189 P,o190 P,o191 P,o192 P,o193 P,o194 P,o195 P,o196 P,o197 P,o198 P,o7 P,o8 P,o7 P,o7 P,o202 P,o203 P,o204 P,o7 P,o8 P,o207 P,o7 P,o208 P,o209 P,o210 P,o7 P,o8 P,o213 P,o7 P,o214 P,o215 P,o216 P,o7 P,o8 P,o219 P,o220 P,o221 P]⟩,lf0⟩
noncomputable def gf:Array GenState:=#[.finished,.finished,.finished]
noncomputable def df:Drawn:=⟨0,0,0,0⟩
noncomputable def env:Env:={ scope:=prg.main.scope,locals:=mainNs,globals:=mainNs,cells:=[],code:=(.ref 30),frame:=some 31 }
noncomputable abbrev cB:Code:=.body (behindTheImports prg) env
noncomputable abbrev fB:List Frame:=[topFrame ⟨0,0,0,0⟩]
noncomputable abbrev ann:Option Value:=(some (.ref 6))
theorem opn(w:World):importEnds treeTable (opening prg) w 799 (start (opening prg)).1 (start (opening prg)).2=some ⟨he w.params,ge,de,276,(start (opening prg)).1.os⟩:=by rw [Fast.te10274390034422433532,(Ya),Fast.te1435165496053646825]; kernel_rfl
theorem pre(w:World)(os:OsState):topGo treeTable prg w 28 ann 12 ⟨h0 w.params,g0,d0,276,os⟩ (topStub prg)=some (⟨ha w.params,ga,da,282,os⟩,⟨denote treeTable cB,cB,⟨0,0,0,0⟩,fB⟩):=by rw [Fast.te15667345088766844465,(Ya),(Ycr)]; kernel_rfl
theorem blk(w:World)(os:OsState):segRun treeTable prg w 28 ann 1 1 ⟨ha w.params,ga,da,282,os⟩ (blockOf (behindTheImports prg) env cB ⟨0,0,0,0⟩ fB)=some (.next,(sb w os).abs,cB,⟨0,0,0,0⟩):=via8 Fast.te14374325043358763698 Ya (by kernel_rfl)
theorem p0(w:World)(os:OsState):segRunT treeTable prg w 28 ann 1 30 (sb w os) (piecesOf [stm 1] env cB ⟨0,0,0,0⟩ fB)=some (.next,s0 w os,cB,⟨2,0,4,12⟩):=via9 Yb Ya (by kernel_rfl)
theorem p1(w:World)(os:OsState):segRunT treeTable prg w 28 ann 1 10 (s0 w os) (piecesOf [stm 2] env cB ⟨2,0,4,12⟩ fB)=some (.next,s1 w os,cB,⟨5,0,5,8⟩):=via9 Yb Ya (by kernel_rfl)
theorem p2(w:World)(os:OsState):segRunT treeTable prg w 28 ann 1 258 (s1 w os) (piecesOf [stm 3] env cB ⟨5,0,5,8⟩ fB)=some (.next,s2 w os,cB,⟨6,0,6,10⟩):=via9 Yb Ya (by kernel_rfl)
theorem p3(w:World)(os:OsState):segRunT treeTable prg w 28 ann 1 88 (s2 w os) (piecesOf [stm 4] env cB ⟨6,0,6,10⟩ fB)=some (.next,s3 w os,cB,⟨7,0,7,10⟩):=via9 Yb Ya (by kernel_rfl)
theorem p4(w:World)(os:OsState):segRunT treeTable prg w 28 ann 1 319 (s3 w os) (piecesOf [stm 5] env cB ⟨7,0,7,10⟩ fB)=some (.next,s4 w os,cB,⟨8,0,8,10⟩):=via9 Yb Ya (by kernel_rfl)
theorem p5(w:World)(os:OsState):segRunT treeTable prg w 28 ann 1 74 (s4 w os) (piecesOf [stm 6] env cB ⟨8,0,8,10⟩ fB)=some (.next,s5 w os,cB,⟨9,0,9,10⟩):=via9 Yb Ya (by kernel_rfl)
theorem Zyx(w:World)(os:OsState):segRunT treeTable prg (w.withFollow "special-get-raises" false) 28 ann 1 152 (s5 (w.withFollow "special-get-raises" false) os) (piecesOf [stm 7] env cB ⟨9,0,9,10⟩ fB)=some (.next,s6 (w.withFollow "special-get-raises" false) os,cB,⟨10,63,10,72⟩):=via9 Yb Ya (by kernel_rfl)
theorem p6_true(w:World)(os:OsState):segRunT treeTable prg (w.withFollow "special-get-raises" true) 28 ann 1 152 (s5 (w.withFollow "special-get-raises" true) os) (piecesOf [stm 7] env cB ⟨9,0,9,10⟩ fB)=some (.next,s6 (w.withFollow "special-get-raises" true) os,cB,⟨10,63,10,72⟩):=via9 Yb Ya (by kernel_rfl)
theorem p6(w:World)(os:OsState):segRunT treeTable prg w 28 ann 1 152 (s5 w os) (piecesOf [stm 7] env cB ⟨9,0,9,10⟩ fB)=some (.next,s6 w os,cB,⟨10,63,10,72⟩):=byRow2 "special-get-raises" (P:=fun w=>segRunT treeTable prg w 28 ann 1 152 (s5 w os) (piecesOf [stm 7] env cB ⟨9,0,9,10⟩ fB)=some (.next,s6 w os,cB,⟨10,63,10,72⟩)) (fun w=>Zyx w os) (fun w=>p6_true w os) w
theorem p7(w:World)(os:OsState):segRunT treeTable prg w 28 ann 1 28 (s6 w os) (piecesOf [stm 8] env cB ⟨10,63,10,72⟩ fB)=some (.next,s7 w os,cB,⟨11,0,11,8⟩):=via9 Yb Ya (by kernel_rfl)
theorem p8(w:World)(os:OsState):segRunT treeTable prg w 28 ann 1 28 (s7 w os) (piecesOf [stm 9] env cB ⟨11,0,11,8⟩ fB)=some (.next,s8 w os,cB,⟨12,0,12,7⟩):=via9 Yb Ya (by kernel_rfl)
theorem p9(w:World)(os:OsState):segRunT treeTable prg w 28 ann 1 28 (s8 w os) (piecesOf [stm 10] env cB ⟨12,0,12,7⟩ fB)=some (.next,s9 w os,cB,⟨13,0,13,15⟩):=via9 Yb Ya (by kernel_rfl)
theorem p10(w:World)(os:OsState):segRunT treeTable prg w 28 ann 1 28 (s9 w os) (piecesOf [stm 11] env cB ⟨13,0,13,15⟩ fB)=some (.next,s10 w os,cB,⟨14,0,14,16⟩):=via9 Yb Ya (by kernel_rfl)
theorem p11(w:World)(os:OsState):segRunT treeTable prg w 28 ann 1 226 (s10 w os) (piecesOf [stm 12] env cB ⟨14,0,14,16⟩ fB)=some (.next,s11 w os,cB,⟨15,0,18,18⟩):=via9 Yb Ya (by kernel_rfl)
noncomputable abbrev cL:Code:=.builtin "dict.fromkeys.loop" ⟨[(.ref 91),(.ref 92),(.int 120 907)],[]⟩
noncomputable abbrev lh(dn:(String→Option Builtin)→Code→Sem Fin)(tb:String→Option Builtin)(k:Result→Sem Fin):Thread:=⟨dn tb cL,cL,⟨19,8,19,42⟩,[.ret k none false [] cB ⟨19,8,19,42⟩ [(.ref 88),(.ref 89),(.int 120 907)],topFrame ⟨0,0,0,0⟩]⟩
noncomputable def kO(r:Option (SharedT × Thread)):Result→Sem Fin:=match r with | some (_,⟨_,_,_,.ret k _ _ _ _ _ _ :: _⟩)=>k | _=>fun _=>.pure (.done .next)
theorem c0_false(k:Result→Sem Fin)(w:World)(os:OsState):segGoT treeTable prg (w.withFollow "special-get-raises" false) 28 ann 1 400 (sc0 (w.withFollow "special-get-raises" false) os) (lh denote treeTable k)=some (sc10 (w.withFollow "special-get-raises" false) os,lh denote treeTable k):=by rw [(Yct),(Ya),(Ycr)]; kernel_rfl
theorem c0_true(k:Result→Sem Fin)(w:World)(os:OsState):segGoT treeTable prg (w.withFollow "special-get-raises" true) 28 ann 1 400 (sc0 (w.withFollow "special-get-raises" true) os) (lh denote treeTable k)=some (sc10 (w.withFollow "special-get-raises" true) os,lh denote treeTable k):=by rw [(Yct),(Ya),(Ycr)]; kernel_rfl
theorem Zxf(k:Result→Sem Fin)(w:World)(os:OsState):segGoT treeTable prg (w.withFollow "special-get-raises" false) 28 ann 1 400 (sc10 (w.withFollow "special-get-raises" false) os) (lh denote treeTable k)=some (sc20 (w.withFollow "special-get-raises" false) os,lh denote treeTable k):=by rw [(Yct),(Ya),(Ycr)]; kernel_rfl
theorem c10_true(k:Result→Sem Fin)(w:World)(os:OsState):segGoT treeTable prg (w.withFollow "special-get-raises" true) 28 ann 1 400 (sc10 (w.withFollow "special-get-raises" true) os) (lh denote treeTable k)=some (sc20 (w.withFollow "special-get-raises" true) os,lh denote treeTable k):=by rw [(Yct),(Ya),(Ycr)]; kernel_rfl
theorem Zxc(k:Result→Sem Fin)(w:World)(os:OsState):segGoT treeTable prg (w.withFollow "special-get-raises" false) 28 ann 1 400 (sc20 (w.withFollow "special-get-raises" false) os) (lh denote treeTable k)=some (sc30 (w.withFollow "special-get-raises" false) os,lh denote treeTable k):=by rw [(Yct),(Ya),(Ycr)]; kernel_rfl
theorem c20_true(k:Result→Sem Fin)(w:World)(os:OsState):segGoT treeTable prg (w.withFollow "special-get-raises" true) 28 ann 1 400 (sc20 (w.withFollow "special-get-raises" true) os) (lh denote treeTable k)=some (sc30 (w.withFollow "special-get-raises" true) os,lh denote treeTable k):=by rw [(Yct),(Ya),(Ycr)]; kernel_rfl
theorem Zxa(k:Result→Sem Fin)(w:World)(os:OsState):segGoT treeTable prg (w.withFollow "special-get-raises" false) 28 ann 1 400 (sc30 (w.withFollow "special-get-raises" false) os) (lh denote treeTable k)=some (sc40 (w.withFollow "special-get-raises" false) os,lh denote treeTable k):=by rw [(Yct),(Ya),(Ycr)]; kernel_rfl
theorem c30_true(k:Result→Sem Fin)(w:World)(os:OsState):segGoT treeTable prg (w.withFollow "special-get-raises" true) 28 ann 1 400 (sc30 (w.withFollow "special-get-raises" true) os) (lh denote treeTable k)=some (sc40 (w.withFollow "special-get-raises" true) os,lh denote treeTable k):=by rw [(Yct),(Ya),(Ycr)]; kernel_rfl
theorem Zwz(k:Result→Sem Fin)(w:World)(os:OsState):segGoT treeTable prg (w.withFollow "special-get-raises" false) 28 ann 1 400 (sc40 (w.withFollow "special-get-raises" false) os) (lh denote treeTable k)=some (sc50 (w.withFollow "special-get-raises" false) os,lh denote treeTable k):=by rw [(Yct),(Ya),(Ycr)]; kernel_rfl
theorem c40_true(k:Result→Sem Fin)(w:World)(os:OsState):segGoT treeTable prg (w.withFollow "special-get-raises" true) 28 ann 1 400 (sc40 (w.withFollow "special-get-raises" true) os) (lh denote treeTable k)=some (sc50 (w.withFollow "special-get-raises" true) os,lh denote treeTable k):=by rw [(Yct),(Ya),(Ycr)]; kernel_rfl
theorem Zwy(k:Result→Sem Fin)(w:World)(os:OsState):segGoT treeTable prg (w.withFollow "special-get-raises" false) 28 ann 1 400 (sc50 (w.withFollow "special-get-raises" false) os) (lh denote treeTable k)=some (sc60 (w.withFollow "special-get-raises" false) os,lh denote treeTable k):=by rw [(Yct),(Ya),(Ycr)]; kernel_rfl
theorem c50_true(k:Result→Sem Fin)(w:World)(os:OsState):segGoT treeTable prg (w.withFollow "special-get-raises" true) 28 ann 1 400 (sc50 (w.withFollow "special-get-raises" true) os) (lh denote treeTable k)=some (sc60 (w.withFollow "special-get-raises" true) os,lh denote treeTable k):=by rw [(Yct),(Ya),(Ycr)]; kernel_rfl
theorem Zwx(k:Result→Sem Fin)(w:World)(os:OsState):segGoT treeTable prg (w.withFollow "special-get-raises" false) 28 ann 1 400 (sc60 (w.withFollow "special-get-raises" false) os) (lh denote treeTable k)=some (sc70 (w.withFollow "special-get-raises" false) os,lh denote treeTable k):=by rw [(Yct),(Ya),(Ycr)]; kernel_rfl
theorem c60_true(k:Result→Sem Fin)(w:World)(os:OsState):segGoT treeTable prg (w.withFollow "special-get-raises" true) 28 ann 1 400 (sc60 (w.withFollow "special-get-raises" true) os) (lh denote treeTable k)=some (sc70 (w.withFollow "special-get-raises" true) os,lh denote treeTable k):=by rw [(Yct),(Ya),(Ycr)]; kernel_rfl
theorem Zww(k:Result→Sem Fin)(w:World)(os:OsState):segGoT treeTable prg (w.withFollow "special-get-raises" false) 28 ann 1 400 (sc70 (w.withFollow "special-get-raises" false) os) (lh denote treeTable k)=some (sc80 (w.withFollow "special-get-raises" false) os,lh denote treeTable k):=by rw [(Yct),(Ya),(Ycr)]; kernel_rfl
theorem c70_true(k:Result→Sem Fin)(w:World)(os:OsState):segGoT treeTable prg (w.withFollow "special-get-raises" true) 28 ann 1 400 (sc70 (w.withFollow "special-get-raises" true) os) (lh denote treeTable k)=some (sc80 (w.withFollow "special-get-raises" true) os,lh denote treeTable k):=by rw [(Yct),(Ya),(Ycr)]; kernel_rfl
theorem Zwv(k:Result→Sem Fin)(w:World)(os:OsState):segGoT treeTable prg (w.withFollow "special-get-raises" false) 28 ann 1 400 (sc80 (w.withFollow "special-get-raises" false) os) (lh denote treeTable k)=some (sc90 (w.withFollow "special-get-raises" false) os,lh denote treeTable k):=by rw [(Yct),(Ya),(Ycr)]; kernel_rfl
theorem c80_true(k:Result→Sem Fin)(w:World)(os:OsState):segGoT treeTable prg (w.withFollow "special-get-raises" true) 28 ann 1 400 (sc80 (w.withFollow "special-get-raises" true) os) (lh denote treeTable k)=some (sc90 (w.withFollow "special-get-raises" true) os,lh denote treeTable k):=by rw [(Yct),(Ya),(Ycr)]; kernel_rfl
theorem Zwu(k:Result→Sem Fin)(w:World)(os:OsState):segGoT treeTable prg (w.withFollow "special-get-raises" false) 28 ann 1 400 (sc90 (w.withFollow "special-get-raises" false) os) (lh denote treeTable k)=some (Zyr (w.withFollow "special-get-raises" false) os,lh denote treeTable k):=by rw [(Yct),(Ya),(Ycr)]; kernel_rfl
theorem c90_true(k:Result→Sem Fin)(w:World)(os:OsState):segGoT treeTable prg (w.withFollow "special-get-raises" true) 28 ann 1 400 (sc90 (w.withFollow "special-get-raises" true) os) (lh denote treeTable k)=some (Zyr (w.withFollow "special-get-raises" true) os,lh denote treeTable k):=by rw [(Yct),(Ya),(Ycr)]; kernel_rfl
theorem Zru(k:Result→Sem Fin)(w:World)(os:OsState):segGoT treeTable prg (w.withFollow "special-get-raises" false) 28 ann 1 400 (Zyr (w.withFollow "special-get-raises" false) os) (lh denote treeTable k)=some (Zyq (w.withFollow "special-get-raises" false) os,lh denote treeTable k):=by rw [(Yct),(Ya),(Ycr)]; kernel_rfl
theorem Zxg(k:Result→Sem Fin)(w:World)(os:OsState):segGoT treeTable prg (w.withFollow "special-get-raises" true) 28 ann 1 400 (Zyr (w.withFollow "special-get-raises" true) os) (lh denote treeTable k)=some (Zyq (w.withFollow "special-get-raises" true) os,lh denote treeTable k):=by rw [(Yct),(Ya),(Ycr)]; kernel_rfl
theorem Zrt(k:Result→Sem Fin)(w:World)(os:OsState):segGoT treeTable prg (w.withFollow "special-get-raises" false) 28 ann 1 400 (Zyq (w.withFollow "special-get-raises" false) os) (lh denote treeTable k)=some (Zyp (w.withFollow "special-get-raises" false) os,lh denote treeTable k):=by rw [(Yct),(Ya),(Ycr)]; kernel_rfl
theorem Zxe(k:Result→Sem Fin)(w:World)(os:OsState):segGoT treeTable prg (w.withFollow "special-get-raises" true) 28 ann 1 400 (Zyq (w.withFollow "special-get-raises" true) os) (lh denote treeTable k)=some (Zyp (w.withFollow "special-get-raises" true) os,lh denote treeTable k):=by rw [(Yct),(Ya),(Ycr)]; kernel_rfl
theorem Zrs(k:Result→Sem Fin)(w:World)(os:OsState):segGoT treeTable prg (w.withFollow "special-get-raises" false) 28 ann 1 320 (Zyp (w.withFollow "special-get-raises" false) os) (lh denote treeTable k)=some (Zyo (w.withFollow "special-get-raises" false) os,lh denote treeTable k):=by rw [(Yct),(Ya),(Ycr)]; kernel_rfl
theorem Zxd(k:Result→Sem Fin)(w:World)(os:OsState):segGoT treeTable prg (w.withFollow "special-get-raises" true) 28 ann 1 320 (Zyp (w.withFollow "special-get-raises" true) os) (lh denote treeTable k)=some (Zyo (w.withFollow "special-get-raises" true) os,lh denote treeTable k):=by rw [(Yct),(Ya),(Ycr)]; kernel_rfl
theorem Zyl(w:World)(os:OsState):segGoT treeTable prg (w.withFollow "special-get-raises" false) 28 ann 1 113 (s11 (w.withFollow "special-get-raises" false) os) (piecesOf [stm 13] env cB ⟨15,0,18,18⟩ fB)=some (sc0 (w.withFollow "special-get-raises" false) os,lh denote treeTable (kO (segGoT treeTable prg (w.withFollow "special-get-raises" false) 28 ann 1 113 (s11 (w.withFollow "special-get-raises" false) os) (piecesOf [stm 13] env cB ⟨15,0,18,18⟩ fB)))):=by rw [(Yct),(Ya),(Ycr)]; kernel_rfl
theorem Zzy(w:World)(os:OsState):segRunT treeTable prg (w.withFollow "special-get-raises" false) 28 ann 1 23 (Zyo (w.withFollow "special-get-raises" false) os) (lh denote treeTable (kO (segGoT treeTable prg (w.withFollow "special-get-raises" false) 28 ann 1 113 (s11 (w.withFollow "special-get-raises" false) os) (piecesOf [stm 13] env cB ⟨15,0,18,18⟩ fB))))=some (.next,s12 (w.withFollow "special-get-raises" false) os,cB,⟨19,0,19,5⟩):=by rw [(Yb),(Yct),(Ya),(Ycr)]; kernel_rfl
theorem Zup(w:World)(os:OsState):segRun treeTable prg (w.withFollow "special-get-raises" false) 28 ann 1 (113 + (400 + (400 + (400 + (400 + (400 + (400 + (400 + (400 + (400 + (400 + (400 + (400 + (320 + 23)))))))))))))) (s11 (w.withFollow "special-get-raises" false) os).abs (piecesOf [stm 13] env cB ⟨15,0,18,18⟩ fB)=some (.next,(s12 (w.withFollow "special-get-raises" false) os).abs,cB,⟨19,0,19,5⟩):=seg_go (segGo_of (Zyl w os)) (seg_go (segGo_of (c0_false _ w os)) (seg_go (segGo_of (Zxf _ w os)) (seg_go (segGo_of (Zxc _ w os)) (seg_go (segGo_of (Zxa _ w os)) (seg_go (segGo_of (Zwz _ w os)) (seg_go (segGo_of (Zwy _ w os)) (seg_go (segGo_of (Zwx _ w os)) (seg_go (segGo_of (Zww _ w os)) (seg_go (segGo_of (Zwv _ w os)) (seg_go (segGo_of (Zwu _ w os)) (seg_go (segGo_of (Zru _ w os)) (seg_go (segGo_of (Zrt _ w os)) (seg_go (segGo_of (Zrs _ w os)) (segRun_of (Zzy w os)))))))))))))))
theorem st_true(w:World)(os:OsState):segGoT treeTable prg (w.withFollow "special-get-raises" true) 28 ann 1 113 (s11 (w.withFollow "special-get-raises" true) os) (piecesOf [stm 13] env cB ⟨15,0,18,18⟩ fB)=some (sc0 (w.withFollow "special-get-raises" true) os,lh denote treeTable (kO (segGoT treeTable prg (w.withFollow "special-get-raises" true) 28 ann 1 113 (s11 (w.withFollow "special-get-raises" true) os) (piecesOf [stm 13] env cB ⟨15,0,18,18⟩ fB)))):=by rw [(Yct),(Ya),(Ycr)]; kernel_rfl
theorem en_true(w:World)(os:OsState):segRunT treeTable prg (w.withFollow "special-get-raises" true) 28 ann 1 23 (Zyo (w.withFollow "special-get-raises" true) os) (lh denote treeTable (kO (segGoT treeTable prg (w.withFollow "special-get-raises" true) 28 ann 1 113 (s11 (w.withFollow "special-get-raises" true) os) (piecesOf [stm 13] env cB ⟨15,0,18,18⟩ fB))))=some (.next,s12 (w.withFollow "special-get-raises" true) os,cB,⟨19,0,19,5⟩):=by rw [(Yb),(Yct),(Ya),(Ycr)]; kernel_rfl
theorem Zzb(w:World)(os:OsState):segRun treeTable prg (w.withFollow "special-get-raises" true) 28 ann 1 (113 + (400 + (400 + (400 + (400 + (400 + (400 + (400 + (400 + (400 + (400 + (400 + (400 + (320 + 23)))))))))))))) (s11 (w.withFollow "special-get-raises" true) os).abs (piecesOf [stm 13] env cB ⟨15,0,18,18⟩ fB)=some (.next,(s12 (w.withFollow "special-get-raises" true) os).abs,cB,⟨19,0,19,5⟩):=seg_go (segGo_of (st_true w os)) (seg_go (segGo_of (c0_true _ w os)) (seg_go (segGo_of (c10_true _ w os)) (seg_go (segGo_of (c20_true _ w os)) (seg_go (segGo_of (c30_true _ w os)) (seg_go (segGo_of (c40_true _ w os)) (seg_go (segGo_of (c50_true _ w os)) (seg_go (segGo_of (c60_true _ w os)) (seg_go (segGo_of (c70_true _ w os)) (seg_go (segGo_of (c80_true _ w os)) (seg_go (segGo_of (c90_true _ w os)) (seg_go (segGo_of (Zxg _ w os)) (seg_go (segGo_of (Zxe _ w os)) (seg_go (segGo_of (Zxd _ w os)) (segRun_of (en_true w os)))))))))))))))
theorem p12(w:World)(os:OsState):segRun treeTable prg w 28 ann 1 (113 + (400 + (400 + (400 + (400 + (400 + (400 + (400 + (400 + (400 + (400 + (400 + (400 + (320 + 23)))))))))))))) (s11 w os).abs (piecesOf [stm 13] env cB ⟨15,0,18,18⟩ fB)=some (.next,(s12 w os).abs,cB,⟨19,0,19,5⟩):=byRow2 "special-get-raises" (P:=fun w=>segRun treeTable prg w 28 ann 1 (113 + (400 + (400 + (400 + (400 + (400 + (400 + (400 + (400 + (400 + (400 + (400 + (400 + (320 + 23)))))))))))))) (s11 w os).abs (piecesOf [stm 13] env cB ⟨15,0,18,18⟩ fB)=some (.next,(s12 w os).abs,cB,⟨19,0,19,5⟩)) (fun w=>Zup w os) (fun w=>Zzb w os) w
theorem Zgm(w:World)(os:OsState):segRunT treeTable prg ((w.withFollow "special-get-raises" false).withFollow "comprehension-iter-twice" false) 28 ann 1 367 (s12 ((w.withFollow "special-get-raises" false).withFollow "comprehension-iter-twice" false) os) (piecesOf [stm 14] env cB ⟨19,0,19,5⟩ fB)=some (.next,s13 ((w.withFollow "special-get-raises" false).withFollow "comprehension-iter-twice" false) os,cB,⟨20,0,20,49⟩):=via9 Yb Ya (by kernel_rfl)
theorem Zhq(w:World)(os:OsState):segRunT treeTable prg ((w.withFollow "special-get-raises" true).withFollow "comprehension-iter-twice" false) 28 ann 1 367 (s12 ((w.withFollow "special-get-raises" true).withFollow "comprehension-iter-twice" false) os) (piecesOf [stm 14] env cB ⟨19,0,19,5⟩ fB)=some (.next,s13 ((w.withFollow "special-get-raises" true).withFollow "comprehension-iter-twice" false) os,cB,⟨20,0,20,49⟩):=via9 Yb Ya (by kernel_rfl)
theorem Zuo(w:World)(os:OsState):segRunT treeTable prg (w.withFollow "comprehension-iter-twice" false) 28 ann 1 367 (s12 (w.withFollow "comprehension-iter-twice" false) os) (piecesOf [stm 14] env cB ⟨19,0,19,5⟩ fB)=some (.next,s13 (w.withFollow "comprehension-iter-twice" false) os,cB,⟨20,0,20,49⟩):=byRow2 "special-get-raises" (P:=fun w=>segRunT treeTable prg (w.withFollow "comprehension-iter-twice" false) 28 ann 1 367 (s12 (w.withFollow "comprehension-iter-twice" false) os) (piecesOf [stm 14] env cB ⟨19,0,19,5⟩ fB)=some (.next,s13 (w.withFollow "comprehension-iter-twice" false) os,cB,⟨20,0,20,49⟩)) (fun w=>Zgm w os) (fun w=>Zhq w os) w
theorem Zhp(w:World)(os:OsState):segRunT treeTable prg ((w.withFollow "special-get-raises" false).withFollow "comprehension-iter-twice" true) 28 ann 1 367 (s12 ((w.withFollow "special-get-raises" false).withFollow "comprehension-iter-twice" true) os) (piecesOf [stm 14] env cB ⟨19,0,19,5⟩ fB)=some (.next,s13 ((w.withFollow "special-get-raises" false).withFollow "comprehension-iter-twice" true) os,cB,⟨20,0,20,49⟩):=via9 Yb Ya (by kernel_rfl)
theorem Zjq(w:World)(os:OsState):segRunT treeTable prg ((w.withFollow "special-get-raises" true).withFollow "comprehension-iter-twice" true) 28 ann 1 367 (s12 ((w.withFollow "special-get-raises" true).withFollow "comprehension-iter-twice" true) os) (piecesOf [stm 14] env cB ⟨19,0,19,5⟩ fB)=some (.next,s13 ((w.withFollow "special-get-raises" true).withFollow "comprehension-iter-twice" true) os,cB,⟨20,0,20,49⟩):=via9 Yb Ya (by kernel_rfl)
theorem Zza(w:World)(os:OsState):segRunT treeTable prg (w.withFollow "comprehension-iter-twice" true) 28 ann 1 367 (s12 (w.withFollow "comprehension-iter-twice" true) os) (piecesOf [stm 14] env cB ⟨19,0,19,5⟩ fB)=some (.next,s13 (w.withFollow "comprehension-iter-twice" true) os,cB,⟨20,0,20,49⟩):=byRow2 "special-get-raises" (P:=fun w=>segRunT treeTable prg (w.withFollow "comprehension-iter-twice" true) 28 ann 1 367 (s12 (w.withFollow "comprehension-iter-twice" true) os) (piecesOf [stm 14] env cB ⟨19,0,19,5⟩ fB)=some (.next,s13 (w.withFollow "comprehension-iter-twice" true) os,cB,⟨20,0,20,49⟩)) (fun w=>Zhp w os) (fun w=>Zjq w os) w
theorem p13(w:World)(os:OsState):segRunT treeTable prg w 28 ann 1 367 (s12 w os) (piecesOf [stm 14] env cB ⟨19,0,19,5⟩ fB)=some (.next,s13 w os,cB,⟨20,0,20,49⟩):=byRow2 "comprehension-iter-twice" (P:=fun w=>segRunT treeTable prg w 28 ann 1 367 (s12 w os) (piecesOf [stm 14] env cB ⟨19,0,19,5⟩ fB)=some (.next,s13 w os,cB,⟨20,0,20,49⟩)) (fun w=>Zuo w os) (fun w=>Zza w os) w
theorem Zgl(w:World)(os:OsState):segRunT treeTable prg ((w.withFollow "special-get-raises" false).withFollow "comprehension-iter-twice" false) 28 ann 1 367 (s13 ((w.withFollow "special-get-raises" false).withFollow "comprehension-iter-twice" false) os) (piecesOf [stm 15] env cB ⟨20,0,20,49⟩ fB)=some (.next,s14 ((w.withFollow "special-get-raises" false).withFollow "comprehension-iter-twice" false) os,cB,⟨21,0,21,49⟩):=via9 Yb Ya (by kernel_rfl)
theorem Zho(w:World)(os:OsState):segRunT treeTable prg ((w.withFollow "special-get-raises" true).withFollow "comprehension-iter-twice" false) 28 ann 1 367 (s13 ((w.withFollow "special-get-raises" true).withFollow "comprehension-iter-twice" false) os) (piecesOf [stm 15] env cB ⟨20,0,20,49⟩ fB)=some (.next,s14 ((w.withFollow "special-get-raises" true).withFollow "comprehension-iter-twice" false) os,cB,⟨21,0,21,49⟩):=via9 Yb Ya (by kernel_rfl)
theorem Zun(w:World)(os:OsState):segRunT treeTable prg (w.withFollow "comprehension-iter-twice" false) 28 ann 1 367 (s13 (w.withFollow "comprehension-iter-twice" false) os) (piecesOf [stm 15] env cB ⟨20,0,20,49⟩ fB)=some (.next,s14 (w.withFollow "comprehension-iter-twice" false) os,cB,⟨21,0,21,49⟩):=byRow2 "special-get-raises" (P:=fun w=>segRunT treeTable prg (w.withFollow "comprehension-iter-twice" false) 28 ann 1 367 (s13 (w.withFollow "comprehension-iter-twice" false) os) (piecesOf [stm 15] env cB ⟨20,0,20,49⟩ fB)=some (.next,s14 (w.withFollow "comprehension-iter-twice" false) os,cB,⟨21,0,21,49⟩)) (fun w=>Zgl w os) (fun w=>Zho w os) w
theorem Zhn(w:World)(os:OsState):segRunT treeTable prg ((w.withFollow "special-get-raises" false).withFollow "comprehension-iter-twice" true) 28 ann 1 367 (s13 ((w.withFollow "special-get-raises" false).withFollow "comprehension-iter-twice" true) os) (piecesOf [stm 15] env cB ⟨20,0,20,49⟩ fB)=some (.next,s14 ((w.withFollow "special-get-raises" false).withFollow "comprehension-iter-twice" true) os,cB,⟨21,0,21,49⟩):=via9 Yb Ya (by kernel_rfl)
theorem Zjp(w:World)(os:OsState):segRunT treeTable prg ((w.withFollow "special-get-raises" true).withFollow "comprehension-iter-twice" true) 28 ann 1 367 (s13 ((w.withFollow "special-get-raises" true).withFollow "comprehension-iter-twice" true) os) (piecesOf [stm 15] env cB ⟨20,0,20,49⟩ fB)=some (.next,s14 ((w.withFollow "special-get-raises" true).withFollow "comprehension-iter-twice" true) os,cB,⟨21,0,21,49⟩):=via9 Yb Ya (by kernel_rfl)
theorem Zyz(w:World)(os:OsState):segRunT treeTable prg (w.withFollow "comprehension-iter-twice" true) 28 ann 1 367 (s13 (w.withFollow "comprehension-iter-twice" true) os) (piecesOf [stm 15] env cB ⟨20,0,20,49⟩ fB)=some (.next,s14 (w.withFollow "comprehension-iter-twice" true) os,cB,⟨21,0,21,49⟩):=byRow2 "special-get-raises" (P:=fun w=>segRunT treeTable prg (w.withFollow "comprehension-iter-twice" true) 28 ann 1 367 (s13 (w.withFollow "comprehension-iter-twice" true) os) (piecesOf [stm 15] env cB ⟨20,0,20,49⟩ fB)=some (.next,s14 (w.withFollow "comprehension-iter-twice" true) os,cB,⟨21,0,21,49⟩)) (fun w=>Zhn w os) (fun w=>Zjp w os) w
theorem p14(w:World)(os:OsState):segRunT treeTable prg w 28 ann 1 367 (s13 w os) (piecesOf [stm 15] env cB ⟨20,0,20,49⟩ fB)=some (.next,s14 w os,cB,⟨21,0,21,49⟩):=byRow2 "comprehension-iter-twice" (P:=fun w=>segRunT treeTable prg w 28 ann 1 367 (s13 w os) (piecesOf [stm 15] env cB ⟨20,0,20,49⟩ fB)=some (.next,s14 w os,cB,⟨21,0,21,49⟩)) (fun w=>Zun w os) (fun w=>Zyz w os) w
theorem Zgk(w:World)(os:OsState):segRunT treeTable prg ((w.withFollow "special-get-raises" false).withFollow "comprehension-iter-twice" false) 28 ann 1 522 (s14 ((w.withFollow "special-get-raises" false).withFollow "comprehension-iter-twice" false) os) (piecesOf [stm 16] env cB ⟨21,0,21,49⟩ fB)=some (.next,s15 ((w.withFollow "special-get-raises" false).withFollow "comprehension-iter-twice" false) os,cB,⟨22,0,22,52⟩):=via9 Yb Ya (by kernel_rfl)
theorem Zhm(w:World)(os:OsState):segRunT treeTable prg ((w.withFollow "special-get-raises" true).withFollow "comprehension-iter-twice" false) 28 ann 1 522 (s14 ((w.withFollow "special-get-raises" true).withFollow "comprehension-iter-twice" false) os) (piecesOf [stm 16] env cB ⟨21,0,21,49⟩ fB)=some (.next,s15 ((w.withFollow "special-get-raises" true).withFollow "comprehension-iter-twice" false) os,cB,⟨22,0,22,52⟩):=via9 Yb Ya (by kernel_rfl)
theorem Zum(w:World)(os:OsState):segRunT treeTable prg (w.withFollow "comprehension-iter-twice" false) 28 ann 1 522 (s14 (w.withFollow "comprehension-iter-twice" false) os) (piecesOf [stm 16] env cB ⟨21,0,21,49⟩ fB)=some (.next,s15 (w.withFollow "comprehension-iter-twice" false) os,cB,⟨22,0,22,52⟩):=byRow2 "special-get-raises" (P:=fun w=>segRunT treeTable prg (w.withFollow "comprehension-iter-twice" false) 28 ann 1 522 (s14 (w.withFollow "comprehension-iter-twice" false) os) (piecesOf [stm 16] env cB ⟨21,0,21,49⟩ fB)=some (.next,s15 (w.withFollow "comprehension-iter-twice" false) os,cB,⟨22,0,22,52⟩)) (fun w=>Zgk w os) (fun w=>Zhm w os) w
theorem Zhl(w:World)(os:OsState):segRunT treeTable prg ((w.withFollow "special-get-raises" false).withFollow "comprehension-iter-twice" true) 28 ann 1 522 (s14 ((w.withFollow "special-get-raises" false).withFollow "comprehension-iter-twice" true) os) (piecesOf [stm 16] env cB ⟨21,0,21,49⟩ fB)=some (.next,s15 ((w.withFollow "special-get-raises" false).withFollow "comprehension-iter-twice" true) os,cB,⟨22,0,22,52⟩):=via9 Yb Ya (by kernel_rfl)
theorem Zjo(w:World)(os:OsState):segRunT treeTable prg ((w.withFollow "special-get-raises" true).withFollow "comprehension-iter-twice" true) 28 ann 1 522 (s14 ((w.withFollow "special-get-raises" true).withFollow "comprehension-iter-twice" true) os) (piecesOf [stm 16] env cB ⟨21,0,21,49⟩ fB)=some (.next,s15 ((w.withFollow "special-get-raises" true).withFollow "comprehension-iter-twice" true) os,cB,⟨22,0,22,52⟩):=via9 Yb Ya (by kernel_rfl)
theorem Zyy(w:World)(os:OsState):segRunT treeTable prg (w.withFollow "comprehension-iter-twice" true) 28 ann 1 522 (s14 (w.withFollow "comprehension-iter-twice" true) os) (piecesOf [stm 16] env cB ⟨21,0,21,49⟩ fB)=some (.next,s15 (w.withFollow "comprehension-iter-twice" true) os,cB,⟨22,0,22,52⟩):=byRow2 "special-get-raises" (P:=fun w=>segRunT treeTable prg (w.withFollow "comprehension-iter-twice" true) 28 ann 1 522 (s14 (w.withFollow "comprehension-iter-twice" true) os) (piecesOf [stm 16] env cB ⟨21,0,21,49⟩ fB)=some (.next,s15 (w.withFollow "comprehension-iter-twice" true) os,cB,⟨22,0,22,52⟩)) (fun w=>Zhl w os) (fun w=>Zjo w os) w
theorem p15(w:World)(os:OsState):segRunT treeTable prg w 28 ann 1 522 (s14 w os) (piecesOf [stm 16] env cB ⟨21,0,21,49⟩ fB)=some (.next,s15 w os,cB,⟨22,0,22,52⟩):=byRow2 "comprehension-iter-twice" (P:=fun w=>segRunT treeTable prg w 28 ann 1 522 (s14 w os) (piecesOf [stm 16] env cB ⟨21,0,21,49⟩ fB)=some (.next,s15 w os,cB,⟨22,0,22,52⟩)) (fun w=>Zum w os) (fun w=>Zyy w os) w
theorem p16(w:World)(os:OsState):segRunT treeTable prg w 28 ann 1 672 (s15 w os) (piecesOf [stm 17] env cB ⟨22,0,22,52⟩ fB)=some (.next,s16 w os,cB,⟨23,0,247,35⟩):=via9 Yb Ya (by kernel_rfl)
theorem p17(w:World)(os:OsState):segRunT treeTable prg w 28 ann 1 10 (s16 w os) (piecesOf [stm 18] env cB ⟨23,0,247,35⟩ fB)=some (.next,s17 w os,cB,⟨248,0,248,8⟩):=via9 Yb Ya (by kernel_rfl)
theorem p18(w:World)(os:OsState):segRunT treeTable prg w 28 ann 1 29 (s17 w os) (piecesOf [stm 19] env cB ⟨248,0,248,8⟩ fB)=some (.next,s18 w os,cB,⟨249,0,250,818⟩):=via9 Yb Ya (by kernel_rfl)
theorem p19(w:World)(os:OsState):segRunT treeTable prg w 28 ann 1 30 (s18 w os) (piecesOf [stm 20] env cB ⟨249,0,250,818⟩ fB)=some (.next,s19 w os,cB,⟨251,0,252,113⟩):=via9 Yb Ya (by kernel_rfl)
theorem p20(w:World)(os:OsState):segRunT treeTable prg w 28 ann 1 32 (s19 w os) (piecesOf [stm 21] env cB ⟨251,0,252,113⟩ fB)=some (.next,s20 w os,cB,⟨253,0,258,54⟩):=via9 Yb Ya (by kernel_rfl)
theorem p21(w:World)(os:OsState):segRunT treeTable prg w 28 ann 1 27 (s20 w os) (piecesOf [stm 22] env cB ⟨253,0,258,54⟩ fB)=some (.next,s21 w os,cB,⟨259,0,310,15⟩):=via9 Yb Ya (by kernel_rfl)
theorem fin(w:World)(os:OsState):topRun treeTable prg w 28 ann 2 (s21 w os).abs ⟨doneF .next,cB,⟨259,0,310,15⟩,fB⟩=some ⟨hf w.params,gf,df,1458,os⟩:=by rw [Fast.te14082659384304107361,(Ya)]; kernel_rfl
theorem bd:behindTheImports prg=([stm 1]++([stm 2]++([stm 3]++([stm 4]++([stm 5]++([stm 6]++([stm 7]++([stm 8]++([stm 9]++([stm 10]++([stm 11]++([stm 12]++([stm 13]++([stm 14]++([stm 15]++([stm 16]++([stm 17]++([stm 18]++([stm 19]++([stm 20]++([stm 21]++([stm 22]++[])))))))))))))))))))))):=by kernel_rfl
theorem tail(w:World)(os:OsState):topRun treeTable prg w 28 ann (30 + (10 + (258 + (88 + (319 + (74 + (152 + (28 + (28 + (28 + (28 + (226 + ((113 + (400 + (400 + (400 + (400 + (400 + (400 + (400 + (400 + (400 + (400 + (400 + (400 + (320 + 23)))))))))))))) + (367 + (367 + (522 + (672 + (10 + (29 + (30 + (32 + (27 + 2)))))))))))))))))))))) (sb w os).abs (restOf ([stm 1]++([stm 2]++([stm 3]++([stm 4]++([stm 5]++([stm 6]++([stm 7]++([stm 8]++([stm 9]++([stm 10]++([stm 11]++([stm 12]++([stm 13]++([stm 14]++([stm 15]++([stm 16]++([stm 17]++([stm 18]++([stm 19]++([stm 20]++([stm 21]++([stm 22]++[])))))))))))))))))))))) env cB ⟨0,0,0,0⟩ fB)=some ⟨hf w.params,gf,df,1458,os⟩:=(piece_app (segRun_of (p0 w os)) (piece_app (segRun_of (p1 w os)) (piece_app (segRun_of (p2 w os)) (piece_app (segRun_of (p3 w os)) (piece_app (segRun_of (p4 w os)) (piece_app (segRun_of (p5 w os)) (piece_app (segRun_of (p6 w os)) (piece_app (segRun_of (p7 w os)) (piece_app (segRun_of (p8 w os)) (piece_app (segRun_of (p9 w os)) (piece_app (segRun_of (p10 w os)) (piece_app (segRun_of (p11 w os)) (piece_app (p12 w os) (piece_app (segRun_of (p13 w os)) (piece_app (segRun_of (p14 w os)) (piece_app (segRun_of (p15 w os)) (piece_app (segRun_of (p16 w os)) (piece_app (segRun_of (p17 w os)) (piece_app (segRun_of (p18 w os)) (piece_app (segRun_of (p19 w os)) (piece_app (segRun_of (p20 w os)) (piece_app (segRun_of (p21 w os)) (piece_nil (fin w os))))))))))))))))))))))))
theorem run(w:World)(os:OsState):topRun treeTable prg w 28 ann (12 + (1 + (30 + (10 + (258 + (88 + (319 + (74 + (152 + (28 + (28 + (28 + (28 + (226 + ((113 + (400 + (400 + (400 + (400 + (400 + (400 + (400 + (400 + (400 + (400 + (400 + (400 + (320 + 23)))))))))))))) + (367 + (367 + (522 + (672 + (10 + (29 + (30 + (32 + (27 + 2)))))))))))))))))))))))) ⟨h0 w.params,g0,d0,276,os⟩ (topStub prg)=some ⟨hf w.params,gf,df,1458,os⟩:=go_top (pre w os) (piece_block (blk w os) (Eq.trans (congrArg (fun b=>topRun treeTable prg w 28 ann (30 + (10 + (258 + (88 + (319 + (74 + (152 + (28 + (28 + (28 + (28 + (226 + ((113 + (400 + (400 + (400 + (400 + (400 + (400 + (400 + (400 + (400 + (400 + (400 + (400 + (320 + 23)))))))))))))) + (367 + (367 + (522 + (672 + (10 + (29 + (30 + (32 + (27 + 2)))))))))))))))))))))) (sb w os).abs (restOf b env cB ⟨0,0,0,0⟩ fB)) bd) (tail w os)))
theorem fnc(w:World):(fun os=>(fenceModules? prg ⟨he w.params,ge,de,276,os⟩).map (fun s=>(s.heap,s.gens,s.drawn,s.toks)))=fun _=>some (h0 w.params,g0,d0,276):=by rw [Fast.te14289696077712309145]; kernel_rfl
theorem siz(w:World):((h0 w.params).isNs mainGlobals && g0.size == 0,(h0 w.params).objs.size,(h0 w.params).nsMap mainGlobals "__annotations__")=(true,28,ann):=by kernel_rfl
noncomputable def vw:Program:={ prg with main:={ prg.main with body:=[stm 0,stm 22] } }
noncomputable def Zfu:List Str:=["_wall","_twin_re_1","_twin_re_2","_twin_re_3","_twin_re_6","C_NONE","C_BACKSLASH","C_STRING_FIRST_LINE","C_STRING_NEXT_LINES","C_BRACKET","_synchre","_junkre","_match_stringre","_chew_ordinaryre","ParseMap","trans","Parser","_law_known","_law_told","_law_fresh"]
noncomputable def kf(P:Params):Frag:=[(3,o217 P),(14,o14 P),(22,o21 P),(26,o25 P),(37,o34 P),(38,o35 P),(42,o40 P),(43,o41 P),(47,o44 P),(48,o45 P),(52,o48 P),(53,o49 P),(57,o52 P),(58,o53 P),(63,o59 P),(64,o61 P),(65,o63 P),(66,o65 P),(68,o69 P),(69,o70 P),(72,o72 P),(79,o76 P),(80,o77 P),(82,o78 P),(83,o79 P),(87,o83 P),(88,o85 P),(91,o116 P),(98,o93 P),(113,o105 P),(128,o118 P),(143,o69 P),(144,o132 P),(147,o134 P),(154,o138 P),(155,o139 P),(161,o142 P),(162,o143 P),(168,o146 P),(169,o147 P),(175,o150 P),(176,o151 P),(182,o154 P),(183,o155 P),(189,o158 P),(190,o159 P),(196,o162 P),(197,o163 P),(203,o166 P),(204,o167 P),(210,o170 P),(211,o171 P),(217,o174 P),(218,o175 P),(224,o178 P),(225,o179 P),(231,o182 P),(232,o183 P),(238,o186 P),(239,o187 P),(245,o190 P),(246,o191 P),(248,o193 P),(249,o194 P),(253,o198 P),(259,o203 P),(260,o204 P),(266,o209 P),(267,o210 P),(273,o215 P),(274,o216 P),(278,o220 P),(279,o221 P)]
noncomputable def kas:List Addr:=[3,14,22,26,37,38,42,43,47,48,52,53,57,58,63,64,65,66,68,69,72,79,80,82,83,87,88,91,98,113,128,143,144,147,154,155,161,162,168,169,175,176,182,183,189,190,196,197,203,204,210,211,217,218,224,225,231,232,238,239,245,246,248,249,253,259,260,266,267,273,274,278,279]
theorem Zfo(P:Params):kas=(kf P).map (·.1):=by kernel_rfl
theorem lk1(w:World):staticsOk (importedModules prg.main.body) (h0 w.params) (hf w.params)=true:=by rw [Fast.te5923862056798008813]; kernel_rfl
theorem lk2(w:World):namesBound prg (hf w.params)=true:=by kernel_rfl
theorem lk3(w:World)(os:OsState):gensDone ⟨hf w.params,gf,df,1458,os⟩=true:=by kernel_rfl
theorem lk4(w:World):laidKept (h0 w.params) (hf w.params)=true:=by kernel_rfl
theorem lk5(w:World)(os:OsState):openSeen vw Zfu (importedModules prg.main.body) (fun _=>true) false ⟨hf w.params,gf,df,1458,os⟩=openGood vw Zfu:=by rw [Fast.te5923862056798008813,Fast.te4187177175401517315]; kernel_rfl
theorem lk6(w:World)(os:OsState):(kHook kf kas Zfo).obs ⟨hf w.params,gf,df,1458,os⟩=(kHook kf kas Zfo).val w:=by kernel_rfl
theorem left:LeftO prg vw Zfu (fun _=>true) (kHook kf kas Zfo).obs (kHook kf kas Zfo).val 18000 false :=
 LeftO.of_pieces (open_cut opn rfl fnc) siz run rfl fun w=>funext fun os=>looks_pair (by rw [lk1 w,lk2 w,lk3 w os,lk4 w]; rfl) (looks_pair (lk5 w os) (lk6 w os))
noncomputable abbrev row:=PySem.Challenge.rw_dm0165_04
theorem said:row.wellSaid=true:=by rw [Fast.te9446332074065402090]; kernel_rfl
noncomputable def fPos(s:Stmt):Pos:=match s with | .FunctionDef _ _ _ _ _ _ _ _ _ p=>p | _=>⟨0,0,0,0⟩
noncomputable abbrev lawS:Stmt:=stm 22
noncomputable abbrev lawD:DefRec:=⟨"law",fPar lawS,Zad lawS,fSc lawS,fPos lawS⟩
theorem ok1:(chainsOk vw && opensWell prg && (frees row.row.toRowW && row.row.toRowW.within.isEmpty))=true:=by kernel_rfl
theorem bare1:prg.bare:=⟨rfl,rfl,rfl,rfl,rfl,by decide +kernel⟩
theorem def1:defOf vw row.row.name=some (lawD,[]):=by kernel_rfl
theorem def2:row.row.prog.theDef row.row.name=some (lawD.params,lawD.body,lawD.scope):=by kernel_rfl
theorem def3:kwWritten? lawD.params.kwonlyargs lawD.params.kw_defaults=some []:=by kernel_rfl
theorem prm:row.row.toRowW.promised:=⟨[.list []],by decide +kernel,by decide +kernel⟩
theorem hd(walk:WalkN vw Zfu (fun _ _=>True) (kHook kf kas Zfo).says row.row.toRowW lawD [] fun f vs=>PySem.call f vs):row.Holds :=
 holds_law said fun k1=>holds_openN (XP:=fun _ _=>True) left (kHook kf kas Zfo).of (kHook kf kas Zfo).keeps (fun _ _=>trivial) (fun _ _ _ _ _=>trivial)
  def1 def2 def3 (fun s _=>recFacts_of (R:=[]) (s:=s) rfl) rfl k1 ok1 bare1 prm walk
end
end Mine
end
set_option tactic.hygienic false
section
open PySem PySem.W PySem.Calls PyProof.Rows
namespace Mine
theorem nn{α:Type}{p:Prop}{r:α}(h:(none:Option α)=some r):p:=by cases h
theorem Znv{α:Type}{p:Prop}[Decidable p]{a r:α}(h:(if p then some a else none)=some r):p∧a=r:=by
 by_cases q:p
 ·rw [if_pos q] at h; exact ⟨q,Yc h⟩
 ·rw [if_neg q] at h; exact nn h
theorem ltd{a b c:Nat}(h:a < b)(h':Nat.ble b c=true:=by rfl):a < c:=Yd h (Ye h')
theorem lted{a b c:Nat}(h:a < b)(h':Nat.ble b c=true:=by rfl):a≤c:=Yf (ltd h h')
theorem led{a b c:Nat}(h:a≤b)(h':Nat.ble b c=true:=by rfl):a≤c:=Yg h (Ye h')
theorem letd{a b c:Nat}(h:a≤b)(h':Nat.ble (b + 1) c=true:=by rfl):a < c:=Yh h (Ye h')
theorem wlo7{w a n:Nat}(h:w + a + 20 < n):w + 1 + 6 < n:=Yh (by lia) h
theorem wlo1{w a n:Nat}(h:w + a + 20 < n):w + 1 < n:=Yh (by lia) h
theorem wlo0{w a n:Nat}(h:w + a + 20 < n):w < n:=Yh (by lia) h
inductive V where
 | none | bool (b:Bool) | int (i:Int) | str (x:List Nat)
 | tup (vs:List V) | lst (vs:List V)
 | ref (n:Nat) | inst (n:Nat) | app (n:Nat)
 | mat (e:Nat) | rng (a b:Int)
 | glob (v:Value)
 deriving Inhabited
inductive Cell where
 | list (vs:List V)
 | inst (as:List (Option V))
 | box (v:Option V)
 | dct (ks:List (List Nat)) (vs:List V)
 deriving Inhabited
structure St where
 loc:List (Option V)
 cells:List Cell
structure Wd where
 F:Addr→Option Obj
 H:Addr→Option Obj
 cs:List Addr
 C:Addr
structure Wd.Le(a b:Wd):Prop where
 F:∀ x o,a.F x=some o→b.F x=some o
 H:∀ x o,a.H x=some o→b.H x=some o
 cs:∃ t,b.cs=a.cs++t
 C:b.C=a.C
theorem Wd.Le.refl(a:Wd):a.Le a:=⟨fun _ _ e=>e,fun _ _ e=>e,⟨[],by simp⟩,rfl⟩
theorem Wd.Le.trans{a b c:Wd}(x:a.Le b)(y:b.Le c):a.Le c:=by
 obtain ⟨t,x2⟩:=x.cs;obtain ⟨u,y2⟩:=y.cs;exact ⟨fun z o e=>y.F z o (x.F z o e),fun z o e=>y.H z o (x.H z o e),⟨t++u,by rw [y2,x2,List.append_assoc]⟩,y.C.trans x.C⟩
noncomputable def tupO(vs:List Value)(n:Nat):Obj:={ cls:=.type "tuple",data:=.seq vs.toArray n }
noncomputable def bmo(id:String)(self:Value):Obj:={ cls:=.type "builtin_function_or_method",data:=.fields #[.builtin id,self] }
noncomputable def matO(a b c d e:Value)(T:Addr):Obj:={ cls:=.type "re.Match",data:=.fields #[a,b,c,d,e,.ref T] }
noncomputable def lstO(vs:List Value)(n:Nat):Obj:={ cls:=.type "list",data:=.seq vs.toArray n }
mutual
inductive VR(ω:Wd):V→Value→Prop
 | none:VR ω .none .none
 | bool (b:Bool):VR ω (.bool b) (.bool b)
 | int (i:Int) (t:Tok):VR ω (.int i) (.int i t)
 | str (x:List Nat) (t:Tok):VR ω (.str x) (.str ⟨x.toArray⟩ t)
 | tup {vs:List V} {ws:List Value} {a:Addr} {n:Nat}:ω.F a=some (tupO ws n)→VRs ω vs ws→VR ω (.tup vs) (.ref a)
 | lst {vs:List V} {ws:List Value} {a:Addr} {n:Nat}:ω.F a=some (lstO ws n)→VRs ω vs ws→VR ω (.lst vs) (.ref a)
 | ref {n:Nat} {a:Addr}:ω.cs[n]?=some a→VR ω (.ref n) (.ref a)
 | inst {n:Nat} {x d:Addr}:ω.F x=some (instObj ω.C d)→ω.cs[n]?=some d→VR ω (.inst n) (.ref x)
 | app {n:Nat} {u d:Addr}:ω.F u=some (bmo "list.append" (.ref d))→ω.cs[n]?=some d→VR ω (.app n) (.ref u)
 | mat {e:Nat} {u T:Addr} {a b c d z g:Value} {n:Nat}:ω.F u=some (matO a b c d z T)→ω.F T=some (tupO [g,rawInt e] n)→VR ω (.mat e) (.ref u)
 | glob (v:Value):VR ω (.glob v) v
inductive VRs(ω:Wd):List V→List Value→Prop
 | nil:VRs ω [] []
 | cons {v:V} {vs:List V} {x:Value} {xs:List Value}:VR ω v x→VRs ω vs xs→VRs ω (v :: vs) (x :: xs)
end
structure Wd.To(a b:Wd):Prop where
 F:∀ x o,a.F x=some o→b.F x=some o
 cs:∀ (n:Nat) (d:Addr),a.cs[n]?=some d→b.cs[n]?=some d
 C:b.C=a.C
theorem Wd.Le.to{a b:Wd}(h:a.Le b):a.To b:=by
 obtain ⟨t,h2⟩:=h.cs;refine ⟨h.F,fun n d e=>?_,h.C⟩;rw [h2]; exact (List.getElem?_append_left (Yi.mp e).1).trans e
theorem VR.map{ω ω':Wd}(h:ω.To ω'){v:V}{x:Value}(r:VR ω v x):VR ω' v x :=
 VR.rec (motive_1:=fun v x _=>VR ω' v x) (motive_2:=fun vs xs _=>VRs ω' vs xs) .none .bool .int .str (fun e _ ih=>.tup (h.F _ _ e) ih) (fun e _ ih=>.lst (h.F _ _ e) ih)
  (fun e=>.ref (h.cs _ _ e)) (fun e e'=>.inst (h.C ▸ h.F _ _ e) (h.cs _ _ e')) (fun e e'=>.app (h.F _ _ e) (h.cs _ _ e')) (fun e e'=>.mat (h.F _ _ e) (h.F _ _ e')) .glob .nil (fun _ _ a b=>.cons a b) r
theorem VRs.map{ω ω':Wd}(h:ω.To ω'){vs:List V}{xs:List Value}(r:VRs ω vs xs):VRs ω' vs xs:=by
 induction vs generalizing xs with
 | nil=>cases r; exact .nil
 | cons v vs ih=>cases r with | cons a b=>exact .cons (a.map h) (ih b)
theorem VR.mono{ω ω':Wd}(h:ω.Le ω'){v:V}{x:Value}(r:VR ω v x):VR ω' v x:=r.map h.to
theorem VRs.mono{ω ω':Wd}(h:ω.Le ω'){vs:List V}{xs:List Value}(r:VRs ω vs xs):VRs ω' vs xs:=r.map h.to
theorem VRs.length{ω:Wd}{vs:List V}{xs:List Value}(h:VRs ω vs xs):vs.length=xs.length:=by
 induction vs generalizing xs with
 | nil=>cases h; rfl
 | cons v vs ih=>cases h with | cons a b=>exact congrArg Nat.succ (ih b)
theorem VRs.append{ω:Wd}{vs vs':List V}{xs xs':List Value}(h:VRs ω vs xs)(h':VRs ω vs' xs'):VRs ω (vs++vs') (xs++xs'):=by
 induction vs generalizing xs with
 | nil=>cases h; exact h'
 | cons v vs ih=>cases h with | cons a b=>exact .cons a (ih b)
theorem VRs.get{ω:Wd}{vs:List V}{xs:List Value}(h:VRs ω vs xs){i:Nat}{v:V}(e:vs[i]?=some v):∃ x,xs[i]?=some x∧VR ω v x:=by
 induction vs generalizing xs i with
 | nil=>cases e
 | cons v' vs ih =>
  cases h with
  | cons a b =>
   cases i with
   | zero=>cases e; exact ⟨_,rfl,a⟩
   | succ i=>exact ih b e
theorem VRs.take{ω:Wd}{vs:List V}{xs:List Value}(h:VRs ω vs xs)(n:Nat):VRs ω (vs.take n) (xs.take n):=by
 induction vs generalizing xs n with
 | nil=>cases h; simpa using .nil
 | cons v vs ih =>
  cases h with
  | cons a b=>cases n with
   | zero=>exact .nil
   | succ n=>exact .cons a (ih b n)
theorem VRs.drop{ω:Wd}{vs:List V}{xs:List Value}(h:VRs ω vs xs)(n:Nat):VRs ω (vs.drop n) (xs.drop n):=by
 induction vs generalizing xs n with
 | nil=>cases h; simpa using .nil
 | cons v vs ih =>
  cases h with
  | cons a b=>cases n with
   | zero=>exact .cons a b
   | succ n=>exact ih b n
structure Base where
 hb:Heap
 K:Frag
 C:Addr
 attrs:List Str
 os:OsState
 hs:Str→Int
noncomputable def cnt(as:List (Option V)):Nat:=(as.filter (·.isSome)).length
noncomputable def Zoo(es:List DictEntry):Prop:=∀ e∈es,∃ x t,e.key=.str x t
noncomputable def hashP(P:Params)(x:Str):Int:=if x.cps.isEmpty=true then 0 else reduceHash (P.strHash x.cps)
noncomputable def SMap(hs:Str→Int)(o:Obj)(f:Str→Option Value):Prop:=o.ExactDict∧∃ es ep,o.data=.dict es ep∧(∀ e∈es,∃ k:Str,Value.isStrOf k e.key=true∧e.hash=hs k)∧∀ k,findBy Value.isStrOf es k=f k
noncomputable def Zbq{α:Type}:List (List Nat)→List α→Str→Option α
 | k :: ks,w :: ws,x=>if x=⟨k.toArray⟩ then some w else Zbq ks ws x
 | _,_,_=>none
noncomputable def CR(B:Base)(ω:Wd)(h:Heap)(d:Addr):Cell→Prop
 | .list vs=>∃ ws n,h.get? d=some (lstO ws n)∧VRs ω vs ws
 | .inst as=>as.length=B.attrs.length∧∃ es n,h.get? d=some (dictOf es n)∧Zoo es∧es.length≤cnt as ∧
   (∀ (i:Nat) (x:Str) (v:V),B.attrs[i]?=some x→as[i]?=some (some v)→∃ y,getL x es=some (some y)∧VR ω v y∧handedIn y=true) ∧
   (∀ (i:Nat) (x:Str),B.attrs[i]?=some x→as[i]?=some none→getL x es=some none) ∧
   ∀ x,x ∉ B.attrs→getL x es=some none
 | .box u=>∃ o y,h.get? d=some o∧o.data=.cell y∧∀ v,u=some v→∃ z,y=some z∧VR ω v z
 | .dct ks vs=>1 < d∧∃ o ws,h.get? d=some o∧SMap B.hs o (Zbq ks ws)∧VRs ω vs ws
structure Fx where
 qual:Str
 scope:Scope
 L:Addr
 func:Option Addr
 cd:Value
 frame:Option Addr
 cl:List (Str × Addr)
 names:List Str
 bx:List (Str × Nat)
noncomputable def Fx.env(f:Fx):Env:={ scope:=f.scope,locals:=f.L,globals:=mainGlobals,cells:=f.cl,qual:=f.qual,func:=f.func,code:=f.cd,frame:=f.frame,builtins:=builtinsNs }
noncomputable def Fx.Ok(f:Fx):Prop:=f.scope.kind=.function∧f.names.Nodup∧(∀ x∈f.names,f.scope.names.lookup x=some .local)∧∀ x n,f.bx.lookup x=some n→f.scope.names.lookup x=some .cell
structure Rel(B:Base)(f:Fx)(ω:Wd)(st:St)(s:Shared):Prop where
 keep:∀ a o,ω.F a=some o→s.heap.get? a=some o
 held:∀ a o,ω.H a=some o→s.heap.get? a=some o∧ω.F a=none
 base:∀ a o,B.hb.get? a=some o→ω.F a=some o
 above:B.hb.objs.size≤f.L
 fr:∃ m,s.heap.Ns f.L m∧∀ (i:Nat) (x:Str) (v:V),f.names[i]?=some x→st.loc[i]?=some (some v)→∃ y,m x=some y∧VR ω v y
 size:ω.cs.length=st.cells.length
 cells:∀ (i:Nat) (d:Addr) (c:Cell),ω.cs[i]?=some d→st.cells[i]?=some c→CR B ω s.heap d c
 dis:(f.L :: ω.cs).Nodup
 off:∀ a∈f.L :: ω.cs,ω.F a=none∧ω.H a=none
 gens:s.gens=#[]∧s.os=B.os
 cls:ω.C=B.C
 tk:1≤s.toks
 bx:∀ x n,f.bx.lookup x=some n→∃ d,f.cl.lookup x=some d∧ω.cs[n]?=some d
theorem CR.map{B:Base}{ω ω':Wd}(l:ω.To ω'){h h':Heap}{d:Addr}(e:h'.get? d=h.get? d){c:Cell}(r:CR B ω h d c):CR B ω' h' d c:=by
 cases c with
 | list vs=>obtain ⟨ws,n,a,b⟩:=r; exact ⟨ws,n,e.trans a,b.map l⟩
 | inst as =>
  obtain ⟨z,es,n,a,b,b',c,d⟩:=r;refine ⟨z,es,n,e.trans a,b,b',fun i x v h1 h2=>?_,d⟩;obtain ⟨y,p,q,r⟩:=c i x v h1 h2;exact ⟨y,p,q.map l,r⟩
 | box u =>
  obtain ⟨o,y,a,b,c⟩:=r;refine ⟨o,y,e.trans a,b,fun v hv=>?_⟩;obtain ⟨z,p,q⟩:=c v hv;exact ⟨z,p,q.map l⟩
 | dct ks vs=>obtain ⟨lo,o,ws,a,b,c⟩:=r; exact ⟨lo,o,ws,e.trans a,b,c.map l⟩
theorem bx_le{bx:List (Str × Nat)}{cl:List (Str × Addr)}{ω ω':Wd}(l:ω.Le ω')(h:∀ x n,bx.lookup x=some n→∃ d,cl.lookup x=some d∧ω.cs[n]?=some d):∀ x n,bx.lookup x=some n→∃ d,cl.lookup x=some d∧ω'.cs[n]?=some d:=fun x n e=>by
 obtain ⟨d,h1,h2⟩:=h x n e;exact ⟨d,h1,l.to.cs _ _ h2⟩
theorem CR.mono{B:Base}{ω ω':Wd}(l:ω.Le ω'){h h':Heap}{d:Addr}(e:h'.get? d=h.get? d){c:Cell}(r:CR B ω h d c):CR B ω' h' d c:=r.map l.to e
section
variable{B:Base}{f:Fx}{ω ω':Wd}{st:St}{s:Shared}
theorem Rel.keeps(R:Rel B f ω st s){h':Heap}{k:Nat}(hk:∀ b o,s.heap.get? b=some o→h'.get? b=some o)(hk1:s.toks≤k:=by (repeat constructor) <;> assumption):Rel B f ω st { s with heap:=h',toks:=k }:=by
 obtain ⟨m,hn,hl⟩:=R.fr;refine ⟨fun a o e=>hk a o (R.keep a o e),fun a o e=>⟨hk a o (R.held a o e).1,(R.held a o e).2⟩,R.base,R.above,⟨m,hn.keeps hk,hl⟩,R.size,fun i d c h1 h2=>?_,R.dis,R.off,R.gens,R.cls,Yg R.tk hk1,R.bx⟩;have:=R.cells i d c h1 h2;cases c with
 | list vs=>obtain ⟨ws,n,a,b⟩:=this; exact ⟨ws,n,hk _ _ a,b⟩
 | inst as=>obtain ⟨z,es,n,a,b⟩:=this; exact ⟨z,es,n,hk _ _ a,b⟩
 | box u=>obtain ⟨o,y,a,b⟩:=this; exact ⟨o,y,hk _ _ a,b⟩
 | dct ks vs=>obtain ⟨lo,o,ws,a,b⟩:=this; exact ⟨lo,o,ws,hk _ _ a,b⟩
theorem Rel.toks(R:Rel B f ω st s){k:Nat}(hk1:s.toks≤k:=by (repeat constructor) <;> assumption):Rel B f ω st { s with toks:=k }:=R.keeps (fun _ _ e=>e) hk1
noncomputable def Wd.add(ω:Wd)(a:Addr)(o:Obj):Wd:=⟨fun b=>if b=a then some o else ω.F b,ω.H,ω.cs,ω.C⟩
noncomputable def Wd.hold(ω:Wd)(a:Addr)(o:Obj):Wd:=⟨ω.F,fun b=>if b=a then some o else ω.H b,ω.cs,ω.C⟩
theorem set_le{g:Addr→Option Obj}{a:Addr}{o:Obj}(h:g a=none):∀ b o',g b=some o'→(if b=a then some o else g b)=some o':=fun b o' e=>by
 rw [if_neg (fun q=>by rw [q,h] at e; exact nn e)]; exact e
theorem Wd.le_add{a:Addr}{o:Obj}(h:ω.F a=none):ω.Le (ω.add a o):=⟨set_le h,fun _ _ e=>e,⟨[],(Yj _).symm⟩,rfl⟩
theorem Wd.le_hold{a:Addr}{o:Obj}(h:ω.H a=none):ω.Le (ω.hold a o):=⟨fun _ _ e=>e,set_le h,⟨[],(Yj _).symm⟩,rfl⟩
theorem Wd.add_self{a:Addr}{o:Obj}:(ω.add a o).F a=some o:=if_pos rfl
theorem Wd.hold_self{a:Addr}{o:Obj}:(ω.hold a o).H a=some o:=if_pos rfl
noncomputable def Wd.free(ω ω':Wd):Wd:=⟨ω'.F,ω.H,ω'.cs,ω'.C⟩
theorem Wd.le_free{a:Addr}{o:Obj}(l:(ω.hold a o).Le ω'):ω.Le (ω.free ω'):=⟨l.F,fun _ _ e=>e,l.cs,l.C⟩
theorem VRs.free{vs:List V}{xs:List Value}(r:VRs ω' vs xs):VRs (ω.free ω') vs xs:=VRs.map (show ω'.To (ω.free ω') from ⟨fun _ _ e=>e,fun _ _ e=>e,rfl⟩) r
theorem VR.free{v:V}{x:Value}(r:VR ω' v x):VR (ω.free ω') v x:=VR.map (show ω'.To (ω.free ω') from ⟨fun _ _ e=>e,fun _ _ e=>e,rfl⟩) r
theorem Rel.fresh(R:Rel B f ω st s):ω.F s.heap.objs.size=none:=by
 cases q:ω.F s.heap.objs.size with
 | none=>rfl
 | some o=>exact absurd (Yk (R.keep _ _ q)) (Yl _)
theorem Rel.freshH(R:Rel B f ω st s):ω.H s.heap.objs.size=none:=by
 cases q:ω.H s.heap.objs.size with
 | none=>rfl
 | some o=>exact absurd (Yk (R.held _ _ q).1) (Yl _)
theorem Rel.cell_lt(R:Rel B f ω st s){d:Addr}(h:d∈f.L :: ω.cs):d < s.heap.objs.size:=by
 rcases Ym.mp h with rfl | h
 ·obtain ⟨m,hn,_⟩:=R.fr; exact hn.lt
 ·obtain ⟨i,hi,e⟩:=Yn.mp h;have hc:i < st.cells.length:=R.size ▸ hi;have:=R.cells i d (st.cells[i]) (by rw [← e]; exact Yo hi) (Yo hc);cases q:st.cells[i] with
  | list vs=>rw [q] at this; obtain ⟨_,_,a,_⟩:=this; exact Yk a
  | inst as=>rw [q] at this; obtain ⟨_,_,_,a,_⟩:=this; exact Yk a
  | box u=>rw [q] at this; obtain ⟨_,_,a,_⟩:=this; exact Yk a
  | dct ks vs=>rw [q] at this; obtain ⟨_,_,_,a,_⟩:=this; exact Yk a
theorem Rel.high(R:Rel B f ω st s){x:Addr}(hx:s.heap.objs.size≤x):ω.F x=none∧ω.H x=none∧x ∉ f.L :: ω.cs:=by
 refine ⟨?_,?_,fun h=>Yl _ (Yd (R.cell_lt h) hx)⟩
 ·cases q:ω.F x with
  | none=>rfl
  | some o=>exact absurd (Yd (Yk (R.keep _ _ q)) hx) (Yl _)
 ·cases q:ω.H x with
  | none=>rfl
  | some o=>exact absurd (Yd (Yk (R.held _ _ q).1) hx) (Yl _)
theorem Rel.addF(R:Rel B f ω st s){a:Addr}{o:Obj}(ho:s.heap.get? a=some o)(hn:ω.F a=none)(hh:ω.H a=none)(hc:a ∉ f.L :: ω.cs):ω.Le (ω.add a o)∧Rel B f (ω.add a o) st s:=by
 have l:ω.Le (ω.add a o):=Wd.le_add hn;have ne:∀ b,b≠a→(ω.add a o).F b=ω.F b:=fun b q=>if_neg q;obtain ⟨m,hm,hl⟩:=R.fr;refine ⟨l,fun b o' e=>?_,fun b o' e=>⟨(R.held b o' e).1,?_⟩,fun b o' e=>l.F b o' (R.base b o' e),R.above,⟨m,hm,fun i x v h1 h2=>?_⟩,R.size,fun i d c h1 h2=>(R.cells i d c h1 h2).mono l rfl,R.dis,fun b hb=>⟨?_,(R.off b hb).2⟩,R.gens,R.cls,R.tk,R.bx⟩
 ·by_cases q:b=a
  ·subst q; rw [Wd.add_self] at e; cases e; exact ho
  ·rw [ne b q] at e; exact R.keep b o' e
 ·rw [ne b (fun q=>by have e':ω.H b=some o':=e; rw [q,hh] at e'; exact nn e')]; exact (R.held b o' e).2
 ·obtain ⟨y,a,b⟩:=hl i x v h1 h2; exact ⟨y,a,b.mono l⟩
 ·rw [ne b (fun q=>hc (q ▸ hb))]; exact (R.off b hb).1
theorem Rel.holdH(R:Rel B f ω st s){a:Addr}{o:Obj}(ho:s.heap.get? a=some o)(hn:ω.F a=none)(hh:ω.H a=none)(hc:a ∉ f.L :: ω.cs):ω.Le (ω.hold a o)∧Rel B f (ω.hold a o) st s:=by
 have l:ω.Le (ω.hold a o):=Wd.le_hold hh;have ne:∀ b,b≠a→(ω.hold a o).H b=ω.H b:=fun b q=>if_neg q;obtain ⟨m,hm,hl⟩:=R.fr;refine ⟨l,R.keep,fun b o' e=>?_,R.base,R.above,⟨m,hm,fun i x v h1 h2=>?_⟩,R.size,fun i d c h1 h2=>(R.cells i d c h1 h2).mono l rfl,R.dis,fun b hb=>⟨(R.off b hb).1,?_⟩,R.gens,R.cls,R.tk,R.bx⟩
 ·by_cases q:b=a
  ·subst q; rw [Wd.hold_self] at e; cases e; exact ⟨ho,hn⟩
  ·rw [ne b q] at e; exact R.held b o' e
 ·obtain ⟨y,a,b⟩:=hl i x v h1 h2; exact ⟨y,a,b.mono l⟩
 ·rw [ne b (fun q=>hc (q ▸ hb))]; exact (R.off b hb).2
theorem Rel.free{ω₀:Wd}(R:Rel B f ω st s)(h:∀ a o,ω₀.H a=some o→ω.H a=some o):Rel B f (ω₀.free ω) st s:=by
 have t:ω.To (ω₀.free ω):=⟨fun _ _ e=>e,fun _ _ e=>e,rfl⟩;obtain ⟨m,hm,hl⟩:=R.fr;refine ⟨R.keep,fun b o e=>R.held b o (h b o e),R.base,R.above,⟨m,hm,fun i x v h1 h2=>?_⟩,R.size,fun i d c h1 h2=>(R.cells i d c h1 h2).map t rfl,R.dis,fun b hb=>⟨(R.off b hb).1,?_⟩,R.gens,R.cls,R.tk,R.bx⟩
 ·obtain ⟨y,a,b⟩:=hl i x v h1 h2; exact ⟨y,a,b.free⟩
 ·cases q:ω₀.H b with
  | none=>exact q
  | some o=>have:=(R.off b hb).2; rw [h b o q] at this; exact nn this.symm
theorem Rel.neF(R:Rel B f ω st s){a:Addr}{o:Obj}(e:ω.F a=some o){b:Addr}(hb:b∈f.L :: ω.cs):a≠b:=fun q=>by rw [q,(R.off b hb).1] at e; exact nn e
theorem Rel.neH(R:Rel B f ω st s){a:Addr}{o:Obj}(e:ω.H a=some o){b:Addr}(hb:b∈f.L :: ω.cs):a≠b:=fun q=>by rw [q,(R.off b hb).2] at e; exact nn e
theorem Rel.push(R:Rel B f ω st s){o:Obj}{k:Nat}(ho:o.isFreed=false)(hk1:s.toks≤k:=by (repeat constructor) <;> assumption) :
  ω.Le (ω.add s.heap.objs.size o)∧Rel B f (ω.add s.heap.objs.size o) st { s with heap:=s.heap.push o,toks:=k } :=
 (R.keeps (h':=s.heap.push o) (k:=k) (fun b o' e=>Yp _ e) hk1).addF (Yq _ ho) R.fresh R.freshH fun h=>Yl _ (R.cell_lt h)
end
theorem Zda{α:Type}:∀ {l:List α},l.Nodup→∀ {i j:Nat} (hi:i < l.length) (hj:j < l.length),l[i]=l[j]→i=j
 | [],_,_,_,hi,_,_=>absurd hi (Yr _)
 | a :: l,h,0,0,_,_,_=>rfl
 | a :: l,h,0,j + 1,_,hj,e=>absurd ((show l[j]'(Ys hj)=a from e.symm) ▸ Yt (Ys hj):a∈l) (Yu.mp h).1
 | a :: l,h,i + 1,0,hi,_,e=>absurd ((show l[i]'(Ys hi)=a from e) ▸ Yt (Ys hi):a∈l) (Yu.mp h).1
 | a :: l,h,i + 1,j + 1,hi,hj,e=>congrArg Nat.succ (Zda (Yu.mp h).2 (Ys hi) (Ys hj) e)
noncomputable def Zfd(hb:Heap)(L:Addr)(h:Heap):List (Addr × Obj) :=
 (List.range h.objs.size).filterMap fun a=>if a=L then none else match hb.get? a with
  | some _=>none
  | none=>(h.get? a).map fun o=>(a,o)
theorem allNews_mem{hb h:Heap}{L:Addr}{p:Addr × Obj}:p∈Zfd hb L h↔p.1≠L∧hb.get? p.1=none∧h.get? p.1=some p.2:=by
 unfold Zfd;rw [List.mem_filterMap];constructor
 ·rintro ⟨a,_,e⟩
  split at e
  ·exact nn e
  ·rename_i ha
   split at e
   ·exact nn e
   ·rename_i hn
    obtain ⟨o,ho,rfl⟩:=Yv.mp e;exact ⟨ha,hn,ho⟩
 ·rintro ⟨ha,hn,ho⟩;refine ⟨p.1,List.mem_range.mpr (Yk ho),?_⟩;rw [if_neg ha,hn];simp [ho]
theorem Zml{hb h:Heap}{L:Addr}:News hb L h (Zfd hb L h):=fun p hp=>by
 obtain ⟨a,b,c⟩:=allNews_mem.mp hp;exact ⟨c,a,b⟩
section
variable{B:Base}{f:Fx}{ω ω':Wd}{st:St}{s:Shared}
theorem Rel.hk(R:Rel B f ω st s):∀ b o,B.hb.get? b=some o→s.heap.get? b=some o:=fun b o e=>R.keep b o (R.base b o e)
theorem Rel.frame(R:Rel B f ω st s):∃ m,Fr B.hb f.L s.heap m∧∀ (i:Nat) (x:Str) (v:V),f.names[i]?=some x→st.loc[i]?=some (some v)→∃ y,m x=some y∧VR ω v y:=by
 obtain ⟨m,hn,hl⟩:=R.fr;exact ⟨m,⟨hn,R.hk,R.above⟩,hl⟩
theorem Rel.store(R:Rel B f ω st s)(ok:f.Ok){i:Nat}{x:Str}{v:V}{y:Value}(hx:f.names[i]?=some x)(hv:VR ω v y){h':Heap}{k:Nat}{m:Str→Option Value}
  (hm:s.heap.Ns f.L m) (hl:∀ (i:Nat) (x:Str) (v:V),f.names[i]?=some x→st.loc[i]?=some (some v)→∃ y,m x=some y∧VR ω v y)
  (hn:h'.Ns f.L (fun z=>if z=x then some y else m z)) (hs:Heap.SameBut f.L s.heap h') (hk1:s.toks≤k:=by (repeat constructor) <;> assumption):Rel B f ω { st with loc:=st.loc.set i (some v) } { s with heap:=h',toks:=k }:=by
 refine ⟨fun a o e=>(hs.2 a (R.neF e (.head _))).trans (R.keep a o e),fun a o e=>⟨(hs.2 a (R.neH e (.head _))).trans (R.held a o e).1,(R.held a o e).2⟩,R.base,R.above,⟨_,hn,fun j z u h1 h2=>?_⟩,R.size,fun i d c h1 h2=>?_,R.dis,R.off,R.gens,R.cls,Yg R.tk hk1,R.bx⟩
 ·by_cases hj:j=i
  ·subst hj;rw [hx] at h1; cases h1;have:(st.loc.set j (some v))[j]?=some (some u):=h2;rw [List.getElem?_set_self'] at this;cases q:st.loc[j]? with
   | none=>rw [q] at this; cases this
   | some _=>rw [q] at this; cases this; exact ⟨y,if_pos rfl,hv⟩
  ·have:(st.loc.set i (some v))[j]?=some (some u):=h2;rw [List.getElem?_set_ne (Ne.symm hj)] at this;obtain ⟨y',a,b⟩:=hl j z u h1 this;refine ⟨y',?_,b⟩;have hz:z≠x:=fun e=>by
    subst e;have hi:=(Yi.mp hx);have hj':=(Yi.mp h1);exact hj (Zda ok.2.1 hj'.1 hi.1 (hj'.2.trans hi.2.symm))
   rw [if_neg hz]; exact a
 ·have hd:d≠f.L:=fun e=>by
   have:=(Yu.mp R.dis).1;exact this (e ▸ Yw h1)
  exact (R.cells i d c h1 h2).mono (.refl ω) (hs.2 d hd)
end
theorem Zlq{es:List DictEntry}(h:Zoo es):es.any (·.refKey)=false:=by
 rw [List.any_eq_false];intro e he;obtain ⟨x,t,q⟩:=h e he;simp [DictEntry.refKey,q]
theorem Zy{es:List DictEntry}(h:Zoo es)(x:Str):getL x es=some ((es.find? (·.key.isStr x)).map (·.val)):=by
 unfold getL;cases q:es.find? (·.key.isStr x) with
 | some e=>rfl
 | none=>simp [Zlq h]
theorem Zbw{es:List DictEntry}(h:Zoo es){x:Str}{hs:Int}{t:Tok}{v:Value}:Zoo (putL x hs (.str x t) v es):=by
 induction es with
 | nil=>intro e he; cases Yx.mp he; exact ⟨x,t,rfl⟩
 | cons a r ih =>
  have hr:Zoo r:=fun e he=>h e (.tail _ he);unfold putL
  split
  ·intro e he
   rcases Ym.mp he with rfl | he
   ·exact h a (.head _)
   ·exact hr e he
  ·intro e he
   rcases Ym.mp he with rfl | he
   ·exact h _ (.head _)
   ·exact ih hr e he
theorem Zhs{es:List DictEntry}{x:Str}{hs:Int}{t:Tok}{v:Value}:((putL x hs (.str x t) v es).find? (·.key.isStr x)).map (·.val)=some v:=by
 induction es with
 | nil=>simp [putL,Value.isStr]
 | cons a r ih =>
  unfold putL
  split
  ·rename_i q; simp [List.find?_cons,q]
  ·rename_i q; rw [List.find?_cons]; simp only [q]; exact ih
theorem Zgr{k:Value}{x y:Str}(h:x≠y)(q:k.isStr x=true):k.isStr y=false:=by
 cases k <;> simp_all [Value.isStr]
theorem Zbi{es:List DictEntry}{x y:Str}(hxy:x≠y){hs:Int}{t:Tok}{v:Value}:((putL x hs (.str x t) v es).find? (·.key.isStr y)).map (·.val)=(es.find? (·.key.isStr y)).map (·.val):=by
 induction es with
 | nil =>
  have:(Value.str x t).isStr y=false:=Zgr hxy (by simp [Value.isStr]);simp [putL,this]
 | cons a r ih =>
  unfold putL
  split
  ·rename_i q
   have:=Zgr hxy q;simp [List.find?_cons,this]
  ·rw [List.find?_cons,List.find?_cons]
   split
   ·rfl
   ·exact ih
theorem Zlt{es:List DictEntry}{x:Str}{hs:Int}{t:Tok}{v:Value}(h:es.find? (·.key.isStr x)=none):(putL x hs (.str x t) v es).length=es.length + 1:=by
 induction es with
 | nil=>rfl
 | cons a r ih =>
  rw [List.find?_cons] at h
  split at h
  ·exact nn h.symm
  ·rename_i q; unfold putL; rw [if_neg (by rw [q]; exact Yy),Yz,ih h,Yz]
theorem Zls{es:List DictEntry}{x:Str}{hs:Int}{t:Tok}{v:Value}{e:DictEntry}(h:es.find? (·.key.isStr x)=some e):(putL x hs (.str x t) v es).length=es.length:=by
 induction es with
 | nil=>cases h
 | cons a r ih =>
  rw [List.find?_cons] at h;unfold putL
  split at h
  ·rename_i q; rw [if_pos q]; rfl
  ·rename_i q; rw [if_neg (by rw [q]; exact Yy),Yz,ih h,Yz]
theorem cnt_new{as:List (Option V)}{i:Nat}{v:V}(h:as[i]?=some none):cnt (as.set i (some v))=cnt as + 1:=by
 induction as generalizing i with
 | nil=>cases h
 | cons a r ih =>
  cases i with
  | zero=>cases h; simp [cnt]
  | succ i =>
   have:=ih (i:=i) (by simpa using h);unfold cnt at this ⊢;rw [List.set_cons_succ,List.filter_cons,List.filter_cons]
   split <;> simp_all
theorem cnt_old{as:List (Option V)}{i:Nat}{u v:V}(h:as[i]?=some (some u)):cnt (as.set i (some v))=cnt as:=by
 induction as generalizing i with
 | nil=>cases h
 | cons a r ih =>
  cases i with
  | zero=>cases h; simp [cnt]
  | succ i =>
   have:=ih (i:=i) (by simpa using h);unfold cnt at this ⊢;rw [List.set_cons_succ,List.filter_cons,List.filter_cons]
   split <;> simp_all
theorem cnt_le(as:List (Option V)):cnt as≤as.length:=List.length_filter_le _ _
end Mine
end
section
set_option tactic.hygienic true
open PySem PySem.W PySem.Calls PyProof.Rows
namespace Mine
inductive Post(B:Base)(f:Fx)(ω:Wd)(Q:V→St→Prop)(x:Value)(s':Shared):Prop
 | mk (v:V) (st':St) (ω':Wd) (l:ω.Le ω') (r:VR ω' v x) (R:Rel B f ω' st' s') (q:Q v st')
inductive PostB(B:Base)(f:Fx)(ω:Wd)(Q:Bool→St→Prop)(b:Bool)(s':Shared):Prop
 | mk (st':St) (ω':Wd) (l:ω.Le ω') (R:Rel B f ω' st' s') (q:Q b st')
inductive PostO(B:Base)(f:Fx)(ω:Wd)(st:St)(v:V)(x:Value)(s':Shared):Prop
 | mk (ω':Wd) (l:ω.Le ω') (r:VR ω' v x) (R:Rel B f ω' st s')
noncomputable def EV(prog:Program)(w:World)(B:Base)(f:Fx)(A:Around)(t:Sem Value)(P:(V→St→Prop)→St→Prop):Prop :=
 ∀ (E:Value→Shared→Prop) (ω:Wd) (st:St) (s:Shared) (Q:V→St→Prop),Rel B f ω st s→P Q st→wpAny (model prog w) A t (Post B f ω Q) E s
noncomputable def EB(prog:Program)(w:World)(B:Base)(f:Fx)(A:Around)(t:Sem Bool)(P:(Bool→St→Prop)→St→Prop):Prop :=
 ∀ (E:Value→Shared→Prop) (ω:Wd) (st:St) (s:Shared) (Q:Bool→St→Prop),Rel B f ω st s→P Q st→wpAny (model prog w) A t (PostB B f ω Q) E s
theorem Post.le{B:Base}{f:Fx}{ω ω':Wd}(l:ω.Le ω'){Q:V→St→Prop}{x:Value}{s:Shared}(h:Post B f ω' Q x s):Post B f ω Q x s :=
 h.casesOn fun v st ω₁ a r R q=>⟨v,st,ω₁,l.trans a,r,R,q⟩
theorem PostB.le{B:Base}{f:Fx}{ω ω':Wd}(l:ω.Le ω'){Q:Bool→St→Prop}{x:Bool}{s:Shared}(h:PostB B f ω' Q x s):PostB B f ω Q x s :=
 h.casesOn fun st ω₁ a R q=>⟨st,ω₁,l.trans a,R,q⟩
section
variable{prog:Program}{w:World}{B:Base}{f:Fx}{A:Around}{E:Value→Shared→Prop}{ω:Wd}{st:St}{s:Shared}
theorem up{α:Type}{t:Sem α}{Q Q':α→Shared→Prop}{m:Model}(h:wpAny m A t Q E s)(k:∀ x s',Q x s'→Q' x s'):wpAny m A t Q' E s:=wpAny_mono h k fun _ _ e=>e
theorem EV.to{t:Sem Value}{P:(V→St→Prop)→St→Prop}{Q:V→St→Prop}{Q':Value→Shared→Prop}(h:EV prog w B f A t P)(R:Rel B f ω st s)(q:P Q st)
  (k:∀ x s' v st' ω',ω.Le ω'→VR ω' v x→Rel B f ω' st' s'→Q v st'→Q' x s'):wpAny (model prog w) A t Q' E s:=up (h E ω st s Q R q) fun x s' z=>z.casesOn (k x s')
theorem EB.to{t:Sem Bool}{P:(Bool→St→Prop)→St→Prop}{Q:Bool→St→Prop}{Q':Bool→Shared→Prop}(h:EB prog w B f A t P)(R:Rel B f ω st s)(q:P Q st)
  (k:∀ x s' st' ω',ω.Le ω'→Rel B f ω' st' s'→Q x st'→Q' x s'):wpAny (model prog w) A t Q' E s:=up (h E ω st s Q R q) fun x s' z=>z.casesOn (k x s')
noncomputable def Op(prog:Program)(w:World)(B:Base)(f:Fx)(A:Around)(ω:Wd)(st:St)(s:Shared)(t:Sem Value)(r:V):Prop :=
 ∀ (E:Value→Shared→Prop),wpAny (model prog w) A t (PostO B f ω st r) E s
theorem Op.post{t:Sem Value}{r:V}(h:Op prog w B f A ω st s t r){Q:V→St→Prop}(q:Q r st):wpAny (model prog w) A t (Post B f ω Q) E s :=
 up (h E) fun x s' z=>z.casesOn fun ω' l v R=>⟨r,st,ω',l,v,R,q⟩
noncomputable def Zc:Nat:=16777216
noncomputable def Zfm(x:List Nat)(n:Int):List Nat:=(List.replicate n.toNat x).flatten
noncomputable def int2(k:Int→Int→Option V)(d:Option V)(a b:V):Option V:=match a with
 | .int i=>(match b with
  | .int j=>k i j
  | _=>d)
 | _=>d
noncomputable def str2(k:List Nat→List Nat→Option V)(d:Option V)(a b:V):Option V:=match a with
 | .str i=>(match b with
  | .str j=>k i j
  | _=>d)
 | _=>d
theorem Zcf{k:Int→Int→Option V}{d:Option V}{a b r:V}(h:int2 k d a b=some r):(∃ i j,a=.int i∧b=.int j∧k i j=some r)∨d=some r:=by
 delta int2 at h
 split at h
 ·split at h
  ·exact .inl ⟨_,_,rfl,rfl,h⟩
  ·exact .inr h
 ·exact .inr h
theorem Zeh{k:List Nat→List Nat→Option V}{d:Option V}{a b r:V}(h:str2 k d a b=some r):(∃ i j,a=.str i∧b=.str j∧k i j=some r)∨d=some r:=by
 delta str2 at h
 split at h
 ·split at h
  ·exact .inl ⟨_,_,rfl,rfl,h⟩
  ·exact .inr h
 ·exact .inr h
noncomputable def lst2(k:List V→List V→Option V)(d:Option V)(a b:V):Option V:=match a with
 | .lst i=>(match b with
  | .lst j=>k i j
  | _=>d)
 | _=>d
theorem Zzf{k:List V→List V→Option V}{d:Option V}{a b r:V}(h:lst2 k d a b=some r):(∃ i j,a=.lst i∧b=.lst j∧k i j=some r)∨d=some r:=by
 delta lst2 at h
 split at h
 ·split at h
  ·exact .inl ⟨_,_,rfl,rfl,h⟩
  ·exact .inr h
 ·exact .inr h
noncomputable def mulOp(a b:V):Option V:=match a with
 | .str x=>(match b with
  | .int n=>if x.length≤64∧0≤n∧n≤64 then some (.str (Zfm x n)) else none
  | _=>none)
 | _=>none
noncomputable def Zmj(op:Operator)(a b:V):Option V:=match op with
 | .Add=>int2 (fun i j=>some (.int (i + j))) (str2 (fun x y=>if x.length + y.length≤Zc then some (.str (x++y)) else none) (lst2 (fun x y=>if x.length + y.length≤Zc then some (.lst (x++y)) else none) none a b) a b) a b
 | .Sub=>int2 (fun i j=>some (.int (i - j))) none a b
 | .Mod=>int2 (fun i j=>if j=0 then none else some (.int (i.fmod j))) none a b
 | .FloorDiv=>int2 (fun i j=>if 0 < j∧j < 1000 then some (.int (i.fdiv j)) else none) none a b
 | .Mult=>mulOp a b
 | _=>none
theorem VR.int_inv{i:Int}{x:Value}(h:VR ω (.int i) x):∃ t,x=.int i t:=by cases h; exact ⟨_,rfl⟩
theorem VR.str_inv{y:List Nat}{x:Value}(h:VR ω (.str y) x):∃ t,x=.str ⟨y.toArray⟩ t:=by cases h; exact ⟨_,rfl⟩
theorem VR.bool_inv{b:Bool}{x:Value}(h:VR ω (.bool b) x):x=.bool b:=by cases h; rfl
theorem VR.none_inv{x:Value}(h:VR ω .none x):x=.none:=by cases h; rfl
theorem VR.tup_inv{vs:List V}{x:Value}(h:VR ω (.tup vs) x):∃ a ws n,x=.ref a∧ω.F a=some (tupO ws n)∧VRs ω vs ws:=by cases h with | tup e r=>exact ⟨_,_,_,rfl,e,r⟩
theorem VR.lst_inv{vs:List V}{x:Value}(h:VR ω (.lst vs) x):∃ a ws n,x=.ref a∧ω.F a=some (lstO ws n)∧VRs ω vs ws:=by cases h with | lst e r=>exact ⟨_,_,_,rfl,e,r⟩
theorem sizeTop_eq:Zc=sizeLine:=by delta Zc sizeLine; rfl
theorem Zo(x:List Nat):(Str.mk x.toArray).length=x.length:=by show x.toArray.size=_; simp
theorem Znd(x y:List Nat):(Str.mk x.toArray)++(Str.mk y.toArray)=Str.mk (x++y).toArray:=by
 apply Str.ext';rw [Str.cps_append]; simp
theorem Zvq(k:Nat)(l acc:List Nat):(List.replicate k l.toArray).foldl (·++·) acc.toArray=(acc++(List.replicate k l).flatten).toArray:=by
 induction k generalizing acc with
 | zero=>simp
 | succ k ih =>
  rw [List.replicate_succ,List.foldl_cons];have:acc.toArray++l.toArray=(acc++l).toArray:=by simp
  rw [this,ih,List.replicate_succ,List.flatten_cons,List.append_assoc]
theorem txt_mul(x:List Nat){n:Int}(h0:0≤n):Txt.mul (Str.mk x.toArray) n=Str.mk (Zfm x n).toArray:=by
 delta Txt.mul Zfm
 by_cases h1:n < 1
 ·have:n=0:=by lia
  subst this; rw [if_pos h1]; rfl
 ·rw [if_neg h1]
  by_cases h2:(n == 1 || (Str.mk x.toArray).length == 0)=true
  ·rw [if_pos h2]
   rcases Bool.or_eq_true_iff.mp h2 with h | h
   ·have:n=1:=by simpa using h
    subst this; simp
   ·have:x=[]:=by rw [Zo] at h; simpa using h
    subst this; simp
  ·rw [if_neg h2];have:=Zvq n.toNat x [];simpa using this
theorem Znm{x:List Nat}{n:Int}(hx:x.length≤64)(h0:0≤n)(h1:n≤64):MulOk (Str.mk x.toArray) n:=by
 have hl:x.length * n.toNat≤64 * 64:=Nat.mul_le_mul hx (by lia);refine ⟨?_,fun hn _=>?_,fun _ _=>?_⟩
 ·rw [Bool.or_eq_false_iff]; exact ⟨decide_eq_false (by lia),decide_eq_false (by lia)⟩
 ·rw [Zo];have:(64:Int)≤(2 ^ 63 - 1) / n:=by
   rw [Int.le_ediv_iff_mul_le (by lia)]; lia
  lia
 ·rw [Zo];show decide (x.length * n.toNat > sizeLine)=false;have hz:sizeLine=16777216:=sizeTop_eq.symm;rw [hz];simp only [decide_eq_false_iff_not];lia
theorem binop_ok(R:Rel B f ω st s){op:Operator}{a b r:V}{x y:Value}(ha:VR ω a x)(hb:VR ω b y)(e:Zmj op a b=some r):Op prog w B f A ω st s (binaryOp op x y) r:=by
 intro E;cases op with
 | Add =>
  rcases Zcf e with ⟨i,j,rfl,rfl,e⟩ | e
  ·cases e;obtain ⟨t,rfl⟩:=ha.int_inv;obtain ⟨u,rfl⟩:=hb.int_inv;exact P.add_int ⟨ω,.refl ω,.int _ _,R.toks⟩
  ·rcases Zeh e with ⟨i,j,rfl,rfl,e2⟩ | e2
   ·split at e2
    ·rename_i hs
     cases e2;obtain ⟨t,rfl⟩:=ha.str_inv;obtain ⟨u,rfl⟩:=hb.str_inv;refine wpAny_with_toks (Yaa _) (SB.add (fun t' k hk=>?_) (by rw [Zo,Zo,← sizeTop_eq]; exact hs));rw [Znd];exact ⟨ω,.refl ω,.str _ _,R.toks⟩
    ·exact nn e2
   ·rcases Zzf e2 with ⟨i,j,rfl,rfl,e3⟩ | e3
    ·split at e3
     ·rename_i hs
      cases e3;obtain ⟨a,ws,n,rfl,e1,r1⟩:=ha.lst_inv;obtain ⟨b,us,m,rfl,e4,r2⟩:=hb.lst_inv;have q1:=R.keep _ _ e1;have q2:=R.keep _ _ e4;have hsz:ws.toArray.size + us.toArray.size≤sizeLine:=by rw [List.size_toArray,List.size_toArray,← r1.length,← r2.length,← sizeTop_eq]; exact hs
      refine P.add_list (n:=n) (n2:=m) q1 q2 ?_ hsz;obtain ⟨l,R'⟩:=R.push (o:=lstO (ws++us) 0) (k:=s.toks) rfl;refine ⟨_,l,.lst (ws:=ws++us) (n:=0) Wd.add_self ((r1.append r2).mono l),?_⟩;have:ws.toArray++us.toArray=(ws++us).toArray:=by simp
      rw [this]; exact R'
     ·exact nn e3
    ·cases e3
 | Sub =>
  rcases Zcf e with ⟨i,j,rfl,rfl,e⟩ | e
  ·cases e;obtain ⟨t,rfl⟩:=ha.int_inv;obtain ⟨u,rfl⟩:=hb.int_inv;exact P.sub_int ⟨ω,.refl ω,.int _ _,R.toks⟩
  ·cases e
 | Mod =>
  rcases Zcf e with ⟨i,j,rfl,rfl,e2⟩ | e2
  ·split at e2
   ·exact nn e2
   ·rename_i hb0
    cases e2;obtain ⟨t,rfl⟩:=ha.int_inv;obtain ⟨u,rfl⟩:=hb.int_inv;exact mod_int' hb0 ⟨ω,.refl ω,.int _ _,R.toks⟩
  ·cases e2
 | FloorDiv =>
  rcases Zcf e with ⟨i,j,rfl,rfl,e2⟩ | e2
  ·split at e2
   ·rename_i hb0
    cases e2;obtain ⟨t,rfl⟩:=ha.int_inv;obtain ⟨u,rfl⟩:=hb.int_inv;exact floordiv_int (by lia) ⟨ω,.refl ω,.int _ _,R.toks⟩ (Or.inl (Yab (by lia)))
   ·exact nn e2
  ·cases e2
 | Mult =>
  have e':mulOp a b=some r:=e;delta mulOp at e'
  split at e'
  ·split at e'
   ·split at e'
    ·rename_i x' _ n' hs
     cases e';obtain ⟨t,rfl⟩:=ha.str_inv;obtain ⟨u,rfl⟩:=hb.int_inv;refine wpAny_with_toks (Yaa _) (SB.mul (Znm hs.1 hs.2.1 hs.2.2) (fun t' k hk=>?_));rw [txt_mul x' hs.2.1];exact ⟨ω,.refl ω,.str _ _,R.toks⟩
    ·exact nn e'
   ·exact nn e'
  ·cases e'
 | _=>exact nn e
end
end Mine
namespace Mine
mutual
noncomputable def toPy:V→Option PyData
 | .none=>some .none
 | .bool b=>some (.bool b)
 | .int i=>some (.int i)
 | .str x=>some (.str ⟨x.toArray⟩)
 | .tup vs=>(Zav vs).map .tuple
 | .lst vs=>(Zav vs).map .list
 | _=>none
noncomputable def Zav:List V→Option (List PyData)
 | []=>some []
 | v :: vs=>match toPy v,Zav vs with
  | some d,some ds=>some (d :: ds)
  | _,_=>none
end
theorem VR.reads{ω:Wd}{h:Heap}(k:∀ a o,ω.F a=some o→h.get? a=some o){v:V}{x:Value}{d:PyData}(r:VR ω v x)(e:toPy v=some d):∃ as,Reads h x d as:=by
 refine VR.rec (motive_1:=fun v x _=>∀ d,toPy v=some d→∃ as,Reads h x d as) (motive_2:=fun vs xs _=>∀ ds,Zav vs=some ds→∃ as,ReadsAll h xs ds as)
  ?_ ?_ ?_ ?_ ?_ ?_ ?_ ?_ ?_ ?_ ?_ ?_ ?_ r d e
 ·intro d e; cases e; exact ⟨_,.none⟩
 ·intro b d e; cases e; exact ⟨_,.bool b⟩
 ·intro i t d e; cases e; exact ⟨_,.int i t⟩
 ·intro x t d e; cases e; exact ⟨_,.str _ t⟩
 ·intro vs ws a n e1 _ ih d e;obtain ⟨ds,e',rfl⟩:=Yv.mp (show (Zav vs).map PyData.tuple=some d from e);obtain ⟨as,q⟩:=ih ds e';exact ⟨_,.tuple (k _ _ e1) rfl rfl q⟩
 ·intro vs ws a n e1 _ ih d e;obtain ⟨ds,e',rfl⟩:=Yv.mp (show (Zav vs).map PyData.list=some d from e);obtain ⟨as,q⟩:=ih ds e';exact ⟨_,.list (k _ _ e1) rfl rfl q⟩
 ·intros; rename_i e; exact nn e
 ·intros; rename_i e; exact nn e
 ·intros; rename_i e; exact nn e
 ·intros; rename_i e; exact nn e
 ·intros; rename_i e; exact nn e
 ·intro ds e; cases e; exact ⟨_,.nil⟩
 ·intro v vs x xs _ _ h1 h2 ds e;have e:(match toPy v,Zav vs with | some d,some ds=>some (d :: ds) | _,_=>Option.none)=some ds:=e;cases e1:toPy v with
  | none=>rw [e1] at e; cases e
  | some d =>
   cases e2:Zav vs with
   | none=>rw [e1,e2] at e; cases e
   | some ds' =>
    rw [e1,e2] at e; cases e;obtain ⟨as,p⟩:=h1 d e1;obtain ⟨bs,q⟩:=h2 ds' e2;exact ⟨_,.cons p q⟩
noncomputable def veq(a b:V):Option Bool:=match toPy a,toPy b with
 | some d,some d'=>if d.canLay0=true∧d'.canLay0=true∧min d.depth d'.depth≤64 then some (PyData.eqv d d') else none
 | _,_=>none
noncomputable def Zdn(y x:List Nat):Bool:=!(Builtin.Str.occurrences ⟨x.toArray⟩ ⟨y.toArray⟩ 0 x.length 1).isEmpty
noncomputable def isNn(k:Bool→Option V)(a b:V):Option V:=match b with
 | .none=>(match a with
  | .none=>k true
  | .int _=>k false
  | .str _=>k false
  | .tup _=>k false
  | _=>none)
 | _=>none
noncomputable def inop(a b:V):Option V :=
 none
noncomputable def Zes(op:CmpOp)(a b:V):Option V:=match op with
 | .Lt=>int2 (fun i j=>some (.bool (decide (i < j)))) none a b
 | .LtE=>int2 (fun i j=>some (.bool (decide (i≤j)))) none a b
 | .Gt=>int2 (fun i j=>some (.bool (decide (i > j)))) none a b
 | .GtE=>int2 (fun i j=>some (.bool (decide (i ≥ j)))) none a b
 | .Eq=>int2 (fun i j=>some (.bool (i == j))) (str2 (fun i j=>some (.bool (i == j))) ((veq a b).map .bool) a b) a b
 | .NotEq=>int2 (fun i j=>some (.bool (i != j))) (str2 (fun i j=>some (.bool (i != j))) ((veq a b).map fun c=>.bool (!c)) a b) a b
 | .In=>str2 (fun y x=>some (.bool (Zdn y x))) (inop a b) a b
 | .NotIn=>str2 (fun y x=>some (.bool (!Zdn y x))) none a b
 | .Is=>isNn (fun c=>some (.bool c)) a b
 | .IsNot=>isNn (fun c=>some (.bool (!c))) a b
section
variable{prog:Program}{w:World}{B:Base}{f:Fx}{A:Around}{E:Value→Shared→Prop}{ω:Wd}{st:St}{s:Shared}
theorem Op.here{t:Sem Value}{b:Bool}(R:Rel B f ω st s)(h:∀ (Q:Value→Shared→Prop) (E:Value→Shared→Prop),Q (.bool b) s→wpAny (model prog w) A t Q E s):Op prog w B f A ω st s t (.bool b) :=
 fun E=>h _ E ⟨ω,.refl ω,.bool b,R⟩
theorem Zpq{k:Bool→Option V}{a b r:V}{x y:Value}(ha:VR ω a x)(hb:VR ω b y)(h:isNn k a b=some r):y=.none∧k (x == .none)=some r:=by
 unfold isNn at h
 split at h
 ·obtain rfl:=hb.none_inv
  split at h
  ·obtain rfl:=ha.none_inv; exact ⟨rfl,h⟩
  ·obtain ⟨t,rfl⟩:=ha.int_inv; exact ⟨rfl,h⟩
  ·obtain ⟨t,rfl⟩:=ha.str_inv; exact ⟨rfl,h⟩
  ·obtain ⟨a,_,_,rfl,_,_⟩:=ha.tup_inv; exact ⟨rfl,h⟩
  ·exact nn h
 ·exact nn h
theorem Zjw(R:Rel B f ω st s){op:CmpOp}{a b r:V}{x y:Value}{g:Int→Int→Bool}(ha:VR ω a x)(hb:VR ω b y)(e:int2 (fun i j=>some (.bool (g i j))) none a b=some r)
  (h:∀ i j t u (Q:Value→Shared→Prop) (E:Value→Shared→Prop),Q (.bool (g i j)) s→wpAny (model prog w) A (compareOp op (.int i t) (.int j u)) Q E s):Op prog w B f A ω st s (compareOp op x y) r:=by
 rcases Zcf e with ⟨i,j,rfl,rfl,e⟩ | e
 ·cases e;obtain ⟨t,rfl⟩:=ha.int_inv;obtain ⟨u,rfl⟩:=hb.int_inv;exact Op.here R fun Q E q=>h _ _ _ _ Q E q
 ·exact nn e
theorem Zsv(R:Rel B f ω st s){a b:V}{x y:Value}{c:Bool}(ha:VR ω a x)(hb:VR ω b y)(h:veq a b=some c):∃ d d' as bs,Reads s.heap x d as∧Reads s.heap y d' bs∧d.canLay0=true∧d'.canLay0=true∧min d.depth d'.depth≤64∧c=PyData.eqv d d':=by
 unfold veq at h
 split at h
 ·rename_i d d' e1 e2
  split at h
  ·rename_i hh
   cases h;obtain ⟨as,p⟩:=ha.reads R.keep e1;obtain ⟨bs,q⟩:=hb.reads R.keep e2;exact ⟨d,d',as,bs,p,q,hh.1,hh.2.1,hh.2.2,rfl⟩
  ·exact nn h
 ·exact nn h
theorem inop_ok(R:Rel B f ω st s)(hu:A.units + 64 < cLine){a b r:V}{x y:Value}(ha:VR ω a x)(hb:VR ω b y)(e:inop a b=some r):Op prog w B f A ω st s (compareOp .In x y) r:=by
 unfold inop at e;exact nn e
theorem Zqf(R:Rel B f ω st s)(hu:A.units + 64 < cLine){op:CmpOp}{a b r:V}{x y:Value}(ha:VR ω a x)(hb:VR ω b y)(e:Zes op a b=some r):Op prog w B f A ω st s (compareOp op x y) r:=by
 cases op with
 | Lt=>exact Zjw R ha hb e fun _ _ _ _ Q E q=>P.lt_int q
 | LtE=>exact Zjw R ha hb e fun _ _ _ _ Q E q=>P.le_int q
 | Gt=>exact Zjw R ha hb e fun _ _ _ _ Q E q=>P.gt_int q
 | GtE=>exact Zjw R ha hb e fun _ _ _ _ Q E q=>P.ge_int q
 | Eq =>
  rcases Zcf e with ⟨i,j,rfl,rfl,e⟩ | e
  ·cases e;obtain ⟨t,rfl⟩:=ha.int_inv;obtain ⟨u,rfl⟩:=hb.int_inv;exact Op.here R fun Q E q=>P.eq_int q
  ·rcases Zeh e with ⟨i,j,rfl,rfl,e⟩ | e
   ·cases e;obtain ⟨t,rfl⟩:=ha.str_inv;obtain ⟨u,rfl⟩:=hb.str_inv;exact Op.here R fun Q E q=>P.eq_str q
   ·obtain ⟨c,hc,rfl⟩:=Yv.mp e;obtain ⟨d,d',as,bs,p,q,h1,h2,h3,rfl⟩:=Zsv R ha hb hc;exact Op.here R fun Q E qq=>PySem.SeqAt.compareEq_reads p q h1 h2 (by lia) qq
 | NotEq =>
  rcases Zcf e with ⟨i,j,rfl,rfl,e⟩ | e
  ·cases e;obtain ⟨t,rfl⟩:=ha.int_inv;obtain ⟨u,rfl⟩:=hb.int_inv;exact Op.here R fun Q E q=>P.ne_int q
  ·rcases Zeh e with ⟨i,j,rfl,rfl,e⟩ | e
   ·cases e;obtain ⟨t,rfl⟩:=ha.str_inv;obtain ⟨u,rfl⟩:=hb.str_inv;exact Op.here R fun Q E q=>P.ne_str q
   ·obtain ⟨c,hc,rfl⟩:=Yv.mp e;obtain ⟨d,d',as,bs,p,q,h1,h2,h3,rfl⟩:=Zsv R ha hb hc;exact Op.here R fun Q E qq=>PySem.SeqAt.compareNe_reads p q h1 h2 (by lia) qq
 | In =>
  rcases Zeh e with ⟨i,j,rfl,rfl,e⟩ | e
  ·cases e;obtain ⟨t,rfl⟩:=ha.str_inv;obtain ⟨u,rfl⟩:=hb.str_inv;exact Op.here R fun Q E q=>P.in_str (by rw [Zo]; exact q)
  ·exact inop_ok R hu ha hb e
 | NotIn =>
  rcases Zeh e with ⟨i,j,rfl,rfl,e⟩ | e
  ·cases e;obtain ⟨t,rfl⟩:=ha.str_inv;obtain ⟨u,rfl⟩:=hb.str_inv;exact Op.here R fun Q E q=>P.notIn_str (by rw [Zo]; exact q)
  ·cases e
 | Is =>
  obtain ⟨rfl,e⟩:=Zpq (k:=fun c=>some (.bool c)) ha hb e;cases e;exact Op.here R fun Q E q=>is_none q
 | IsNot =>
  obtain ⟨rfl,e⟩:=Zpq (k:=fun c=>some (.bool (!c))) ha hb e;cases e;exact Op.here R fun Q E q=>isNot_none q
noncomputable def Zmy(cells:List Cell):V→Option Bool
 | .none=>some false
 | .bool b=>some b
 | .int i=>some (i != 0)
 | .str x=>if x.length≤Zc then some (decide (x≠[])) else none
 | .ref n=>match cells[n]? with
  | some (.list vs)=>if vs.length≤Zc then some (decide (vs≠[])) else none
  | _=>none
 | .mat _=>some true
 | _=>none
end
end Mine
namespace Mine
abbrev PE:=(V→St→Prop)→St→Prop
abbrev PB:=(Bool→St→Prop)→St→Prop
abbrev PL:=(List V→St→Prop)→St→Prop
inductive Fl where
 | next | brk | cont
 | ret (v:V)
abbrev PX:=(Fl→St→Prop)→St→Prop
noncomputable def pC(v:V):PE:=fun Q st=>Q v st
noncomputable def pVar(i:Nat):PE:=fun Q st=>∃ v,st.loc[i]?=some (some v)∧Q v st
noncomputable def pBin(op:Operator)(P₁ P₂:PE):PE:=fun Q=>P₁ fun a=>P₂ fun b st=>∃ r,Zmj op a b=some r∧Q r st
noncomputable def pCmp(op:CmpOp)(P₁ P₂:PE):PE:=fun Q=>P₁ fun a=>P₂ fun b st=>∃ r,Zes op a b=some r∧Q r st
noncomputable def pIte(T:PB)(P₁ P₂:PE):PE:=fun Q=>T fun b st=>(b=true→P₁ Q st)∧(b=false→P₂ Q st)
noncomputable def pNil:PL:=fun Q st=>Q [] st
noncomputable def Za(P:PE)(Ps:PL):PL:=fun Q=>P fun v=>Ps fun vs st=>Q (v :: vs) st
noncomputable def pTup(Ps:PL):PE:=fun Q=>Ps fun vs st=>vs.length≤Zc∧Q (.tup vs) st
noncomputable def pLst(Ps:PL):PE:=fun Q=>Ps fun vs st=>vs.length≤Zc∧Q (.lst vs) st
noncomputable def pNew(Ps:PL):PE:=fun Q=>Ps fun vs st=>vs.length≤Zc∧Q (.ref st.cells.length) { st with cells:=st.cells++[.list vs] }
noncomputable def tE(P:PE):PB:=fun Q=>P fun v st=>∃ b,Zmy st.cells v=some b∧Q b st
noncomputable def tNot(T:PB):PB:=fun Q=>T fun b st=>Q (!b) st
noncomputable def tAnd(T U:PB):PB:=fun Q=>T fun b st=>(b=true→U Q st)∧(b=false→Q false st)
noncomputable def tOr(T U:PB):PB:=fun Q=>T fun b st=>(b=true→Q true st)∧(b=false→U Q st)
section
variable{prog:Program}{w:World}{B:Base}{f:Fx}{A:Around}{E:Value→Shared→Prop}{ω:Wd}{st:St}{s:Shared}
theorem Zbj(R:Rel B f ω st s){n:Nat}{a:Addr}{vs:List V}(e:ω.cs[n]?=some a)(c:st.cells[n]?=some (.list vs)):∃ ws k,s.heap.get? a=some (lstO ws k)∧VRs ω vs ws:=R.cells n a _ e c
theorem Zlx:typeLookup (.type "re.Match") "__bool__"=pure none:=by rw [typeLookup_type,builtinLookup_eq_fast]; kernel_rfl
theorem Znn:typeLookup (.type "re.Match") "__len__"=pure none:=by rw [typeLookup_type,builtinLookup_eq_fast]; kernel_rfl
theorem Zlj{u:Addr}{a b c d z:Value}{T:Addr}{Q:Bool→Shared→Prop}(hu:s.heap.get? u=some (matO a b c d z T))(h:Q true s):wpAny (model prog w) A (truthy (.ref u)) Q E s:=by
 have hT:s.TypeIs (.ref u) "re.Match":=⟨_,hu,rfl⟩;have f1:=Zlx;have f2:=Znn;delta truthy callSpecial?
 repeat (any_goals (first | assumption | wp_step))
theorem Zee(R:Rel B f ω st s){v:V}{x:Value}{b:Bool}(h:VR ω v x)(e:Zmy st.cells v=some b){Q:Bool→St→Prop}(q:Q b st) :
  wpAny (model prog w) A (truthy x) (PostB B f ω Q) E s:=by
 delta Zmy at e
 split at e
 ·cases e; obtain rfl:=h.none_inv; exact truthy_none ⟨st,ω,.refl ω,R,q⟩
 ·cases e; obtain rfl:=h.bool_inv; exact wpAny_truthy_bool ⟨st,ω,.refl ω,R,q⟩
 ·cases e; obtain ⟨t,rfl⟩:=h.int_inv; exact P.truthy_int ⟨st,ω,.refl ω,R,q⟩
 ·rename_i y
  split at e
  case isFalse=>exact nn e
  rename_i hl
  cases e;obtain ⟨t,rfl⟩:=h.str_inv;refine P.truthy_str (by rw [Zo]; delta Zc at hl; lia) ?_;rw [Zo];have:((y.length:Int) != 0)=decide (y≠[]):=by cases y <;> simp [bne]; lia
  rw [this];exact ⟨st,ω,.refl ω,R.toks,q⟩
 ·rename_i n
  split at e
  ·rename_i vs hc
   split at e
   case isFalse=>exact nn e
   rename_i hl
   cases e;cases h with
   | ref hn =>
    obtain ⟨ws,k,ho,hr⟩:=Zbj R hn hc;refine wpAny_truthy_list (items:=ws.toArray) ⟨_,ho,rfl,k,rfl⟩ (by rw [List.size_toArray,← hr.length]; delta Zc at hl; lia) ?_;have:(!ws.toArray.isEmpty)=decide (vs≠[]):=by
     have hlen:=hr.length;cases ws <;> cases vs <;> simp_all
    rw [this];exact ⟨st,ω,.refl ω,R.toks,q⟩
  ·exact nn e
 ·cases e;cases h with
  | @mat _ u T a b c d z g n hu hT=>exact Zlj (R.keep _ _ hu) ⟨st,ω,.refl ω,R,q⟩
 ·exact nn e
theorem ev_none{k:Nat}{pos:Pos}{env:Env}:EV prog w B f A (eval (.Constant .none k pos) env) (pC .none):=fun E ω st s Q R h=>wpAny_Constant_none ⟨_,st,ω,.refl ω,.none,R,h⟩
theorem ev_bool{b:Bool}{k:Nat}{pos:Pos}{env:Env}:EV prog w B f A (eval (.Constant (.bool b) k pos) env) (pC (.bool b)):=fun E ω st s Q R h=>wpAny_Constant_bool ⟨_,st,ω,.refl ω,.bool b,R,h⟩
theorem ev_int{i:Int}{k:Nat}{pos:Pos}{env:Env}:EV prog w B f A (eval (.Constant (.int i) k pos) env) (pC (.int i)):=fun E ω st s Q R h=>wpAny_Constant_int ⟨_,st,ω,.refl ω,.int i _,R.toks,h⟩
theorem ev_str{x:Str}{k:Nat}{pos:Pos}{env:Env}:EV prog w B f A (eval (.Constant (.str x) k pos) env) (pC (.str x.cps.toList)):=fun E ω st s Q R h =>
 wpAny_Constant_str ⟨_,st,ω,.refl ω,(by have:=VR.str (ω:=ω) x.cps.toList s.toks; simpa using this),R.toks,h⟩
theorem ev_var(ok:f.Ok){i:Nat}{x:Str}{pos:Pos}(hx:f.names[i]?=some x)(hd:(x == ("__debug__":Str))=false):EV prog w B f A (eval (.Name x pos) f.env) (pVar i):=by
 rintro E ω st s Q R ⟨v,hv,q⟩;obtain ⟨m,F,hl⟩:=R.frame;obtain ⟨y,hy,hr⟩:=hl i x v hx hv;exact wpAny_Name (wpAny_loadName_local (env:=f.env) ok.1 (ok.2.2.1 x (Yw hx)) F.ns hy ⟨v,st,ω,.refl ω,hr,R,q⟩) hd
theorem ev_bin{l r:Expr}{op:Operator}{pos:Pos}{env:Env}{P₁ P₂:PE}(h₁:EV prog w B f A (eval l env) P₁)(h₂:EV prog w B f A (eval r env) P₂):EV prog w B f A (eval (.BinOp l op r pos) env) (pBin op P₁ P₂):=by
 intro E ω st s Q R h;refine wpAny_BinOp (h₁.to R h (fun x s₁ a st₁ ω₁ l₁ va R₁ h'=>?_));refine h₂.to R₁ h' (fun y s₂ b st₂ ω₂ l₂ vb R₂ q0=>?_);obtain ⟨r,e,q⟩:=q0;exact up ((binop_ok R₂ (va.mono l₂) vb e).post q) fun _ _ z=>z.le (l₁.trans l₂)
theorem ev_cmp(hu:A.units + 64 < cLine){l r:Expr}{op:CmpOp}{pos:Pos}{env:Env}{P₁ P₂:PE}(h₁:EV prog w B f A (eval l env) P₁)(h₂:EV prog w B f A (eval r env) P₂)(hm:behindInMarks op r=false) :
  EV prog w B f A (eval (.Compare l [op] [r] pos) env) (pCmp op P₁ P₂):=by
 intro E ω st s Q R h;refine wpAny_Compare1 (h₁.to R h (fun x s₁ a st₁ ω₁ l₁ va R₁ h'=>?_)) hm;refine h₂.to R₁ h' (fun y s₂ b st₂ ω₂ l₂ vb R₂ q0=>?_);obtain ⟨r,e,q⟩:=q0;exact up ((Zqf R₂ hu (va.mono l₂) vb e).post q) fun _ _ z=>z.le (l₁.trans l₂)
theorem ev_ite{t b o:Expr}{pos:Pos}{env:Env}{T:PB}{P₁ P₂:PE}(h:EB prog w B f A (isTrue t env (eval t env)) T)(h₁:EV prog w B f A (eval b env) P₁)(h₂:EV prog w B f A (eval o env) P₂) :
  EV prog w B f A (eval (.IfExp t b o pos) env) (pIte T P₁ P₂):=by
 intro E ω st s Q R hq;refine wpAny_IfExp (h.to R hq (fun c s₁ st₁ ω₁ l₁ R₁ q0=>?_));obtain ⟨q₁,q₂⟩:=q0;cases c with
 | true=>exact up (h₁ E ω₁ st₁ s₁ _ R₁ (q₁ rfl)) fun _ _ z=>z.le l₁
 | false=>exact up (h₂ E ω₁ st₁ s₁ _ R₁ (q₂ rfl)) fun _ _ z=>z.le l₁
end
end Mine
namespace Mine
abbrev fits(i:Int):Prop:=-4611686018427387904 < i∧i < 4611686018427387904
noncomputable def vget(vs:List V)(i:Int):Option V:=if fits i then (seqIndex? i vs.length).bind (vs[·]?) else none
noncomputable def vidx1(cells:List Cell)(i:Int):V→Option V
 | .str x=>if fits i then ((seqIndex? i x.length).bind (x[·]?)).map fun c=>.str [c] else none
 | .lst vs=>vget vs i
 | .tup vs=>vget vs i
 | .ref n=>match cells[n]? with
  | some (.list vs)=>vget vs i
  | _=>none
 | _=>none
noncomputable def vidx(cells:List Cell)(a:V):V→Option V
 | .int i=>vidx1 cells i a
 | _=>none
theorem Zeq{i:Int}(h:fits i):-2 ^ 63≤i∧i < 2 ^ 63:=⟨Int.le_trans (by decide) (Int.le_of_lt h.1),Int.lt_trans h.2 (by decide)⟩
theorem Zor{vs:List V}{i:Int}{r:V}(e:vget vs i=some r):fits i∧∃ j,seqIndex? i vs.length=some j∧vs[j]?=some r:=by
 unfold vget at e
 by_cases h:fits i
 ·rw [if_pos h] at e; exact ⟨h,Yac.mp e⟩
 ·rw [if_neg h] at e; exact nn e
noncomputable def pIdx(P₁ P₂:PE):PE:=fun Q=>P₁ fun a=>P₂ fun b st=>∃ r,vidx st.cells a b=some r∧Q r st
theorem Zjg{n k:Nat}{i:Int}(hi:i=k)(hk:k < n):seqIndex? i n=some k:=by
 subst hi;unfold seqIndex?;rw [if_neg (Int.not_lt.mpr (Int.natCast_nonneg k))];exact if_pos (Bool.and_eq_true_iff.mpr ⟨decide_eq_true (Yad k),decide_eq_true (Int.ofNat_lt.mpr hk)⟩)
theorem seq_neg{n j:Nat}{i:Int}(hi:i < 0)(hj:i + n=j):seqIndex? i n=some j:=by
 unfold seqIndex?;rw [if_pos hi,hj];exact if_pos (Bool.and_eq_true_iff.mpr ⟨decide_eq_true (Yad j),decide_eq_true (by lia)⟩)
theorem Zcg{k:Nat}{i:Int}(hi:i=k)(hk:k < 4611686018427387904):fits i:=hi ▸ ⟨Int.lt_of_lt_of_le (by decide) (Yad k),Int.ofNat_lt.mpr hk⟩
theorem Zej{n:Nat}(h:n≠0):seqIndex? (-1) n=some (n - 1):=seq_neg (by decide) (by rw [Int.ofNat_sub (Nat.pos_of_ne_zero h),Int.add_comm]; rfl)
theorem Zlm{k n m:Nat}(h:k≤n)(hn:n < m)(hm:m≤4611686018427387904:=by decide):k < 4611686018427387904:=Yd (Yh h hn) hm
noncomputable def Zay(e:Expr):Bool:=Nat.blt e.ctorIdx 25
section
variable{prog:Program}{w:World}{B:Base}{f:Fx}{A:Around}{E:Value→Shared→Prop}{ω:Wd}{st:St}{s:Shared}
theorem Zfv{l:Addr}{ws:List Value}{k:Int}{t:Tok}{j:Nat}{x:Value}{Q:Value→Shared→Prop}(hl:s.heap.IsList l ws.toArray)(hf:fits k)(hj:seqIndex? k ws.length=some j)(hx:ws[j]?=some x)(h:Q x s) :
  wpAny (model prog w) A (getItem (.ref l) (.int k t)) Q E s:=by
 unfold fits at hf;unfold seqIndex? at hj
 by_cases h0:k < 0
 ·rw [if_pos h0] at hj;dsimp only at hj
  split at hj
  ·rename_i hh
   cases hj;simp only [Bool.and_eq_true,decide_eq_true_eq] at hh;exact wpAny_getItem_list_neg hl h0 (by rw [List.size_toArray]; lia) (by lia) (by rw [List.size_toArray]; simpa using hx) h
  ·exact nn hj
 ·rw [if_neg h0] at hj;dsimp only at hj
  split at hj
  ·rename_i hh
   cases hj;exact wpAny_getItem_list hl (by lia) (by lia) (by simpa using hx) h
  ·exact nn hj
theorem Zdj{slice:Expr}(h:Zay slice=true)(o i:Value):subscripted slice false o i=operate [o,i] (getItem o i):=by
 cases slice <;> first | rfl | exact absurd h Yy
theorem Zps(R:Rel B f ω st s){value slice:Expr}(hs:Zay slice=true){i:Int}{u:Tok}{r:V}{vs:List V}{ws:List Value}{l:Addr}(hl:s.heap.IsList l ws.toArray)(r1:VRs ω vs ws)(e:vget vs i=some r):Op prog w B f A ω st s (subscriptTail value slice (.ref l) (.int i u)) r:=by
 intro E;obtain ⟨hf,j,hj,hv⟩:=Zor e;obtain ⟨z,hz,hr⟩:=r1.get hv;exact tail_any hl.typeIs slot_list_getitem.lookup (Zfv hl hf (r1.length ▸ hj) hz ⟨ω,.refl ω,hr,R⟩) (Zdj hs _ _)
theorem idx_tup(R:Rel B f ω st s){value slice:Expr}(hs:Zay slice=true){i:Int}{u:Tok}{r:V}{vs:List V}{ws:List Value}{l:Addr}(ht:IsTup s.heap l ws.toArray)(r1:VRs ω vs ws)(e:vget vs i=some r):Op prog w B f A ω st s (subscriptTail value slice (.ref l) (.int i u)) r:=by
 intro E;obtain ⟨hf,j,hj,hv⟩:=Zor e;obtain ⟨z,hz,hr⟩:=r1.get hv;exact item_tupleT ht (Zeq hf).1 (Zeq hf).2 (r1.length ▸ hj) hz ⟨ω,.refl ω,hr,R⟩ (Zdj hs _ _)
theorem idx_str(R:Rel B f ω st s){value slice:Expr}(hs:Zay slice=true){i:Int}{t u:Tok}{r:V}{x:List Nat}(e:vidx1 st.cells i (.str x)=some r):Op prog w B f A ω st s (subscriptTail value slice (.str ⟨x.toArray⟩ t) (.int i u)) r:=by
 intro E;replace e:(if fits i then ((seqIndex? i x.length).bind (x[·]?)).map fun c=>V.str [c] else none)=some r:=e
 by_cases hf:fits i
 ·rw [if_pos hf] at e;obtain ⟨c,hc,rfl⟩:=Yv.mp e;refine tail_any (T:="str") (id:="str.__getitem__") rfl F.slot_str_getitem.lookup (P.getItem_str (c:=c) ?_ ?_ ⟨ω,.refl ω,.str [c] _,R.toks⟩) (Zdj hs _ _)
  ·rw [Bool.or_eq_false_iff]; exact ⟨decide_eq_false (Int.not_lt.mpr (Zeq hf).1),decide_eq_false (Int.not_le.mpr (Zeq hf).2)⟩
  ·rw [Zo]; simpa using hc
 ·rw [if_neg hf] at e; exact nn e
theorem idx_ok(R:Rel B f ω st s){value slice:Expr}(hs:Zay slice=true){a b r:V}{x y:Value}(ha:VR ω a x)(hb:VR ω b y)(e:vidx st.cells a b=some r):Op prog w B f A ω st s (subscriptTail value slice x y) r:=by
 cases b with
 | int i =>
  obtain ⟨u,rfl⟩:=hb.int_inv;clear hb;cases a with
  | str x' =>
   obtain ⟨t,rfl⟩:=ha.str_inv;exact idx_str R hs e
  | lst vs =>
   obtain ⟨l,ws,n,rfl,e1,r1⟩:=ha.lst_inv;exact Zps R hs ⟨_,R.keep _ _ e1,rfl,n,rfl⟩ r1 e
  | tup vs =>
   obtain ⟨l,ws,n,rfl,e1,r1⟩:=ha.tup_inv;exact idx_tup R hs ⟨_,R.keep _ _ e1,rfl,n,rfl⟩ r1 e
  | ref n =>
   have e':(match st.cells[n]? with | some (.list vs)=>vget vs i | _=>none)=some r:=e;clear e;generalize hc:st.cells[n]?=o at e';cases o with
   | none=>cases e'
   | some c =>
    cases c with
    | list vs =>
     cases ha with
     | ref hn =>
      obtain ⟨ws,k,ho,r1⟩:=Zbj R hn hc;exact Zps R hs ⟨_,ho,rfl,k,rfl⟩ r1 e'
    | _=>cases e'
  | _=>cases e
 | _=>exact nn e
theorem ev_idx{v i:Expr}{pos:Pos}{env:Env}{P₁ P₂:PE}(h₁:EV prog w B f A (eval v env) P₁)(h₂:EV prog w B f A (eval i env) P₂)(hs:Zay i=true):EV prog w B f A (eval (.Subscript v i pos) env) (pIdx P₁ P₂):=by
 intro E ω st s Q R h;refine Subscript_ (h₁.to R h (fun x s₁ a st₁ ω₁ l₁ va R₁ h'=>?_));refine h₂.to R₁ h' (fun y s₂ b st₂ ω₂ l₂ vb R₂ q0=>?_);obtain ⟨r,e,q⟩:=q0;exact up ((idx_ok R₂ hs (va.mono l₂) vb e).post q) fun _ _ z=>z.le (l₁.trans l₂)
theorem Zzz{e:Expr}{env:Env}{P:PE}(h:EV prog w B f A (eval e env) P)(he:isTrue e env (eval e env)=(do let v ← eval e env; standAt e.pos; holding [v] (truthy v))):EB prog w B f A (isTrue e env (eval e env)) (tE P):=by
 intro E ω st s Q R hq;refine isTrue_plain (h.to R hq (fun x s₁ v st₁ ω₁ l₁ va R₁ q0=>?_)) he;obtain ⟨b,e,q⟩:=q0;exact up (Zee R₁ va e q) fun _ _ z=>z.le l₁
theorem eb_cmp(hu:A.units + 64 < cLine){l r:Expr}{op:CmpOp}{pos:Pos}{env:Env}{whole:Sem Value}{P₁ P₂:PE}(h₁:EV prog w B f A (eval l env) P₁)(h₂:EV prog w B f A (eval r env) P₂)(hm:behindInMarks op r=false) :
  EB prog w B f A (isTrue (.Compare l [op] [r] pos) env whole) (tE (pCmp op P₁ P₂)):=by
 intro E ω st s Q R h;refine wpAny_isTrue_Compare1 (h₁.to R h (fun x s₁ a st₁ ω₁ l₁ va R₁ h'=>?_)) hm;refine h₂.to R₁ h' (fun y s₂ b st₂ ω₂ l₂ vb R₂ q0=>?_);obtain ⟨r,e,c,hc,q⟩:=q0;refine up (Zqf R₂ hu (va.mono l₂) vb e E) (fun z s₃ z0=>?_);obtain ⟨ω₃,l₃,vz,R₃⟩:=z0;exact up (Zee R₃ vz hc q) fun _ _ z=>z.le ((l₁.trans l₂).trans l₃)
theorem eb_not{x:Expr}{pos:Pos}{env:Env}{whole:Sem Value}{T:PB}(h:EB prog w B f A (isTrue x env (eval x env)) T):EB prog w B f A (isTrue (.UnaryOp .Not x pos) env whole) (tNot T):=by
 intro E ω st s Q R hq;exact isTrue_not (h.to R hq fun c s₁ st₁ ω₁ l₁ R₁ q=>⟨st₁,ω₁,l₁,R₁,q⟩)
theorem eb_and1{x:Expr}{pos:Pos}{env:Env}{whole:Sem Value}{T:PB}(h:EB prog w B f A (isTrue x env (eval x env)) T):EB prog w B f A (isTrue (.BoolOp .And [x] pos) env whole) T:=by
 intro E ω st s Q R hq;refine isTrue_and (up (h E ω st s _ R hq) (fun c s₁ z=>?_));cases c with
 | true=>exact isTrue_and_nil z
 | false=>exact z
theorem eb_and{x:Expr}{xs:List Expr}{pos:Pos}{env:Env}{whole:Sem Value}{T U:PB}(h:EB prog w B f A (isTrue x env (eval x env)) T)(h':EB prog w B f A (isTrue (.BoolOp .And xs pos) env whole) U):EB prog w B f A (isTrue (.BoolOp .And (x :: xs) pos) env whole) (tAnd T U):=by
 intro E ω st s Q R hq;refine isTrue_and (h.to R hq (fun c s₁ st₁ ω₁ l₁ R₁ q0=>?_));obtain ⟨q₁,q₂⟩:=q0;cases c with
 | true=>exact up (h' E ω₁ st₁ s₁ _ R₁ (q₁ rfl)) fun _ _ z=>z.le l₁
 | false=>exact ⟨st₁,ω₁,l₁,R₁,q₂ rfl⟩
theorem eb_or1{x:Expr}{pos:Pos}{env:Env}{whole:Sem Value}{T:PB}(h:EB prog w B f A (isTrue x env (eval x env)) T):EB prog w B f A (isTrue (.BoolOp .Or [x] pos) env whole) T:=by
 intro E ω st s Q R hq;refine isTrue_or (up (h E ω st s _ R hq) (fun c s₁ z=>?_));cases c with
 | true=>exact z
 | false=>exact isTrue_or_nil z
theorem eb_or{x:Expr}{xs:List Expr}{pos:Pos}{env:Env}{whole:Sem Value}{T U:PB}(h:EB prog w B f A (isTrue x env (eval x env)) T)(h':EB prog w B f A (isTrue (.BoolOp .Or xs pos) env whole) U):EB prog w B f A (isTrue (.BoolOp .Or (x :: xs) pos) env whole) (tOr T U):=by
 intro E ω st s Q R hq;refine isTrue_or (h.to R hq (fun c s₁ st₁ ω₁ l₁ R₁ q0=>?_));obtain ⟨q₁,q₂⟩:=q0;cases c with
 | true=>exact ⟨st₁,ω₁,l₁,R₁,q₁ rfl⟩
 | false=>exact up (h' E ω₁ st₁ s₁ _ R₁ (q₂ rfl)) fun _ _ z=>z.le l₁
inductive PostL(B:Base)(f:Fx)(ω:Wd)(Q:List V→St→Prop)(xs:List Value)(s':Shared):Prop
 | mk (vs:List V) (st':St) (ω':Wd) (l:ω.Le ω') (r:VRs ω' vs xs) (R:Rel B f ω' st' s') (q:Q vs st')
noncomputable def EL(prog:Program)(w:World)(B:Base)(f:Fx)(A:Around)(t:Sem (List Value))(P:PL):Prop :=
 ∀ (E:Value→Shared→Prop) (ω:Wd) (st:St) (s:Shared) (Q:List V→St→Prop),Rel B f ω st s→P Q st→wpAny (model prog w) A t (PostL B f ω Q) E s
theorem EL.to{t:Sem (List Value)}{P:PL}{Q:List V→St→Prop}{Q':List Value→Shared→Prop}(h:EL prog w B f A t P)(R:Rel B f ω st s)(q:P Q st)
  (k:∀ x s' v st' ω',ω.Le ω'→VRs ω' v x→Rel B f ω' st' s'→Q v st'→Q' x s'):wpAny (model prog w) A t Q' E s:=up (h E ω st s Q R q) fun x s' z=>z.casesOn (k x s')
theorem el_nil{env:Env}{pos:Pos}:EL prog w B f A (spliced (backTo pos (starEach [] env))) pNil:=fun E ω st s Q R h=>spliced_none ⟨[],st,ω,.refl ω,.nil,R,h⟩
theorem el_cons{env:Env}{pos:Pos}{e:Expr}{es:List Expr}{P:PE}{Ps:PL}(h:EV prog w B f A (eval e env) P)(h':EL prog w B f A (spliced (backTo pos (starEach es env))) Ps)(he:starEach (e :: es) env=(false,eval e env) :: starEach es env) :
  EL prog w B f A (spliced (backTo pos (starEach (e :: es) env))) (Za P Ps):=by
 intro E ω st s Q R hq;refine spliced_more (h.to R hq (fun x s₁ v st₁ ω₁ l₁ va R₁ q=>?_)) he;refine h'.to R₁ q (fun xs s₂ vs st₂ ω₂ l₂ vb R₂ q=>?_);exact ⟨v :: vs,st₂,ω₂,l₁.trans l₂,.cons (va.mono l₂) vb,R₂,q⟩
theorem ev_tup{es:List Expr}{k:Nat}{pos:Pos}{env:Env}{Ps:PL}(h:EL prog w B f A (spliced (backTo pos (starEach es env))) Ps):EV prog w B f A (eval (.Tuple es k pos) env) (pTup Ps):=by
 intro E ω st s Q R hq;refine Tuple_ (h.to R hq (fun xs s₁ vs st₁ ω₁ l₁ va R₁ q0=>?_));obtain ⟨hz,q⟩:=q0;obtain ⟨l,R'⟩:=R₁.push (o:=tupO xs 0) (k:=s₁.toks) rfl;exact wpAny_newTuple ⟨.tup vs,st₁,_,l₁.trans l,.tup Wd.add_self (va.mono l),R',q⟩ (by rw [← va.length,← sizeTop_eq]; exact hz)
theorem ev_lst{es:List Expr}{pos:Pos}{env:Env}{Ps:PL}(h:EL prog w B f A (spliced (backTo pos (starEach es env))) Ps):EV prog w B f A (eval (.List es pos) env) (pLst Ps):=by
 intro E ω st s Q R hq;refine List_ (h.to R hq (fun xs s₁ vs st₁ ω₁ l₁ va R₁ q0=>?_));obtain ⟨hz,q⟩:=q0;obtain ⟨l,R'⟩:=R₁.push (o:=lstO xs 0) (k:=s₁.toks) rfl;exact wpAny_newList ⟨.lst vs,st₁,_,l₁.trans l,.lst Wd.add_self (va.mono l),R',q⟩ (by rw [← va.length,← sizeTop_eq]; exact hz)
end
end Mine
end
section
open PySem PySem.W PySem.Calls PyProof.Rows
namespace Mine
inductive FR(ω:Wd):Fl→Flow→Prop
 | next:FR ω .next .next
 | brk:FR ω .brk .brk
 | cont:FR ω .cont .cont
 | ret {v:V} {x:Value}:VR ω v x→FR ω (.ret v) (.ret x)
inductive PostX(B:Base)(f:Fx)(ω:Wd)(Q:Fl→St→Prop)(x:Flow)(s':Shared):Prop
 | mk (v:Fl) (st':St) (ω':Wd) (l:ω.Le ω') (r:FR ω' v x) (R:Rel B f ω' st' s') (q:Q v st')
noncomputable def EX(prog:Program)(w:World)(B:Base)(f:Fx)(A:Around)(t:Sem Flow)(P:PX):Prop :=
 ∀ (E:Value→Shared→Prop) (ω:Wd) (st:St) (s:Shared) (Q:Fl→St→Prop),Rel B f ω st s→P Q st→wpAny (model prog w) A t (PostX B f ω Q) E s
theorem PostX.le{B:Base}{f:Fx}{ω ω':Wd}(l:ω.Le ω'){Q:Fl→St→Prop}{x:Flow}{s:Shared}(h:PostX B f ω' Q x s):PostX B f ω Q x s :=
 h.casesOn fun v st ω₁ a r R q=>⟨v,st,ω₁,l.trans a,r,R,q⟩
noncomputable def St.set(st:St)(i:Nat)(v:V):St:={ st with loc:=st.loc.set i (some v) }
noncomputable def xNil:PX:=fun Q st=>Q .next st
noncomputable def Zb(P Ps:PX):PX:=fun Q=>P fun fl st=>match fl with
 | .next=>Ps Q st
 | fl=>Q fl st
noncomputable def xSet(i:Nat)(P:PE):PX:=fun Q=>P fun v st=>Q .next (st.set i v)
noncomputable def xIf(T:PB)(P₁ P₂:PX):PX:=fun Q=>T fun b st=>(b=true→P₁ Q st)∧(b=false→P₂ Q st)
noncomputable def xRet(P:PE):PX:=fun Q=>P fun v st=>Q (.ret v) st
noncomputable def Zxx:PX:=fun Q st=>Q (.ret .none) st
noncomputable def Zbt(P:PE):PX:=fun Q=>P fun _ st=>Q .next st
noncomputable def Zaf(T:PB):PX:=fun Q=>T fun b st=>b=true∧Q .next st
noncomputable def xBrk:PX:=fun Q st=>Q .brk st
noncomputable def Zdr:PX:=fun Q st=>Q .cont st
noncomputable def Zaq(T:PB)(P O:PX):PX:=fun Q st=>∃ I:Nat→St→Prop,(∃ n,I n st)∧∀ n st,I n st→T (fun b st₁ =>
 (b=true→P (fun fl st₂=>match fl with
  | .next=>∃ m,m < n∧I m st₂
  | .cont=>∃ m,m < n∧I m st₂
  | .brk=>Q .next st₂
  | .ret v=>Q (.ret v) st₂) st₁)∧(b=false→O Q st₁)) st
section
variable{prog:Program}{w:World}{B:Base}{f:Fx}{A:Around}{E:Value→Shared→Prop}{ω:Wd}{st:St}{s:Shared}
theorem EX.to{t:Sem Flow}{P:PX}{Q:Fl→St→Prop}{Q':Flow→Shared→Prop}(h:EX prog w B f A t P)(R:Rel B f ω st s)(q:P Q st)
  (k:∀ x s' v st' ω',ω.Le ω'→FR ω' v x→Rel B f ω' st' s'→Q v st'→Q' x s'):wpAny (model prog w) A t Q' E s:=up (h E ω st s Q R q) fun x s' z=>z.casesOn (k x s')
theorem ex_nil{env:Env}:EX prog w B f A (execs [] env) xNil:=fun E ω st s Q R h=>wpAny_execs_nil ⟨.next,st,ω,.refl ω,.next,R,h⟩
theorem Zvu{env:Env}{c:Stmt}{cs:List Stmt}{P Ps:PX}(h:EX prog w B f A (exec c env) P)(h':EX prog w B f A (execs cs env) Ps):EX prog w B f A (execs (c :: cs) env) (Zb P Ps):=by
 intro E ω st s Q R hq;refine wpAny_execs_cons (h.to R hq (fun x s₁ fl st₁ ω₁ l₁ vf R₁ q=>?_));cases vf with
 | next=>exact up (h' E ω₁ st₁ s₁ _ R₁ q) fun _ _ z=>z.le l₁
 | brk=>exact ⟨.brk,st₁,ω₁,l₁,.brk,R₁,q⟩
 | cont=>exact ⟨.cont,st₁,ω₁,l₁,.cont,R₁,q⟩
 | ret v=>exact ⟨_,st₁,ω₁,l₁,.ret v,R₁,q⟩
theorem Zjd(R:Rel B f ω st s)(ok:f.Ok){i:Nat}{x:Str}{v:V}{y:Value}(hx:f.names[i]?=some x)(hv:VR ω v y){Q:Unit→Shared→Prop}(h:∀ h' k,Rel B f ω (st.set i v) { s with heap:=h',toks:=k }→Q () { s with heap:=h',toks:=k }) :
  wpAny (model prog w) A (storeName f.env x y) Q E s:=by
 obtain ⟨m,hn,hl⟩:=R.fr;refine wpAny_storeName_local (env:=f.env) (ok.2.2.1 x (Yw hx)) hn (fun h' hn' hs=>h h' _ (R.store ok hx hv hn hl hn' hs)) ?_;show (f.scope.kind == .class || (f.scope.kind == .module && f.L != mainGlobals))=false;rw [ok.1]; rfl
theorem ex_set(ok:f.Ok){i:Nat}{x:Str}{e:Expr}{p p':Pos}{P:PE}(hx:f.names[i]?=some x)(h:EV prog w B f A (eval e f.env) P)(hs:swapsWith e (some (.Name x p)) p'.line f.env=pure false):EX prog w B f A (exec (.Assign [.Name x p] e p') f.env) (xSet i P):=by
 intro E ω st s Q R hq;refine wpAny_Assign_Name (h.to R hq (fun y s₁ v st₁ ω₁ l₁ va R₁ q=>?_)) hs;exact Zjd R₁ ok hx va fun h' k R'=>⟨.next,_,ω₁,l₁,.next,R',q⟩
theorem ex_if{t:Expr}{b o:List Stmt}{p:Pos}{env:Env}{T:PB}{P₁ P₂:PX}(h:EB prog w B f A (isTrue t env (eval t env)) T)(h₁:EX prog w B f A (execs b env) P₁)(h₂:EX prog w B f A (execs o env) P₂):EX prog w B f A (exec (.If t b o p) env) (xIf T P₁ P₂):=by
 intro E ω st s Q R hq;refine wpAny_If (h.to R hq (fun c s₁ st₁ ω₁ l₁ R₁ q0=>?_));obtain ⟨q₁,q₂⟩:=q0;cases c with
 | true=>exact up (h₁ E ω₁ st₁ s₁ _ R₁ (q₁ rfl)) fun _ _ z=>z.le l₁
 | false=>exact up (h₂ E ω₁ st₁ s₁ _ R₁ (q₂ rfl)) fun _ _ z=>z.le l₁
theorem ex_ret{e:Expr}{p:Pos}{env:Env}{P:PE}(h:EV prog w B f A (eval e env) P):EX prog w B f A (exec (.Return (some e) p) env) (xRet P):=by
 intro E ω st s Q R hq;show wpAny _ _ (do standAt p; return Flow.ret (← eval e env)) _ _ s;refine wpAny_bind (wpAny_standAt (wpAny_bind (h.to R hq (fun y s₁ v st₁ ω₁ l₁ va R₁ q=>?_))));exact wpAny_pure ⟨.ret v,st₁,ω₁,l₁,.ret va,R₁,q⟩
theorem ex_ret0{p:Pos}{env:Env}:EX prog w B f A (exec (.Return none p) env) Zxx:=fun E ω st s Q R h=>wpAny_Return_none ⟨_,st,ω,.refl ω,.ret .none,R,h⟩
theorem Zvt{p:Pos}{env:Env}:EX prog w B f A (exec (.Pass p) env) xNil:=fun E ω st s Q R h=>wpAny_Pass ⟨_,st,ω,.refl ω,.next,R,h⟩
theorem ex_brk{p:Pos}{env:Env}:EX prog w B f A (exec (.Break p) env) xBrk:=fun E ω st s Q R h=>wpAny_Break ⟨_,st,ω,.refl ω,.brk,R,h⟩
theorem ex_cont{p:Pos}{env:Env}:EX prog w B f A (exec (.Continue p) env) Zdr:=fun E ω st s Q R h=>wpAny_Continue ⟨_,st,ω,.refl ω,.cont,R,h⟩
theorem ex_expr{e:Expr}{p:Pos}{env:Env}{P:PE}(h:EV prog w B f A (eval e env) P)(hi:interactive env=false)(hs:swapsWith e none p.line env=pure false):EX prog w B f A (exec (.Expr e p) env) (Zbt P):=by
 intro E ω st s Q R hq;exact wpAny_Expr_any (h.to R hq (fun y s₁ v st₁ ω₁ l₁ va R₁ q=>⟨.next,st₁,ω₁,l₁,.next,R₁,q⟩)) hi hs
theorem Zvv(hh:A.handled=none){t:Expr}{p:Pos}{env:Env}{T:PB}(h:EB prog w B f A (isTrue t env (eval t env)) T):EX prog w B f A (exec (.Assert t none p) env) (Zaf T):=by
 intro E ω st s Q R hq;refine wpAny_Assert hh (h.to R hq (fun c s₁ st₁ ω₁ l₁ R₁ q0=>?_));obtain ⟨hc,q⟩:=q0;subst hc;exact ⟨.next,st₁,ω₁,l₁,.next,R₁,q⟩
theorem Zzr{t:Expr}{b o:List Stmt}{p:Pos}{env:Env}{T:PB}{P O:PX}(h:EB prog w B f A (isTrue t env (eval t env)) T)(h₁:EX prog w B f A (execs b env) P)(h₂:EX prog w B f A (execs o env) O):EX prog w B f A (exec (.While t b o p) env) (Zaq T P O):=by
 rintro E ω st s Q R ⟨I,⟨n,hn⟩,turn⟩;refine wpAny_While (codeAny_whileLoop (fun n s=>PostB B f ω (fun _ st=>I n st) true s) ?_ n ⟨st,ω,.refl ω,R,hn⟩);rintro n s ⟨st,ω₀,l₀,R,hI⟩;refine h.to R (turn n st hI) (fun c s₁ st₁ ω₁ l₁ R₁ q0=>?_);obtain ⟨q₁,q₂⟩:=q0;cases c with
 | true =>
  refine h₁.to R₁ (q₁ rfl) (fun x s₂ fl st₂ ω₂ l₂ vf R₂ q=>?_);have L:=(l₀.trans l₁).trans l₂;cases vf with
  | next=>obtain ⟨m,hm,hI⟩:=q; exact ⟨m,hm,st₂,ω₂,L,R₂,hI⟩
  | cont=>obtain ⟨m,hm,hI⟩:=q; exact ⟨m,hm,st₂,ω₂,L,R₂,hI⟩
  | brk=>exact ⟨.next,st₂,ω₂,L,.next,R₂,q⟩
  | ret v=>exact ⟨_,st₂,ω₂,L,.ret v,R₂,q⟩
 | false=>exact up (h₂ _ ω₁ st₁ s₁ _ R₁ (q₂ rfl)) fun _ _ z=>z.le (l₀.trans l₁)
end
end Mine
end
section
set_option tactic.hygienic true
open PySem PySem.W PySem.Calls PyProof.Rows
namespace Mine
structure BaseOk(w:World)(B:Base):Prop where
 X:B.K.In B.hb
 nd:B.attrs.Nodup
 few:B.attrs.length≤100
 hd:hasDictIn B.K B.C=true
 hg:∀ x:Str,plainGet B.K B.C x=true
 free:∀ x∈B.attrs,findIn B.K (.ref B.C) x=some none
 hs:findIn B.K (.ref B.C) "__setattr__"=some (some (.builtin "object.__setattr__"))
 hp:plainOver B.K B.C=true
 hash:B.hs=hashStr w
noncomputable def Zax(P:PE)(a:Nat):PE:=fun Q=>P fun v st=>∃ n as u,v=.inst n∧st.cells[n]?=some (.inst as)∧as[a]?=some (some u)∧Q u st
noncomputable def St.setAttr(st:St)(n:Nat)(as:List (Option V))(a:Nat)(u:V):St:={ st with cells:=st.cells.set n (.inst (as.set a (some u))) }
noncomputable def Zlw:V→Bool
 | .glob _=>false
 | _=>true
noncomputable def Zea(P:PE)(O:PE)(a:Nat):PX:=fun Q=>P fun u=>O fun v st=>∃ n as o,v=.inst n∧st.cells[n]?=some (.inst as)∧as[a]?=some o∧Zlw u=true∧Q .next (st.setAttr n as a u)
section
variable{prog:Program}{w:World}{B:Base}{f:Fx}{A:Around}{E:Value→Shared→Prop}{ω:Wd}{st:St}{s:Shared}
theorem VR.handed{v:V}{x:Value}(h:VR ω v x)(hn:Zlw v=true):handedIn x=true:=by
 cases h <;> first | rfl | exact absurd hn Yy
theorem InstAt.of_rel(R:Rel B f ω st s){n:Nat}{x d:Addr}{as:List (Option V)}(e:ω.F x=some (instObj ω.C d))(hd:ω.cs[n]?=some d)(hc:st.cells[n]?=some (.inst as)) :
  ∃ es k,InstAt s.heap x (instObj B.C d) B.C (some (dictOf es k))∧s.heap.get? d=some (dictOf es k)∧as.length=B.attrs.length∧Zoo es∧es.length≤cnt as ∧
   (∀ (i:Nat) (x:Str) (v:V),B.attrs[i]?=some x→as[i]?=some (some v)→∃ y,getL x es=some (some y)∧VR ω v y∧handedIn y=true) ∧
   (∀ (i:Nat) (x:Str),B.attrs[i]?=some x→as[i]?=some none→getL x es=some none)∧∀ x,x ∉ B.attrs→getL x es=some none:=by
 obtain ⟨z,es,k,a,b⟩:=R.cells n d _ hd hc;have q:=R.keep _ _ e;rw [R.cls] at q;exact ⟨es,k,⟨q,rfl,rfl,a⟩,a,z,b⟩
theorem get_ok(O:BaseOk w B)(R:Rel B f ω st s){n a:Nat}{x:Value}{name:Str}{as:List (Option V)}{u:V}(hx:VR ω (.inst n) x)(hc:st.cells[n]?=some (.inst as))(ha:as[a]?=some (some u))(hn:B.attrs[a]?=some name) :
  Op prog w B f A ω st s (getAttr x name true) u:=by
 intro E;cases hx with
 | inst e hd =>
  obtain ⟨es,k,I,_,_,_,_,c,_⟩:=InstAt.of_rel R e hd hc;obtain ⟨y,hy,hv,hh⟩:=c a name u hn ha;obtain ⟨m,F,_⟩:=R.frame;exact get_own F O.X I (O.hg name) O.hd (O.free name (Yw hn)) rfl hy hh ⟨ω,.refl ω,hv,R.toks⟩
theorem Rel.change(R:Rel B f ω st s){h':Heap}{k i:Nat}{d:Addr}{c:Cell}{m:Str→Option Value}(hl:∀ (i:Nat) (x:Str) (v:V),f.names[i]?=some x→st.loc[i]?=some (some v)→∃ y,m x=some y∧VR ω v y)
  (hn:h'.Ns f.L m) (hd:ω.cs[i]?=some d) (ot:∀ b o,b≠f.L→b≠d→s.heap.get? b=some o→h'.get? b=some o) (hc:CR B ω h' d c) (hk1:s.toks≤k:=by (repeat constructor) <;> assumption):Rel B f ω { st with cells:=st.cells.set i c } { s with heap:=h',toks:=k }:=by
 have md:d∈ω.cs:=Yw hd;refine ⟨fun a o e=>ot a o (R.neF e (.head _)) (R.neF e (.tail _ md)) (R.keep a o e),fun a o e=>⟨ot a o (R.neH e (.head _)) (R.neH e (.tail _ md)) (R.held a o e).1,(R.held a o e).2⟩,R.base,R.above,⟨m,hn,hl⟩,by rw [List.length_set]; exact R.size,fun j b c' h1 h2=>?_,R.dis,R.off,R.gens,R.cls,Yg R.tk hk1,R.bx⟩;have hb:b≠f.L:=fun e=>(Yu.mp R.dis).1 (e ▸ Yw h1)
 by_cases hj:j=i
 ·subst hj;rw [hd] at h1; cases h1;have h2':(st.cells.set j c)[j]?=some c':=h2;rw [List.getElem?_set_self'] at h2';cases q:st.cells[j]? with
  | none=>rw [q] at h2'; cases h2'
  | some _=>rw [q] at h2'; cases h2'; exact hc
 ·have h2':(st.cells.set i c)[j]?=some c':=h2;rw [List.getElem?_set_ne (Ne.symm hj)] at h2';have hbd:b≠d:=fun e=>by
   obtain ⟨l1,e1⟩:=Yi.mp h1;obtain ⟨l2,e2⟩:=Yi.mp hd;exact hj (Zda (Yu.mp R.dis).2 l1 l2 (e1.trans (e.trans e2.symm)))
  have:=R.cells j b c' h1 h2';cases c' with
  | list vs=>obtain ⟨ws,n,a,b'⟩:=this; exact ⟨ws,n,ot _ _ hb hbd a,b'⟩
  | inst as=>obtain ⟨z,es,n,a,b'⟩:=this; exact ⟨z,es,n,ot _ _ hb hbd a,b'⟩
  | box u=>obtain ⟨o,y,a,b'⟩:=this; exact ⟨o,y,ot _ _ hb hbd a,b'⟩
  | dct ks vs=>obtain ⟨lo,o,ws,a,b'⟩:=this; exact ⟨lo,o,ws,ot _ _ hb hbd a,b'⟩
theorem Zsw{d:Addr}{o o':Obj}:∀ {l:List (Addr × Obj)},(l.map (·.1)).Nodup→(d,o)∈l→Upd d o o' l (l.map fun p=>if p.1=d then (d,o') else p)
 | [],_,h=>nomatch h
 | p :: r,hn,h=>by
  rw [List.map_cons,List.nodup_cons] at hn
  by_cases hp:p.1=d
  ·have:p=(d,o):=by
    rcases Ym.mp h with e | h
    ·exact e.symm
    ·exact absurd (by rw [hp]; exact Yae (f:=(·.1)) h) hn.1
   subst this;have hr:∀ q∈r,q.1≠d:=fun q hq e=>hn.1 (by rw [← e]; exact Yae (f:=(·.1)) hq);have e:r.map (fun p=>if p.1=d then (d,o') else p)=r:=by
    conv=>rhs; rw [← List.map_id r]
    exact Yaf fun q hq=>by rw [if_neg (hr q hq)]; rfl
   rw [List.map_cons,if_pos rfl,e];exact .head hr
  ·rw [List.map_cons,if_neg hp];refine .tail hp (Zsw hn.2 ?_)
   rcases Ym.mp h with e | h
   ·exact absurd (by rw [← e]) hp
   ·exact h
theorem Zju{g:Nat→Option (Addr × Obj)}(hg:∀ a p,g a=some p→p.1=a):∀ l:List Nat,((l.filterMap g).map (·.1)).Sublist l
 | []=>.slnil
 | a :: l=>by
  rw [List.filterMap_cons]
  split
  ·exact (Zju hg l).cons a
  ·rename_i p e
   rw [List.map_cons,hg a p e];exact (Zju hg l).cons_cons a
theorem Zmm(hb:Heap)(L:Addr)(h:Heap):((Zfd hb L h).map (·.1)).Nodup:=by
 refine List.Sublist.nodup (Zju (fun a p e=>?_) _) List.nodup_range
 split at e
 ·exact nn e
 ·split at e
  ·exact nn e
  ·obtain ⟨o,_,rfl⟩:=Yv.mp e; rfl
theorem set_ok(O:BaseOk w B)(R:Rel B f ω st s){n a:Nat}{x y:Value}{name:Str}{as:List (Option V)}{u:V}{o:Option V}(hx:VR ω (.inst n) x)(hc:st.cells[n]?=some (.inst as))(ha:as[a]?=some o)(hn:B.attrs[a]?=some name)
  (hu:VR ω u y) (hh:Zlw u=true) {Q:Unit→Shared→Prop} (h:∀ h' k,Rel B f ω (st.setAttr n as a u) { s with heap:=h',toks:=k }→Q () { s with heap:=h',toks:=k }):wpAny (model prog w) A (setAttr x name y) Q E s:=by
 cases hx with
 | @inst _ x d e hd =>
  obtain ⟨es,k,I,hD,hz,hpl,hlen,c1,c2,c3⟩:=InstAt.of_rel R e hd hc;obtain ⟨m,F,hl⟩:=R.frame;have md:d∈f.L :: ω.cs:=.tail _ (Yw hd);have dL:d≠f.L:=fun q=>(Yu.mp R.dis).1 (q ▸ Yw hd);have dn:B.hb.get? d=none:=by
   cases q:B.hb.get? d with
   | none=>rfl
   | some o'=>have:=R.base d o' q; rw [(R.off d md).1] at this; exact nn this
  have mem:(d,dictOf es k)∈Zfd B.hb f.L s.heap:=allNews_mem.mpr ⟨dL,dn,hD⟩;have hget:(getL name es).isSome=true:=by rw [Zy hpl]; rfl
  have memA:name∈B.attrs:=Yw hn;have hlen':(putL name (PyData.keyHash w.params name) (.str name (s.toks + 1)) y es).length≤cnt (as.set a (some u)):=by
   cases o with
   | none =>
    have q:=c2 a name hn ha;rw [Zy hpl] at q;have q':es.find? (·.key.isStr name)=none:=by
     cases z:es.find? (·.key.isStr name) with
     | none=>rfl
     | some e=>rw [z] at q; cases q
    rw [Zlt q',cnt_new ha]; exact Yag ‹_›
   | some u' =>
    obtain ⟨y',q,_⟩:=c1 a name u' hn ha;rw [Zy hpl] at q;cases z:es.find? (·.key.isStr name) with
    | none=>rw [z] at q; cases q
    | some e=>rw [Zls z,cnt_old ha]; exact hlen
  have hlast:(as.set a (some u)).length=B.attrs.length:=by rw [List.length_set]; exact hz
  refine set_dict F O.X Zml I rfl O.hs O.hp (by unfold takerIn; rw [O.free name memA]; rfl) O.hd hget rfl (Zsw (Zmm _ _ _) mem) (Yg hlen' (Yg (cnt_le _) (by rw [hlast]; exact Yg O.few (by decide)))) fun h' F' N'=>h h' _ ?_;have look:∀ p∈Zfd B.hb f.L s.heap,h'.get? (if p.1=d then (d,dictOf (putL name (PyData.keyHash w.params name) (.str name (s.toks + 1)) y es) (putN name es k)) else p).1=some (if p.1=d then (d,dictOf (putL name (PyData.keyHash w.params name) (.str name (s.toks + 1)) y es) (putN name es k)) else p).2 :=
   fun p hp=>(N' _ (Yae (f:=fun p:Addr × Obj=>if p.1=d then (d,dictOf (putL name (PyData.keyHash w.params name) (.str name (s.toks + 1)) y es) (putN name es k)) else p) hp)).1
  refine R.change hl F'.ns hd (fun b ob hbL hbd eb=>?_) ⟨hlast,_,putN name es k,?_,Zbw hpl,hlen',fun i z v h1 h2=>?_,fun i z h1 h2=>?_,fun z hz'=>?_⟩
  ·cases q:B.hb.get? b with
   | some o'=>rw [R.hk b o' q] at eb; cases eb; exact F'.keep b _ q
   | none=>have:=look (b,ob) (allNews_mem.mpr ⟨hbL,q,eb⟩); rw [if_neg hbd] at this; exact this
  ·have:=look _ mem; rw [if_pos rfl] at this; exact this
  ·by_cases hi:i=a
   ·subst hi;rw [hn] at h1; cases h1;rw [List.getElem?_set_self',ha] at h2; cases h2;exact ⟨y,by rw [Zy (Zbw hpl),Zhs],hu,hu.handed hh⟩
   ·rw [List.getElem?_set_ne (Ne.symm hi)] at h2;obtain ⟨y',p1,p2,p3⟩:=c1 i z v h1 h2
    have hne:name≠z:=fun q=>hi (by
     subst q;obtain ⟨l1,e1⟩:=Yi.mp h1;obtain ⟨l2,e2⟩:=Yi.mp hn
     exact Zda O.nd l1 l2 (e1.trans e2.symm))
    refine ⟨y',?_,p2,p3⟩;rw [Zy hpl] at p1;rw [Zy (Zbw hpl),Zbi hne]; exact p1
  ·by_cases hi:i=a
   ·subst hi;rw [List.getElem?_set_self',ha] at h2; cases h2
   ·rw [List.getElem?_set_ne (Ne.symm hi)] at h2;have p1:=c2 i z h1 h2
    have hne:name≠z:=fun q=>hi (by
     subst q;obtain ⟨l1,e1⟩:=Yi.mp h1;obtain ⟨l2,e2⟩:=Yi.mp hn
     exact Zda O.nd l1 l2 (e1.trans e2.symm))
    rw [Zy hpl] at p1;rw [Zy (Zbw hpl),Zbi hne]; exact p1
  ·have hne:name≠z:=fun q=>hz' (q ▸ memA);have p1:=c3 z hz';rw [Zy hpl] at p1;rw [Zy (Zbw hpl),Zbi hne]; exact p1
theorem ev_attr(O:BaseOk w B){e:Expr}{env:Env}{name:Str}{pos:Pos}{P:PE}{a:Nat}(h:EV prog w B f A (eval e env) P)(hn:B.attrs[a]?=some name)
  (he:eval (.Attribute e name pos) env=(do let o ← eval e env; standAt pos.atName; let r ← holding [o] (getAttr o name true); letTemporaryGo e o r; pure r)):EV prog w B f A (eval (.Attribute e name pos) env) (Zax P a):=by
 intro E ω st s Q R hq;refine Attribute_any_ (h.to R hq (fun x s₁ v st₁ ω₁ l₁ va R₁ q0=>?_)) he;obtain ⟨n,as,u,hv,hc,ha,q⟩:=q0;subst hv;exact up ((get_ok O R₁ va hc ha hn).post q) fun _ _ z=>z.le l₁
theorem ex_attr(O:BaseOk w B){e o:Expr}{env:Env}{name:Str}{p p':Pos}{P Po:PE}{a:Nat}(h:EV prog w B f A (eval e env) P)(ho:EV prog w B f A (eval o env) Po)(hn:B.attrs[a]?=some name)(hs:swapsWith e (some (.Attribute o name p)) p'.line env=pure false) :
  EX prog w B f A (exec (.Assign [.Attribute o name p] e p') env) (Zea P Po a):=by
 intro E ω st s Q R hq;refine plainObj_wpAny_Assign_Attribute (h.to R hq (fun y s₁ u st₁ ω₁ l₁ vu R₁ q₁=>?_)) hs;refine ho.to R₁ q₁ (fun x s₂ v st₂ ω₂ l₂ va R₂ q0=>?_);obtain ⟨n,as,o',hv,hc,ha,hg,q⟩:=q0;subst hv;exact set_ok O R₂ va hc ha hn (vu.mono l₂) hg fun h' k R'=>⟨.next,_,ω₂,l₁.trans l₂,.next,R',q⟩
end
end Mine
namespace Mine
noncomputable def Wd.addC(ω:Wd)(a:Addr):Wd:=⟨ω.F,ω.H,ω.cs++[a],ω.C⟩
theorem Wd.le_addC{ω:Wd}{a:Addr}:ω.Le (ω.addC a):=⟨fun _ _ e=>e,fun _ _ e=>e,⟨[a],rfl⟩,rfl⟩
theorem Wd.addC_get{ω:Wd}{a:Addr}:(ω.addC a).cs[ω.cs.length]?=some a:=by simp [Wd.addC]
section
variable{prog:Program}{w:World}{B:Base}{f:Fx}{A:Around}{E:Value→Shared→Prop}{ω:Wd}{st:St}{s:Shared}
theorem Rel.addC(R:Rel B f ω st s){x:Addr}{c:Cell}(hF:ω.F x=none)(hH:ω.H x=none)(hn:x ∉ f.L :: ω.cs)(hc:CR B (ω.addC x) s.heap x c):Rel B f (ω.addC x) { st with cells:=st.cells++[c] } s:=by
 have l:ω.Le (ω.addC x):=Wd.le_addC;obtain ⟨m,hm,hl⟩:=R.fr;refine ⟨R.keep,R.held,R.base,R.above,⟨m,hm,fun i x v h1 h2=>?_⟩,?_,fun i d c' h1 h2=>?_,?_,?_,R.gens,R.cls,R.tk,bx_le l R.bx⟩
 ·obtain ⟨y,a,b⟩:=hl i x v h1 h2; exact ⟨y,a,b.mono l⟩
 ·show (ω.cs++[_]).length=(st.cells++[c]).length;rw [List.length_append,List.length_append,R.size]; rfl
 ·have h1':(ω.cs++[x])[i]?=some d:=h1;have h2':(st.cells++[c])[i]?=some c':=h2
  by_cases hi:i < ω.cs.length
  ·rw [List.getElem?_append_left hi] at h1';rw [List.getElem?_append_left (R.size ▸ hi)] at h2';exact (R.cells i d c' h1' h2').mono l rfl
  ·have:i=ω.cs.length:=by
    have:=(Yi.mp h1').1;rw [List.length_append] at this;simp at this;lia
   subst this;rw [List.getElem?_append_right (Nat.le_refl _),Nat.sub_self] at h1';rw [R.size,List.getElem?_append_right (Nat.le_refl _),Nat.sub_self] at h2';cases h1'; cases h2';exact hc
 ·show (f.L :: (ω.cs++[x])).Nodup;rw [← List.cons_append];refine List.nodup_append.mpr ⟨R.dis,Yu.mpr ⟨by simp,Yah⟩,fun a ha b hb=>?_⟩;cases Yx.mp hb;exact fun q=>hn (q ▸ ha)
 ·intro a ha;have ha':a∈f.L :: (ω.cs++[x]):=ha;rw [← List.cons_append,List.mem_append] at ha'
  rcases ha' with h | h
  ·exact R.off a h
  ·cases Yx.mp h; exact ⟨hF,hH⟩
theorem Rel.pushCell(R:Rel B f ω st s){o:Obj}{k:Nat}{c:Cell}(hc:∀ h':Heap,h'.get? s.heap.objs.size=some o→CR B (ω.addC s.heap.objs.size) h' s.heap.objs.size c)(ho:o.isFreed=false)(hk1:s.toks≤k:=by (repeat constructor) <;> assumption) :
  Rel B f (ω.addC s.heap.objs.size) { st with cells:=st.cells++[c] } { s with heap:=s.heap.push o,toks:=k } :=
 (R.keeps (h':=s.heap.push o) (k:=k) (fun b o' e=>Yp _ e) hk1).addC R.fresh R.freshH (fun h=>Yl _ (R.cell_lt h)) (hc _ (Yq _ ho))
theorem ev_new{es:List Expr}{pos:Pos}{env:Env}{Ps:PL}(h:EL prog w B f A (spliced (backTo pos (starEach es env))) Ps):EV prog w B f A (eval (.List es pos) env) (pNew Ps):=by
 intro E ω st s Q R hq;refine List_ (h.to R hq (fun xs s₁ vs st₁ ω₁ l₁ va R₁ q0=>?_));obtain ⟨hz,q⟩:=q0;have R':=R₁.pushCell (o:=lstO xs 0) (k:=s₁.toks) (c:=.list vs) (fun h' e=>⟨xs,0,e,va.mono Wd.le_addC⟩) rfl;refine wpAny_newList ⟨.ref st₁.cells.length,_,_,l₁.trans Wd.le_addC,.ref ?_,R',q⟩ (by rw [← va.length,← sizeTop_eq]; exact hz);rw [← R₁.size]; exact Wd.addC_get
structure TopOk(w:World)(B:Base):Prop extends BaseOk w B where
 top:∃ p Zfu mg mb,TopRead p Zfu mg mb B.hb
inductive GlobAt(B:Base):Str→Value→Prop
 | own {x:Str} {v:Value}:nsIn B.K mainGlobals x=some (some v)→GlobAt B x v
 | boot {x:Str} {v:Value}:nsIn B.K mainGlobals x=some none→bootBuiltins x=some v→x≠"__name__"→GlobAt B x v
theorem Zat(O:TopOk w B)(R:Rel B f ω st s){x:Str}{v:Value}{pos:Pos}{Q:Value→Shared→Prop}(G:GlobAt B x v)(hk:f.scope.kind=.function)(hx:f.scope.names.lookup x=some .globalImplicit)(hd:(x == ("__debug__":Str))=false)(h:Q v s) :
  wpAny (model prog w) A (eval (.Name x pos) f.env) Q E s:=by
 obtain ⟨p,Zfu,mg,mb,T⟩:=O.top;obtain ⟨m,F,_⟩:=R.frame;cases G with
 | own e=>exact Name_function_global (env:=f.env) hk hx (loadGlobal_global (env:=f.env) (T.g.keeps F.keep) (mg_of O.X T.g e) h) hd
 | boot e hv hn=>exact Name_function_global (env:=f.env) hk hx (loadGlobal_builtin (env:=f.env) (T.g.keeps F.keep) (mg_none_of O.X T.g e) (T.b.keeps F.keep) ((T.builtins x hn).trans hv) h) hd
theorem ev_glob(O:TopOk w B){x:Str}{v:Value}{V:V}{pos:Pos}(G:GlobAt B x v)(hv:∀ ω,VR ω V v)(hk:f.scope.kind=.function)(hx:f.scope.names.lookup x=some .globalImplicit)(hd:(x == ("__debug__":Str))=false) :
  EV prog w B f A (eval (.Name x pos) f.env) (pC V):=fun E ω st s Q R h=>Zat O R G hk hx hd ⟨V,st,ω,.refl ω,hv ω,R,h⟩
noncomputable def OpS(prog:Program)(w:World)(B:Base)(f:Fx)(A:Around)(ω:Wd)(s:Shared)(t:Sem Value)(r:V)(st':St):Prop :=
 ∀ (E:Value→Shared→Prop),wpAny (model prog w) A t (PostO B f ω st' r) E s
theorem OpS.post{t:Sem Value}{r:V}{st':St}(h:OpS prog w B f A ω s t r st'){Q:V→St→Prop}(q:Q r st'):wpAny (model prog w) A t (Post B f ω Q) E s :=
 up (h E) fun x s' z=>z.casesOn fun ω' l v R=>⟨r,st',ω',l,v,R,q⟩
noncomputable def vlen(cells:List Cell):V→Option Int
 | .str x=>if x.length≤Zc then some x.length else none
 | .lst vs=>if vs.length≤Zc then some vs.length else none
 | .tup vs=>if vs.length≤Zc then some vs.length else none
 | .ref n=>match cells[n]? with
  | some (.list vs)=>if vs.length≤Zc then some vs.length else none
  | _=>none
 | _=>none
theorem len_ok(R:Rel B f ω st s){v:V}{x:Value}{n:Int}(hv:VR ω v x)(e:vlen st.cells v=some n):Op prog w B f A ω st s (call (.builtin "len") [x]) (.int n):=by
 intro E;unfold vlen at e
 split at e
 ·split at e
  case isFalse=>exact nn e
  rename_i y hz
  cases e;obtain ⟨t,rfl⟩:=hv.str_inv;refine P.len_str ?_ ?_
  ·rw [Zo]; unfold Zc at hz; lia
  ·rw [Zo]; exact ⟨ω,.refl ω,.int _ _,R.toks⟩
 ·split at e
  case isFalse=>exact nn e
  rename_i vs hz
  cases e;obtain ⟨a,ws,k,rfl,e1,r1⟩:=hv.lst_inv;refine call_len_list (items:=ws.toArray) ⟨_,R.keep _ _ e1,rfl,k,rfl⟩ (by rw [List.size_toArray,← r1.length]; unfold Zc at hz; lia) ?_;rw [List.size_toArray,← r1.length];exact ⟨ω,.refl ω,.int _ _,R.toks⟩
 ·split at e
  case isFalse=>exact nn e
  rename_i vs hz
  cases e;obtain ⟨a,ws,k,rfl,e1,r1⟩:=hv.tup_inv;refine len_tuple (items:=ws.toArray) ⟨_,R.keep _ _ e1,rfl,k,rfl⟩ (by rw [List.size_toArray,← r1.length]; unfold Zc at hz; lia) ?_;rw [List.size_toArray,← r1.length];exact ⟨ω,.refl ω,.int _ _,R.toks⟩
 ·split at e
  ·rename_i n' vs hc
   split at e
   case isFalse=>exact nn e
   rename_i hz
   cases e;cases hv with
   | ref hn =>
    obtain ⟨ws,k,ho,r1⟩:=Zbj R hn hc;refine call_len_list (items:=ws.toArray) ⟨_,ho,rfl,k,rfl⟩ (by rw [List.size_toArray,← r1.length]; unfold Zc at hz; lia) ?_;rw [List.size_toArray,← r1.length];exact ⟨ω,.refl ω,.int _ _,R.toks⟩
  ·exact nn e
 ·exact nn e
end
end Mine
end
section
open PySem PySem.W PySem.Calls PyProof.Rows
set_option maxRecDepth 8000
namespace Mine
theorem slot_mdget:Slot "method_descriptor" "__get__" "method_descriptor.__get__" :=
 .of (owner:="method_descriptor") (n:="__get__") (by rw [typeLookup_type,builtinLookup_eq_fast]; kernel_rfl) (by decide +kernel) (by decide +kernel) (by decide +kernel)
  (by first | exact .inl (by decide +kernel) | exact .inr (by decide +kernel)) (by rw [isSubtype_type]; kernel_rfl)
theorem Zny:entryFor table "method_descriptor.__get__"=some Builtin.«method_descriptor.__get__»:=entryFor_of_tree (by kernel_rfl)
theorem Zrv(a b c:Value):argsOk "method_descriptor.__get__" ⟨[a,b,c],[]⟩:=by delta argsOk; kernel_rfl
theorem md_set:typeLookup (.type "method_descriptor") "__set__"=pure none:=by rw [typeLookup_type,builtinLookup_eq_fast]; kernel_rfl
theorem Zus:typeLookup (.type "method_descriptor") "__delete__"=pure none:=by rw [typeLookup_type,builtinLookup_eq_fast]; kernel_rfl
theorem Zmz:Manifest.toldItsClass.contains "list.append"=false:=by decide +kernel
section
variable{prog:Program}{w:World}{A:Around}{E:Value→Shared→Prop}{s:Shared}
theorem Zty{a:Addr}{o:Obj}{P:Fin→Shared→Prop}(ho:s.heap.get? a=some o)(hc:o.cls=.type "list")(h:P (.done (.ret (.ref s.heap.objs.size))) { s with heap:=s.heap.push (bmo "list.append" (.ref a)) }) :
  wpAny (model prog w) A (Builtin.«method_descriptor.__get__» ⟨[.builtin "list.append",.ref a,.type "list"],[]⟩) P E s:=by
 have hT:s.TypeIs (.ref a) "list":=⟨o,ho,hc⟩;delta Builtin.«method_descriptor.__get__»;refine wpAny_bind (wpAny_of_eq (a:=(.builtin "list.append",some (.ref a),some (.type "list"))) (by first | rfl | kernel_rfl) ?_);simp only [Zmz]
 repeat (any_goals (first | assumption | wp_step))
 rw [show ".".intercalate ("list.append".cutAt '.').dropLast="list" by decide +kernel];refine wpAny_of_eq (a:=true) (by rw [isSubtype_type]; kernel_rfl) ?_;refine wpAny_pure ?_;exact wpAny_bind (wpAny_newObj_type (wpAny_pure h))
theorem Zgp:typeLookup (.type "method_descriptor") "__get__"=pure (some (.builtin "method_descriptor.__get__")):=slot_mdget.lookup
theorem Zcd{a:Addr}{xs:Array Value}{k:Nat}{u:Tok}{P:Fin→Shared→Prop}(hx:s.heap.get? a=some { cls:=.type "list",data:=.seq xs k })
  (h:P (.done (.ret (.ref s.heap.objs.size))) { s with heap:=s.heap.push (bmo "list.append" (.ref a)) }):wpAny (model prog w) A (Builtin.«object.__getattribute__» ⟨[.ref a,.str "append" u],[]⟩) P E s:=by
 obtain ⟨hp,g,d,tk,os⟩:=s;have hT:(⟨hp,g,d,tk,os⟩:Shared).TypeIs (.ref a) "list":=⟨_,hx,rfl⟩;have f1:=slot_list_append.lookup;have f2:=PySem.F.type_list_append;have f3:=Zgp;have f4:=md_set;have f5:=Zus;delta Builtin.«object.__getattribute__»
 repeat (any_goals (first | assumption | ((with_reducible show wpAny _ _ (call (Value.builtin "method_descriptor.__get__") _ _) _ _ _); refine wpAny_call_entry slot_mdget f2 Zny (Zty hx rfl ⟨_,rfl,?_⟩) (Zrv _ _ _)) | wp_step))
theorem Zhr{a:Addr}{xs:Array Value}{k:Nat}{Q:Value→Shared→Prop}(hx:s.heap.get? a=some { cls:=.type "list",data:=.seq xs k })
  (h:Q (.ref s.heap.objs.size) { s with heap:=s.heap.push (bmo "list.append" (.ref a)),toks:=s.toks + 1 }):wpAny (model prog w) A (getAttr (.ref a) "append" true) Q E s:=by
 obtain ⟨hp,g,d,tk,os⟩:=s;have hT:∀ tk',(⟨hp,g,d,tk',os⟩:Shared).TypeIs (.ref a) "list":=fun _=>⟨_,hx,rfl⟩;have f3:=PySem.F.slot_list_getattribute.lookup;have f4:=PySem.F.slot_list_getattribute.bind (.ref a);have f5:=am_list_getattr_none;delta getAttr getAttrBy
 repeat (any_goals (first | assumption | exact hT _ | ((with_reducible show wpAny _ _ (call (Value.builtin "list.__getattribute__") _ _) _ _ _); refine wpAny_call_entry PySem.F.slot_list_getattribute (hT _) am_entry_list_getattribute (Zcd hx ⟨_,rfl,?_⟩) (PySem.F.args_list_getattribute_2 _ _)) | wp_step))
theorem Zfp{M:Model}{pos:Pos}{u:Addr}{id:String}{self:Value}{args:List (Bool × Sem Value)}{Q:Value→Shared→Prop}(hplain:args.any (·.1)=false)
  (h:wpAny M A (evalArgs (.ref u) true args []) (fun x s₁=>s₁.heap.get? u=some (bmo id self)∧wpAny M A (call (.ref u) x.pos x.kw) Q E s₁) E s):wpAny M A (callWith pos (.ref u) [] args []) Q E s:=by
 delta callWith;refine wpAny_bind (wpAny_holding (wpAny_mono h (fun x s₁ h₁=>wpAny_bind (wpAny_standAt ?_)) fun _ _ x=>x));obtain ⟨ho,hcall⟩:=h₁;simp only [hplain,List.any_nil,Bool.or_false];refine wpAny_bind (m:=keeperOf (.ref u)) ?_;delta keeperOf;refine wpAny_bind (wpAny_load ho ?_);simp only [bmo,show (Value.type "builtin_function_or_method" != Value.type "method")=true by decide,show (Value.type "builtin_function_or_method" == Value.type "builtin_function_or_method" || Value.type "builtin_function_or_method" == Value.type "method-wrapper")=true by decide,if_true];refine wpAny_pure ?_;exact wpAny_bind (wpAny_mono hcall (fun r s₂ hr=>wpAny_bind (wpAny_holding (wpAny_point (wpAny_pure hr)))) fun _ _ x=>x)
theorem Zgb{u:Addr}{id:String}{b:Builtin}{self:Value}{args:List Value}{Q:Value→Shared→Prop}(ho:s.heap.get? u=some (bmo id self))(hq:∀ as,(Code.builtin id as).quiet=true)(he:entryFor table id=some b)
  (hc:∀ (Q':Unit→Shared→Prop) (E':Value→Shared→Prop) (A':Around),Q' () s→wpAny (model prog w) A' (checkBoundCall id ⟨self :: args,[]⟩) Q' E' s)
  (h:∀ A',wpAny (model prog w) A' (b ⟨self :: args,[]⟩) (fun fin s'=>∃ v,fin=.done (.ret v)∧Q v s') E s):wpAny (model prog w) A (call (.ref u) args) Q E s:=by
 refine wpAny_call (codeAny_of_tree ?_);show wpAny _ A.in1 (callAny (.ref u) ⟨args,[]⟩) _ _ s;simp only [callAny];refine wpAny_bind (wpAny_load ho ?_);simp only [bmo,show (Value.type "builtin_function_or_method" == Value.type "method" || Value.type "builtin_function_or_method" == Value.type "builtin_function_or_method" || Value.type "builtin_function_or_method" == Value.type "method-wrapper")=true by decide,if_true];refine Yai (by decide) ?_;refine wpAny_bind (hc _ _ _ ?_);refine wpAny_bind (wpAny_pure (wpAny_pure ?_));refine ⟨hq _,codeAny_builtin he ?_⟩;refine up (h _) (fun fin s' z=>?_);obtain ⟨v,rfl,hv⟩:=z;exact hv
theorem Zet{l:Addr}{o:Obj}{xs:Array Value}{k:Nat}{x:Value}{Q:Unit→Shared→Prop}(ho:s.heap.get? l=some { cls:=.type "list",data:=.seq xs k })(h:Q () s) :
  wpAny (model prog w) A (checkBoundCall "list.append" ⟨[.ref l,x],[]⟩) Q E s:=by
 have hT:s.TypeIs (.ref l) "list":=⟨_,ho,rfl⟩;delta checkBoundCall;have f1:isSubtype (.type "list") (.type "module")=pure false:=by rw [isSubtype_type]; kernel_rfl
 have f2:isSubtype (.type "list") (.type "type")=pure false:=by rw [isSubtype_type]; kernel_rfl
 repeat (any_goals (first | assumption | wp_step))
end
end Mine
end
section
set_option tactic.hygienic true
open PySem PySem.W PySem.Calls PyProof.Rows
namespace Mine
noncomputable def St.upd(st:St)(n:Nat)(vs:List V):St:={ st with cells:=st.cells.set n (.list vs) }
noncomputable def grow(x v:V)(Q:V→St→Prop)(st:St):Prop:=∃ n vs,x=.ref n∧st.cells[n]?=some (.list vs)∧vs.length < Zc∧Q .none (st.upd n (vs++[v]))
noncomputable def Zcy(P:PE)(P':PE):PE:=fun Q=>P fun x st=>(∃ n vs,x=.ref n∧st.cells[n]?=some (.list vs))∧P' (fun v=>grow x v Q) st
noncomputable def Zpj(P:PE):PE:=fun Q=>P fun x st=>∃ n vs,x=.ref n∧st.cells[n]?=some (.list vs)∧Q (.app n) st
noncomputable def Zrf(i:Nat)(P:PE):PE:=fun Q st=>∃ n,st.loc[i]?=some (some (.app n))∧P (fun v=>grow (.ref n) v Q) st
noncomputable def xDel(P₁ P₂:PE):PX:=fun Q=>P₁ fun a=>P₂ fun b st=>∃ n vs i k,a=.ref n∧b=.int i∧st.cells[n]?=some (.list vs)∧fits i∧vs.length≤Zc∧seqIndex? i vs.length=some k∧Q .next (st.upd n (vs.eraseIdx k))
noncomputable def pLen(P:PE):PE:=fun Q=>P fun v st=>∃ n,vlen st.cells v=some n∧Q (.int n) st
noncomputable def Zlg(cells:List Cell):V→Option (List V)
 | .lst vs=>if vs.length≤Zc then some vs else none
 | .ref n=>match cells[n]? with
  | some (.list vs)=>if vs.length≤Zc then some vs else none
  | _=>none
 | _=>none
noncomputable def Zpi(P:PE):PE:=fun Q=>P fun v st=>∃ vs,Zlg st.cells v=some vs∧Q (.tup vs) st
section
variable{prog:Program}{w:World}{B:Base}{f:Fx}{A:Around}{E:Value→Shared→Prop}{ω:Wd}{st:St}{s:Shared}
theorem Rel.setCell(R:Rel B f ω st s){n:Nat}{d:Addr}{h':Heap}{k:Nat}{vs:List V}{ws:List Value}{j:Nat}(hd:ω.cs[n]?=some d)(hs:Heap.SameBut d s.heap h')(ho:h'.get? d=some (lstO ws j))(hv:VRs ω vs ws)(hk1:s.toks≤k:=by (repeat constructor) <;> assumption) :
  Rel B f ω (st.upd n vs) { s with heap:=h',toks:=k }:=by
 obtain ⟨m,hn,hl⟩:=R.fr;have dL:f.L≠d:=fun q=>(Yu.mp R.dis).1 (q ▸ Yw hd);exact R.change hl (hn.sameBut hs dL) hd (fun b o h1 h2 e=>(hs.2 b h2).trans e) ⟨ws,j,ho,hv⟩ hk1
theorem Zvi(R:Rel B f ω st s){n:Nat}{d:Addr}{vs:List V}{v:V}{x:Value}(hd:ω.cs[n]?=some d)(hc:st.cells[n]?=some (.list vs))(hz:vs.length < Zc)(hv:VR ω v x){Q:Value→Shared→Prop}
  (h:∀ h',Rel B f ω (st.upd n (vs++[v])) { s with heap:=h' }→Q .none { s with heap:=h' }) :
  (∀ A',wpAny (model prog w) A' (Builtin.«list.append» ⟨[.ref d,x],[]⟩) (fun fin s'=>∃ v,fin=.done (.ret v)∧Q v s') E s)∧wpAny (model prog w) A (call (.builtin "list.append") [.ref d,x]) Q E s:=by
 obtain ⟨ws,k,ho,r1⟩:=Zbj R hd hc;have hsz:ws.toArray.size≤sizeLine:=by rw [List.size_toArray,← r1.length,← sizeTop_eq]; omega
 have key:∀ h',Heap.SameBut d s.heap h'→h'.get? d=some { cls:=.type "list",data:=.seq (ws.toArray.push x) (k + 1) }→Q .none { s with heap:=h' }:=by
  intro h' hs ho';refine h h' ?_;have e:(ws.toArray.push x)=(ws++[x]).toArray:=by simp
  rw [e] at ho';exact R.setCell (k:=s.toks) hd hs ho' (r1.append (.cons hv .nil))
 refine ⟨fun A'=>?_,append_at ho key hsz⟩;show wpAny _ _ (updateSeq d (·.push x) >>= fun _=>ret .none) _ _ s;refine wpAny_bind (wpAny_updateSeq ho rfl (wpAny_pure ⟨.none,rfl,key _ (Heap.SameBut.update ..) ?_⟩));have e:Obj.mapSeq (·.push x) (lstO ws k)={ cls:=.type "list",data:=.seq (ws.toArray.push x) (k + 1) }:=mapSeq_push _ _ _ _ _;rw [Heap.get?_update_self _ ho (by rw [e]; rfl),e]
noncomputable def Zf(e:Expr):Bool:=!(Nat.beq e.ctorIdx 22)
theorem Zp{e:Expr}(h:Zf e=true)(rest:List Expr)(env:Env):starEach (e :: rest) env=(false,eval e env) :: starEach rest env:=by
 cases e <;> first | rfl | exact absurd h Yy
noncomputable def Zs(e:Expr):Bool:=match e with
 | .Call _ (_ :: _) _ _=>true
 | .Call ..=>false
 | _=>true
theorem Zab{o:Expr}(h:Zs o=true)(name:Str)(env:Env):attributeBase o name env (eval o env)=eval o env:=by
 cases o with
 | Call fn es kw p=>cases es with
  | nil=>cases h
  | cons a b=>cases fn <;> rfl
 | _=>rfl
theorem Zvw{o e:Expr}{apos pos:Pos}{env:Env}{P P':PE}(h:EV prog w B f A (eval o env) P)(h':EV prog w B f A (eval e env) P')(hb:Zs o=true)(he:Zf e=true)(hline:(apos.endLine == pos.line)=true) :
  EV prog w B f A (eval (.Call (.Attribute o "append" apos) [e] [] pos) env) (Zcy P P'):=by
 intro E ω st s Q R hq;have ht:backTo pos (starEach [e] env)=[(false,eval e env)]:=by rw [Zp he]; rfl
 refine wpAny_Call_append (Zab hb _ _) (by rw [ht]; rfl) hline ht (h.to R hq (fun ov s₁ x st₁ ω₁ l₁ vx R₁ q0=>?_));obtain ⟨⟨n,vs,hx,hc⟩,q⟩:=q0;subst hx;cases vx with
 | @ref _ d hd =>
  obtain ⟨ws,k,ho,_⟩:=Zbj R₁ hd hc;refine ⟨d,ws.toArray,rfl,⟨_,k,ho,rfl,rfl,rfl⟩,h'.to R₁ q (fun y s₂ v st₂ ω₂ l₂ vy R₂ q0=>?_)⟩;obtain ⟨n',vs',e1,hc',hz,q'⟩:=q0;cases e1;have hd':ω₂.cs[n]?=some d:=by cases (VR.ref hd).mono l₂ with | ref z=>exact z
  exact (Zvi (A:=A) (E:=E) R₂ hd' hc' hz vy fun h' R'=>⟨.none,_,ω₂,l₁.trans l₂,.none,R',q'⟩).2
theorem Zzx{e:Expr}{env:Env}{pos:Pos}{P:PE}(h:EV prog w B f A (eval e env) P)
  (he:eval (.Attribute e "append" pos) env=(do let o ← eval e env; standAt pos.atName; let r ← holding [o] (getAttr o "append" true); letTemporaryGo e o r; pure r)):EV prog w B f A (eval (.Attribute e "append" pos) env) (Zpj P):=by
 intro E ω st s Q R hq;refine Attribute_any_ (h.to R hq (fun x s₁ v st₁ ω₁ l₁ va R₁ q0=>?_)) he;obtain ⟨n,vs,hv,hc,q⟩:=q0;subst hv;cases va with
 | @ref _ d hd =>
  obtain ⟨ws,k,ho,_⟩:=Zbj R₁ hd hc;obtain ⟨l,R'⟩:=R₁.push (o:=bmo "list.append" (.ref d)) (k:=s₁.toks + 1) rfl;exact Zhr ho ⟨.app n,st₁,_,l₁.trans l,.app Wd.add_self hd,R',q⟩
theorem ev_push(ok:f.Ok){i:Nat}{x:Str}{p pos:Pos}{e:Expr}{P:PE}(hx:f.names[i]?=some x)(hd:(x == ("__debug__":Str))=false)(h:EV prog w B f A (eval e f.env) P)(he:Zf e=true) :
  EV prog w B f A (eval (.Call (.Name x p) [e] [] pos) f.env) (Zrf i P):=by
 rintro E ω st s Q R ⟨n,hv,q⟩;obtain ⟨m,F,hl⟩:=R.frame;obtain ⟨y,hy,hr⟩:=hl i x _ hx hv;cases hr with
 | @app _ u d hu hc =>
  refine Call_Name1 (wpAny_Name (wpAny_loadName_local (env:=f.env) ok.1 (ok.2.2.1 x (Yw hx)) F.ns hy ?_) hd) (by rw [Zp he]; rfl);refine Zfp (id:="list.append") (self:=.ref d) rfl (evalArgs_plain (spliced_cons (h.to R q (fun y s₁ v st₁ ω₁ l₁ vy R₁ q0=>spliced_nil ?_))));obtain ⟨n',vs,e1,hc',hz,q'⟩:=q0;cases e1;have hd':ω₁.cs[n]?=some d:=by cases (VR.ref hc).mono l₁ with | ref z=>exact z
  obtain ⟨ws,k,ho,_⟩:=Zbj R₁ hd' hc';refine ⟨R₁.keep _ _ (l₁.F _ _ hu),Zgb (id:="list.append") (self:=.ref d) (R₁.keep _ _ (l₁.F _ _ hu)) (fun as=>Yaj _ (by decide +kernel)) entry_list_append (fun Q' E' A' z=>Zet (o:=lstO ws k) ho z) ?_⟩;exact (Zvi (A:=A) (E:=E) R₁ hd' hc' hz vy fun h' R'=>⟨.none,_,ω₁,l₁,.none,R',q'⟩).1
theorem ex_del{o i:Expr}{p pos:Pos}{env:Env}{P₁ P₂:PE}(h₁:EV prog w B f A (eval o env) P₁)(h₂:EV prog w B f A (eval i env) P₂):EX prog w B f A (exec (.Delete [.Subscript o i p] pos) env) (xDel P₁ P₂):=by
 intro E ω st s Q R hq;refine wpAny_Delete (wpAny_deleteEach_cons ?_);show wpAny _ _ (do let ov ← eval o env; let iv ← holding [ov] (eval i env); standAt p; holding [ov,iv] (delItem ov iv); release [ov,iv] []) _ _ s;refine wpAny_bind (h₁.to R hq (fun x s₁ a st₁ ω₁ l₁ va R₁ q₁=>?_));refine wpAny_bind (wpAny_holding (h₂.to R₁ q₁ (fun y s₂ b st₂ ω₂ l₂ vb R₂ q0=>?_)));obtain ⟨n,vs,j,k,ea,eb,hc,hf,hz,hk,q⟩:=q0;subst ea eb;obtain ⟨u,rfl⟩:=vb.int_inv;cases va.mono l₂ with
 | @ref _ d hd =>
  obtain ⟨ws,k',ho,r1⟩:=Zbj R₂ hd hc;have hsz:ws.toArray.size≤sizeLine:=by rw [List.size_toArray,← r1.length,← sizeTop_eq]; omega
  have hfit:Builtin.List.listFitsIndex j=true:=by
   unfold fits at hf;unfold Builtin.List.listFitsIndex;rw [Bool.and_eq_true]; exact ⟨decide_eq_true (by omega),decide_eq_true (by omega)⟩
  refine wpAny_bind (wpAny_standAt (wpAny_bind (wpAny_holding (delItem_at ho hfit (by rw [List.size_toArray,← r1.length]; exact hk) (fun h' hs ho'=>?_) hsz))));refine wpAny_release (wpAny_deleteEach_nil ⟨.next,_,ω₂,l₁.trans l₂,.next,R₂.setCell (k:=s₂.toks) hd hs ho' ?_,q⟩);have:∀ {vs:List V} {ws:List Value} (k:Nat),VRs ω₂ vs ws→VRs ω₂ (vs.eraseIdx k) (ws.eraseIdx k):=by
   intro vs
   induction vs with
   | nil=>intro ws k h; cases h; exact .nil
   | cons v vs ih =>
    intro ws k h;cases h with
    | cons a b=>cases k with
     | zero=>exact b
     | succ k=>exact .cons a (ih k b)
  exact this k r1
theorem ev_len(O:TopOk w B){e:Expr}{p pos:Pos}{P:PE}(G:GlobAt B "len" (.builtin "len"))(hk:f.scope.kind=.function)(hx:f.scope.names.lookup ("len":Str)=some .globalImplicit)(h:EV prog w B f A (eval e f.env) P)(he:Zf e=true) :
  EV prog w B f A (eval (.Call (.Name "len" p) [e] [] pos) f.env) (pLen P):=by
 intro E ω st s Q R hq;refine Call_Name1 (Zat O R G hk hx (by decide) ?_) (by rw [Zp he]; rfl);refine PySem.callWith_builtin1 (h.to R hq (fun x s₁ v st₁ ω₁ l₁ va R₁ q0=>?_));obtain ⟨n,hn,q⟩:=q0;exact up ((len_ok R₁ va hn).post q) fun _ _ z=>z.le l₁
theorem Zyd(R:Rel B f ω st s){v:V}{x:Value}{vs:List V}(hv:VR ω v x)(e:Zlg st.cells v=some vs):Op prog w B f A ω st s (call (.type "tuple") [x]) (.tup vs):=by
 intro E;have key:∀ {l:Addr} {ws:List Value} {k:Nat},s.heap.get? l=some (lstO ws k)→VRs ω vs ws→vs.length≤Zc→wpAny (model prog w) A (call (.type "tuple") [.ref l]) (PostO B f ω st (.tup vs)) E s:=by
  intro l ws k ho r1 hz;refine call_tuple_list (items:=ws.toArray) ⟨_,ho,rfl,k,rfl⟩ (fun h' hk=>?_) (by rw [List.size_toArray,← r1.length,← sizeTop_eq]; exact hz);have R':=R.keeps (k:=s.toks) hk;obtain ⟨l',R''⟩:=R'.push (o:=tupO ws 0) (k:=s.toks) rfl;exact ⟨_,l',.tup Wd.add_self (r1.mono l'),R''⟩
 unfold Zlg at e
 split at e
 ·split at e
  case isFalse=>exact nn e
  rename_i hz
  cases e;obtain ⟨a,ws,k,rfl,e1,r1⟩:=hv.lst_inv;exact key (R.keep _ _ e1) r1 hz
 ·split at e
  ·rename_i n vs' hc
   split at e
   case isFalse=>exact nn e
   rename_i hz
   cases e;cases hv with
   | ref hn =>
    obtain ⟨ws,k,ho,r1⟩:=Zbj R hn hc;exact key ho r1 hz
  ·exact nn e
 ·exact nn e
theorem Zzs(O:TopOk w B){e:Expr}{p pos:Pos}{P:PE}(G:GlobAt B "tuple" (.type "tuple"))(hk:f.scope.kind=.function)(hx:f.scope.names.lookup ("tuple":Str)=some .globalImplicit)(h:EV prog w B f A (eval e f.env) P)(he:Zf e=true) :
  EV prog w B f A (eval (.Call (.Name "tuple" p) [e] [] pos) f.env) (Zpi P):=by
 intro E ω st s Q R hq;refine Call_Name1 (Zat O R G hk hx (by decide) ?_) (by rw [Zp he]; rfl);refine PySem.callWith_type1 (h.to R hq (fun x s₁ v st₁ ω₁ l₁ va R₁ q0=>?_));obtain ⟨n,hn,q⟩:=q0;exact up ((Zyd R₁ va hn).post q) fun _ _ z=>z.le l₁
end
end Mine
end
section
open PySem PySem.W PySem.Calls PyProof.Rows
namespace Mine
noncomputable def Room(A:Around)(n:Nat):Prop:=A.handled=none∧A.units + 4 * n + 200 < cLine∧A.depth + 4 * n + 10 < recursionLimit
theorem Zfz{a n k j l:Nat}(h:a + 4 * (n + 1) + k < l)(hj:j≤4):a + j + 4 * n + k < l :=
 Yh (Yak (by rw [Nat.add_assoc]; exact Yal (by rw [Nat.add_comm j]; exact Yal hj _) a) k) h
theorem Room.deeper{A:Around}{n:Nat}(h:Room A (n + 1))(env:Env):Room (A.deeper env) n:=by
 obtain ⟨a,b,c⟩:=h;refine ⟨a,?_,?_⟩
 ·exact Zfz b (by decide)
 ·exact Zfz c (by decide)
theorem Zlp{a n m k l:Nat}(h:a + 4 * n + k < l)(hm:m≤n):a + 4 * m + k < l:=Yh (Yak (Yal (Nat.mul_le_mul_left 4 hm) a) k) h
theorem Zyt{a n k j l:Nat}(h:a + 4 * n + k < l)(hj:j≤k):a + j < l:=Yh (Nat.add_le_add (Yam _ _) hj) h
theorem Room.less{A:Around}{n m:Nat}(h:Room A n)(hm:m≤n):Room A m:=⟨h.1,Zlp h.2.1 hm,Zlp h.2.2 hm⟩
section
variable{prog:Program}{w:World}{B:Base}{f g:Fx}{A:Around}{E:Value→Shared→Prop}{ω ω₂:Wd}{st st₂:St}{s s₂:Shared}
theorem Rel.frameObj(R:Rel B f ω st s):∃ oL,s.heap.get? f.L=some oL∧(∃ es n,oL.data=.dict es n)∧∃ m,(∀ h':Heap,h'.get? f.L=some oL→h'.Ns f.L m)∧∀ (i:Nat) (x:Str) (v:V),f.names[i]?=some x→st.loc[i]?=some (some v)→∃ y,m x=some y∧VR ω v y:=by
 obtain ⟨m,⟨o,es,ep,ho,hd,r⟩,hl⟩:=R.fr;exact ⟨o,ho,⟨es,ep,hd⟩,m,fun h' e=>⟨o,es,ep,e,hd,r⟩,hl⟩
theorem Rel.enter(R:Rel B f ω st s){oL:Obj}(hL:s.heap.get? f.L=some oL){h₀:Heap}{k:Nat}(hk:∀ b o,s.heap.get? b=some o→h₀.get? b=some o){m:Str→Option Value}{loc:List (Option V)}
  (hg:s.heap.objs.size≤g.L) (hn:h₀.Ns g.L m) (hl:∀ (i:Nat) (x:Str) (v:V),g.names[i]?=some x→loc[i]?=some (some v)→∃ y,m x=some y∧VR ω v y) (hb:∀ x n,g.bx.lookup x=some n→∃ d,g.cl.lookup x=some d∧ω.cs[n]?=some d) (hk1:s.toks≤k:=by (repeat constructor) <;> assumption) :
  ω.Le (ω.hold f.L oL)∧Rel B g (ω.hold f.L oL) ⟨loc,st.cells⟩ { s with heap:=h₀,toks:=k }:=by
 have l:ω.Le (ω.hold f.L oL):=Wd.le_hold (R.off _ (.head _)).2;have R':=R.keeps (k:=k) hk hk1;have out:∀ {a o},s.heap.get? a=some o→g.L≠a:=fun e q=>Yl _ (Yd (Yk e) (q ▸ hg));have no:∀ {g':Addr→Option Obj} {p:Addr→Obj→Prop},(∀ a o,g' a=some o→s.heap.get? a=some o)→g' g.L=none:=fun {g' _} h=>by
  cases q:g' g.L with
  | none=>rfl
  | some o=>exact absurd rfl (out (h _ _ q))
 refine ⟨l,R'.keep,fun a o e=>?_,R.base,Yg R.above (Yg (Yf (Yk hL)) hg),⟨m,hn,fun i x v h1 h2=>?_⟩,R.size,fun i d c h1 h2=>(R'.cells i d c h1 h2).mono l rfl,?_,fun a ha=>?_,R.gens,R.cls,Yg R.tk hk1,hb⟩
 ·have e':(if a=f.L then some oL else ω.H a)=some o:=e
  by_cases ha:a=f.L
  ·rw [if_pos ha] at e'; cases e'; rw [ha]; exact ⟨hk _ _ hL,(R.off _ (.head _)).1⟩
  ·rw [if_neg ha] at e'; exact R'.held a o e'
 ·obtain ⟨y,p,q⟩:=hl i x v h1 h2; exact ⟨y,p,q.mono l⟩
 ·rw [List.nodup_cons];exact ⟨fun h=>Yl _ (Yd (R.cell_lt (.tail _ h)) hg),(Yu.mp R.dis).2⟩
 ·show ω.F a=none∧(if a=f.L then some oL else ω.H a)=none
  rcases Ym.mp ha with h | h
  ·subst h;rw [if_neg (out hL)];exact ⟨no (p:=fun _ _=>True) R.keep,no (p:=fun _ _=>True) fun a o e=>(R.held a o e).1⟩
  ·rw [if_neg (fun q:a=f.L=>(List.nodup_cons.mp R.dis).1 (q ▸ h))]; exact R.off a (.tail _ h)
theorem Rel.leave(R:Rel B f ω st s){oL:Obj}(hL:s.heap.get? f.L=some oL){m:Str→Option Value}(hm:∀ h':Heap,h'.get? f.L=some oL→h'.Ns f.L m)
  (hl:∀ (i:Nat) (x:Str) (v:V),f.names[i]?=some x→st.loc[i]?=some (some v)→∃ y,m x=some y∧VR ω v y)
  (l:(ω.hold f.L oL).Le ω₂) (R₂:Rel B g ω₂ st₂ s₂):ω.Le (ω.free ω₂)∧Rel B f (ω.free ω₂) ⟨st.loc,st₂.cells⟩ s₂:=by
 have eL:ω₂.H f.L=some oL:=l.H _ _ Wd.hold_self;have le:ω.Le (ω.free ω₂):=Wd.le_free l;have nH:∀ a o,ω.H a=some o→ω₂.H a=some o:=fun a o e=>l.H a o (Wd.le_hold (R.off _ (.head _)).2 |>.H a o e);have t:ω₂.To (ω.free ω₂):=⟨fun _ _ e=>e,fun _ _ e=>e,rfl⟩;refine ⟨le,R₂.keep,fun a o e=>R₂.held a o (nH a o e),R₂.base,R.above,⟨m,hm _ (R₂.held _ _ eL).1,fun i x v h1 h2=>?_⟩,R₂.size,fun i d c h1 h2=>(R₂.cells i d c h1 h2).map t rfl,?_,fun a ha=>?_,R₂.gens,R₂.cls,R₂.tk,bx_le le R.bx⟩
 ·obtain ⟨y,p,q⟩:=hl i x v h1 h2; exact ⟨y,p,q.mono le⟩
 ·exact Yu.mpr ⟨(fun h=>by have:=(R₂.off _ (.tail _ h)).2; rw [eL] at this; exact nn this.symm),(Yu.mp R₂.dis).2⟩
 ·rcases Ym.mp ha with h | h
  ·subst h; exact ⟨(R₂.held _ _ eL).2,(R.off _ (.head _)).2⟩
  ·refine ⟨(R₂.off a (.tail _ h)).1,?_⟩;cases q:ω.H a with
   | none=>exact q
   | some o=>have:=(R₂.off a (.tail _ h)).2; rw [nH a o q] at this; exact nn this.symm
structure DefAt(B:Base)(fa:Addr)(fd:FuncData)(body:List Stmt)(names:List Str)(np:Nat):Prop where
 obj:∃ o,B.hb.get? fa=some o∧o.data=.func fd
 code:B.hb.CodeRec fd.code fd.qualname
 body:fd.body=.stmts body
 glob:fd.globals=mainGlobals
 clo:fd.closure=[]
 blt:fd.builtins=builtinsNs
 nocell:∀ x∈fd.scope.names,x.2≠.cell
 co:fd.scope.isCoroutine=false
 gen:fd.scope.isGenerator=false
 kind:fd.scope.kind=.function
 nd:names.Nodup
 loc:∀ x∈names,fd.scope.names.lookup x=some .local
 len:np≤names.length
 bind:∀ vs:List Value,vs.length=np→bindArgs fd ⟨vs,[]⟩=pure ((names.take np).zip vs)
noncomputable def DefAt.fx{fa:Addr}{fd:FuncData}{body:List Stmt}{names:List Str}{np:Nat}(_:DefAt B fa fd body names np)(L:Addr):Fx:=⟨fd.qualname++".<locals>.",fd.scope,L,some fa,fd.code,some L,[],names,[]⟩
theorem DefAt.ok{fa:Addr}{fd:FuncData}{body:List Stmt}{names:List Str}{np:Nat}(D:DefAt B fa fd body names np)(L:Addr):(D.fx L).Ok:=⟨D.kind,D.nd,D.loc,fun _ _ e=>nomatch e⟩
structure DefDoes(prog:Program)(w:World)(n:Nat){fa:Addr}{fd:FuncData}{body:List Stmt}{names:List Str}{np:Nat}(D:DefAt B fa fd body names np)(X:PX):Prop where
 run:∀ (L:Addr) (A:Around),Room A n→EX prog w B (D.fx L) A (execs body (D.fx L).env) X
noncomputable def flV:Fl→V
 | .ret v=>v
 | _=>.none
noncomputable def Zwt(np nl:Nat)(X:PX)(vs:List V)(Q:V→St→Prop)(st:St):Prop :=
 vs.length=np∧X (fun fl st₂=>Q (flV fl) ⟨st.loc,st₂.cells⟩) ⟨vs.map some++List.replicate (nl - np) none,st.cells⟩
theorem Zaj{α:Type}{names:List Str}(nd:names.Nodup){xs:List α}{i:Nat}{x:Str}{y:α}(hx:names[i]?=some x)(hy:xs[i]?=some y):(names.zip xs).reverse.lookup x=some y:=by
 induction names generalizing xs i with
 | nil=>cases hx
 | cons n names ih =>
  cases xs with
  | nil=>cases hy
  | cons z xs =>
   rw [List.zip_cons_cons,List.reverse_cons];have hnd:=Yu.mp nd;cases i with
   | zero =>
    cases hx; cases hy;rw [List.lookup_append];have:(names.zip xs).reverse.lookup x=none:=by
     rw [List.lookup_eq_none_iff];intro p hp;have:=List.mem_reverse.mp hp;have:=(List.of_mem_zip (a:=p.1) (b:=p.2) this).1;exact bne_iff_ne.mpr fun q=>hnd.1 (by rw [q]; exact this)
    rw [this]; simp
   | succ i =>
    rw [List.lookup_append,ih hnd.2 hx hy]; rfl
theorem VRs.getElem{vs:List V}{xs:List Value}(h:VRs ω vs xs){i:Nat}{v:V}(e:(vs.map some)[i]?=some (some v)):∃ y,xs[i]?=some y∧VR ω v y:=by
 rw [List.getElem?_map] at e;cases q:vs[i]? with
 | none=>rw [q] at e; cases e
 | some u=>rw [q] at e; cases e; exact h.get q
theorem Zdy{n:Nat}(O:TopOk w B)(R:Rel B f ω st s)(room:Room A (n + 1)){fa:Addr}{fd:FuncData}{body:List Stmt}{names:List Str}{np:Nat}(D:DefAt B fa fd body names np){X:PX}(hX:DefDoes prog w n D X)
  {vs:List V} {xs:List Value} (hv:VRs ω vs xs) {Q:V→St→Prop} (hq:Zwt np names.length X vs Q st):codeAny (model prog w) A (.call (.ref fa) ⟨xs,[]⟩) (fun r s'=>match r with | .ok (.ret v)=>Post B f ω Q v s' | .ok _=>False | .error e=>E e s') s:=by
 obtain ⟨o,ho,hdat⟩:=D.obj;obtain ⟨p,Zfu,mg,mb,T⟩:=O.top;obtain ⟨oL,hL,hdL,m,hm,hl⟩:=R.frameObj;obtain ⟨hlen,hq⟩:=hq;have hxs:xs.length=np:=hv.length.symm.trans hlen;refine codeAny_call_def (binds:=(names.take np).zip xs) (by have:=room.2.2; omega) (R.hk _ _ ho) hdat (T.nolimit.keeps R.hk) (D.code.keeps R.hk) D.body (.of_eq (D.bind xs hxs)) D.nocell ?_ ?_ D.co D.gen D.kind
 ·intro x hx;exact D.loc x.1 (List.mem_of_mem_take (List.of_mem_zip (a:=x.1) (b:=x.2) hx).1)
 ·intro h₀ hns hk;have hen:callEnv fd s.heap.objs.size fa=(D.fx s.heap.objs.size).env:=by
   delta callEnv DefAt.fx Fx.env newEnv;rw [D.glob,D.clo,D.blt]
  rw [hen];have hloc:∀ (i:Nat) (x:Str) (v:V),names[i]?=some x→(vs.map some++List.replicate (names.length - np) none)[i]?=some (some v)→∃ y,((names.take np).zip xs).reverse.lookup x=some y∧VR ω v y:=by
   intro i x v h1 h2
   by_cases hi:i < np
   ·rw [List.getElem?_append_left (by rw [List.length_map,hlen]; exact hi)] at h2;obtain ⟨y,hy,hr⟩:=hv.getElem h2;refine ⟨y,Zaj (D.nd.sublist (Yan _ _)) (i:=i) ?_ hy,hr⟩;rw [List.getElem?_take_of_lt hi]; exact h1
   ·rw [List.getElem?_append_right (by rw [List.length_map,hlen]; omega)] at h2;have:=Yw h2;rw [List.mem_replicate] at this;exact absurd this.2 (fun q=>nomatch q)
  obtain ⟨l,R₁⟩:=R.enter (g:=D.fx s.heap.objs.size) hL (h₀:=h₀) (k:=s.toks + ((names.take np).zip xs).length) hk (Yaa _) hns hloc (fun _ _ e=>nomatch e) (Yam _ _);refine (hX.run s.heap.objs.size _ (room.deeper _)).to R₁ hq (fun x s₂ fl st₂ ω₂ l₂ vf R₂ q=>?_);obtain ⟨le,R₃⟩:=R.leave hL hm hl l₂ R₂;refine ⟨flV fl,⟨st.loc,st₂.cells⟩,_,le,?_,R₃,q⟩;cases vf with
  | next=>exact .none
  | brk=>exact .none
  | cont=>exact .none
  | ret v=>exact v.free
end
end Mine
namespace Mine
section
variable{prog:Program}{w:World}{B:Base}{f:Fx}{A:Around}{E:Value→Shared→Prop}{ω:Wd}{st:St}{s:Shared}
theorem Zfc{F:Value}{es:List Expr}{pos:Pos}{env:Env}{Ps:PL}(hp:es.all Zf=true)(h:EL prog w B f A (spliced (backTo pos (starEach es env))) Ps){Q:List V→St→Prop}(R:Rel B f ω st s)(hq:Ps Q st)
  {Q':Args→Shared→Prop} (k:∀ xs s' vs st' ω',ω.Le ω'→VRs ω' vs xs→Rel B f ω' st' s'→Q vs st'→Q' ⟨xs,[]⟩ s') :
  wpAny (model prog w) A (evalArgs F true (backTo pos (starEach es env)) []) Q' E s:=by
 have h':=h.to (E:=E) R hq k;cases es with
 | nil=>exact wpAny_bind (up h' fun vs s₁ z=>wpAny_holding (wpAny_bind (wpAny_pure (wpAny_bind (wpAny_pure (wpAny_pure z))))))
 | cons e es =>
  rw [Zp (by rw [List.all_cons,Bool.and_eq_true] at hp; exact hp.1)] at h' ⊢;exact evalArgs_plain h'
theorem Post.of_code{fa:Addr}{xs:List Value}{Q:V→St→Prop}{l:ω.Le ω'}(h:codeAny (model prog w) A (.call (.ref fa) ⟨xs,[]⟩) (fun r s'=>match r with | .ok (.ret v)=>Post B f ω' Q v s' | .ok _=>False | .error e=>E e s') s) :
  wpAny (model prog w) A (call (.ref fa) xs []) (Post B f ω Q) E s:=by
 refine up (wpAny_call h) fun _ _ z=>z.le l
noncomputable def pDef(np nl:Nat)(X:PX)(Ps:PL):PE:=fun Q=>Ps fun vs st=>Zwt np nl X vs Q st
theorem ev_def{n:Nat}(O:TopOk w B)(room:Room A (n + 1)){x:Str}{fa:Addr}{fd:FuncData}{body:List Stmt}{names:List Str}{np:Nat}(D:DefAt B fa fd body names np){X:PX}(hX:DefDoes prog w n D X)
  {p pos:Pos} {es:List Expr} {Ps:PL} (G:GlobAt B x (.ref fa)) (hk:f.scope.kind=.function) (hx:f.scope.names.lookup x=some .globalImplicit) (hd:(x == ("__debug__":Str))=false)
  (hp:es.all Zf=true) (h:EL prog w B f A (spliced (backTo pos (starEach es f.env))) Ps):EV prog w B f A (eval (.Call (.Name x p) es [] pos) f.env) (pDef np names.length X Ps):=by
 intro E ω st s Q R hq;refine Call_ (Zat O R G hk hx hd ?_);obtain ⟨o,ho,hdat⟩:=D.obj;refine callWith_function (o:=o) (fd:=fd) (Zfc hp h R hq (fun a s₁ vs st₁ ω₁ l₁ va R₁ q=>?_));refine ⟨⟨R₁.hk _ _ ho,hdat⟩,?_⟩;exact Post.of_code (l:=l₁) (Zdy O R₁ room D hX va q)
structure MethAt(w:World)(B:Base)(name:Str)(fa:Addr):Prop where
 find:findIn B.K (.ref B.C) name=some (some (.ref fa))
 fn:isFn B.K (.ref fa)=true
 noattr:name ∉ B.attrs
noncomputable def Zbf(np nl:Nat)(X:PX)(P:PE)(Ps:PL):PE:=fun Q=>P fun v st=>(∃ n as,v=.inst n∧st.cells[n]?=some (.inst as))∧Ps (fun vs st=>Zwt np nl X (v :: vs) Q st) st
theorem ev_meth{n:Nat}(O:TopOk w B)(room:Room A (n + 1)){name:Str}{fa:Addr}{fd:FuncData}{body:List Stmt}{names:List Str}{np:Nat}(D:DefAt B fa fd body names np){X:PX}(hX:DefDoes prog w n D X)(Mt:MethAt w B name fa)
  {o:Expr} {apos pos:Pos} {es:List Expr} {env:Env} {P:PE} {Ps:PL} (ho:EV prog w B f A (eval o env) P) (hb:Zs o=true) (hline:(apos.endLine == pos.line)=true)
  (hp:es.all Zf=true) (hfew:((backTo pos (starEach es env)).all (fun x=>!x.1) && (backToKw pos (keywordEach [] env)).all (fun x=>x.1.isSome)
   && decide (es.length + ([]:List Keyword).length + (if ([]:List Keyword).isEmpty then 0 else 1) < 30))=true) (h:EL prog w B f A (spliced (backTo pos (starEach es env))) Ps) :
  EV prog w B f A (eval (.Call (.Attribute o name apos) es [] pos) env) (Zbf np names.length X P Ps):=by
 intro E ω st s Q R hq;rw [arm_eval_Call,Zab hb];refine wpAny_bind (ho.to R hq (fun ov s₁ v st₁ ω₁ l₁ va R₁ q0=>?_));obtain ⟨⟨c,as,hv,hc⟩,q⟩:=q0;subst hv;cases va with
 | @inst _ x d e hd =>
  obtain ⟨es',k,I,_,_,_,_,_,_,c3⟩:=InstAt.of_rel R₁ e hd hc;obtain ⟨m,F,_⟩:=R₁.frame;refine wpAny_bind (wpAny_standAt ?_);have hform:methodCallForm (es.length + ([]:List Keyword).length) (backTo pos (starEach es env)) (backToKw pos (keywordEach [] env))=true:=hfew;have hpos:methodCallPos true o env apos pos=pure pos:=by unfold methodCallPos; simp [hline]
  unfold methodCall;rw [hform];refine wpAny_bind (wpAny_holding (method_inst F O.X I (O.hg name) Mt.find Mt.fn (c3 name Mt.noattr) ?_));refine wpAny_bind (wpAny_of_eq hpos ?_);obtain ⟨o',ho',hdat⟩:=D.obj;refine callWith_function (o:=o') (fd:=fd) (Zfc hp h R₁ q (fun a s₂ vs st₂ ω₂ l₂ vb R₂ q₂=>?_));refine ⟨⟨R₂.hk _ _ ho',hdat⟩,?_⟩;exact Post.of_code (l:=l₁.trans l₂) (Zdy O R₂ room D hX (.cons ((VR.inst e hd).mono l₂) vb) q₂)
end
end Mine
namespace Mine
noncomputable def Zul(na np nl:Nat)(X:PX)(Ps:PL):PE:=fun Q=>Ps fun vs st =>
 Zwt np nl X (.inst st.cells.length :: vs) (fun r st'=>r=.none∧Q (.inst st.cells.length) st') { st with cells:=st.cells++[.inst (List.replicate na none)] }
structure MakeAt(w:World)(B:Base)(fI:Addr):Prop where
 makes:makesIn B.K B.C=true
 init:findIn B.K (.ref B.C) "__init__"=some (some (.ref fI))
 fn:isFn B.K (.ref fI)=true
 keep:keepIn B.K (.ref B.C)=true
section
variable{prog:Program}{w:World}{B:Base}{f:Fx}{A:Around}{E:Value→Shared→Prop}{ω:Wd}{st:St}{s:Shared}
theorem Room.created{n:Nat}(h:Room A (n + 1)){C:Addr}{rest:List Value}{kw:List (Str × Value)}:Room (A.under (.builtin "type.__call__" ⟨.ref C :: rest,kw⟩)) n:=by
 obtain ⟨a,b,c⟩:=h;have e1:(Code.builtin "type.__call__" ⟨.ref C :: rest,kw⟩).cUnits=1:=by rfl
 have e2:(Code.builtin "type.__call__" ⟨.ref C :: rest,kw⟩).weight=1:=by rfl
 refine ⟨a,?_,?_⟩
 ·show A.units + (Code.builtin "type.__call__" ⟨.ref C :: rest,kw⟩).cUnits + 4 * n + 200 < cLine; rw [e1]; exact Zfz b (by decide)
 ·show A.depth + (Code.builtin "type.__call__" ⟨.ref C :: rest,kw⟩).weight + 4 * n + 10 < recursionLimit; rw [e2]; exact Zfz c (by decide)
theorem Zek{es:List Expr}(hp:es.all Zf=true)(pos:Pos)(env:Env):(backTo pos (starEach es env)).any (·.1)=false:=by
 have:∀ es:List Expr,es.all Zf=true→(starEach es env).any (·.1)=false:=by
  intro es
  induction es with
  | nil=>intro _; rfl
  | cons e es ih =>
   intro h;rw [List.all_cons,Bool.and_eq_true] at h;rw [Zp h.1,List.any_cons,ih h.2]; rfl
 unfold backTo;rw [List.any_map];exact this es hp
theorem Zvr{es:List Expr}(hp:es.all Zf=true)(hl:es.length < 30)(pos:Pos)(env:Env):((backTo pos (starEach es env)).all (fun x=>!x.1) && (backToKw pos (keywordEach [] env)).all (fun x=>x.1.isSome)
   && decide (es.length + ([]:List Keyword).length + (if ([]:List Keyword).isEmpty then 0 else 1) < 30))=true:=by
 have h1:=Zek hp pos env;have h2:(backTo pos (starEach es env)).all (fun x=>!x.1)=true:=by
  rw [List.all_eq_true];intro x hx;rw [List.any_eq_false] at h1;simpa using h1 x hx
 rw [h2,Bool.true_and,Bool.and_eq_true];exact ⟨rfl,decide_eq_true (by simpa using hl)⟩
theorem make_ok{n:Nat}(O:TopOk w B)(R:Rel B f ω st s)(room:Room A (n + 2)){fI:Addr}{fd:FuncData}{body:List Stmt}{names:List Str}{np:Nat}(D:DefAt B fI fd body names np){X:PX}(hX:DefDoes prog w n D X)(M:MakeAt w B fI)
  {vs:List V} {xs:List Value} (hv:VRs ω vs xs) {Q:V→St→Prop}
  (hq:Zwt np names.length X (.inst st.cells.length :: vs) (fun r st'=>r=.none∧Q (.inst st.cells.length) st') { st with cells:=st.cells++[.inst (List.replicate B.attrs.length none)] }) :
  wpAny (model prog w) A (call (.ref B.C) xs []) (Post B f ω Q) E s:=by
 have X':=O.X.keeps R.hk;refine wpAny_call ?_;obtain ⟨h,g,d,t,os⟩:=s;refine make_core (makes_of X' M.makes) (looks_findIn X' M.init) (fun self=>bind_fn X' self (beq_iff_eq.mp M.fn)) (.inl rfl) ?_
 have R₁:=R.pushCell (o:=dictOf [] 0) (k:=t) (c:=.inst (List.replicate B.attrs.length none)) (fun h' e=>⟨by simp,[],0,e,(fun e he=>nomatch he),by simp,fun i x v h1 h2=>(by
  have:=Yw h2; rw [List.mem_replicate] at this; exact nomatch this.2),fun i x h1 h2=>rfl,fun x hx=>rfl⟩) rfl
 obtain ⟨l,R₂⟩:=R₁.push (o:=instObj B.C h.objs.size) (k:=t) rfl;have hsz:(h.push (dictOf [] 0)).objs.size=h.objs.size + 1:=by rw [Heap.size_push]
 have L2:ω.Le ((ω.addC h.objs.size).add (h.push (dictOf [] 0)).objs.size (instObj B.C h.objs.size)):=Wd.le_addC.trans l;have hi:VR ((ω.addC h.objs.size).add (h.push (dictOf [] 0)).objs.size (instObj B.C h.objs.size)) (.inst st.cells.length) (.ref (h.objs.size + 1)):=by
  refine .inst (d:=h.objs.size) ?_ ?_
  ·rw [← hsz];show (if _ then _ else _)=_;rw [if_pos rfl];show _=some (instObj ω.C _);rw [R.cls]
  ·rw [← R.size];exact Wd.addC_get
 refine codeAny_mono (Zdy (E:=E) O R₂ room.created D hX (.cons hi (hv.mono L2)) hq) ?_;intro r s' hr;cases r with
 | ok fl =>
  cases fl with
  | ret v =>
   obtain ⟨v',st',ω',l',vr,R',e,q⟩:=hr;subst e;exact ⟨vr.none_inv,_,st',ω',L2.trans l',hi.mono l',R',q⟩
  | _=>exact hr.elim
 | error e=>exact hr
theorem ev_make{n:Nat}(O:TopOk w B)(room:Room A (n + 2)){x:Str}{fI:Addr}{fd:FuncData}{body:List Stmt}{names:List Str}{np:Nat}(D:DefAt B fI fd body names np){X:PX}(hX:DefDoes prog w n D X)(M:MakeAt w B fI)
  {p pos:Pos} {es:List Expr} {Ps:PL} (G:GlobAt B x (.ref B.C)) (hk:f.scope.kind=.function) (hx:f.scope.names.lookup x=some .globalImplicit) (hd:(x == ("__debug__":Str))=false)
  (hp:es.all Zf=true) (h:EL prog w B f A (spliced (backTo pos (starEach es f.env))) Ps):EV prog w B f A (eval (.Call (.Name x p) es [] pos) f.env) (Zul B.attrs.length np names.length X Ps):=by
 intro E ω st s Q R hq;refine Call_ (Zat O R G hk hx hd ?_);refine callWith_of (P:=B.K.In) (by rw [Zek hp]; rfl) (keeps_K M.keep) (Zfc hp h R hq (fun a s₁ vs st₁ ω₁ l₁ va R₁ q=>?_));refine ⟨O.X.keeps R₁.hk,?_⟩;exact up (make_ok O R₁ room D hX M va q) fun _ _ z=>z.le l₁
end
end Mine
namespace Mine
abbrev PS:=V→(St→Prop)→St→Prop
noncomputable def Zw(i:Nat):PS:=fun v K st=>K (st.set i v)
noncomputable def Ztt(O:PE)(a:Nat):PS:=fun v K=>O fun o st=>∃ n as u,o=.inst n∧st.cells[n]?=some (.inst as)∧as[a]?=some u∧Zlw v=true∧K (st.setAttr n as a v)
noncomputable def xTwo(S₁ S₂:PS)(P:PE):PX:=fun Q=>P fun v=>S₁ v (S₂ v (Q .next))
noncomputable def sAll:List PS→List V→(St→Prop)→St→Prop
 | S :: Ss,v :: vs,K=>S v (sAll Ss vs K)
 | [],[],K=>K
 | _,_,_=>fun _=>False
noncomputable def Zdq(Ss:List PS)(P:PE):PX:=fun Q=>P fun v st=>∃ vs,v=.tup vs∧vs.length=Ss.length∧sAll Ss vs (Q .next) st
noncomputable def Zmt(Ss:List PS)(P:PE):PX:=fun Q=>P fun v st=>∃ vs,v=.tup vs∧vs.length=Ss.length∧sAll Ss vs.reverse (Q .next) st
inductive PostS(B:Base)(f:Fx)(ω:Wd)(K:St→Prop)(u:Unit)(s':Shared):Prop
 | mk (st':St) (ω':Wd) (l:ω.Le ω') (R:Rel B f ω' st' s') (q:K st')
noncomputable def ES(prog:Program)(w:World)(B:Base)(f:Fx)(A:Around)(t:Value→Sem Unit)(S:PS):Prop :=
 ∀ (E:Value→Shared→Prop) (ω:Wd) (st:St) (s:Shared) (v:V) (x:Value) (K:St→Prop),Rel B f ω st s→VR ω v x→S v K st→wpAny (model prog w) A (t x) (PostS B f ω K) E s
section
variable{prog:Program}{w:World}{B:Base}{f:Fx}{A:Around}{E:Value→Shared→Prop}{ω:Wd}{st:St}{s:Shared}
theorem ES.to{t:Value→Sem Unit}{S:PS}{K:St→Prop}{v:V}{x:Value}{Q':Unit→Shared→Prop}(h:ES prog w B f A t S)(R:Rel B f ω st s)(r:VR ω v x)(q:S v K st)
  (k:∀ u s' st' ω',ω.Le ω'→Rel B f ω' st' s'→K st'→Q' u s'):wpAny (model prog w) A (t x) Q' E s:=up (h E ω st s v x K R r q) fun u s' z=>z.casesOn (k u s')
theorem Znx(ok:f.Ok){i:Nat}{x:Str}{pos:Pos}(hx:f.names[i]?=some x):ES prog w B f A (assign (.Name x pos) f.env) (Zw i):=by
 intro E ω st s v y K R hv h;exact assign_Name (Zjd R ok hx hv fun h' k R'=>⟨_,ω,.refl ω,R',h⟩)
theorem es_bind(ok:f.Ok){i:Nat}{x:Str}(hx:f.names[i]?=some x):ES prog w B f A (bindName f.env x) (Zw i):=by
 intro E ω st s v y K R hv h;exact bindName_ (Zjd R ok hx hv fun h' k R'=>⟨_,ω,.refl ω,R',h⟩)
theorem es_attr(O:TopOk w B){o:Expr}{name:Str}{pos:Pos}{env:Env}{P:PE}{a:Nat}(ho:EV prog w B f A (eval o env) P)(hn:B.attrs[a]?=some name):ES prog w B f A (assign (.Attribute o name pos) env) (Ztt P a):=by
 intro E ω st s v y K R hv h;show wpAny _ _ (do let ov ← holding [y] (eval o env); standAt pos.atName; holding [y,ov] (setAttr ov name y); release [y,ov] []) _ _ s;refine wpAny_bind (wpAny_holding (ho.to R h (fun x s₁ u st₁ ω₁ l₁ vu R₁ q0=>?_)));obtain ⟨n,as,o',hu,hc,ha,hg,q⟩:=q0;subst hu;refine wpAny_bind (wpAny_standAt (wpAny_bind (wpAny_holding (set_ok O.toBaseOk R₁ vu hc ha hn (hv.mono l₁) hg fun h' k R'=>wpAny_release ⟨_,ω₁,l₁,R',q⟩))))
theorem ex_two{t₁ t₂ e:Expr}{env:Env}{pos:Pos}{S₁ S₂:PS}{P:PE}(h₁:ES prog w B f A (assign t₁ env) S₁)(h₂:ES prog w B f A (assign t₂ env) S₂)(h:EV prog w B f A (eval e env) P)
  (he:(assignEach [t₁,t₂] env).map (·.2)=[assign t₁ env,assign t₂ env]):EX prog w B f A (exec (.Assign [t₁,t₂] e pos) env) (xTwo S₁ S₂ P):=by
 intro E ω st s Q R hq;refine wpAny_Assign_two (h.to R hq (fun y s₁ v st₁ ω₁ l₁ va R₁ q=>?_)) he (by unfold swappedStores; cases t₁ <;> first | rfl | (cases e <;> rfl));refine h₁.to R₁ va q (fun _ s₂ st₂ ω₂ l₂ R₂ q₂=>?_);refine h₂.to R₂ (va.mono l₂) q₂ (fun _ s₃ st₃ ω₃ l₃ R₃ q₃=>?_);exact ⟨.next,st₃,ω₃,(l₁.trans l₂).trans l₃,.next,R₃,q₃⟩
inductive ESs(prog:Program)(w:World)(B:Base)(f:Fx)(A:Around):List (Value→Sem Unit)→List PS→Prop
 | nil:ESs prog w B f A [] []
 | cons {t:Value→Sem Unit} {ts:List (Value→Sem Unit)} {S:PS} {Ss:List PS}:ES prog w B f A t S→ESs prog w B f A ts Ss→ESs prog w B f A (t :: ts) (S :: Ss)
theorem ESs.length{ts:List (Value→Sem Unit)}{Ss:List PS}(h:ESs prog w B f A ts Ss):ts.length=Ss.length:=by induction h with | nil=>rfl | cons _ _ ih=>exact congrArg Nat.succ ih
theorem Ztu{ts:List (Value→Sem Unit)}{Ss:List PS}(h:ESs prog w B f A ts Ss):∀ {ω:Wd} {st:St} {s:Shared} {vs:List V} {xs:List Value} {K:St→Prop},Rel B f ω st s→VRs ω vs xs→sAll Ss vs K st →
  wpAny (model prog w) A (assignInOrder ts xs) (PostS B f ω K) E s:=by
 induction h with
 | nil =>
  intro ω st s vs xs K R hv hq;cases vs with
  | nil=>cases hv; exact wpAny_pure ⟨st,ω,.refl ω,R,hq⟩
  | cons _ _=>exact hq.elim
 | @cons t ts S Ss h hs ih =>
  intro ω st s vs xs K R hv hq;cases hv with
  | nil=>exact hq.elim
  | @cons v vs x xs a b =>
   show wpAny _ _ (do holding xs (t x); assignInOrder ts xs) _ _ s;refine wpAny_bind (wpAny_holding (h.to R a hq (fun _ s₁ st₁ ω₁ l₁ R₁ q=>?_)));exact up (ih R₁ (b.mono l₁) q) fun _ _ z=>z.casesOn fun st₂ ω₂ l₂ R₂ q=>⟨st₂,ω₂,l₁.trans l₂,R₂,q⟩
theorem Zpp(hh:A.handled=none)(R:Rel B f ω st s){vs:List V}{x:Value}(hv:VR ω (.tup vs) x){n:Nat}(hn:vs.length=n){Q:List Value→Shared→Prop}(h:∀ xs h',VRs ω vs xs→Rel B f ω st { s with heap:=h' }→Q xs { s with heap:=h' }) :
  wpAny (model prog w) A (unpackItems x n none) Q E s:=by
 obtain ⟨a,ws,k,rfl,e1,r1⟩:=hv.tup_inv;have:n=ws.toArray.size:=by rw [List.size_toArray,← r1.length,hn]
 subst this;refine unpackItems_tuple hh ⟨_,R.keep _ _ e1,rfl,k,rfl⟩ fun h' he=>h _ h' (by simpa using r1) (R.keeps (k:=s.toks) fun b o e=>he b o (Yao (Yk e)) e)
theorem Zvs(hh:A.handled=none){ts:List Expr}{k:Nat}{tp pos:Pos}{e:Expr}{env:Env}{Ss:List PS}{P:PE}(hs:ESs prog w B f A ((assignEach ts env).map (·.2)) Ss)(hst:(assignEach ts env).findIdx? (·.1)=none)(h:EV prog w B f A (eval e env) P)
  (h1:swapsWithSole [.Tuple ts k tp] e pos.line env=pure false) (h2:swappedStores [.Tuple ts k tp] e env=pure none):EX prog w B f A (exec (.Assign [.Tuple ts k tp] e pos) env) (Zdq Ss P):=by
 intro E ω st s Q R hq;refine Assign_Tuple (h.to R hq (fun y s₁ v st₁ ω₁ l₁ va R₁ q0=>?_)) h1 h2;obtain ⟨vs,hv,hl,q⟩:=q0;subst hv;show wpAny _ _ (do standAt tp; unpack y (assignEach ts env)) _ _ _;refine wpAny_bind (wpAny_standAt ?_);unfold unpack;rw [hst];refine wpAny_bind (wpAny_holding (Zpp hh R₁ va (hl.trans (hs.length.symm.trans (by simp))) fun xs h' hx R₂=>?_));exact up (Ztu hs R₂ hx q) fun _ _ z=>z.casesOn fun st₃ ω₃ l₃ R₃ q₃=>⟨.next,st₃,ω₃,l₁.trans l₃,.next,R₃,q₃⟩
theorem VRs.reverse{vs:List V}{xs:List Value}(h:VRs ω vs xs):VRs ω vs.reverse xs.reverse:=by
 induction vs generalizing xs with
 | nil=>cases h; exact .nil
 | cons v vs ih=>cases h with | cons a b=>rw [List.reverse_cons,List.reverse_cons]; exact (ih b).append (.cons a .nil)
theorem ex_swap(hh:A.handled=none){ts:List Expr}{k:Nat}{tp pos:Pos}{e:Expr}{env:Env}{names:List Str}{Ss:List PS}{P:PE}(hs:ESs prog w B f A (names.reverse.map fun n=>bindName env n) Ss)(h:EV prog w B f A (eval e env) P)
  (h1:swapsWithSole [.Tuple ts k tp] e pos.line env=pure false) (h2:swappedStores [.Tuple ts k tp] e env=pure (some names)):EX prog w B f A (exec (.Assign [.Tuple ts k tp] e pos) env) (Zmt Ss P):=by
 intro E ω st s Q R hq;refine Assign_Tuple_swapped (h.to R hq (fun y s₁ v st₁ ω₁ l₁ va R₁ q0=>?_)) h1 h2;obtain ⟨vs,hv,hl,q⟩:=q0;subst hv;refine Zpp hh R₁ va (hl.trans (hs.length.symm.trans (by simp))) fun xs h' hx R₂=>?_;exact up (Ztu hs R₂ hx.reverse q) fun _ _ z=>z.casesOn fun st₃ ω₃ l₃ R₃ q₃=>⟨.next,st₃,ω₃,l₁.trans l₃,.next,R₃,q₃⟩
noncomputable def isStar:Expr→Bool
 | .Starred ..=>true
 | _=>false
noncomputable def Zeg(sc:Scope)(ts:List Expr):List Str:=ts.filterMap fun
  | .Name id pos=>if sc.names.lookup id == some .local && pos.line == (ts.head?.map (·.pos.line)).getD 0 then some id else none
  | _=>none
noncomputable def swp(sc:Scope)(ts vs:List Expr):Option (Option (List Str)) :=
 if !(ts.length == 2 || ts.length == 3) || vs.length != ts.length then some none
 else if vs.any isStar then some none
 else if (Zeg sc ts).length != ts.length || (Zeg sc ts).eraseDups.length != (Zeg sc ts).length then some none
 else if vs.all (foldedForSure 8) then some none
 else if vs.all (constantsAlone 8) then none
 else some (some (Zeg sc ts))
theorem swp_ok(hk:f.scope.kind=.function){ts vs:List Expr}{k k':Nat}{p p':Pos}{r:Option (List Str)}(h:swp f.scope ts vs=some r):swappedStores [.Tuple ts k p] (.Tuple vs k' p') f.env=pure r:=by
 have hb:(f.env.blockKind != .function)=false:=by
  unfold Env.blockKind;rw [show f.env.scope.kind=.function from hk]; rfl
 unfold swp at h;unfold swappedStores
 have e:(ts.filterMap fun
  | .Name id pos=>if f.env.kindOf id == some .local && pos.line == (ts.head?.map (·.pos.line)).getD 0 then some id else none
  | _=>none)=Zeg f.scope ts:=rfl
 have e2:(vs.any fun | .Starred ..=>true | _=>false)=vs.any isStar:=rfl;dsimp only
 split at h
 ·rename_i c
  cases h;rw [if_pos (by rw [Bool.or_eq_true]; exact .inl c)]
 ·rename_i c
  rw [if_neg (by rw [hb,Bool.or_false]; exact c)]
  split at h
  ·rename_i c2
   cases h;refine (if_pos ?_).trans rfl;exact c2
  ·rename_i c2
   refine (if_neg ?_).trans ?_
   ·exact c2
   split at h
   ·rename_i c3
    cases h;refine (if_pos ?_).trans rfl;exact c3
   ·rename_i c3
    refine (if_neg ?_).trans ?_
    ·exact c3
    split at h
    ·rename_i c4
     cases h;exact (if_pos c4).trans rfl
    ·rename_i c4
     refine (if_neg c4).trans ?_
     split at h
     ·exact nn h
     ·rename_i c5
      cases h;exact (if_neg c5).trans rfl
end
end Mine
end
section
set_option tactic.hygienic true
open PySem PySem.W PySem.Calls PyProof.Rows
namespace Mine
noncomputable def Zbr(n:Nat)(d:Int):Option Int→Int
 | none=>d
 | some i=>max 0 (min (if i < 0 then i + n else i) n)
noncomputable def vsl{α:Type}(l:List α)(lo hi:Option Int):List α:=(l.drop (Zbr l.length 0 lo).toNat).take ((Zbr l.length l.length hi).toNat - (Zbr l.length 0 lo).toNat)
theorem Zqh{n:Nat}{d:Int}(h:0≤d∧d≤n):∀ o:Option Int,0≤Zbr n d o∧Zbr n d o≤n
 | none=>h
 | some _=>⟨Int.le_max_left _ _,Int.max_le.mpr ⟨Yad _,Int.min_le_right _ _⟩⟩
theorem clipI_lo(n:Nat)(lo:Option Int):0≤Zbr n 0 lo∧Zbr n 0 lo≤n:=Zqh ⟨Int.le_refl _,Yad _⟩ lo
theorem clipI_hi(n:Nat)(hi:Option Int):0≤Zbr n n hi∧Zbr n n hi≤n:=Zqh ⟨Yad _,Int.le_refl _⟩ hi
theorem clip_lo(n:Nat)(lo:Option Int):∃ a:Nat,Zbr n 0 lo=a∧a≤n:=by
 obtain ⟨h1,h2⟩:=clipI_lo n lo;obtain ⟨a,ha⟩:=Yap h1;exact ⟨a,ha,by rw [ha] at h2; exact Yaq.mp h2⟩
theorem clip_hi(n:Nat)(hi:Option Int):∃ a:Nat,Zbr n n hi=a∧a≤n:=by
 obtain ⟨h1,h2⟩:=clipI_hi n hi;obtain ⟨a,ha⟩:=Yap h1;exact ⟨a,ha,by rw [ha] at h2; exact Yaq.mp h2⟩
theorem Zlr(a b:Nat):sliceRange a b 1=(List.range (b - a)).map fun k=>a + k:=by
 unfold sliceRange;rw [if_pos (by decide)];have e4:∀ n,(List.range n).map (fun k:Nat=>((a:Int) + 1 * (k:Int)).toNat)=(List.range n).map (fun k=>a + k):=fun n=>Yaf fun k _=>by rw [Int.one_mul,← Int.natCast_add,Int.toNat_natCast]
 by_cases h:(a:Int) < b
 ·rw [if_pos h,Int.add_sub_cancel,Int.ediv_one];show List.map _ (List.range ((b:Int) - a).toNat)=_;rw [Int.toNat_sub]; exact e4 _
 ·rw [if_neg h,Nat.sub_eq_zero_of_le (Int.ofNat_le.mp (Int.not_lt.mp h))]; rfl
theorem Zim{α:Type}(l:List α)(a b:Nat)(hb:b≤l.length):(sliceRange a b 1).filterMap (l[·]?)=(l.drop a).take (b - a):=by
 rw [Zlr]
 by_cases h:a≤b
 ·exact StrLaws.picks l _ _ (by rw [Nat.add_sub_cancel' h]; exact hb)
 ·rw [Nat.sub_eq_zero_of_le (Nat.le_of_not_le h)]; rfl
theorem Zmv{α:Type}(l:List α)(lo hi:Option Int):∃ a b:Nat,Zbr l.length 0 lo=a∧Zbr l.length l.length hi=b∧a≤l.length∧b≤l.length∧vsl l lo hi=(l.drop a).take (b - a):=by
 obtain ⟨a,e1,h1⟩:=clip_lo l.length lo;obtain ⟨b,e2,h2⟩:=clip_hi l.length hi;exact ⟨a,b,e1,e2,h1,h2,by unfold vsl; rw [e1,e2]; rfl⟩
theorem Zxh(lo hi:Option Int)(n:Nat):sliceBounds lo hi none n=(Zbr n 0 lo,Zbr n n hi,1):=by
 cases lo <;> cases hi <;> rfl
theorem pick_eq{ws:List Value}{lo hi:Option Int}:slicePick ws.toArray lo hi none=(vsl ws lo hi).toArray:=by
 unfold slicePick;rw [Zxh];obtain ⟨a,b,e1,e2,h1,h2,e3⟩:=Zmv ws lo hi;have:=Zim ws a b h2;simp only [List.size_toArray,List.getElem?_toArray];rw [e1,e2,this,e3]
theorem Zin(lo hi:Option Int)(n:Nat):Builtin.Str.strSliceIndices lo hi 1 n=sliceRange (Zbr n 0 lo) (Zbr n n hi) 1:=by
 cases lo <;> cases hi <;> rfl
theorem Zss{α:Type}(l:List α)(lo hi:Option Int):(vsl l lo hi).Sublist l:=(Yan _ _).trans (List.drop_sublist _ _)
theorem Zqm{α:Type}{l:List α}{lo hi:Option Int}(h:(vsl l lo hi).length=l.length):vsl l lo hi=l:=by
 exact (Zss l lo hi).eq_of_length h
theorem Zrb{x:List Nat}{t:Tok}{l u:Option (Int × Tok)}{s:Shared}{Q:Value→Shared→Prop}(hsz:x.length≤Zc)(h:∀ t' k,Q (.str ⟨(vsl x (l.map (·.1)) (u.map (·.1))).toArray⟩ t') { s with toks:=k }) :
  (sliceMade ⟨x.toArray⟩ t l u none).post Q s:=by
 have key:(slicePicked ⟨x.toArray⟩ l u none).filterMap ((Str.mk x.toArray).cps[·]?)=vsl x (l.map (·.1)) (u.map (·.1)):=by
  unfold slicePicked;rw [show ((Option.map (fun x=>x.fst) (none:Option (Int × Tok))).getD 1)=(1:Int) from rfl,Zin,Zo];obtain ⟨a,b,e1,e2,h1,h2,e3⟩:=Zmv x (l.map (·.1)) (u.map (·.1));have:=Zim x a b h2;simp only [List.getElem?_toArray];rw [e1,e2,this,e3]
 have len:(slicePicked ⟨x.toArray⟩ l u none).length=(vsl x (l.map (·.1)) (u.map (·.1))).length:=by
  unfold slicePicked;rw [show ((Option.map (fun x=>x.fst) (none:Option (Int × Tok))).getD 1)=(1:Int) from rfl,Zin,Zo];obtain ⟨a,b,e1,e2,h1,h2,e3⟩:=Zmv x (l.map (·.1)) (u.map (·.1));rw [e1,e2,Zlr,e3,List.length_map,List.length_range,List.length_take,List.length_drop,Nat.min_eq_left (Nat.sub_le_sub_right h2 a)]
 unfold sliceMade;refine post_val_or_str ⟨?_,fun t' k=>?_⟩
 ·split
  ·rw [Zo,← sizeTop_eq]; exact hsz
  ·rw [key,Zo,← sizeTop_eq];exact Yg (Zss x _ _).length_le hsz
 ·split
  ·rename_i hc
   rw [len,Zo] at hc;have:=Zqm (l:=x) (lo:=l.map (·.1)) (hi:=u.map (·.1)) (by simpa using hc);have h':=h t' k;rw [this] at h'; exact h'
  ·rw [key]; exact h t' k
noncomputable def pOpt:Option PE→(Option Int→St→Prop)→St→Prop
 | none,Q=>Q none
 | some P,Q=>P fun v st=>∃ i,v=.int i∧Q (some i) st
noncomputable def vtup(vs:List V)(lo hi:Option Int):Option V :=
 if lo=none∧hi=some 2∧vs.length=3 then some (.tup (vs.take 2)) else
 none
noncomputable def Zbu(cells:List Cell)(v:V)(lo hi:Option Int):Option V:=match v with
 | .str x=>if x.length≤Zc then some (.str (vsl x lo hi)) else none
 | .lst vs=>if vs.length≤Zc then some (.lst (vsl vs lo hi)) else none
 | .ref n=>(match cells[n]? with
  | some (.list vs)=>if vs.length≤Zc then some (.lst (vsl vs lo hi)) else none
  | _=>none)
 | .tup vs=>vtup vs lo hi
 | _=>none
noncomputable def Zcx(P:PE)(lo hi:Option PE):PE:=fun Q=>P fun v=>pOpt lo fun a=>pOpt hi fun b st=>∃ r,Zbu st.cells v a b=some r∧Q r st
section
variable{prog:Program}{w:World}{B:Base}{f:Fx}{A:Around}{E:Value→Shared→Prop}{ω:Wd}{st:St}{s:Shared}
noncomputable def Zag:Option (Int × Tok)→Value
 | none=>.none
 | some (i,t)=>.int i t
inductive PostP(B:Base)(f:Fx)(ω:Wd)(Q:Option Int→St→Prop)(x:Value)(s':Shared):Prop
 | mk (v:Option (Int × Tok)) (st':St) (ω':Wd) (l:ω.Le ω') (e:x=Zag v) (R:Rel B f ω' st' s') (q:Q (v.map (·.1)) st')
noncomputable def EO(prog:Program)(w:World)(B:Base)(f:Fx)(A:Around)(t:Sem Value)(P:Option PE):Prop :=
 ∀ (E:Value→Shared→Prop) (ω:Wd) (st:St) (s:Shared) (Q:Option Int→St→Prop),Rel B f ω st s→pOpt P Q st→wpAny (model prog w) A t (PostP B f ω Q) E s
theorem EO.to{t:Sem Value}{P:Option PE}{Q:Option Int→St→Prop}{Q':Value→Shared→Prop}(h:EO prog w B f A t P)(R:Rel B f ω st s)(q:pOpt P Q st)
  (k:∀ x s' v st' ω',ω.Le ω'→x=Zag v→Rel B f ω' st' s'→Q (v.map (·.1)) st'→Q' x s'):wpAny (model prog w) A t Q' E s:=up (h E ω st s Q R q) fun x s' z=>z.casesOn (k x s')
theorem eo_none{env:Env}:EO prog w B f A (evalPart none env) none:=fun E ω st s Q R h=>wpAny_pure ⟨none,st,ω,.refl ω,rfl,R,h⟩
theorem eo_some{e:Expr}{env:Env}{P:PE}(h:EV prog w B f A (eval e env) P):EO prog w B f A (evalPart (some e) env) (some P):=fun E ω st s Q R hq =>
 h.to R hq (fun x s' v st' ω' l hv R' q0=>by obtain ⟨i,rfl,q⟩:=q0; obtain ⟨t,rfl⟩:=hv.int_inv; exact ⟨some (i,t),st',ω',l,rfl,R',q⟩)
theorem VRs.vsl{vs:List V}{ws:List Value}(h:VRs ω vs ws)(lo hi:Option Int):VRs ω (vsl vs lo hi) (vsl ws lo hi):=by
 unfold Mine.vsl;rw [h.length];exact (h.drop _).take _
theorem Zln{value:Expr}{lower upper:Option Expr}{p:Pos}{l u:Option (Int × Tok)}(R':Rel B f ω st { s with heap:=s.heap.push { cls:=.type "slice",data:=.fields #[Zag l,Zag u,.none] } })(hs:∀ a o,s.heap.get? a=some o→(s.heap.push { cls:=.type "slice",data:=.fields #[Zag l,Zag u,.none] }).get? a=some o)
  {a:Addr} {ws:List Value} {k:Nat} {vs:List V} (e1:s.heap.get? a=some (lstO ws k)) (r1:VRs ω vs ws) (hz:vs.length≤Zc) :
  wpAny (model prog w) A (subscriptTail value (.Slice lower upper none p) (.ref a) (.ref s.heap.objs.size)) (PostO B f ω st (.lst (Mine.vsl vs (l.map (·.1)) (u.map (·.1))))) E { s with heap:=s.heap.push { cls:=.type "slice",data:=.fields #[Zag l,Zag u,.none] } }:=by
 have hl:(s.heap.push { cls:=.type "slice",data:=.fields #[Zag l,Zag u,.none] }).IsList a ws.toArray:=⟨_,hs _ _ e1,rfl,k,rfl⟩;have pl:∀ l:Option (Int × Tok),IsPart (Zag l) (l.map (·.1)):=fun l=>by cases l with | none=>exact .none | some p=>exact .int p.1 p.2
 obtain ⟨le,R''⟩:=R'.push (o:=lstO (Mine.vsl ws (l.map (·.1)) (u.map (·.1))) 0) (k:=s.toks) rfl;refine tail_any (T:="list") (ops:=[.ref s.heap.objs.size,.ref a]) (Heap.IsList.typeIs (s:={ s with heap:=s.heap.push { cls:=.type "slice",data:=.fields #[Zag l,Zag u,.none] } }) hl) list_getitem_lookup
  (wpAny_getItem_list_slice hl (Yar ..) (pl l) (pl u) .none (by simp) ?_ (by rw [List.size_toArray,← r1.length,← sizeTop_eq]; exact hz)) rfl
 rw [pick_eq];exact ⟨_,le,.lst Wd.add_self ((r1.vsl _ _).mono le),R''⟩
theorem Zyi{t sl:Addr}{ws:List Value}{b:Nat}{u:Tok}{Q:Value→Shared→Prop}(ht:IsTup s.heap t ws.toArray)(hs:s.heap.IsSliceOf sl .none (.int b u) .none)
  {n:Nat} (hn:ws.length=n) (hb:b≤n) (hz:n≤100) (e1:Builtin.Slice.sliceAdjust none (some (b:Int)) 1 (n:Int)=(0,(b:Int))) (e2:Builtin.Slice.slicePlaces 0 (b:Int) 1=b) (hno:(b == n)=false)
  (h:Q (.ref s.heap.objs.size) { s with heap:=s.heap.push (tupO (ws.take b) 0) }):wpAny (model prog w) A (getItem (.ref t) (.ref sl)) Q E s:=by
 have hdrop:sizeOk (.seq (ws.take b).toArray):=by
  show (ws.take b).toArray.size≤sizeLine;rw [List.size_toArray,← sizeTop_eq]; exact Yg (List.length_take_le _ _) (Yg hb (Yg hz (by decide)))
 have hs':ws.toArray.size=n:=by rw [List.size_toArray]; exact hn
 obtain ⟨os,hos,hcs,hds⟩:=id hs;have hTs:s.TypeIs (.ref sl) "slice":=⟨os,hos,hcs⟩;unfold getItem;refine wpAny_holding ?_;refine wpAny_bind (wpAny_sequenceKey ht.typeIs (by decide) ?_)
 refine wpAny_bind (wpAny_callSpecial?_slot (name:=Str.ofString "__getitem__") ht.typeIs slot_tuple_getitem
  (wpAny_call_entry slot_tuple_getitem ht.typeIs entry_tuple_getitem ?_ (args_tuple_getitem _ _)))
 show wpAny _ _ (Builtin.Tuple.tupleItemsOf (.ref t) >>= _) _ _ s;refine wpAny_bind (tupleItemsOf_ ht ?_);refine wpAny_bind (wpAny_typeOf hTs ?_);rw [if_pos (by decide)];refine wpAny_bind (m:=Builtin.Slice.sliceApplied (.ref sl) (pure ((ws.toArray.size:Nat):Int))) ?_;unfold Builtin.Slice.sliceApplied Builtin.Slice.sliceFields;refine wpAny_bind (wpAny_bind (wpAny_field hos hds (x:=.none) rfl (wpAny_bind (wpAny_field hos hds (x:=.int b u) rfl (wpAny_bind (wpAny_field hos hds (x:=.none) rfl (wpAny_pure ?_)))))));refine wpAny_bind (slicePart_none ?_);show wpAny _ _ (if ((1:Int) == 0)=true then _ else _) _ _ s;rw [if_neg (by decide)];refine wpAny_bind (slicePart_none (wpAny_bind (slicePart_int (wpAny_bind (wpAny_pure ?_)))));show wpAny _ _ (match Builtin.Slice.sliceAdjust none (some (b:Int)) 1 ((ws.toArray.size:Nat):Int) with | (lo,hi)=>pure (lo,(1:Int),Builtin.Slice.slicePlaces lo hi 1)) _ _ s;rw [hs',e1];show wpAny _ _ (pure ((0:Int),(1:Int),Builtin.Slice.slicePlaces 0 (b:Int) 1)) _ _ s;rw [e2];refine wpAny_pure ?_;show wpAny _ _ (if ((0:Int) == 0 && (1:Int) == 1 && b == n)=true then _ else _) _ _ s;rw [hno,if_neg (by decide)];have e3:((List.range b).filterMap fun (k:Nat)=>ws.toArray[((0:Int) + (k:Int) * 1).toNat]?).toArray=(ws.take b).toArray:=by
  have e:(fun (k:Nat)=>ws.toArray[((0:Int) + (k:Int) * 1).toNat]?)=fun k=>ws[0 + k]?:=by
   funext k
   rw [Int.mul_one,Int.zero_add,Int.toNat_natCast,Nat.zero_add,List.getElem?_toArray]
  rw [e];have:=StrLaws.picks ws b 0 (by rw [Nat.zero_add,hn]; exact hb);rw [List.filterMap_map,List.drop_zero] at this;exact congrArg List.toArray this
 rw [e3]
 first
  | exact wpAny_bind (m:=Builtin.Tuple.tupleExact _) (wpAny_newObj_type (wpAny_pure ⟨_,rfl,wpAny_pure h⟩) hdrop)
  | exact wpAny_bind (m:=Builtin.Tuple.tupleExact _) (wpAny_newObj_type (wpAny_bind (wpAny_pure (wpAny_pure ⟨_,rfl,wpAny_pure h⟩))) hdrop)
  | exact wpAny_bind (wpAny_bind (m:=Builtin.Tuple.tupleExact _) (wpAny_newObj_type (wpAny_pure (wpAny_pure ⟨_,rfl,wpAny_pure h⟩)) hdrop))
  | exact wpAny_bind (wpAny_bind (m:=Builtin.Tuple.tupleExact _) (wpAny_newObj_type (wpAny_pure ⟨_,rfl,wpAny_pure h⟩) hdrop))
theorem Zra{value:Expr}{lower upper:Option Expr}{p:Pos}{t:Tok}{o:Obj}{b:Nat}(hO:o={ cls:=.type "slice",data:=.fields #[.none,.int b t,.none] })(R':Rel B f ω st { s with heap:=s.heap.push o })(hs:∀ a o',s.heap.get? a=some o'→(s.heap.push o).get? a=some o')
  {a:Addr} {ws:List Value} {k:Nat} {vs:List V} (e1:s.heap.get? a=some (tupO ws k)) (r1:VRs ω vs ws) {n:Nat} (hn:vs.length=n) (hb:b≤n) (hz:n≤100) (f1:Builtin.Slice.sliceAdjust none (some (b:Int)) 1 (n:Int)=(0,(b:Int))) (f2:Builtin.Slice.slicePlaces 0 (b:Int) 1=b) (f3:(b == n)=false) :
  wpAny (model prog w) A (subscriptTail value (.Slice lower upper none p) (.ref a) (.ref s.heap.objs.size)) (PostO B f ω st (.tup (vs.take b))) E { s with heap:=s.heap.push o }:=by
 subst hO;have hl:IsTup (s.heap.push { cls:=.type "slice",data:=.fields #[.none,.int b t,.none] }) a ws.toArray:=⟨_,hs _ _ e1,rfl,k,rfl⟩;obtain ⟨le,R''⟩:=R'.push (o:=tupO (ws.take b) 0) (k:=s.toks) rfl;exact tail_any (T:="tuple") (ops:=[.ref s.heap.objs.size,.ref a]) (IsTup.typeIs (s:={ s with heap:=s.heap.push { cls:=.type "slice",data:=.fields #[.none,.int b t,.none] } }) hl) slot_tuple_getitem.lookup
  (Zyi (b:=b) hl (Yar ..) (r1.length ▸ hn) hb hz f1 f2 f3 ⟨_,le,.tup Wd.add_self ((r1.take b).mono le),R''⟩) rfl
theorem Ztq{l u:Option (Int × Tok)}(R':Rel B f ω st { s with heap:=s.heap.push { cls:=.type "slice",data:=.fields #[Zag l,Zag u,.none] } }){value:Expr}{lower upper:Option Expr}{p:Pos}{y:List Nat}{t:Tok}(hz:y.length≤Zc) :
  wpAny (model prog w) A (subscriptTail value (.Slice lower upper none p) (.str ⟨y.toArray⟩ t) (.ref s.heap.objs.size)) (PostO B f ω st (.str (vsl y (l.map (·.1)) (u.map (·.1))))) E { s with heap:=s.heap.push { cls:=.type "slice",data:=.fields #[Zag l,Zag u,.none] } }:=by
 have hsl:(s.heap.push { cls:=.type "slice",data:=.fields #[Zag l,Zag u,.none] }).IsSlice s.heap.objs.size l u none:=by
  refine ⟨_,Yq _ rfl,rfl,?_⟩;cases l <;> cases u <;> rfl
 refine wpAny_with_toks (Yaa _) ?_;exact tail_any (T:="str") (id:="str.__getitem__") (ops:=[.ref s.heap.objs.size,.str ⟨y.toArray⟩ t]) rfl PySem.F.slot_str_getitem.lookup (wpAny_getItem_str_slice hsl rfl (Zrb hz fun t' k hk=>⟨ω,.refl ω,.str _ _,R'.toks⟩)) rfl
theorem Zqz(R:Rel B f ω st s){value:Expr}{lower upper:Option Expr}{p:Pos}{vs:List V}{r:V}{x:Value}{l u:Option (Int × Tok)}(R':Rel B f ω st { s with heap:=s.heap.push { cls:=.type "slice",data:=.fields #[Zag l,Zag u,.none] } })(hs:∀ a o,s.heap.get? a=some o→(s.heap.push { cls:=.type "slice",data:=.fields #[Zag l,Zag u,.none] }).get? a=some o)
  (hv:VR ω (.tup vs) x) (e:vtup vs (l.map (·.1)) (u.map (·.1))=some r) :
  wpAny (model prog w) A (subscriptTail value (.Slice lower upper none p) x (.ref s.heap.objs.size)) (PostO B f ω st r) E { s with heap:=s.heap.push { cls:=.type "slice",data:=.fields #[Zag l,Zag u,.none] } }:=by
 unfold vtup at e;obtain ⟨a,ws,k,rfl,e1,r1⟩:=hv.tup_inv
 by_cases c:l.map (·.1)=none∧u.map (·.1)=some 2∧vs.length=3
 ·rw [if_pos c] at e;cases e;obtain ⟨h1,h2,h3⟩:=c;cases l with
  | some l=>cases h1
  | none =>
   cases u with
   | none=>exact nn h2
   | some u =>
    obtain ⟨i,t⟩:=u;obtain rfl:i=2:=Yc h2;exact Zra (b:=2) rfl R' hs (R.keep _ _ e1) r1 h3 (by decide) (by decide) rfl rfl rfl
 rw [if_neg c] at e;clear c;exact nn e
theorem Zyn(R:Rel B f ω st s){value:Expr}{lower upper:Option Expr}{p:Pos}{v r:V}{x:Value}{l u:Option (Int × Tok)}(hv:VR ω v x)(e:Zbu st.cells v (l.map (·.1)) (u.map (·.1))=some r) :
  Op prog w B f A ω st { s with heap:=s.heap.push { cls:=.type "slice",data:=.fields #[Zag l,Zag u,.none] } } (subscriptTail value (.Slice lower upper none p) x (.ref s.heap.objs.size)) r:=by
 intro E;have R':=R.keeps (h':=s.heap.push { cls:=.type "slice",data:=.fields #[Zag l,Zag u,.none] }) (k:=s.toks) fun b o e=>Yp _ e;have hsl0:∀ a o,s.heap.get? a=some o→(s.heap.push { cls:=.type "slice",data:=.fields #[Zag l,Zag u,.none] }).get? a=some o:=fun _ _ e=>Yp _ e;cases v with
 | str y =>
  obtain ⟨hz,rfl⟩:=Znv (show (if y.length≤Zc then some (V.str (vsl y (l.map (·.1)) (u.map (·.1)))) else none)=some r from e);obtain ⟨t,rfl⟩:=hv.str_inv;exact Ztq R' hz
 | lst vs =>
  obtain ⟨hz,rfl⟩:=Znv (show (if vs.length≤Zc then some (V.lst (vsl vs (l.map (·.1)) (u.map (·.1)))) else none)=some r from e);obtain ⟨a,ws,k,rfl,e1,r1⟩:=hv.lst_inv;exact Zln R' hsl0 (R.keep _ _ e1) r1 hz
 | ref n =>
  replace e:(match st.cells[n]? with | some (.list vs)=>if vs.length≤Zc then some (V.lst (vsl vs (l.map (·.1)) (u.map (·.1)))) else none | _=>none)=some r:=e;cases hc:st.cells[n]? with
  | none=>rw [hc] at e; exact nn e
  | some c =>
   rw [hc] at e;cases c with
   | list vs =>
    obtain ⟨hz,rfl⟩:=Znv (show (if vs.length≤Zc then some (V.lst (vsl vs (l.map (·.1)) (u.map (·.1)))) else none)=some r from e);cases hv with
    | @ref _ d hd =>
     obtain ⟨ws,k,ho,r1⟩:=Zbj R hd hc;exact Zln R' hsl0 ho r1 hz
   | _=>exact nn e
 | tup vs=>exact Zqz R R' hsl0 hv e
 | _=>exact nn e
theorem Zzv{v:Expr}{lower upper:Option Expr}{p pos:Pos}{env:Env}{P:PE}{lo hi:Option PE}(h:EV prog w B f A (eval v env) P)(h₁:EO prog w B f A (evalPart lower env) lo)(h₂:EO prog w B f A (evalPart upper env) hi) :
  EV prog w B f A (eval (.Subscript v (.Slice lower upper none p) pos) env) (Zcx P lo hi):=by
 intro E ω st s Q R hq;refine Subscript_ (h.to R hq (fun x s₁ a st₁ ω₁ l₁ va R₁ q₁=>?_));refine wpAny_Slice (h₁.to R₁ q₁ (fun y s₂ l st₂ ω₂ l₂ ey R₂ q₂=>?_));refine h₂.to R₂ q₂ (fun z s₃ u st₃ ω₃ l₃ ez R₃ q0=>?_);obtain ⟨r,e,q₃⟩:=q0;subst ey ez;exact wpAny_pure (up ((Zyn R₃ (va.mono (l₂.trans l₃)) e).post q₃) fun _ _ z=>z.le ((l₁.trans l₂).trans l₃))
end
end Mine
end
section
open PySem PySem.W PySem.Calls PyProof.Rows
namespace Mine
section
variable{prog:Program}{w:World}{B:Base}{f:Fx}{A:Around}{E:Value→Shared→Prop}{ω ω₂:Wd}{st st₂:St}{s s₂:Shared}
structure Apart(B:Base)(f:Fx)(ω:Wd)(it:Addr):Prop where
 noF:ω.F it=none
 noH:ω.H it=none
 new:it ∉ f.L :: ω.cs
theorem Apart.again{it:Addr}{o:Obj}(ap:Apart B f ω it)(l:(ω.hold it o).Le ω₂)(R:Rel B f ω₂ st₂ s₂):ω.Le (ω.free ω₂)∧Rel B f (ω.free ω₂) st₂ s₂∧Apart B f (ω.free ω₂) it∧s₂.heap.get? it=some o:=by
 have e:ω₂.H it=some o:=l.H _ _ Wd.hold_self;exact ⟨Wd.le_free l,R.free fun a o h=>l.H a o ((Wd.le_hold ap.noH).H a o h),⟨(R.held _ _ e).2,ap.noH,fun h=>by have:=(R.off _ h).2; rw [e] at this; cases this⟩,(R.held _ _ e).1⟩
theorem Rel.other(R:Rel B f ω st s){it:Addr}(ap:Apart B f ω it){h':Heap}{k:Nat}(hx:Heap.ExtBut it s.heap h')(hk1:s.toks≤k:=by (repeat constructor) <;> assumption):Rel B f ω st { s with heap:=h',toks:=k }:=by
 obtain ⟨m,hn,hl⟩:=R.fr;have nL:f.L≠it:=fun q=>ap.new (q ▸ .head _);refine ⟨fun a ob e=>hx a ob (fun q=>?_) (R.keep a ob e),fun a ob e=>⟨hx a ob (fun q=>?_) (R.held a ob e).1,(R.held a ob e).2⟩,R.base,R.above,⟨m,hn.extBut hx nL,hl⟩,R.size,fun i d c h1 h2=>?_,R.dis,R.off,R.gens,R.cls,Yg R.tk hk1,R.bx⟩
 ·rw [q,ap.noF] at e; exact nn e
 ·rw [q,ap.noH] at e; exact nn e
 ·have hd:d≠it:=fun q=>ap.new (q ▸ .tail _ (Yw h1));have:=R.cells i d c h1 h2;cases c with
  | list vs=>obtain ⟨ws,n,a,b⟩:=this; exact ⟨ws,n,hx _ _ hd a,b⟩
  | inst as=>obtain ⟨z,es,n,a,b⟩:=this; exact ⟨z,es,n,hx _ _ hd a,b⟩
  | box u=>obtain ⟨o,y,a,b⟩:=this; exact ⟨o,y,hx _ _ hd a,b⟩
  | dct ks vs=>obtain ⟨lo,o,ws,a,b⟩:=this; exact ⟨lo,o,ws,hx _ _ hd a,b⟩
end
noncomputable def forL(S:PS)(X O:PX)(Q:Fl→St→Prop):List V→St→Prop
 | []=>O Q
 | v :: vs=>S v (X fun fl st=>match fl with
  | .next=>forL S X O Q vs st
  | .cont=>forL S X O Q vs st
  | .brk=>Q .next st
  | .ret u=>Q (.ret u) st)
abbrev PI:=(List V→St→Prop)→St→Prop
noncomputable def xFor(S:PS)(It:PI)(X O:PX):PX:=fun Q=>It (forL S X O Q)
section
variable{prog:Program}{w:World}{B:Base}{f:Fx}{A:Around}{E:Value→Shared→Prop}{ω ω₂:Wd}{st st₂:St}{s s₂:Shared}
noncomputable def notSet(e:Expr):Bool:=!(Nat.beq e.ctorIdx 7)
noncomputable def Free(o:Obj):Prop:=∃ n,o.cls=.type n∧["enumerate","zip","dict_itemiterator","dict_reverseitemiterator","odict_iterator","itertools.zip_longest","itertools.pairwise"].contains n=false
theorem Zvj{t:Expr}{I:Addr}{v:Value}{o:Obj}{Q:Unit→Shared→Prop}(h:s.heap.get? I=some o)(hf:Free o)(q:Q () s):wpAny (model prog w) A (letOwnedTupleGo t (.ref I) v) Q E s:=by
 obtain ⟨n,hc,hn⟩:=hf;have key:wpAny (model prog w) A (letOwnedTupleGo (.Tuple [] 0 default) (.ref I) v) Q E s:=by
  cases v with
  | ref a =>
   refine wpAny_bind (wpAny_load h ?_);rw [hc];cases hd:o.data with
   | fields vs =>
    show wpAny _ A (if (_ && _)=true then _ else _) Q E s;rw [hn,Bool.false_and,if_neg Bool.false_ne_true];exact wpAny_pure q
   | _=>exact wpAny_pure q
  | _=>exact wpAny_pure q
 cases t <;> first | exact wpAny_pure q | exact key
structure Iter(prog:Program)(w:World)(B:Base)(A:Around)(ω:Wd)(I:Addr)(vs:List V)(fp:List Addr)(P:Nat→Value→Prop)(D:Nat→Heap→Prop):Prop where
 W:Walks prog w A I (I :: fp) [I] vs.length P D
 hp:∀ i x v,P i x→vs[i]?=some v→VR ω v x
 hf:∀ b∈fp,∃ o,ω.F b=some o
 hg:∀ i h,D i h→∃ o,h.get? I=some o∧Free o
theorem Iter.le{I:Addr}{vs:List V}{fp:List Addr}{P:Nat→Value→Prop}{D:Nat→Heap→Prop}(h:Iter prog w B A ω I vs fp P D)(l:ω.Le ω₂):Iter prog w B A ω₂ I vs fp P D :=
 ⟨h.W,fun i x v a b=>(h.hp i x v a b).mono l,fun b m=>(h.hf b m).imp fun o e=>l.F _ _ e,h.hg⟩
inductive PostI(prog:Program)(w:World)(B:Base)(f:Fx)(A:Around)(ω:Wd)(Q:List V→St→Prop)(x:Value)(s:Shared):Prop
 | mk (I:Addr) (vs:List V) (st:St) (ω':Wd) (fp:List Addr) (P:Nat→Value→Prop) (D:Nat→Heap→Prop) (l:ω.Le ω') (hx:x=.ref I) (W:Iter prog w B A ω' I vs fp P D) (ap:Apart B f ω' I) (h0:D 0 s.heap) (R:Rel B f ω' st s) (q:Q vs st)
noncomputable def EI(prog:Program)(w:World)(B:Base)(f:Fx)(A:Around)(e:Expr)(P:PI):Prop:=∀ (E:Value→Shared→Prop) (ω:Wd) (st:St) (s:Shared) (Q:List V→St→Prop),Rel B f ω st s→P Q st →
 wpAny (model prog w) A (eval e f.env) (fun x s₁=>wpAny (model prog w) A (pyIter x) (PostI prog w B f A ω Q) E s₁) E s
theorem Zsr{I:Addr}{vs:List V}{fp:List Addr}{P:Nat→Value→Prop}{D:Nat→Heap→Prop}(W:Walks prog w A I (I :: fp) [I] vs.length P D)(hp:∀ i x v,P i x→vs[i]?=some v→VR ω v x)(hg:∀ i h,D i h→∃ o,h.get? I=some o∧Free o)(ap:Apart B f ω I)(R:Rel B f ω st s){i:Nat}(h:D i s.heap){Q:Option Value→Shared→Prop}{v:V}(hv:vs[i]?=some v)
  (k:∀ x s' o,VR ω v x→D (i + 1) s'.heap→s'.heap.get? I=some o→Free o→ω.Le (ω.hold I o)→Rel B f (ω.hold I o) st s'→Heap.ExtBut I s.heap s'.heap→Q (some x) s'):wpAny (model prog w) A (pyNext (.ref I)) Q E s:=by
 refine W.toS.item i s Q E (Yi.mp hv).1 h fun x s' hx hd hM=>?_;obtain ⟨h1,h2,h3,h4,h5⟩:=hM;have hx':Heap.ExtBut I s.heap s'.heap:=fun b o hb e=>h1 b o (fun q=>hb (Yx.mp q)) e;have R3:=R.other ap (k:=s'.toks) hx' h5;have es:{ s with heap:=s'.heap,toks:=s'.toks }=s':=by cases s'; simp only at h2 h3 h4; subst h2 h3 h4; rfl
 rw [es] at R3;obtain ⟨o,ho,hf⟩:=hg _ _ hd;obtain ⟨l3,R4⟩:=R3.holdH ho ap.noF ap.noH ap.new;exact k x s' o (hp _ _ _ hx hv) hd ho hf l3 R4 hx'
theorem Zxz{I:Addr}{n:Nat}{fp:List Addr}{P:Nat→Value→Prop}{D:Nat→Heap→Prop}(W:Walks prog w A I (I :: fp) [I] n P D)(ap:Apart B f ω I)(R:Rel B f ω st s)(h:D n s.heap){Q:Option Value→Shared→Prop}
  (k:∀ s',Rel B f ω st s'→Heap.ExtBut I s.heap s'.heap→Q none s'):wpAny (model prog w) A (pyNext (.ref I)) Q E s:=by
 refine W.toS.done s Q E h fun s' hM=>?_;obtain ⟨h1,h2,h3,h4,h5⟩:=hM;have hx':Heap.ExtBut I s.heap s'.heap:=fun b o hb e=>h1 b o (fun q=>hb (Yx.mp q)) e;have R3:=R.other ap (k:=s'.toks) hx' h5;have es:{ s with heap:=s'.heap,toks:=s'.toks }=s':=by cases s'; simp only at h2 h3 h4; subst h2 h3 h4; rfl
 rw [es] at R3;exact k s' R3 hx'
theorem Iter.step{I:Addr}{vs:List V}{fp:List Addr}{P:Nat→Value→Prop}{D:Nat→Heap→Prop}(W:Iter prog w B A ω I vs fp P D)(ap:Apart B f ω I)(R:Rel B f ω st s){i:Nat}(h:D i s.heap){Q:Option Value→Shared→Prop}{v:V}(hv:vs[i]?=some v)
  (k:∀ x s' o,VR ω v x→D (i + 1) s'.heap→s'.heap.get? I=some o→Free o→ω.Le (ω.hold I o)→Rel B f (ω.hold I o) st s'→Heap.ExtBut I s.heap s'.heap→Q (some x) s'):wpAny (model prog w) A (pyNext (.ref I)) Q E s:=Zsr W.W W.hp W.hg ap R h hv k
theorem Iter.fin{I:Addr}{vs:List V}{fp:List Addr}{P:Nat→Value→Prop}{D:Nat→Heap→Prop}(W:Iter prog w B A ω I vs fp P D)(ap:Apart B f ω I)(R:Rel B f ω st s)(h:D vs.length s.heap){Q:Option Value→Shared→Prop}
  (k:∀ s',Rel B f ω st s'→Heap.ExtBut I s.heap s'.heap→Q none s'):wpAny (model prog w) A (pyNext (.ref I)) Q E s:=Zxz W.W ap R h k
theorem Iter.stay{I:Addr}{vs:List V}{fp:List Addr}{P:Nat→Value→Prop}{D:Nat→Heap→Prop}(W:Iter prog w B A ω I vs fp P D){i:Nat}{h h':Heap}{o:Obj}(hd:D i h)(e:h.get? I=some o)(e':h'.get? I=some o)
  (k:∀ b o,ω.F b=some o→h.get? b=some o) (k':∀ b o,ω.F b=some o→h'.get? b=some o):D i h':=by
 refine W.W.frame i h h' hd fun b hb u hu=>?_
 rcases Ym.mp hb with rfl | hb
 ·rw [e] at hu; cases hu; exact e'
 ·obtain ⟨v,hv⟩:=W.hf b hb;rw [k _ _ hv] at hu; cases hu; exact k' _ _ hv
inductive ForI(B:Base)(f:Fx)(ω:Wd)(I:Addr)(m:Nat)(D:Nat→Heap→Prop)(K:Nat→St→Prop)(n:Nat)(s:Shared):Prop
 | mk (st:St) (ω':Wd) (i:Nat) (hn:n=m - i) (hi:i≤m) (l:ω.Le ω') (ap:Apart B f ω' I) (h:D i s.heap) (R:Rel B f ω' st s) (q:K i st)
theorem ex_for{t e:Expr}{b o:List Stmt}{pos:Pos}{S:PS}{It:PI}{X O:PX}(hS:ES prog w B f A (assign t f.env) S)(hI:EI prog w B f A e It)(hX:EX prog w B f A (execs b f.env) X)(hO:EX prog w B f A (execs o f.env) O)
  (hs:notSet e=true):EX prog w B f A (exec (.For t e b o pos) f.env) (xFor S It X O):=by
 intro E ω st s Q R hq;refine wpAny_For (up (hI E ω st s _ R hq) fun y s₁ h=>up h fun it s₂ z=>?_) (fun x=>by cases e <;> first | rfl | exact absurd hs Yy);obtain ⟨I,vs,st₁,ω₁,fp,P,D,l₁,rfl,W,ap₁,h0,R₁,q⟩:=z;refine codeAny_forLoop_any (ForI B f ω₁ I vs.length D fun i st=>forL S X O Q (vs.drop i) st) ?_ vs.length ⟨st₁,ω₁,0,rfl,Yas _,.refl _,ap₁,h0,R₁,q⟩;rintro n s ⟨st,ω',i,hn,hi,l',ap,hd,R',q'⟩;have W':=W.le l'
 by_cases hlt:i < vs.length
 ·refine W'.step ap R' hd (Yo hlt) fun x s' oi vx hd' hoi hfr l3 R4 _=>Zvj hoi hfr ?_;rw [List.drop_eq_getElem_cons hlt] at q';refine hS.to R4 (vx.mono l3) q' (fun _ s₃ st₃ ω₃ l₃ R₃ q₃=>?_);refine hX.to R₃ q₃ (fun fl s₄ fl' st₄ ω₄ l₄ vf R₄ q₄=>?_);obtain ⟨L4,R5,ap5,ei⟩:=ap.again (l₃.trans l₄) R₄;have L5:=l'.trans L4;have again:forL S X O Q (vs.drop (i + 1)) st₄→∃ m,m < n∧ForI B f ω₁ I vs.length D (fun i st=>forL S X O Q (vs.drop i) st) m s₄ :=
   fun z=>⟨vs.length - (i + 1),hn ▸ Yat hlt (Yau i),st₄,_,i + 1,rfl,hlt,L5,ap5,W'.stay hd' hoi ei (fun b o e=>R4.keep b o (l3.F _ _ e)) (fun b o e=>R5.keep b o (L4.F _ _ e)),R5,z⟩
  cases vf with
  | next=>exact again q₄
  | cont=>exact again q₄
  | brk=>exact ⟨.next,st₄,_,l₁.trans L5,.next,R5,q₄⟩
  | ret u=>exact ⟨_,st₄,_,l₁.trans L5,.ret u.free,R5,q₄⟩
 ·have hi':i=vs.length:=by omega
  subst hi';refine W'.fin ap R' hd fun s' R3 _=>?_;rw [List.drop_eq_nil_of_le (Nat.le_refl _)] at q';exact up (hO _ ω' st _ _ R3 q') fun _ _ z=>z.le (l₁.trans l')
noncomputable def vitems:V→Option (List V)
 | .lst vs=>some vs
 | .tup vs=>some vs
 | _=>none
noncomputable def itV(P:PE):PI:=fun Q=>P fun v st=>∃ vs,vitems v=some vs∧Q vs st
theorem ei_val(hh:A.handled=none){e:Expr}{P:PE}(h:EV prog w B f A (eval e f.env) P):EI prog w B f A e (itV P):=by
 intro E ω st s Q R hq;refine h.to R hq (fun y s₁ v st₁ ω₁ l₁ va R₁ q0=>?_);obtain ⟨vs,hv,q⟩:=q0;have ap₁:Apart B f ω₁ s₁.heap.objs.size:=⟨R₁.fresh,R₁.freshH,fun h=>Yl _ (R₁.cell_lt h)⟩;have ne:∀ {a:Addr} {o:Obj},ω₁.F a=some o→a≠s₁.heap.objs.size:=fun e q=>by rw [q,R₁.fresh] at e; exact nn e
 cases v with
 | lst us =>
  cases hv;obtain ⟨a,ws,k,rfl,e1,r1⟩:=va.lst_inv;have hl:s₁.heap.IsList a ws.toArray:=⟨_,R₁.keep _ _ e1,rfl,k,rfl⟩;refine wpAny_pyIter_list hl ?_;have e2:vs.length=ws.toArray.size:=by simpa using r1.length
  refine ⟨_,vs,st₁,ω₁,[a],_,_,l₁,rfl,⟨e2 ▸ Walks.list hh _ a (ne e1) ws.toArray,fun i x v hx hv=>?_,fun b hb=>⟨_,Yx.mp hb ▸ e1⟩,fun i h hd=>?_⟩,ap₁,⟨⟨_,Yq _ rfl,rfl,rfl⟩,_,Yp _ (R₁.keep _ _ e1),rfl,k,rfl⟩,R₁.keeps (k:=s₁.toks) fun b o e=>Yp _ e,q⟩
  ·obtain ⟨y,hy,vy⟩:=r1.get hv;rw [List.getElem?_toArray,hy] at hx; cases hx; exact vy
  ·obtain ⟨⟨o,ho,hc,_⟩,_⟩:=hd; exact ⟨o,ho,_,hc,by decide⟩
 | tup us =>
  cases hv;obtain ⟨a,ws,k,rfl,e1,r1⟩:=va.tup_inv;have hl:s₁.heap.IsTuple a ws.toArray:=⟨_,R₁.keep _ _ e1,rfl,k,rfl⟩;refine wpAny_pyIter_tuple hl ?_;have e2:vs.length=ws.toArray.size:=by simpa using r1.length
  refine ⟨_,vs,st₁,ω₁,[a],_,_,l₁,rfl,⟨e2 ▸ Walks.tuple hh _ a (ne e1) ws.toArray,fun i x v hx hv=>?_,fun b hb=>⟨_,Yx.mp hb ▸ e1⟩,fun i h hd=>?_⟩,ap₁,⟨⟨_,Yq _ rfl,rfl,rfl⟩,_,Yp _ (R₁.keep _ _ e1),rfl,k,rfl⟩,R₁.keeps (k:=s₁.toks) fun b o e=>Yp _ e,q⟩
  ·obtain ⟨y,hy,vy⟩:=r1.get hv;rw [List.getElem?_toArray,hy] at hx; cases hx; exact vy
  ·obtain ⟨⟨o,ho,hc,_⟩,_⟩:=hd; exact ⟨o,ho,_,hc,by decide⟩
 | _=>exact nn hv
end
end Mine
namespace Mine
noncomputable def numl(x:Int)(n:Nat)(step:Int):List V:=(List.range n).map fun k:Nat=>.int (x + (k:Int) * step)
theorem Zlu(x:Int)(n:Nat)(step:Int):numl x (n + 1) step=.int x :: numl (x + step) n step:=by
 unfold numl;rw [List.range_succ_eq_map,List.map_cons,List.map_map]
 congr 1
 ·simp
 ·refine Yaf fun k _=>?_;show V.int _=V.int _
  congr 1
  rw [Nat.succ_eq_add_one,Int.natCast_add,Int.add_mul];have:((1:Nat):Int) * step=step:=by simp
  lia
noncomputable def rng2(i j:Int):List V:=numl i (j - i).toNat 1
noncomputable def itR1(P:PE):PI:=fun Q=>P fun b st=>∃ j,b=.int j∧fits j∧Q (rng2 0 j) st
noncomputable def itR2(P₁ P₂:PE):PI:=fun Q=>P₁ fun a=>P₂ fun b st=>∃ i j,a=.int i∧b=.int j∧fits i∧fits j∧Q (rng2 i j) st
section
variable{prog:Program}{w:World}{B:Base}{f:Fx}{A:Around}{E:Value→Shared→Prop}{ω ω₂:Wd}{st st₂:St}{s s₂:Shared}
theorem Zzd{x step:Int}{n i:Nat}{v:V}(h:(numl x n step)[i]?=some v):v=.int (x + (i:Int) * step):=by
 unfold numl at h;rw [List.getElem?_map] at h;obtain ⟨k,hk,rfl⟩:=Yv.mp h;obtain ⟨h1,h2⟩:=Yi.mp hk;rw [← h2,List.getElem_range]
theorem Zzc(x step:Int)(n:Nat):(numl x n step).length=n:=by simp [numl]
theorem Zph(hh:A.handled=none){Q:List V→St→Prop}(R:Rel B f ω st s){i j c:Int}{n:Nat}{t1 t2 t3:Tok}{k:Nat}(hsm:Builtin.Range.small i j c=true)(hsz:Builtin.Range.rangeSize i j c=(n:Int))(l:ω₂.Le ω)(q:Q (numl i n c) st)(hk1:s.toks≤k:=by (repeat constructor) <;> assumption) :
  wpAny (model prog w) A (pyIter (.ref s.heap.objs.size)) (PostI prog w B f A ω₂ Q) E { s with heap:=s.heap.push { cls:=.type "range",data:=.fields #[.int i t1,.int j t2,.int c t3] },toks:=k }:=by
 have R₁:=R.keeps (h':=s.heap.push { cls:=.type "range",data:=.fields #[.int i t1,.int j t2,.int c t3] }) (k:=k) fun b o e=>Yp _ e;refine wpAny_pyIter_range (IsRange.new ..) hsm ?_;have ap:Apart B f ω (s.heap.push { cls:=.type "range",data:=.fields #[.int i t1,.int j t2,.int c t3] }).objs.size:=⟨R₁.fresh,R₁.freshH,fun h=>Yl _ (R₁.cell_lt h)⟩;rw [hsz];refine ⟨_,_,st,ω,[],fun a v=>∃ t,v=.int (i + a * c) t,fun a h=>IsRangeIter h _ (i + (a:Nat) * c) ((n:Int) - (a:Nat)) c,l,rfl,⟨by rw [Zzc]; exact Walks.range hh _ i c n,fun a x v hx hv=>?_,fun b hb=>(nomatch hb),fun a h hd=>⟨_,hd,_,rfl,by decide⟩⟩,ap,?_,R₁.keeps (k:=k) fun b o e=>Yp _ e,q⟩
 ·obtain ⟨t,rfl⟩:=hx;rw [Zzd hv]; exact .int _ _
 ·show IsRangeIter _ _ _ _ _;rw [show i + ((0:Nat):Int) * c=i by simp,show (n:Int) - ((0:Nat):Int)=n by simp];exact Yq _ rfl
theorem Zvy(O':TopOk w B)(hh:A.handled=none){e₁ e₂:Expr}{p rp:Pos}{P₁ P₂:PE}(G:GlobAt B "range" (.type "range"))(hk:f.scope.kind=.function)(hx:f.scope.names.lookup ("range":Str)=some .globalImplicit)
  (h₁:EV prog w B f A (eval e₁ f.env) P₁) (h₂:EV prog w B f A (eval e₂ f.env) P₂) (he₁:Zf e₁=true) (he₂:Zf e₂=true):EI prog w B f A (.Call (.Name "range" p) [e₁,e₂] [] rp) (itR2 P₁ P₂):=by
 intro E ω st s Q R hq;refine Call_Name2 (Zat O' R G hk hx (by decide) ?_) (by rw [Zp he₁,Zp he₂]; rfl);refine Yav rfl (evalArgs_plain (spliced_cons (h₁.to R hq (fun x s₁ a st₁ ω₁ l₁ va R₁ q₁=>?_))));refine spliced_cons (h₂.to R₁ q₁ (fun y s₂ c st₂ ω₂ l₂ vb R₂ q0=>spliced_nil ?_));obtain ⟨i,j,ea,eb,hi,hj,q⟩:=q0;subst ea eb;obtain ⟨t1,rfl⟩:=va.int_inv;obtain ⟨t2,rfl⟩:=vb.int_inv;unfold fits at hi hj;exact call_range_2 (Zph hh R₂ (small_one (by lia) (by lia) (by lia) (by lia)) (by rw [rangeSize_one]; split <;> lia) (l₁.trans l₂) q)
theorem Zvz(O':TopOk w B)(hh:A.handled=none){e₂:Expr}{p rp:Pos}{P₂:PE}(G:GlobAt B "range" (.type "range"))(hk:f.scope.kind=.function)(hx:f.scope.names.lookup ("range":Str)=some .globalImplicit)
  (h₂:EV prog w B f A (eval e₂ f.env) P₂) (he₂:Zf e₂=true):EI prog w B f A (.Call (.Name "range" p) [e₂] [] rp) (itR1 P₂):=by
 intro E ω st s Q R hq;refine Call_Name1 (Zat O' R G hk hx (by decide) ?_) (by rw [Zp he₂]; rfl);refine Yav rfl (evalArgs_plain (spliced_cons (h₂.to R hq (fun y s₂ c st₂ ω₂ l₂ vb R₂ q0=>spliced_nil ?_))));obtain ⟨j,eb,hj,q⟩:=q0;subst eb;obtain ⟨t2,rfl⟩:=vb.int_inv;unfold fits at hj;exact call_range_1 (Zph hh R₂ (small_one (by lia) (by lia) (by lia) (by lia)) (by rw [rangeSize_one]; split <;> lia) l₂ q)
end
end Mine
end
section
open PySem PySem.W PySem.Calls PyProof.Rows
open PySem.Builtin PySem.Builtin.Str
namespace Mine
noncomputable def txt(x:List Nat):PySem.Str:=⟨x.toArray⟩
noncomputable def idx0(n:Nat)(i:Int):Nat:=(max 0 (if i < 0 then i + n else i)).toNat
noncomputable def Zfr(x y:List Nat)(lo hi:Nat):Int:=match occurrences (txt x) (txt y) lo hi 1 with
 | i :: _=>(i:Int)
 | []=>-1
noncomputable def Zdo(x y:List Nat)(lo hi:Nat):Int:=match lastOccurrence (txt x) (txt y) lo hi with
 | some i=>(i:Int)
 | none=>-1
noncomputable def Zeb(x y z:List Nat):List Nat:=(Txt.replace (txt x) (txt y) (txt z)).cps.toList
inductive SM where
 | find | rfind | count | join
noncomputable def vstr(k:List Nat→Option V)(v:V):Option V:=match v with
 | .str y=>k y
 | _=>none
noncomputable def vint(k:Int→Option V)(v:V):Option V:=match v with
 | .int i=>k i
 | _=>none
theorem Ziz{k:List Nat→Option V}{v r:V}(h:vstr k v=some r):∃ y,v=.str y∧k y=some r:=by
 cases v with
 | str y=>exact ⟨y,rfl,h⟩
 | _=>exact nn h
theorem Zec{k:Int→Option V}{v r:V}(h:vint k v=some r):∃ i,v=.int i∧k i=some r:=by
 cases v with
 | int i=>exact ⟨i,rfl,h⟩
 | _=>exact nn h
noncomputable def Zqv:List V→Option (List (List Nat))
 | []=>some []
 | v :: vs=>(match v with
  | .str y=>(Zqv vs).map (y :: ·)
  | _=>none)
noncomputable def vlst(k:List V→Option V)(v:V):Option V:=match v with
 | .lst us=>k us
 | _=>none
theorem Zya{k:List V→Option V}{v r:V}(h:vlst k v=some r):∃ us,v=.lst us∧k us=some r:=by
 cases v with
 | lst us=>exact ⟨us,rfl,h⟩
 | _=>exact nn h
noncomputable def Zmx(x:List Nat)(us:List V):Option V:=if x=[] then (Zqv us).bind fun ts=>if ts.flatten.length≤Zc then some (.str ts.flatten) else none else none
noncomputable def smop(m:SM)(x:List Nat)(vs:List V):Option V:=match vs with
 | [a]=>(match m with
  | .join=>vlst (Zmx x) a
  | _=>none)
 | [a,b]=>(match m with
  | .find=>vstr (fun y=>vint (fun i=>some (.int (Zfr x y (idx0 x.length i) x.length))) b) a
  | _=>none)
 | [a,b,c]=>(match m with
  | .find=>vstr (fun y=>vint (fun i=>vint (fun j=>some (.int (Zfr x y (idx0 x.length i) (min (idx0 x.length j) x.length)))) c) b) a
  | .rfind=>vstr (fun y=>vint (fun i=>vint (fun j=>some (.int (Zdo x y (idx0 x.length i) (min (idx0 x.length j) x.length)))) c) b) a
  | _=>none)
 | _=>none
noncomputable def SM.name:SM→PySem.Str
 | .find=>"find"
 | .rfind=>"rfind"
 | .count=>"count"
 | .join=>"join"
noncomputable def SM.id:SM→String
 | .find=>"str.find"
 | .rfind=>"str.rfind"
 | .count=>"str.count"
 | .join=>"str.join"
noncomputable def pSM(m:SM)(P:PE)(Ps:PL):PE:=fun Q=>P fun v st=>∃ x,v=.str x∧Ps (fun vs st=>∃ r,smop m x vs=some r∧Q r st) st
noncomputable def Znj(P:PE)(y z:List Nat):PE:=fun Q=>P fun v st=>∃ x,v=.str x∧x.length≤1048576∧z.length≤14∧y≠z∧Q (.str (Zeb x y z)) st
theorem Znw(x y:PySem.Str)(i j:Int)(t u v z:Tok):Gives («str.find» ⟨[.str x t,.str y u,.int i v,.int j z],[]⟩) (.int (match occurrences x y (fromIndex x.length i) (min (fromIndex x.length j) x.length) 1 with | k :: _=>(k:Int) | []=>-1)):=by
 show Gives (match occurrences x y (fromIndex x.length i) (min (fromIndex x.length j) x.length) 1 with | k :: _=>retInt k | []=>(do rule "str.find.not-found"; retInt (-1))) _;cases occurrences x y (fromIndex x.length i) (min (fromIndex x.length j) x.length) 1 with
 | nil=>exact .rule (.of_eq rfl)
 | cons k _=>exact .of_eq rfl
theorem Zmc(x y:PySem.Str)(i j:Int)(t u v z:Tok):Gives («str.rfind» ⟨[.str x t,.str y u,.int i v,.int j z],[]⟩) (.int (match lastOccurrence x y (fromIndex x.length i) (min (fromIndex x.length j) x.length) with | some k=>(k:Int) | none=>-1)):=by
 show Gives (match lastOccurrence x y (fromIndex x.length i) (min (fromIndex x.length j) x.length) with | some k=>retInt k | none=>(do rule "str.rfind.not-found"; retInt (-1))) _;cases lastOccurrence x y (fromIndex x.length i) (min (fromIndex x.length j) x.length) with
 | none=>exact .rule (.of_eq rfl)
 | some k=>exact .of_eq rfl
theorem Zoc(a b c d:Value):argsOk "str.rfind" ⟨[a,b,c,d],[]⟩:=by delta argsOk; kernel_rfl
theorem Zrw(a b c d:Value):argsOk "str.find" ⟨[a,b,c,d],[]⟩:=PySem.F.args_str_find_4 a b c d
section
variable{prog:Program}{w:World}{B:Base}{f:Fx}{A:Around}{E:Value→Shared→Prop}{ω:Wd}{st:St}{s:Shared}
theorem strs_at{ts:List (List Nat)}:∀ {us:List V} {ws:List Value},VRs ω us ws→Zqv us=some ts→∃ l:List (PySem.Str × Tok),ws=strValues l∧l.map (·.1)=ts.map txt:=by
 intro us
 induction us generalizing ts with
 | nil=>intro ws h e; cases h; cases e; exact ⟨[],rfl,rfl⟩
 | cons v us ih =>
  intro ws h e;cases h with
  | cons a b=>cases v with
   | str y =>
    obtain ⟨ts',e',rfl⟩:=Yv.mp (show (Zqv us).map (y :: ·)=some ts from e);obtain ⟨l,rfl,h2⟩:=ih b e';obtain ⟨t,rfl⟩:=a.str_inv;exact ⟨(txt y,t) :: l,rfl,by rw [List.map_cons,h2]; rfl⟩
   | _=>exact nn e
theorem Zpo:∀ ts:List (List Nat),PySem.Str.join (txt []) (ts.map txt)=txt ts.flatten
 | []=>rfl
 | [x]=>by show txt x=txt _; simp
 | x :: y :: r=>by
  show txt x++txt []++PySem.Str.join (txt []) ((y :: r).map txt)=_;rw [Zpo (y :: r)];show txt x++txt []++txt (y :: r).flatten=_;delta txt;rw [Znd,Znd]; simp
theorem Zzj(ts:List (List Nat)):∀ n:Nat,(ts.map txt).toArray.foldl (fun n s=>n + s.length + (txt []).length) n=n + ts.flatten.length:=by
 intro n;rw [List.foldl_toArray]
 induction ts generalizing n with
 | nil=>rfl
 | cons x r ih =>
  rw [List.map_cons,List.foldl_cons,ih,List.flatten_cons,List.length_append];have h1:(txt x).length=x.length:=Zo x;have h2:(txt []).length=0:=rfl;lia
theorem smop_ok(R:Rel B f ω st s){m:SM}{x:List Nat}{t:Tok}{vs:List V}{xs:List Value}{r:V}(hv:VRs ω vs xs)(e:smop m x vs=some r):Op prog w B f A ω st s (call (.builtin m.id) (.str (txt x) t :: xs)) r:=by
 intro E;have hl:(txt x).length=x.length:=Zo x;cases hv with
 | nil=>cases e
 | cons a hv=>cases hv with
  | nil=>cases m with
   | join =>
    obtain ⟨us,rfl,e⟩:=Zya e;have e:Zmx x us=some r:=e;delta Zmx at e
    split at e
    case isFalse=>exact nn e
    rename_i hx
    subst hx;obtain ⟨ts,h1,e⟩:=Yac.mp e
    split at e
    case isFalse=>exact nn e
    rename_i hz
    cases e;obtain ⟨d,ws,n,rfl,e1,r1⟩:=a.lst_inv;obtain ⟨l,rfl,h2⟩:=strs_at r1 h1;refine wpAny_with_toks (Yaa _) (SC.join (l:=l) ⟨_,R.keep _ _ e1,rfl,n,rfl⟩ h2 ?_ fun t' k hk=>?_)
    ·delta JoinOk tooLong;rw [Zzj ts 0,Bool.not_eq_true',← sizeTop_eq];exact decide_eq_false (by lia)
    ·refine ⟨ω,.refl ω,?_,R.toks⟩;have e:Txt.join (txt []) (ts.map txt)=txt ts.flatten:=(StrLaws.glued_eq_join _ _).trans (Zpo ts);rw [e];exact .str _ _
   | _=>cases e
  | cons b hv=>cases hv with
   | nil =>
    cases m with
    | rfind=>cases e
    | count=>cases e
    | join=>cases e
    | find =>
     obtain ⟨y,rfl,e⟩:=Ziz e;obtain ⟨i,rfl,e⟩:=Zec e;cases e;obtain ⟨u,rfl⟩:=a.str_inv;obtain ⟨v,rfl⟩:=b.int_inv;refine SC.find3 ⟨ω,.refl ω,?_,R.toks⟩;delta Txt.find3 Zfr fromIndex idx0;rw [hl];exact .int _ _
   | cons c hv=>cases hv with
    | cons d hv=>cases e
    | nil =>
     cases m with
     | count=>cases e
     | join=>cases e
     | find =>
      obtain ⟨y,rfl,e⟩:=Ziz e;obtain ⟨i,rfl,e⟩:=Zec e;obtain ⟨j,rfl,e⟩:=Zec e;cases e;obtain ⟨u,rfl⟩:=a.str_inv;obtain ⟨v,rfl⟩:=b.int_inv;obtain ⟨z,rfl⟩:=c.int_inv;refine call_gives Yaw (typeIs_str _ _ _) PySem.F.entry_str_find (Zrw _ _ _ _) (Znw _ _ _ _ _ _ _ _) ⟨ω,.refl ω,?_,R.toks⟩;delta Zfr fromIndex idx0;rw [hl];exact .int _ _
     | rfind =>
      obtain ⟨y,rfl,e⟩:=Ziz e;obtain ⟨i,rfl,e⟩:=Zec e;obtain ⟨j,rfl,e⟩:=Zec e;cases e;obtain ⟨u,rfl⟩:=a.str_inv;obtain ⟨v,rfl⟩:=b.int_inv;obtain ⟨z,rfl⟩:=c.int_inv;refine call_gives Yax (typeIs_str _ _ _) PySem.F.entry_str_rfind (Zoc _ _ _ _) (Zmc _ _ _ _ _ _ _ _) ⟨ω,.refl ω,?_,R.toks⟩;delta Zdo fromIndex idx0;rw [hl];exact .int _ _
theorem SM.slot(m:SM):Slot "str" m.name m.id:=by cases m; exact Yaw; exact Yax; exact PySem.F.slot_str_count; exact PySem.F.slot_str_join
theorem SM.type(m:SM):typeOf (.builtin m.id)=pure (.type "method_descriptor"):=by cases m; exact PySem.F.type_str_find; exact PySem.F.type_str_rfind; exact PySem.F.type_str_count; exact PySem.F.type_str_join
theorem ev_sm{m:SM}{o:Expr}{apos pos:Pos}{es:List Expr}{env:Env}{P:PE}{Ps:PL}(ho:EV prog w B f A (eval o env) P)(hb:Zs o=true)(hline:(apos.endLine == pos.line)=true)
  (hp:es.all Zf=true) (hlen:es.length < 30) (h:EL prog w B f A (spliced (backTo pos (starEach es env))) Ps):EV prog w B f A (eval (.Call (.Attribute o m.name apos) es [] pos) env) (pSM m P Ps):=by
 intro E ω st s Q R hq;refine wpAny_Call_method_lateS (Zab hb _ _) (Zvr hp hlen pos env) hline (ho.to R hq (fun ov s₁ v st₁ ω₁ l₁ va R₁ q0=>?_));obtain ⟨x,hv,q⟩:=q0;subst hv;obtain ⟨t,rfl⟩:=va.str_inv;refine ⟨"str",m.id,Yay,m.slot,m.type,typeIs_str _ _ _,(fun _ e=>nomatch e),?_⟩;refine callWith_builtin (Zek hp pos env) (Zfc hp h R₁ q (fun a s₂ vs st₂ ω₂ l₂ vb R₂ q0=>?_));obtain ⟨r,e,q₂⟩:=q0;exact up ((smop_ok R₂ vb e).post q₂) fun _ _ z=>z.le (l₁.trans l₂)
theorem ev_repl{o:Expr}{apos pos p1 p2:Pos}{y z:PySem.Str}{k1 k2:Nat}{env:Env}{P:PE}(ho:EV prog w B f A (eval o env) P)(hb:Zs o=true)(hline:(apos.endLine == pos.line)=true) :
  EV prog w B f A (eval (.Call (.Attribute o "replace" apos) [.Constant (.str y) k1 p1,.Constant (.str z) k2 p2] [] pos) env) (Znj P y.cps.toList z.cps.toList):=by
 intro E ω st s Q R hq;refine wpAny_Call_method_lateS (Zab hb _ _) rfl hline (ho.to R hq (fun ov s₁ v st₁ ω₁ l₁ va R₁ q0=>?_));obtain ⟨x,hv,hx,hz,hyz,q⟩:=q0;subst hv;obtain ⟨t,rfl⟩:=va.str_inv;refine ⟨"str","str.replace",Yay,PySem.F.slot_str_replace,PySem.F.type_str_replace,typeIs_str _ _ _,(fun _ e=>nomatch e),?_⟩;refine callWith_builtin rfl (evalArgs_plain (spliced_cons (wpAny_Constant_str (k:=k1) (pos:=p1) (spliced_cons (wpAny_Constant_str (k:=k2) (pos:=p2) (spliced_nil ?_))))));have htk:=R₁.tk;have ey:txt y.cps.toList=y:=by delta txt; simp
 have ez:txt z.cps.toList=z:=by delta txt; simp
 refine wpAny_with_toks (n:=s₁.toks) (by show s₁.toks≤s₁.toks + 1 + 1; lia) (SC.replaceW (by show s₁.toks≠0; exact Yaz ‹_›) (by show s₁.toks + 1≠0; lia) (by show s₁.toks≠s₁.toks + 1; lia) ?_ (by rw [Zo]; exact hx) (by simpa [PySem.Str.length] using hz) fun t' k hk=>?_)
 ·cases e:(y == z) with
  | false=>rfl
  | true=>exact absurd (by rw [eq_of_beq e]) hyz
 ·refine ⟨_,st₁,ω₁,l₁,?_,R₁.toks,q⟩;have e:(⟨(Zeb x y.cps.toList z.cps.toList).toArray⟩:PySem.Str)=Txt.replace ⟨x.toArray⟩ y z:=by
   delta Zeb;rw [ey,ez];show PySem.Str.mk (Txt.replace (txt x) y z).cps.toList.toArray=_;rw [Array.toArray_toList]; rfl
  rw [← e];exact .str _ _
end
end Mine
end
section
open PySem PySem.W PySem.Calls PyProof.Rows
namespace Mine
theorem Zno:PlainAttrs "re.Match":=⟨⟨"object.__getattribute__",by rw [typeLookup_type,builtinLookup_eq_fast]; kernel_rfl,by decide +kernel⟩,by rw [typeLookup_type,builtinLookup_eq_fast]; kernel_rfl⟩
theorem Zdp:Slot "re.Match" "end" "re.Match.end" :=
 .of (owner:="re.Match") (n:="end") (by rw [typeLookup_type,builtinLookup_eq_fast]; kernel_rfl) (by decide +kernel) (by decide +kernel) (by decide +kernel)
  (by first | exact .inl (by decide +kernel) | exact .inr (by decide +kernel)) (by rw [isSubtype_type]; kernel_rfl)
theorem Zgu:entryFor table "re.Match.end"=some Builtin.«re.Match.end»:=entryFor_of_tree (by kernel_rfl)
theorem Zhj:typeOf (.builtin "re.Match.end")=pure (.type "method_descriptor"):=by show builtinType _=_; rw [builtinType_eq_fast]; kernel_rfl
theorem Zhu(a:Value):argsOk "re.Match.end" ⟨[a],[]⟩:=by delta argsOk; kernel_rfl
noncomputable def pEnd(P:PE):PE:=fun Q=>P fun v st=>∃ e,v=.mat e∧Q (.int e) st
section
variable{prog:Program}{w:World}{B:Base}{f:Fx}{A:Around}{E:Value→Shared→Prop}{ω:Wd}{st:St}{s:Shared}
theorem Zjl{u T:Addr}{a b c d z g:Value}{n:Nat}{e:Nat}{P:Fin→Shared→Prop}(hu:s.heap.get? u=some (matO a b c d z T))(hT:s.heap.get? T=some (tupO [g,rawInt e] n))
  (h:P (.done (.ret (.int e s.toks))) { s with toks:=s.toks + 1 }):wpAny (model prog w) A (Builtin.«re.Match.end» ⟨[.ref u],[]⟩) P E s:=by
 obtain ⟨hp,gg,dd,tk,os⟩:=s;delta Builtin.«re.Match.end» Builtin.Re.reOneGroup Builtin.Re.reFound Builtin.Re.reRawItems
 repeat (any_goals (first | assumption | wp_step))
 have e1:(Array.map Builtin.Re.reRawOf #[g,rawInt e]).getD (2 * 0 + 1) (-1)=(e:Int):=by simp [Builtin.Re.reRawOf,rawInt]
 show P (.done (.ret (.int ((Array.map Builtin.Re.reRawOf #[g,rawInt e]).getD (2 * 0 + 1) (-1)) tk))) _;rw [e1];exact h
theorem ev_end{o:Expr}{apos pos:Pos}{env:Env}{P:PE}(ho:EV prog w B f A (eval o env) P)(hb:attributeBase o "end" env (eval o env)=eval o env)(hline:(apos.endLine == pos.line)=true) :
  EV prog w B f A (eval (.Call (.Attribute o "end" apos) [] [] pos) env) (pEnd P):=by
 intro E ω st s Q R hq;refine Call_method0 hb hline (ho.to R hq (fun ov s₁ v st₁ ω₁ l₁ va R₁ q0=>?_));obtain ⟨e,hv,q⟩:=q0;subst hv;cases va with
 | @mat _ u T a b c d z g n hu hT =>
  have ku:=R₁.keep _ _ hu;have kT:=R₁.keep _ _ hT;refine ⟨"re.Match","re.Match.end",Zno,Zdp,Zhj,⟨_,ku,rfl⟩,(fun a' e'=>by cases e'; exact ⟨_,ku,rfl⟩),?_⟩;refine callWith_builtin rfl (evalArgs_nil3 ?_);exact wpAny_call_entry Zdp ⟨_,ku,rfl⟩ Zgu (Zjl ku kT ⟨_,rfl,.int e,st₁,ω₁,l₁,.int _ _,R₁.toks,q⟩) (Zhu _)
end
end Mine
namespace Mine
noncomputable def trc(c:Nat):Nat :=
 if c=40∨c=123∨c=91 then 40 else if c=41∨c=125∨c=93 then 41 else if c=34∨c=39∨c=92∨c=10∨c=35 then c else 120
structure TransAt(B:Base)(tr:Addr):Prop where
 obj:∃ C od es ep sl,B.hb.get? tr=some ⟨.ref C,od,.dict es ep,sl⟩∧noSeq B.K C=true∧findIn B.K (.ref C) "__getitem__"=some (some (.builtin "dict.__getitem__"))∧subIn B.K (.ref C) (.type "dict")=some true ∧
  IntKeys es∧∀ c:Nat,c < 128→∃ t,findBy Value.isInt es (c:Int)=some (.int (trc c) t)
theorem dgi_kind:builtinKind "dict.__getitem__"=some .method:=by decide +kernel
theorem dgi_type:typeOf (.builtin "dict.__getitem__")=pure (.type "method_descriptor"):=by show builtinType _=_; rw [builtinType_eq_fast]; kernel_rfl
theorem Zwj:entryFor table "dict.__getitem__"=some Builtin.«dict.__getitem__»:=entryFor_of_tree (by kernel_rfl)
theorem dgi_args(a b:Value):argsOk "dict.__getitem__" ⟨[a,b],[]⟩:=by delta argsOk; kernel_rfl
theorem Zwi:plainId "dict.__getitem__"=true:=by decide +kernel
theorem Zwh:splitId "dict.__getitem__"=some ("dict","__getitem__"):=by decide +kernel
section
variable{prog:Program}{w:World}{B:Base}{f:Fx}{A:Around}{E:Value→Shared→Prop}{ω:Wd}{st:St}{s:Shared}
theorem Zwk{tr:Addr}{x:Value}{Q:Unit→Shared→Prop}(hi:Looks (model prog w) s.heap (isInstance (.ref tr) (.type "dict")) true)(q:Q () s):wpAny (model prog w) A (checkBuiltinCall "dict.__getitem__" ⟨[.ref tr,x],[]⟩) Q E s:=by
 simp only [checkBuiltinCall,dgi_kind,Zwh];refine wpAny_bind (hi.here ?_);simp only [Bool.not_true,Bool.false_eq_true,if_false];cases hsig:Manifest.signature? "dict.__getitem__" with
 | none=>exact wpAny_pure q
 | some sig =>
  have ha:=dgi_args (.ref tr) x;simp only [argsOk,hsig] at ha;have h2:Bind.checkArgs "dict.__getitem__" sig ⟨[.ref tr,x],[]⟩=pure ():=ha;show wpAny _ _ (Bind.checkArgs "dict.__getitem__" sig ⟨[.ref tr,x],[]⟩) _ _ _;rw [h2]; exact wpAny_pure q
theorem run_dgi{tr:Addr}{o:Obj}{es:Array DictEntry}{ep:Nat}{c:Int}{t:Tok}{v:Value}{P:Fin→Shared→Prop}(ho:s.heap.get? tr=some o)(hd:o.data=.dict es ep)(hk:IntKeys es)(hv:findBy Value.isInt es c=some v)
  (h:P (.done (.ret v)) { s with toks:=s.toks + 1 }):wpAny (model prog w) A (Builtin.«dict.__getitem__» ⟨[.ref tr,.int c t],[]⟩) P E s:=by
 delta Builtin.«dict.__getitem__» Builtin.Dict.keyArg;have e:dictGet tr (.int c t)=dictGet tr (.int c t):=rfl;have key:∀ {Q:Option Value→Shared→Prop},Q (some v) { s with toks:=s.toks + 1 }→wpAny (model prog w) A (dictGet tr (.int c t)) Q E s:=by
  intro Q hq;delta dictGet
  try with_reducible refine wpAny_holding ?_
  refine wpAny_bind (wpAny_pyHash_int (wpAny_bind (wpAny_dictFind_int (s:={ s with toks:=s.toks + 1 }) ho hd hk ?_)));rw [findBy_of_findIdx?] at hv;cases hi:es.findIdx? fun e=>Value.isInt c e.key with
  | none=>rw [hi] at hv; cases hv
  | some i =>
   rw [hi] at hv;refine wpAny_bind (wpAny_dictEntries (s:={ s with toks:=s.toks + 1 }) ho hd (wpAny_pure ?_));rw [show Option.map (fun x=>x.val) es[i]?=some v from hv]; exact hq
 repeat (any_goals (first | assumption | ((with_reducible show wpAny _ _ (dictGet _ _) _ _ _); refine key ?_) | wp_step))
theorem Zjx(O:BaseOk w B)(R:Rel B f ω st s){tr:Addr}(T:TransAt B tr){c:Nat}{t:Tok}(hc:c < 128){Q:Value→Shared→Prop}(h:∀ t' k,s.toks≤k→Q (.int (trc c) t') { s with toks:=k }) :
  wpAny (model prog w) A (getItem (.ref tr) (.int c t)) Q E s:=by
 obtain ⟨C,od,es,ep,sl,ho,hq,hs,hsub,hk,hv⟩:=T.obj;obtain ⟨t',hv⟩:=hv c hc;have ho':=R.hk _ _ ho;have X:=O.X.keeps R.hk;have I:Looks (model prog w) s.heap (typeOf (.ref tr)) (.ref C):=(Looks.ld (part:=none) ho').andThen .now;delta getItem sequenceKey;refine wpAny_holding (wpAny_bind (wpAny_bind (I.here ?_)));refine wpAny_bind ((anyM_none X hq).here ?_);rw [if_pos (show (!false)=true from rfl)];refine wpAny_pure (wpAny_bind ?_);have hi:Looks (model prog w) s.heap (isInstance (.ref tr) (.type "dict")) true:=I.andThen (looks_subIn X hsub);refine wpAny_bind (wpAny_bind (I.here ((looks_findIn X hs).here (wpAny_holding (wpAny_bind ?_)))));delta bindSpecial;refine wpAny_bind (wpAny_of_eq dgi_type ?_);refine Yai (by decide) (wpAny_pure ?_);refine wpAny_bind (wpAny_call (codeAny_call_builtin Zwi Zwj (Zwk hi ?_)));refine run_dgi ho' rfl hk hv ?_;exact wpAny_pure (wpAny_pure (h _ _ (Yba _)))
end
end Mine
namespace Mine
section
variable{prog:Program}{w:World}{B:Base}{f:Fx}{A:Around}{E:Value→Shared→Prop}{ω:Wd}{st:St}{s:Shared}
theorem Znb(O:BaseOk w B)(R:Rel B f ω st s){tr:Addr}(T:TransAt B tr){c:Nat}(hc:c < 128){Q:Builtin.Str.Mapped→Shared→Prop}(h:∀ k,s.toks≤k→Q (.char (trc c)) { s with toks:=k }) :
  wpAny (model prog w) A (Builtin.Str.tableLookup (.ref tr) c) Q E s:=by
 unfold Builtin.Str.tableLookup;refine wpAny_bind (wpAny_attempt (wpAny_bind (wpAny_mkInt (Zjx O (R.toks (k:=s.toks + 1)) T hc fun t' k hk=>?_))));have h1:¬ ((trc c:Int) < 0):=by lia
 have h2:trc c≤127:=by unfold trc; split <;> (try split) <;> (try split) <;> lia
 dsimp only
 repeat (any_goals (first | assumption | wp_step))
 rw [if_neg (by simp only [Bool.or_eq_true,decide_eq_true_eq]; lia)];exact wpAny_pure (h k (by have:s.toks + 1≤k:=hk; exact Yf ‹_›))
inductive TrI(s:Shared)(x:List Nat)(rest:List Nat)(b:List Str × Nat × Bool × List (Nat × Option Nat) × Bool)(s':Shared):Prop
 | mk (dn:List Nat) (k:Nat) (known:List (Nat × Option Nat)) (hdn:dn++rest=x) (hk:s.toks≤k) (hs:s'={ s with toks:=k }) (hkn:∀ c a,List.lookup c known=some a→a=some (trc c)) (hb:b=((dn.map fun c=>(⟨#[trc c]⟩:Str)).reverse,dn.length,true,known,false))
theorem TrI.next{s:Shared}{x:List Nat}{dn rest:List Nat}{c k:Nat}{known:List (Nat × Option Nat)}(hdn:dn++c :: rest=x)(hk:s.toks≤k)(hkn:∀ c a,List.lookup c known=some a→a=some (trc c)) :
  TrI s x rest ((⟨#[trc c]⟩:Str) :: (dn.map fun c=>(⟨#[trc c]⟩:Str)).reverse,dn.length + 1,true,known,false) { s with toks:=k } :=
 ⟨dn++[c],k,known,by simpa using hdn,hk,rfl,hkn,by simp⟩
theorem Ztb(dn:List Nat):((List.map (fun c=>(⟨#[trc c]⟩:Str)) dn).reverse.reverse.foldl (fun acc p=>acc++p.cps) #[])=(dn.map trc).toArray:=by
 rw [List.reverse_reverse];have:∀ (l:List Nat) (acc:Array Nat),(List.map (fun c=>(⟨#[trc c]⟩:Str)) l).foldl (fun acc p=>acc++p.cps) acc=acc++(l.map trc).toArray:=by
  intro l
  induction l with
  | nil=>intro acc; simp
  | cons c l ih=>intro acc; rw [List.map_cons,List.foldl_cons,ih]; simp
 rw [this]; simp
theorem trc_low(c:Nat):trc c < 128:=by unfold trc; split <;> (try split) <;> (try split) <;> lia
theorem Zpa{n:Nat}(h:n < 1048577):Builtin.Str.tooLong n=false:=by unfold Builtin.Str.tooLong; rw [← sizeTop_eq]; unfold Zc; exact decide_eq_false (by lia)
theorem Zjk(O:BaseOk w B)(R:Rel B f ω st s){tr:Addr}(T:TransAt B tr){x:List Nat}{t:Tok}(hx:∀ c∈x,c < 128)(hl:x.length≤1048576){P:Fin→Shared→Prop}
  (h:∀ t' k,s.toks≤k→P (.done (.ret (.str ⟨(x.map trc).toArray⟩ t'))) { s with toks:=k }):wpAny (model prog w) A (Builtin.«str.translate» ⟨[.str ⟨x.toArray⟩ t,.ref tr],[]⟩) P E s:=by
 unfold Builtin.«str.translate»;refine wpAny_bind (wpAny_of_eq (a:=(.str ⟨x.toArray⟩ t,⟨x.toArray⟩,.ref tr)) (by rfl) ?_);dsimp only
 by_cases h0:x=[]
 ·subst h0;refine Yai rfl ?_;refine wpAny_bind (wpAny_rule (wpAny_bind (wpAny_of_eq (a:=.str ⟨[].toArray⟩ t) (by rfl) (wpAny_pure ?_))));exact h t s.toks (Yaa _)
 refine Ybb (by rw [Zo]; simpa using h0) ?_;refine wpAny_bind (PySem.MeetsSeq2.wpAny_forIn_array _ (TrI s x) _ ?_ ?_ _ _ ?_)
 ·intro c rest b s' z;obtain ⟨dn,k,known,hdn,hk,rfl,hkn,rfl⟩:=z;have hc:c < 128:=hx c (by rw [← hdn]; simp);refine Ybb (Zpa (by rw [← hdn] at hl; simp at hl; lia)) ?_;refine Yai rfl ?_;cases hlk:List.lookup c known with
  | some a =>
   obtain rfl:=hkn c a hlk;exact wpAny_bind (wpAny_pure (wpAny_pure (TrI.next hdn hk hkn)))
  | none =>
   refine wpAny_bind (Znb O (R.toks (k:=k) hk) T hc fun k' hk'=>?_);dsimp only;simp only [trc_low c,if_true];refine wpAny_bind (wpAny_pure (wpAny_pure (TrI.next hdn (Yg hk hk') ?_)));intro c' a' e;rw [List.lookup_cons] at e
   split at e
   ·rename_i q; rw [eq_of_beq q]; cases e; rfl
   ·exact hkn c' a' e
 ·intro b s' z;obtain ⟨dn,k,known,hdn,hk,rfl,hkn,rfl⟩:=z;obtain rfl:dn=x:=by simpa using hdn
  refine Ybb (Zpa (letd ‹_›)) ?_;refine wpAny_bind (wpAny_mkStr (wpAny_pure ?_) (by rw [Ztb,Zo,List.length_map,← sizeTop_eq]; unfold Zc; exact led ‹_›));rw [Ztb];exact h _ _ (Yg hk (Yba _))
 ·refine ⟨[],s.toks,[],rfl,Yaa _,rfl,(fun c a e=>by exact nn e),?_⟩;have:(x.toArray.all fun x=>decide (x < 128))=true:=by rw [List.all_toArray,List.all_eq_true]; intro c hc; exact decide_eq_true (hx c hc)
  simp only [this]; rfl
end
end Mine
namespace Mine
noncomputable def Zuj(P:PE):PE:=fun Q=>P fun v st=>∃ x,v=.str x∧(∀ c∈x,c < 128)∧x.length≤1048576∧Q (.str (x.map trc)) st
section
variable{prog:Program}{w:World}{B:Base}{f:Fx}{A:Around}{E:Value→Shared→Prop}{ω:Wd}{st:St}{s:Shared}
theorem Zzt(O:TopOk w B){tr:Addr}(T:TransAt B tr){o:Expr}{x:Str}{apos pos p:Pos}{P:PE}(ho:EV prog w B f A (eval o f.env) P)(hb:Zs o=true)(hline:(apos.endLine == pos.line)=true)
  (G:GlobAt B x (.ref tr)) (hk:f.scope.kind=.function) (hx:f.scope.names.lookup x=some .globalImplicit) (hd:(x == ("__debug__":Str))=false) :
  EV prog w B f A (eval (.Call (.Attribute o "translate" apos) [.Name x p] [] pos) f.env) (Zuj P):=by
 intro E ω st s Q R hq;refine wpAny_Call_method_lateS (Zab hb _ _) rfl hline (ho.to R hq (fun ov s₁ v st₁ ω₁ l₁ va R₁ q0=>?_));obtain ⟨y,hv,h1,h2,q⟩:=q0;subst hv;obtain ⟨t,rfl⟩:=va.str_inv;refine ⟨"str","str.translate",Yay,Ybc,PySem.F.type_str_translate,typeIs_str _ _ _,(fun _ e=>nomatch e),?_⟩;refine callWith_builtin rfl (evalArgs_plain (spliced_cons (Zat O R₁ G hk hx hd (spliced_nil ?_))));exact wpAny_call_entry Ybc (typeIs_str _ _ _) PySem.F.entry_str_translate (Zjk O.toBaseOk R₁ T h1 h2 fun t' k hk=>⟨_,rfl,_,st₁,ω₁,l₁,.str _ _,R₁.toks,q⟩) (PySem.F.args_str_translate_2 _ _)
end
end Mine
end
section
namespace Mine
open PySem.Sre
theorem Zbd{n:Nat}{m:M}(h:m.outcome.isSome=true):M.runFor n m=m:=by
 cases n with
 | zero=>rfl
 | succ n=>unfold M.runFor; rw [if_pos h]
theorem Zik(a b:Nat)(m:M):M.runFor (a + b) m=M.runFor b (M.runFor a m):=by
 induction a generalizing m with
 | zero=>rw [Nat.zero_add]; rfl
 | succ a ih =>
  rw [Nat.succ_add]
  by_cases h:m.outcome.isSome=true
  ·rw [Zbd h,Zbd h,Zbd h]
  ·show (if m.outcome.isSome=true then m else M.runFor (a + b) m.step)=M.runFor b (if m.outcome.isSome=true then m else M.runFor a m.step);rw [if_neg h,if_neg h]; exact ih _
structure Rx where
 C:Array Nat
 T:Array Nat
 lim:Nat
 st:Nat
noncomputable def Told(R:Rx)(m:M):Option Nat→Prop
 | some e=>m.outcome=some .matched∧m.handed=e∧m.start=R.st
 | none=>m.outcome=some .failed
noncomputable def Ends(R:Rx)(k:Nat)(m:M)(r:Option Nat):Prop:=∃ n,n≤k∧Told R (M.runFor n m) r
theorem Told.done{R:Rx}{m:M}{r:Option Nat}(h:Told R m r):m.outcome.isSome=true:=by
 cases r with
 | none=>have h':m.outcome=some .failed:=h; rw [h']; rfl
 | some e=>rw [h.1]; rfl
theorem Ends.le{R:Rx}{k k':Nat}{m:M}{r:Option Nat}(h:Ends R k m r)(l:k≤k'):Ends R k' m r:=let ⟨n,a,b⟩:=h; ⟨n,Yg a l,b⟩
noncomputable def kp(b:Bool):PySem.Sre.Kept:={ whole:=b }
noncomputable def Fm(w:Wait)(pc pos:Nat)(o:Bool)(count:Int)(b:Bool)(loop:Nat)(began:Option Nat):PySem.Sre.Frame:={ wait:=w,pc,pos,outermost:=o,count,kept:=kp b,loop,began }
noncomputable def S(R:Rx)(pc pos hd:Nat)(o:Bool)(L:Array PySem.Sre.Loop)(inn:Option Nat)(fs:List PySem.Sre.Frame)(wt:Nat)(ans:Option Bool)(sn:Seen):M :=
 {code:=R.C,text:=R.T,lim:=R.lim,start:=R.st,lastStart:=0,wholeText:=false,mustAdvance:=false,pc,pos,handed:=hd,outermost:=o,marks:=#[],lastmark:=-1,lastindex:=-1,
  loops:=L,inner:=inn,frames:=fs,weight:=wt,answer:=ans,seen:=sn,outcome:=none }
section
variable{R:Rx}{pc pos hd:Nat}{o:Bool}{L:Array PySem.Sre.Loop}{inn:Option Nat}{fs:List PySem.Sre.Frame}{wt:Nat}{sn:Seen}{k:Nat}{r:Option Nat}
theorem Ends.step{m:M}(ho:m.outcome=none)(h:Ends R k m.step r):Ends R (k + 1) m r:=by
 obtain ⟨n,a,b⟩:=h;refine ⟨n + 1,Yag a,?_⟩;show Told R (if m.outcome.isSome=true then m else M.runFor n m.step) r;rw [ho]; exact b
theorem Ends.by{pc' pos' hd':Nat}{o':Bool}{L':Array PySem.Sre.Loop}{inn':Option Nat}{fs':List PySem.Sre.Frame}{wt':Nat}{ans ans':Option Bool}{sn':Seen}
  (e:(S R pc pos hd o L inn fs wt ans sn).step=S R pc' pos' hd' o' L' inn' fs' wt' ans' sn') (h:Ends R k (S R pc' pos' hd' o' L' inn' fs' wt' ans' sn') r):Ends R (k + 1) (S R pc pos hd o L inn fs wt ans sn) r :=
 Ends.step rfl (e ▸ h)
theorem Zlz{b:Bool}{ans:Option Bool}:(S R pc pos hd o L inn fs wt ans sn).keep b=kp b:=by
 cases b <;> rfl
theorem Zr(hl:pc < R.C.size):(S R pc pos hd o L inn fs wt none sn).step=(S R pc pos hd o L inn fs wt none sn).exec:=by
 unfold M.step;rw [if_neg (by exact Bool.false_ne_true)];show (if pc < R.C.size then _ else _)=_;rw [if_pos hl]
theorem Zaw{w:Wait}{pc' pos':Nat}{o':Bool}{count:Int}{b:Bool}{loop:Nat}{began:Option Nat}{yes:Bool} :
  (S R pc pos hd o L inn (Fm w pc' pos' o' count b loop began :: fs) wt (some yes) sn).step=(S R pc' pos' hd o' L inn fs (wt - 1) none sn).resume (Fm w pc' pos' o' count b loop began) yes:=rfl
theorem Zbe{b:Bool}{ans:Option Bool}:(S R pc pos hd o L inn fs wt ans sn).putBack (kp b)=S R pc pos hd o L inn fs wt ans sn:=by
 cases b <;> rfl
theorem Zx{w:Wait}{pc' pos':Nat}{o':Bool}{count:Int}{b:Bool}{loop:Nat}{began:Option Nat}{t fr:Nat}{oo:Bool}{ans:Option Bool}(hw:wt < 16777216) :
  (S R pc pos hd o L inn fs wt ans sn).attempt (Fm w pc' pos' o' count b loop began) t fr oo=S R t fr fr oo L inn (Fm w pc' pos' o' count b loop began :: fs) (wt + 1) ans sn:=by
 unfold M.attempt;refine (if_neg ?_).trans rfl;show ¬ (wt + 1 + 0 > 16777216);exact Ybd.mpr ‹_›
noncomputable def Zcr(C:Array Nat)(pc c:Nat)(b:Bool):Prop:=∀ sn,∃ sn',accepts C pc c sn=.ok (b,sn')
theorem Zwe{op:PySem.Sre.Op}{b:Bool}(hop:ops[R.C.getD (pc + 0) 0]?=some op)(h1:op=.ANY∨op=.ANY_ALL∨op=.LITERAL∨op=.IN)(hl:pc < R.C.size)(ht:Zcr R.C pc (R.T.getD pos 0) b)(hp:pos < R.lim)
  (h:∀ sn',Ends R k (if b then S R (pc + itemWidth R.C pc) (pos + 1) hd o L inn fs wt none sn' else S R pc pos hd o L inn fs wt (some false) sn') r):Ends R (k + 1) (S R pc pos hd o L inn fs wt none sn) r:=by
 refine Ends.step rfl ?_;rw [Zr hl];unfold M.exec;have hw:ops[(S R pc pos hd o L inn fs wt none sn).word 0]?=some op:=hop;rw [hw];obtain ⟨sn',e⟩:=ht (sn.add (R.C.getD (pc + 0) 0));have hnp:¬ (pos ≥ R.lim):=by exact Nat.not_le.mpr ‹_›
 have h':=h sn'
 rcases h1 with rfl | rfl | rfl | rfl
 all_goals
  dsimp only;refine (congrArg (fun x=>Ends R k x r) (if_neg hnp)).mpr ?_;show Ends R k (match accepts R.C pc (R.T.getD pos 0) (sn.add (R.C.getD (pc + 0) 0)) with | .error why=>_ | .ok (false,seen)=>_ | .ok (true,seen)=>_) r;rw [e];cases b <;> exact h'
theorem Zgw{op:PySem.Sre.Op}(hop:ops[R.C.getD (pc + 0) 0]?=some op)(h1:op=.ANY∨op=.ANY_ALL∨op=.LITERAL∨op=.IN)(hl:pc < R.C.size)(hp:R.lim≤pos)
  (h:∀ sn',Ends R k (S R pc pos hd o L inn fs wt (some false) sn') r):Ends R (k + 1) (S R pc pos hd o L inn fs wt none sn) r:=by
 refine Ends.step rfl ?_;rw [Zr hl];unfold M.exec;have hw:ops[(S R pc pos hd o L inn fs wt none sn).word 0]?=some op:=hop;rw [hw];have h':=h (sn.add (R.C.getD (pc + 0) 0))
 rcases h1 with rfl | rfl | rfl | rfl
 all_goals
  dsimp only;refine (congrArg (fun x=>Ends R k x r) (if_pos hp)).mpr ?_;exact h'
theorem Zdc(hop:ops[R.C.getD (pc + 0) 0]?=some .SUCCESS)(hl:pc < R.C.size)(h:∀ sn',Ends R k (S R pc pos pos o L inn fs wt (some true) sn') r):Ends R (k + 1) (S R pc pos hd o L inn fs wt none sn) r:=by
 refine Ends.step rfl ?_;rw [Zr hl];unfold M.exec;have hw:ops[(S R pc pos hd o L inn fs wt none sn).word 0]?=some .SUCCESS:=hop;rw [hw];dsimp only;refine (congrArg (fun x=>Ends R k x r) (if_neg ?_)).mpr (h (sn.add (R.C.getD (pc + 0) 0)));show ¬ ((o && ((false && _) || (false && _)))=true);cases o <;> simp
theorem e_jump{op:PySem.Sre.Op}(hop:ops[R.C.getD (pc + 0) 0]?=some op)(h1:op=.JUMP∨op=.INFO)(hl:pc < R.C.size)(h:∀ sn',Ends R k (S R (pc + 1 + R.C.getD (pc + 1) 0) pos hd o L inn fs wt none sn') r):Ends R (k + 1) (S R pc pos hd o L inn fs wt none sn) r:=by
 refine Ends.step rfl ?_;rw [Zr hl];unfold M.exec;have hw:ops[(S R pc pos hd o L inn fs wt none sn).word 0]?=some op:=hop;rw [hw]
 rcases h1 with rfl | rfl <;> exact h (sn.add (R.C.getD (pc + 0) 0))
theorem alt_S{alt:Nat}{b:Bool}(hw:wt < 16777216)(ha:R.C.getD alt 0≠0):(S R pc pos hd o L inn fs wt none sn).alternative alt (kp b)=S R (alt + 1) pos pos o L inn (Fm .nextBranch alt pos o 0 b 0 none :: fs) (wt + 1) none sn:=by
 unfold M.alternative;refine (if_neg ?_).trans (Zx (w:=.nextBranch) (pc':=alt) (pos':=pos) (o':=o) (count:=0) (b:=b) (loop:=0) (began:=none) hw);show ¬ ((R.C.getD alt 0 == 0)=true);simpa using ha
theorem alt_S0{alt:Nat}{b:Bool}(ha:R.C.getD alt 0=0):(S R pc pos hd o L inn fs wt none sn).alternative alt (kp b)=S R pc pos hd o L inn fs wt (some false) sn:=by
 unfold M.alternative;refine (if_pos ?_).trans rfl;show ((R.C.getD alt 0 == 0)=true);simpa using ha
theorem Zpy(hop:ops[R.C.getD (pc + 0) 0]?=some .BRANCH)(hl:pc < R.C.size)(hw:wt < 16777216)(ha:R.C.getD (pc + 1) 0≠0)
  (h:∀ sn',Ends R k (S R (pc + 1 + 1) pos pos o L inn (Fm .nextBranch (pc + 1) pos o 0 inn.isSome 0 none :: fs) (wt + 1) none sn') r):Ends R (k + 1) (S R pc pos hd o L inn fs wt none sn) r:=by
 refine Ends.step rfl ?_;rw [Zr hl];unfold M.exec;have hw':ops[(S R pc pos hd o L inn fs wt none sn).word 0]?=some .BRANCH:=hop;rw [hw'];have e:∀ sn',(S R pc pos hd o L inn fs wt none sn').alternative (pc + 1) ((S R pc pos hd o L inn fs wt none sn').keep inn.isSome)=S R (pc + 1 + 1) pos pos o L inn (Fm .nextBranch (pc + 1) pos o 0 inn.isSome 0 none :: fs) (wt + 1) none sn' :=
  fun sn'=>by rw [Zlz]; exact alt_S hw ha
 exact (congrArg (fun x=>Ends R k x r) (e (sn.add (R.C.getD (pc + 0) 0)))).mpr (h _)
theorem Zme{pc' pos':Nat}{o':Bool}{count:Int}{b:Bool}{loop:Nat}{began:Option Nat}(hw:wt < 16777216)(ha:R.C.getD (pc' + R.C.getD pc' 0) 0≠0)
  (h:∀ sn',Ends R k (S R (pc' + R.C.getD pc' 0 + 1) pos' pos' o' L inn (Fm .nextBranch (pc' + R.C.getD pc' 0) pos' o' 0 b 0 none :: fs) (wt + 1) none sn') r) :
  Ends R (k + 1) (S R pc pos hd o L inn (Fm .nextBranch pc' pos' o' count b loop began :: fs) (wt + 1) (some false) sn) r:=by
 refine Ends.step rfl ?_;rw [Zaw];have e:(S R pc' pos' hd o' L inn fs wt none sn).resume (Fm .nextBranch pc' pos' o' count b loop began) false=S R (pc' + R.C.getD pc' 0 + 1) pos' pos' o' L inn (Fm .nextBranch (pc' + R.C.getD pc' 0) pos' o' 0 b 0 none :: fs) (wt + 1) none sn:=by
  show ((S R pc' pos' hd o' L inn fs wt none sn).putBack (kp b)).alternative (pc' + R.C.getD pc' 0) (kp b)=_;rw [Zbe,alt_S hw ha]
 exact (congrArg (fun x=>Ends R k x r) e).mpr (h _)
theorem Zrm{pc' pos':Nat}{o':Bool}{count:Int}{b:Bool}{loop:Nat}{began:Option Nat}(ha:R.C.getD (pc' + R.C.getD pc' 0) 0=0)
  (h:∀ sn',Ends R k (S R pc' pos' hd o' L inn fs wt (some false) sn') r) :
  Ends R (k + 1) (S R pc pos hd o L inn (Fm .nextBranch pc' pos' o' count b loop began :: fs) (wt + 1) (some false) sn) r:=by
 refine Ends.step rfl ?_;rw [Zaw];have e:(S R pc' pos' hd o' L inn fs wt none sn).resume (Fm .nextBranch pc' pos' o' count b loop began) false=S R pc' pos' hd o' L inn fs wt (some false) sn:=by
  show ((S R pc' pos' hd o' L inn fs wt none sn).putBack (kp b)).alternative (pc' + R.C.getD pc' 0) (kp b)=_;rw [Zbe,alt_S0 ha]
 exact (congrArg (fun x=>Ends R k x r) e).mpr (h _)
noncomputable def cntP(p:Nat→Bool)(T:Array Nat):(n pos:Nat)→Nat
 | 0,_=>0
 | n + 1,pos=>if p (T.getD pos 0) then cntP p T n (pos + 1) + 1 else 0
theorem run_S{C T:Array Nat}{i:Nat}{p:Nat→Bool}(hp:∀ c,Zcr C i c (p c)):∀ (n pos found:Nat) (sn:Seen),∃ sn',PySem.Sre.run C T i n pos found sn=.ok (found + cntP p T n pos,sn')
 | 0,pos,found,sn=>⟨sn,rfl⟩
 | n + 1,pos,found,sn=>by
  obtain ⟨sn',e⟩:=hp (T.getD pos 0) sn;unfold PySem.Sre.run;rw [e];cases q:p (T.getD pos 0) with
  | false=>exact ⟨sn',by simp only [cntP,q,bind,Except.bind,pure,Except.pure,Bool.false_eq_true,if_false,Nat.add_zero]⟩
  | true =>
   obtain ⟨sn2,e2⟩:=run_S hp n (pos + 1) (found + 1) sn';refine ⟨sn2,?_⟩;simp only [cntP,q,if_true,bind,Except.bind];rw [e2]; congr 2; exact Ybe _ _ _
theorem Zch{p:Nat→Bool}{n N:Nat}(hop:ops[R.C.getD (pc + 0) 0]?=some .REPEAT_ONE)(hl:pc < R.C.size)(hw:wt < 16777216)(hle:pos≤R.lim)(hp:∀ c,Zcr R.C (pc + 4) c (p c))(hN:min (R.C.getD (pc + 3) 0) (R.lim - pos)=N)
  (hn:cntP p R.T N pos=n) (hmin:R.C.getD (pc + 2) 0≤n) (hroom:n≤R.lim - pos)
  (h:∀ sn',Ends R k (S R (pc + 1 + R.C.getD (pc + 1) 0) (pos + n) (pos + n) o L inn (Fm .giveBack pc (pos + n) o n inn.isSome 0 none :: fs) (wt + 1) none sn') r):Ends R (k + 1) (S R pc pos hd o L inn fs wt none sn) r:=by
 refine Ends.step rfl ?_;rw [Zr hl];unfold M.exec;have hw':ops[(S R pc pos hd o L inn fs wt none sn).word 0]?=some .REPEAT_ONE:=hop;rw [hw'];dsimp only;refine (congrArg (fun x=>Ends R k x r) (if_neg ?_)).mpr ?_
 ·show ¬ (((R.C.getD (pc + 2) 0:Nat):Int) > (R.lim:Int) - pos);rw [← Int.ofNat_sub hle];exact Int.not_lt.mpr (Yaq.mpr (Yg hmin hroom))
 show Ends R k (match PySem.Sre.run R.C R.T (pc + 4) (min (R.C.getD (pc + 3) 0) ((R.lim:Int) - pos).toNat) pos 0 ((sn.add (R.C.getD (pc + 0) 0)).add (R.C.getD (pc + 4) 0)) with | .error why=>_ | .ok (n,seen)=>_) r;have e1:min (R.C.getD (pc + 3) 0) ((R.lim:Int) - pos).toNat=N:=by rw [← hN,Int.toNat_sub]
 rw [e1];obtain ⟨sn',e⟩:=run_S (T:=R.T) hp N pos 0 ((sn.add (R.C.getD (pc + 0) 0)).add (R.C.getD (pc + 4) 0));rw [e,hn,Nat.zero_add];dsimp only;refine (congrArg (fun x=>Ends R k x r) (if_neg (show ¬ (n < R.C.getD (pc + 2) 0) from Ybd.mpr hmin))).mpr ?_;have e2:(S R pc (pos + n) hd o L inn fs wt none sn').afterRun .giveBack n ((S R pc (pos + n) hd o L inn fs wt none sn').keep inn.isSome)=S R (pc + 1 + R.C.getD (pc + 1) 0) (pos + n) (pos + n) o L inn (Fm .giveBack pc (pos + n) o n inn.isSome 0 none :: fs) (wt + 1) none sn':=by
  rw [Zlz];exact Zx (w:=.giveBack) (pc':=pc) (pos':=pos + n) (o':=o) (count:=n) (b:=inn.isSome) (loop:=0) (began:=none) hw
 exact (congrArg (fun x=>Ends R k x r) e2).mpr (h _)
theorem Zgv{p:Nat→Bool}{n:Nat}(hop:ops[R.C.getD (pc + 0) 0]?=some .REPEAT_ONE)(hl:pc < R.C.size)(hle:pos≤R.lim)(hp:∀ c,Zcr R.C (pc + 4) c (p c))(hmx:R.lim - pos≤R.C.getD (pc + 3) 0)
  (hn:cntP p R.T (R.lim - pos) pos=n) (hmin:n < R.C.getD (pc + 2) 0)
  (h:∀ pos' sn',Ends R k (S R pc pos' hd o L inn fs wt (some false) sn') r):Ends R (k + 1) (S R pc pos hd o L inn fs wt none sn) r:=by
 refine Ends.step rfl ?_;rw [Zr hl];unfold M.exec;have hw':ops[(S R pc pos hd o L inn fs wt none sn).word 0]?=some .REPEAT_ONE:=hop;rw [hw'];dsimp only
 by_cases hr:((R.C.getD (pc + 2) 0:Nat):Int) > (R.lim:Int) - pos
 ·exact (congrArg (fun x=>Ends R k x r) (if_pos hr)).mpr (h pos _)
 refine (congrArg (fun x=>Ends R k x r) (if_neg hr)).mpr ?_;show Ends R k (match PySem.Sre.run R.C R.T (pc + 4) (min (R.C.getD (pc + 3) 0) ((R.lim:Int) - pos).toNat) pos 0 ((sn.add (R.C.getD (pc + 0) 0)).add (R.C.getD (pc + 4) 0)) with | .error why=>_ | .ok (n,seen)=>_) r;have e1:min (R.C.getD (pc + 3) 0) ((R.lim:Int) - pos).toNat=R.lim - pos:=by rw [Int.toNat_sub]; exact Ybf hmx
 rw [e1];obtain ⟨sn',e⟩:=run_S (T:=R.T) hp (R.lim - pos) pos 0 ((sn.add (R.C.getD (pc + 0) 0)).add (R.C.getD (pc + 4) 0));rw [e,hn,Nat.zero_add];dsimp only;exact (congrArg (fun x=>Ends R k x r) (if_pos (show (n < R.C.getD (pc + 2) 0) from hmin))).mpr (h pos _)
theorem Zrn{pc' pos':Nat}{o':Bool}{count:Int}{b:Bool}{loop:Nat}{began:Option Nat}(hw:wt < 16777216)(hm:((R.C.getD (pc' + 2) 0:Nat):Int)≤count - 1)
  (h:∀ sn',Ends R k (S R (pc' + 1 + R.C.getD (pc' + 1) 0) (pos' - 1) (pos' - 1) o' L inn (Fm .giveBack pc' (pos' - 1) o' (count - 1) b 0 none :: fs) (wt + 1) none sn') r) :
  Ends R (k + 1) (S R pc pos hd o L inn (Fm .giveBack pc' pos' o' count b loop began :: fs) (wt + 1) (some false) sn) r:=by
 refine Ends.step rfl ?_;rw [Zaw];have e:(S R pc' pos' hd o' L inn fs wt none sn).resume (Fm .giveBack pc' pos' o' count b loop began) false=S R (pc' + 1 + R.C.getD (pc' + 1) 0) (pos' - 1) (pos' - 1) o' L inn (Fm .giveBack pc' (pos' - 1) o' (count - 1) b 0 none :: fs) (wt + 1) none sn:=by
  show (if count - 1 < ((R.C.getD (pc' + 2) 0:Nat):Int) then _ else { (S R pc' pos' hd o' L inn fs wt none sn).putBack (kp b) with pos:=pos' - 1 }.afterRun .giveBack (count - 1) (kp b))=_;rw [if_neg (by lia),Zbe];exact Zx (pc:=pc') (pos:=pos' - 1) (w:=.giveBack) (pc':=pc') (pos':=pos' - 1) (o':=o') (count:=count - 1) (b:=b) (loop:=0) (began:=none) hw
 exact (congrArg (fun x=>Ends R k x r) e).mpr (h _)
theorem Zht{pc' pos':Nat}{o':Bool}{count:Int}{b:Bool}{loop:Nat}{began:Option Nat}(hm:count - 1 < ((R.C.getD (pc' + 2) 0:Nat):Int))
  (h:∀ sn',Ends R k (S R pc' pos' hd o' L inn fs wt (some false) sn') r) :
  Ends R (k + 1) (S R pc pos hd o L inn (Fm .giveBack pc' pos' o' count b loop began :: fs) (wt + 1) (some false) sn) r:=by
 refine Ends.step rfl ?_;rw [Zaw];have e:(S R pc' pos' hd o' L inn fs wt none sn).resume (Fm .giveBack pc' pos' o' count b loop began) false=S R pc' pos' hd o' L inn fs wt (some false) sn:=by
  show (if count - 1 < ((R.C.getD (pc' + 2) 0:Nat):Int) then ((S R pc' pos' hd o' L inn fs wt none sn).putBack (kp b)).say false else _)=_;rw [if_pos hm,Zbe]; rfl
 exact (congrArg (fun x=>Ends R k x r) e).mpr (h _)
theorem Zwg:Ends R 1 (S R pc pos hd o L inn [] wt (some false) sn) none:=⟨1,Yaa _,rfl⟩
noncomputable def Zbx:Wait→Bool
 | .nextBranch | .giveBack | .closeLoop | .maxMore | .maxTail | .maxBelow=>true
 | _=>false
inductive Passed(R:Rx)(hd:Nat)(fs:List PySem.Sre.Frame)(sn:Seen)(m:M):Prop
 | mk (pc pos:Nat) (o:Bool) (L:Array PySem.Sre.Loop) (inn:Option Nat) (wt:Nat) (e:m=S R pc pos hd o L inn fs wt (some true) sn)
theorem e_pass{f:PySem.Sre.Frame}(hf:Zbx f.wait=true):Passed R hd fs sn (S R pc pos hd o L inn (f :: fs) wt (some true) sn).step:=by
 obtain ⟨w,a,b,c,d,e,g,i⟩:=f;cases w <;> first | exact .mk _ _ _ _ _ _ rfl | exact absurd hf Yy
theorem Zwc:∀ {fs:List PySem.Sre.Frame} {pc pos:Nat} {o:Bool} {L:Array PySem.Sre.Loop} {inn:Option Nat} {wt:Nat},(fs.all fun f=>Zbx f.wait)=true→Ends R (fs.length + 1) (S R pc pos hd o L inn fs wt (some true) sn) (some hd)
 | [],_,_,_,_,_,_,_=>⟨1,Yaa _,rfl,rfl,rfl⟩
 | f :: fs,_,_,_,_,_,_,h=>by
  rw [List.all_cons,Bool.and_eq_true] at h;refine Ends.step rfl ?_;obtain ⟨_,_,_,_,_,_,e⟩:=e_pass (R:=R) (hd:=hd) (fs:=fs) (sn:=sn) h.1;rw [e];exact Zwc h.2
end
end Mine
namespace Mine
open PySem.Sre
noncomputable def lp(rp:Nat)(c:Int)(b:Option Nat):Array PySem.Sre.Loop:=#[{ pc:=rp,count:=c,began:=b,outer:=none }]
noncomputable def lp2(rp0:Nat)(c0:Int)(b0:Option Nat)(rp:Nat)(c:Int)(b:Option Nat):Array PySem.Sre.Loop:=#[{ pc:=rp0,count:=c0,began:=b0,outer:=none },{ pc:=rp,count:=c,began:=b,outer:=none }]
section
variable{R:Rx}{pc pos hd:Nat}{o:Bool}{L:Array PySem.Sre.Loop}{inn:Option Nat}{fs:List PySem.Sre.Frame}{wt:Nat}{sn:Seen}{k:Nat}{r:Option Nat}
theorem Zpx(hop:ops[R.C.getD (pc + 0) 0]?=some .REPEAT)(hl:pc < R.C.size)(hw:wt < 16777216)
  (h:∀ sn',Ends R k (S R (pc + 1 + R.C.getD (pc + 1) 0) pos pos o (lp pc (-1) none) (some 0) (Fm .closeLoop pc pos o 0 false 0 none :: fs) (wt + 1) none sn') r):Ends R (k + 1) (S R pc pos hd o #[] none fs wt none sn) r:=by
 refine Ends.step rfl ?_;rw [Zr hl];unfold M.exec;have hw':ops[(S R pc pos hd o #[] none fs wt none sn).word 0]?=some .REPEAT:=hop;rw [hw'];have e:∀ sn',(S R pc pos hd o (lp pc (-1) none) (some 0) fs wt none sn').attempt (Fm .closeLoop pc pos o 0 false 0 none) (pc + 1 + R.C.getD (pc + 1) 0) pos o=S R (pc + 1 + R.C.getD (pc + 1) 0) pos pos o (lp pc (-1) none) (some 0) (Fm .closeLoop pc pos o 0 false 0 none :: fs) (wt + 1) none sn' :=
  fun sn'=>Zx hw
 exact (congrArg (fun x=>Ends R k x r) (e (sn.add (R.C.getD (pc + 0) 0)))).mpr (h _)
theorem e_more{rp:Nat}{c:Int}{b:Option Nat}(hop:ops[R.C.getD (pc + 0) 0]?=some .MAX_UNTIL)(hl:pc < R.C.size)(hw:wt < 16777216)(hc:0≤c + 1)(h0:R.C.getD (rp + 2) 0=0)
  (hm:c + 1 < (R.C.getD (rp + 3) 0:Nat)∨R.C.getD (rp + 3) 0=maxRepeat) (hb:b≠some pos)
  (h:∀ sn',Ends R k (S R (rp + 4) pos pos o (lp rp (c + 1) (some pos)) (some 0) (Fm .maxMore (pc + 1) pos o (c + 1) true 0 b :: fs) (wt + 1) none sn') r):Ends R (k + 1) (S R pc pos hd o (lp rp c b) (some 0) fs wt none sn) r:=by
 refine Ends.step rfl ?_;rw [Zr hl];unfold M.exec;have hw':ops[(S R pc pos hd o (lp rp c b) (some 0) fs wt none sn).word 0]?=some .MAX_UNTIL:=hop;rw [hw'];have e:∀ sn',(S R (pc + 1) pos hd o (lp rp c b) (some 0) fs wt none sn').until_ true=S R (rp + 4) pos pos o (lp rp (c + 1) (some pos)) (some 0) (Fm .maxMore (pc + 1) pos o (c + 1) true 0 b :: fs) (wt + 1) none sn':=by
  intro sn';unfold M.until_
  show (if c + 1 < ((R.C.getD (rp + 2) 0:Nat):Int) then _ else if (!true)=true then _ else if ((decide (c + 1 < ((R.C.getD (rp + 3) 0:Nat):Int)) || R.C.getD (rp + 3) 0 == maxRepeat) && b != some pos)=true then
   (S R (pc + 1) pos hd o (lp rp c b) (some 0) fs wt none sn').round .maxMore 0 (c + 1) true ((S R (pc + 1) pos hd o (lp rp c b) (some 0) fs wt none sn').keep true) else _)=_
  rw [if_neg (by rw [h0]; omega),if_neg (by simp),if_pos (by
   rw [Bool.and_eq_true,Bool.or_eq_true];refine ⟨?_,by simpa using hb⟩
   rcases hm with hm | hm
   ·exact .inl (decide_eq_true hm)
   ·exact .inr (by simp [hm])),Zlz]
  exact Zx (pc:=pc + 1) (L:=lp rp (c + 1) (some pos)) (w:=.maxMore) (pc':=pc + 1) (pos':=pos) (o':=o) (count:=c + 1) (b:=true) (loop:=0) (began:=b) hw
 exact (congrArg (fun x=>Ends R k x r) (e (sn.add (R.C.getD (pc + 0) 0)))).mpr (h _)
theorem e_tail{rp:Nat}{c:Int}{b:Option Nat}(hop:ops[R.C.getD (pc + 0) 0]?=some .MAX_UNTIL)(hl:pc < R.C.size)(hw:wt < 16777216)(hc:0≤c + 1)(h0:R.C.getD (rp + 2) 0=0)
  (hm:(¬ c + 1 < (R.C.getD (rp + 3) 0:Nat)∧R.C.getD (rp + 3) 0≠maxRepeat)∨b=some pos)
  (h:∀ sn',Ends R k (S R (pc + 1) pos pos o (lp rp c b) none (Fm .maxTail (pc + 1) pos o (c + 1) false 0 none :: fs) (wt + 1) none sn') r):Ends R (k + 1) (S R pc pos hd o (lp rp c b) (some 0) fs wt none sn) r:=by
 refine Ends.step rfl ?_;rw [Zr hl];unfold M.exec;have hw':ops[(S R pc pos hd o (lp rp c b) (some 0) fs wt none sn).word 0]?=some .MAX_UNTIL:=hop;rw [hw'];have e:∀ sn',(S R (pc + 1) pos hd o (lp rp c b) (some 0) fs wt none sn').until_ true=S R (pc + 1) pos pos o (lp rp c b) none (Fm .maxTail (pc + 1) pos o (c + 1) false 0 none :: fs) (wt + 1) none sn':=by
  intro sn';unfold M.until_
  show (if c + 1 < ((R.C.getD (rp + 2) 0:Nat):Int) then _ else if (!true)=true then _ else if ((decide (c + 1 < ((R.C.getD (rp + 3) 0:Nat):Int)) || R.C.getD (rp + 3) 0 == maxRepeat) && b != some pos)=true then _ else
   (S R (pc + 1) pos hd o (lp rp c b) (some 0) fs wt none sn').afterLoop .maxTail 0 (c + 1) fun _=>false)=_
  rw [if_neg (by rw [h0]; omega),if_neg (by simp),if_neg (by
   rw [Bool.and_eq_true,Bool.or_eq_true];rintro ⟨h1,h2⟩
   rcases hm with ⟨hm,hm'⟩ | hm
   ·rcases h1 with h1 | h1
    ·exact hm (of_decide_eq_true h1)
    ·exact hm' (by simpa using h1)
   ·subst hm; simp at h2)]
  exact Zx (pc:=pc + 1) (L:=lp rp c b) (inn:=none) (w:=.maxTail) (pc':=pc + 1) (pos':=pos) (o':=o) (count:=c + 1) (b:=false) (loop:=0) (began:=none) hw
 exact (congrArg (fun x=>Ends R k x r) (e (sn.add (R.C.getD (pc + 0) 0)))).mpr (h _)
theorem Zas{rp pc' pos':Nat}{o' bk:Bool}{c count:Int}{b began:Option Nat}(hw:wt < 16777216)
  (h:∀ sn',Ends R k (S R pc' pos' pos' o' (lp rp (count - 1) began) none (Fm .maxTail pc' pos' o' count false 0 none :: fs) (wt + 1) none sn') r) :
  Ends R (k + 1) (S R pc pos hd o (lp rp c b) inn (Fm .maxMore pc' pos' o' count bk 0 began :: fs) (wt + 1) (some false) sn) r:=by
 refine Ends.step rfl ?_;rw [Zaw];have e:(S R pc' pos' hd o' (lp rp c b) inn fs wt none sn).resume (Fm .maxMore pc' pos' o' count bk 0 began) false=S R pc' pos' pos' o' (lp rp (count - 1) began) none (Fm .maxTail pc' pos' o' count false 0 none :: fs) (wt + 1) none sn:=by
  show (((S R pc' pos' hd o' (lp rp c began) inn fs wt none sn).putBack (kp bk)).setLoop 0 fun l=>{ l with count:=count - 1 }).afterLoop .maxTail 0 count (fun _=>false)=_;rw [Zbe];exact Zx (pc:=pc') (L:=lp rp (count - 1) began) (inn:=none) (w:=.maxTail) (pc':=pc') (pos':=pos') (o':=o') (count:=count) (b:=false) (loop:=0) (began:=none) hw
 exact (congrArg (fun x=>Ends R k x r) e).mpr (h _)
theorem Zwd{rp0:Nat}{c0:Int}{b0:Option Nat}(hop:ops[R.C.getD (pc + 0) 0]?=some .REPEAT)(hl:pc < R.C.size)(hw:wt < 16777216)
  (h:∀ sn',Ends R k (S R (pc + 1 + R.C.getD (pc + 1) 0) pos pos o (lp2 rp0 c0 b0 pc (-1) none) (some 1) (Fm .closeLoop pc pos o 0 false 1 none :: fs) (wt + 1) none sn') r):Ends R (k + 1) (S R pc pos hd o (lp rp0 c0 b0) none fs wt none sn) r:=by
 refine Ends.step rfl ?_;rw [Zr hl];unfold M.exec;have hw':ops[(S R pc pos hd o (lp rp0 c0 b0) none fs wt none sn).word 0]?=some .REPEAT:=hop;rw [hw'];have e:∀ sn',(S R pc pos hd o (lp2 rp0 c0 b0 pc (-1) none) (some 1) fs wt none sn').attempt (Fm .closeLoop pc pos o 0 false 1 none) (pc + 1 + R.C.getD (pc + 1) 0) pos o=S R (pc + 1 + R.C.getD (pc + 1) 0) pos pos o (lp2 rp0 c0 b0 pc (-1) none) (some 1) (Fm .closeLoop pc pos o 0 false 1 none :: fs) (wt + 1) none sn' :=
  fun sn'=>Zx hw
 exact (congrArg (fun x=>Ends R k x r) (e (sn.add (R.C.getD (pc + 0) 0)))).mpr (h _)
theorem e_more2{rp0:Nat}{c0:Int}{b0:Option Nat}{rp:Nat}{c:Int}{b:Option Nat}(hop:ops[R.C.getD (pc + 0) 0]?=some .MAX_UNTIL)(hl:pc < R.C.size)(hw:wt < 16777216)(hc:0≤c + 1)(h0:R.C.getD (rp + 2) 0=0)
  (hm:c + 1 < (R.C.getD (rp + 3) 0:Nat)∨R.C.getD (rp + 3) 0=maxRepeat) (hb:b≠some pos)
  (h:∀ sn',Ends R k (S R (rp + 4) pos pos o (lp2 rp0 c0 b0 rp (c + 1) (some pos)) (some 1) (Fm .maxMore (pc + 1) pos o (c + 1) true 1 b :: fs) (wt + 1) none sn') r):Ends R (k + 1) (S R pc pos hd o (lp2 rp0 c0 b0 rp c b) (some 1) fs wt none sn) r:=by
 refine Ends.step rfl ?_;rw [Zr hl];unfold M.exec;have hw':ops[(S R pc pos hd o (lp2 rp0 c0 b0 rp c b) (some 1) fs wt none sn).word 0]?=some .MAX_UNTIL:=hop;rw [hw'];have e:∀ sn',(S R (pc + 1) pos hd o (lp2 rp0 c0 b0 rp c b) (some 1) fs wt none sn').until_ true=S R (rp + 4) pos pos o (lp2 rp0 c0 b0 rp (c + 1) (some pos)) (some 1) (Fm .maxMore (pc + 1) pos o (c + 1) true 1 b :: fs) (wt + 1) none sn':=by
  intro sn';unfold M.until_
  show (if c + 1 < ((R.C.getD (rp + 2) 0:Nat):Int) then _ else if (!true)=true then _ else if ((decide (c + 1 < ((R.C.getD (rp + 3) 0:Nat):Int)) || R.C.getD (rp + 3) 0 == maxRepeat) && b != some pos)=true then
   (S R (pc + 1) pos hd o (lp2 rp0 c0 b0 rp c b) (some 1) fs wt none sn').round .maxMore 1 (c + 1) true ((S R (pc + 1) pos hd o (lp2 rp0 c0 b0 rp c b) (some 1) fs wt none sn').keep true) else _)=_
  rw [if_neg (by rw [h0]; omega),if_neg (by simp),if_pos (by
   rw [Bool.and_eq_true,Bool.or_eq_true];refine ⟨?_,by simpa using hb⟩
   rcases hm with hm | hm
   ·exact .inl (decide_eq_true hm)
   ·exact .inr (by simp [hm])),Zlz]
  exact Zx (pc:=pc + 1) (L:=lp2 rp0 c0 b0 rp (c + 1) (some pos)) (w:=.maxMore) (pc':=pc + 1) (pos':=pos) (o':=o) (count:=c + 1) (b:=true) (loop:=1) (began:=b) hw
 exact (congrArg (fun x=>Ends R k x r) (e (sn.add (R.C.getD (pc + 0) 0)))).mpr (h _)
theorem e_tail2{rp0:Nat}{c0:Int}{b0:Option Nat}{rp:Nat}{c:Int}{b:Option Nat}(hop:ops[R.C.getD (pc + 0) 0]?=some .MAX_UNTIL)(hl:pc < R.C.size)(hw:wt < 16777216)(hc:0≤c + 1)(h0:R.C.getD (rp + 2) 0=0)
  (hm:(¬ c + 1 < (R.C.getD (rp + 3) 0:Nat)∧R.C.getD (rp + 3) 0≠maxRepeat)∨b=some pos)
  (h:∀ sn',Ends R k (S R (pc + 1) pos pos o (lp2 rp0 c0 b0 rp c b) none (Fm .maxTail (pc + 1) pos o (c + 1) false 1 none :: fs) (wt + 1) none sn') r):Ends R (k + 1) (S R pc pos hd o (lp2 rp0 c0 b0 rp c b) (some 1) fs wt none sn) r:=by
 refine Ends.step rfl ?_;rw [Zr hl];unfold M.exec;have hw':ops[(S R pc pos hd o (lp2 rp0 c0 b0 rp c b) (some 1) fs wt none sn).word 0]?=some .MAX_UNTIL:=hop;rw [hw'];have e:∀ sn',(S R (pc + 1) pos hd o (lp2 rp0 c0 b0 rp c b) (some 1) fs wt none sn').until_ true=S R (pc + 1) pos pos o (lp2 rp0 c0 b0 rp c b) none (Fm .maxTail (pc + 1) pos o (c + 1) false 1 none :: fs) (wt + 1) none sn':=by
  intro sn';unfold M.until_
  show (if c + 1 < ((R.C.getD (rp + 2) 0:Nat):Int) then _ else if (!true)=true then _ else if ((decide (c + 1 < ((R.C.getD (rp + 3) 0:Nat):Int)) || R.C.getD (rp + 3) 0 == maxRepeat) && b != some pos)=true then _ else
   (S R (pc + 1) pos hd o (lp2 rp0 c0 b0 rp c b) (some 1) fs wt none sn').afterLoop .maxTail 1 (c + 1) fun _=>false)=_
  rw [if_neg (by rw [h0]; omega),if_neg (by simp),if_neg (by
   rw [Bool.and_eq_true,Bool.or_eq_true];rintro ⟨h1,h2⟩
   rcases hm with ⟨hm,hm'⟩ | hm
   ·rcases h1 with h1 | h1
    ·exact hm (of_decide_eq_true h1)
    ·exact hm' (by simpa using h1)
   ·subst hm; simp at h2)]
  exact Zx (pc:=pc + 1) (L:=lp2 rp0 c0 b0 rp c b) (inn:=none) (w:=.maxTail) (pc':=pc + 1) (pos':=pos) (o':=o) (count:=c + 1) (b:=false) (loop:=1) (began:=none) hw
 exact (congrArg (fun x=>Ends R k x r) (e (sn.add (R.C.getD (pc + 0) 0)))).mpr (h _)
theorem Zkb{rp0:Nat}{c0:Int}{b0:Option Nat}{rp pc' pos':Nat}{o' bk:Bool}{c count:Int}{b began:Option Nat}(hw:wt < 16777216)
  (h:∀ sn',Ends R k (S R pc' pos' pos' o' (lp2 rp0 c0 b0 rp (count - 1) began) none (Fm .maxTail pc' pos' o' count false 1 none :: fs) (wt + 1) none sn') r) :
  Ends R (k + 1) (S R pc pos hd o (lp2 rp0 c0 b0 rp c b) inn (Fm .maxMore pc' pos' o' count bk 1 began :: fs) (wt + 1) (some false) sn) r:=by
 refine Ends.step rfl ?_;rw [Zaw];have e:(S R pc' pos' hd o' (lp2 rp0 c0 b0 rp c b) inn fs wt none sn).resume (Fm .maxMore pc' pos' o' count bk 1 began) false=S R pc' pos' pos' o' (lp2 rp0 c0 b0 rp (count - 1) began) none (Fm .maxTail pc' pos' o' count false 1 none :: fs) (wt + 1) none sn:=by
  show (((S R pc' pos' hd o' (lp2 rp0 c0 b0 rp c began) inn fs wt none sn).putBack (kp bk)).setLoop 1 fun l=>{ l with count:=count - 1 }).afterLoop .maxTail 1 count (fun _=>false)=_;rw [Zbe];exact Zx (pc:=pc') (L:=lp2 rp0 c0 b0 rp (count - 1) began) (inn:=none) (w:=.maxTail) (pc':=pc') (pos':=pos') (o':=o') (count:=count) (b:=false) (loop:=1) (began:=none) hw
 exact (congrArg (fun x=>Ends R k x r) e).mpr (h _)
theorem Zmf{pc' pos':Nat}{o' bk:Bool}{count:Int}{began:Option Nat}{i:Nat}
  (h:∀ sn',Ends R k (S R pc' pos' hd o' L (some i) fs wt (some false) sn') r) :
  Ends R (k + 1) (S R pc pos hd o L inn (Fm .maxTail pc' pos' o' count bk i began :: fs) (wt + 1) (some false) sn) r:=by
 refine Ends.step rfl ?_;rw [Zaw];exact h sn
theorem Zro{rp pc' pos':Nat}{o' bk:Bool}{c count:Int}{b began:Option Nat}
  (h:∀ sn',Ends R k (S R pc' pos' hd o' #[] none fs wt (some false) sn') r) :
  Ends R (k + 1) (S R pc pos hd o (lp rp c b) inn (Fm .closeLoop pc' pos' o' count bk 0 began :: fs) (wt + 1) (some false) sn) r:=by
 refine Ends.step rfl ?_;rw [Zaw];exact h sn
theorem e_not(hop:ops[R.C.getD (pc + 0) 0]?=some .ASSERT_NOT)(hl:pc < R.C.size)(hw:wt < 16777216)(h0:R.C.getD (pc + 2) 0=0)
  (h:∀ sn',Ends R k (S R (pc + 3) pos pos false L inn (Fm .lookNot pc pos o 0 inn.isSome 0 none :: fs) (wt + 1) none sn') r):Ends R (k + 1) (S R pc pos hd o L inn fs wt none sn) r:=by
 refine Ends.step rfl ?_;rw [Zr hl];unfold M.exec;have hw':ops[(S R pc pos hd o L inn fs wt none sn).word 0]?=some .ASSERT_NOT:=hop;rw [hw'];dsimp only;refine (congrArg (fun x=>Ends R k x r) (if_neg ?_)).mpr ?_
 ·show ¬ (pos < R.C.getD (pc + 2) 0)
  omega
 have e:∀ sn',(S R pc pos hd o L inn fs wt none sn').attempt { (S R pc pos hd o L inn fs wt none sn').frame .lookNot with kept:=(S R pc pos hd o L inn fs wt none sn').keep inn.isSome } (pc + 3) (pos - R.C.getD (pc + 2) 0) false=S R (pc + 3) pos pos false L inn (Fm .lookNot pc pos o 0 inn.isSome 0 none :: fs) (wt + 1) none sn':=by
  intro sn';rw [Zlz,h0];exact Zx (w:=.lookNot) (pc':=pc) (pos':=pos) (o':=o) (count:=0) (b:=inn.isSome) (loop:=0) (began:=none) hw
 exact (congrArg (fun x=>Ends R k x r) (e (sn.add (R.C.getD (pc + 0) 0)))).mpr (h _)
theorem e_look{pc' pos':Nat}{o' bk yes:Bool}{count:Int}{began:Option Nat}{i:Nat}
  (h:∀ sn',Ends R k (if yes then S R pc' pos' hd o' L inn fs wt (some false) sn' else S R (pc' + 1 + R.C.getD (pc' + 1) 0) pos' hd o' L inn fs wt none sn') r) :
  Ends R (k + 1) (S R pc pos hd o L inn (Fm .lookNot pc' pos' o' count bk i began :: fs) (wt + 1) (some yes) sn) r:=by
 refine Ends.step rfl ?_;rw [Zaw];have h':=h sn;cases yes with
 | true=>exact h'
 | false =>
  have e:(S R pc' pos' hd o' L inn fs wt none sn).resume (Fm .lookNot pc' pos' o' count bk i began) false=S R (pc' + 1 + R.C.getD (pc' + 1) 0) pos' hd o' L inn fs wt none sn:=by
   show { (S R pc' pos' hd o' L inn fs wt none sn).putBack (kp bk) with pc:=pc' + 1 + R.C.getD (pc' + 1) 0 }=_;rw [Zbe]; rfl
  exact (congrArg (fun x=>Ends R k x r) e).mpr h'
end
end Mine
end
section
set_option maxRecDepth 4000
namespace Mine
open PySem.Sre
noncomputable def At(R:Rx)(pos:Nat)(l:List Nat):Prop:=pos + l.length=R.lim∧∀ i,i < l.length→R.T.getD (pos + i) 0=l.getD i 0
section
variable{R:Rx}{pos:Nat}{c:Nat}{l:List Nat}
theorem At.le(h:At R pos l):pos≤R.lim:=by have:=h.1; lia
theorem At.lt(h:At R pos (c :: l)):pos < R.lim:=by have:=h.1; simp at this; lia
theorem At.get(h:At R pos (c :: l)):R.T.getD pos 0=c:=h.2 0 (by simp)
theorem At.tl(h:At R pos (c :: l)):At R (pos + 1) l:=by
 refine ⟨by have:=h.1; simp at this; lia,fun i hi=>?_⟩;have:=h.2 (i + 1) (by simp; exact ‹_›);rw [show pos + 1 + i=pos + (i + 1) by exact Nat.add_right_comm _ _ _,this]; rfl
theorem At.room(h:At R pos l):R.lim - pos=l.length:=by rw [← h.1,Nat.add_sub_cancel_left]
theorem At.nil(h:At R pos []):R.lim≤pos:=by have:=h.1; simp at this; exact Ybg (Eq.symm ‹_›)
theorem Zgy(p:Nat→Bool)(T:Array Nat):∀ n pos,cntP p T n pos≤n
 | 0,_=>Yaa _
 | n + 1,pos=>by unfold cntP; split; exact Yag (Zgy p T n _); exact Yas _
theorem At.cnt(p:Nat→Bool):∀ {l:List Nat} {pos:Nat},At R pos l→cntP p R.T l.length pos=(l.takeWhile p).length
 | [],_,_=>rfl
 | c :: l,pos,h=>by
  rw [List.length_cons];unfold cntP;rw [h.get,List.takeWhile_cons]
  split
  ·rw [List.length_cons,h.tl.cnt p]
  ·rfl
theorem At.dropW(p:Nat→Bool):∀ {l:List Nat} {pos:Nat},At R pos l→At R (pos + (l.takeWhile p).length) (l.dropWhile p)
 | [],_,h=>h
 | c :: l,pos,h=>by
  rw [List.takeWhile_cons,List.dropWhile_cons]
  split
  ·have:=h.tl.dropW p;rw [List.length_cons,show pos + ((l.takeWhile p).length + 1)=pos + 1 + (l.takeWhile p).length by lia]; exact this
  ·exact h
theorem At.drop:∀ {l:List Nat} {pos:Nat} (n:Nat),n≤l.length→At R pos l→At R (pos + n) (l.drop n)
 | l,pos,0,_,h=>h
 | [],pos,n + 1,hn,h=>by simp at hn
 | c :: l,pos,n + 1,hn,h=>by
  have:=h.tl.drop n (by simpa using hn);rw [show pos + (n + 1)=pos + 1 + n by lia]; exact this
theorem Zfy(p:Nat→Bool)(l:List Nat):(l.takeWhile p).length≤l.length:=(Ybh p).length_le
end
noncomputable def chewC:Array Nat:=#[14,4,0,1,4294967295,24,17,1,4294967295,13,12,21,9,0,908,939524096,671088640,0,0,0,0,0,1,1]
noncomputable def special(c:Nat):Bool:=c == 34 || c == 35 || c == 39 || c == 40 || c == 41 || c == 91 || c == 92 || c == 93 || c == 123 || c == 125
theorem chew_set(c:Nat):(decide (c < 256) && (chewC.getD (12 + (1 + c / 32)) 0).testBit (c % 32))=special c:=by
 by_cases h:c < 256
 ·have:∀ c:Fin 256,(decide (c.val < 256) && (chewC.getD (12 + (1 + c.val / 32)) 0).testBit (c.val % 32))=special c.val:=by decide +kernel
  exact this ⟨c,h⟩
 ·have h2:special c=false:=by
   obtain ⟨d,rfl⟩:∃ d,c=d + 256:=⟨c - 256,(Ybi (Ybd.mp h)).symm⟩;rfl
  rw [decide_eq_false h,h2]; rfl
section
variable{code:Array Nat}{c n i:Nat}{yes b:Bool}
theorem Zeo{o:Option PySem.Sre.Op}(h:ops[code.getD (i + 0) 0]?=o)(sn:Seen):∃ F:Option PySem.Sre.Op→Except String (Bool × Seen),inSet code c (n + 1) i yes sn=F o∧F (some .FAILURE)=.ok (!yes,sn.add (code.getD (i + 0) 0)) ∧
  F (some .NEGATE)=inSet code c n (i + 1) (!yes) (sn.add (code.getD (i + 0) 0)) ∧
  F (some .LITERAL)=(if c == code.getD (i + 1) 0 then .ok (yes,sn.add (code.getD (i + 0) 0)) else inSet code c n (i + 2) yes (sn.add (code.getD (i + 0) 0))) ∧
  F (some .CHARSET)=(if decide (c < 256) && (code.getD (i + (1 + c / 32)) 0).testBit (c % 32) then .ok (yes,sn.add (code.getD (i + 0) 0)) else inSet code c n (i + 9) yes (sn.add (code.getD (i + 0) 0))) ∧
  F (some .CATEGORY)=(category (code.getD (i + 1) 0) c >>= fun b=>if b then pure (yes,(sn.add (code.getD (i + 0) 0)).add (55 + code.getD (i + 1) 0)) else inSet code c n (i + 2) yes ((sn.add (code.getD (i + 0) 0)).add (55 + code.getD (i + 1) 0))):=by
 apply Ybj;apply Ybk
 ·conv =>
   lhs
   whnf
   rw [show ops[(fun k=>code.getD (i + k) 0) 0]?=o from h]
 ·exact ⟨rfl,rfl,rfl,rfl,rfl⟩
noncomputable def Gv(code:Array Nat)(c n i:Nat)(yes b:Bool):Prop:=∀ sn,∃ sn',inSet code c n i yes sn=.ok (b,sn')
theorem Zgs(h:ops[code.getD (i + 0) 0]?=some .FAILURE):Gv code c (n + 1) i yes (!yes):=fun sn=>by
 obtain ⟨F,e,f,_⟩:=Zeo (c:=c) (n:=n) (yes:=yes) h sn;exact ⟨_,e.trans f⟩
theorem Zvh(h:ops[code.getD (i + 0) 0]?=some .NEGATE)(k:Gv code c n (i + 1) (!yes) b):Gv code c (n + 1) i yes b:=fun sn=>by
 obtain ⟨F,e,_,f,_⟩:=Zeo (c:=c) (n:=n) (yes:=yes) h sn;rw [e,f]; exact k _
theorem Zpt{x:Nat}(h:ops[code.getD (i + 0) 0]?=some .LITERAL)(hx:code.getD (i + 1) 0=x)(k:c≠x→Gv code c n (i + 2) yes b)(k':c=x→b=yes):Gv code c (n + 1) i yes b:=fun sn=>by
 obtain ⟨F,e,_,_,f,_⟩:=Zeo (c:=c) (n:=n) (yes:=yes) h sn;rw [e,f,hx]
 by_cases q:c=x
 ·rw [if_pos (beq_iff_eq.mpr q),k' q]; exact ⟨_,rfl⟩
 ·rw [if_neg fun z=>q (beq_iff_eq.mp z)]; exact k q _
theorem gv_set{p:Bool}(h:ops[code.getD (i + 0) 0]?=some .CHARSET)(hp:(decide (c < 256) && (code.getD (i + (1 + c / 32)) 0).testBit (c % 32))=p)(k:p=false→Gv code c n (i + 9) yes b)(k':p=true→b=yes):Gv code c (n + 1) i yes b:=fun sn=>by
 obtain ⟨F,e,_,_,_,f,_⟩:=Zeo (c:=c) (n:=n) (yes:=yes) h sn;rw [e,f,hp];cases p with
 | true=>rw [if_pos rfl,k' rfl]; exact ⟨_,rfl⟩
 | false=>rw [if_neg Bool.false_ne_true]; exact k rfl _
theorem gv_cat{p:Bool}(h:ops[code.getD (i + 0) 0]?=some .CATEGORY)(hp:category (code.getD (i + 1) 0) c=.ok p)(k:p=false→Gv code c n (i + 2) yes b)(k':p=true→b=yes):Gv code c (n + 1) i yes b:=fun sn=>by
 obtain ⟨F,e,_,_,_,_,f⟩:=Zeo (c:=c) (n:=n) (yes:=yes) h sn;rw [e,f,hp];cases p with
 | true=>rw [k' rfl]; exact ⟨_,rfl⟩
 | false=>exact k rfl _
end
theorem Zif(c:Nat):Zcr chewC 9 c (!special c) :=
 show Gv chewC c 24 11 true _ from Zvh rfl (gv_set rfl (chew_set c) (fun q=>by rw [q]; exact Zgs rfl) fun q=>by rw [q])
section
variable{T:Array Nat}{lim pos:Nat}{l:List Nat}{sn:Seen}
noncomputable def Zfb(pos:Nat)(l:List Nat):Option Nat:=if (l.takeWhile (!special ·)).length=0 then none else some (pos + (l.takeWhile (!special ·)).length)
theorem Zws(h:At ⟨chewC,T,lim,pos⟩ pos l)(hl:l.length < 1048576):Ends ⟨chewC,T,lim,pos⟩ 4 (S ⟨chewC,T,lim,pos⟩ 5 pos pos true #[] none [] 0 none sn) (Zfb pos l):=by
 have hN:min (chewC.getD (5 + 3) 0) (lim - pos)=l.length:=by
  rw [show lim - pos=l.length from h.room,show chewC.getD (5 + 3) 0=4294967295 from rfl]; lia
 have hle:pos≤lim:=h.le;have hc:=h.cnt (!special ·);have hw:=Zfy (!special ·) l;unfold Zfb
 by_cases h0:(l.takeWhile (!special ·)).length=0
 ·rw [if_pos h0];refine Ends.le (Zgv (p:=(!special ·)) (n:=0) rfl (by show 5 < 24; decide) hle Zif (by rw [show (⟨chewC,T,lim,pos⟩:Rx).lim - pos=l.length from h.room]; show l.length≤4294967295; exact lted ‹_›) ?_ (by show 0 < 1; decide) fun pos' sn'=>Zwg) (by decide);rw [show (⟨chewC,T,lim,pos⟩:Rx).lim - pos=l.length from h.room,hc,h0]
 ·rw [if_neg h0];refine Zch (p:=(!special ·)) (n:=(l.takeWhile (!special ·)).length) rfl (by show 5 < 24; decide) (by decide) hle Zif hN hc (by show 1≤_; exact Nat.pos_of_ne_zero ‹_›) (by rw [show (⟨chewC,T,lim,pos⟩:Rx).lim - pos=l.length from h.room]; exact hw) fun sn'=>?_;refine Zdc rfl (by show 23 < 24; exact Yau _) fun sn''=>?_;exact Ends.le (Zwc (by rfl)) (Yaa 2)
end
noncomputable def Zq:Array Nat:=#[14,4,0,1,4294967295,24,11,0,4294967295,13,6,16,32,16,9,0,1,23,16,0,1,16,35,13,4,8,13,0,24,5,0,4294967295,2,1,18,16,10,1]
noncomputable def Zao(c:Nat):Bool:=c == 32 || c == 9
noncomputable def Zgn(c:Nat):Bool:=!PySem.Unicode.isSpace c
theorem Zna(c:Nat):Zcr Zq 9 c (Zao c) :=
 show Gv Zq c 38 11 true _ from Zpt rfl rfl (fun q=>Zpt rfl rfl (fun q'=>by
  rw [show Zao c=false from Bool.or_eq_false_iff.mpr ⟨beq_eq_false_iff_ne.mpr q,beq_eq_false_iff_ne.mpr q'⟩]; exact Zgs rfl) fun q'=>by subst q'; rfl) fun q=>by subst q; rfl
theorem Zgf(c:Nat):Zcr Zq 23 c (Zgn c):=by
 have e:category 13 c=.ok (Zgn c):=by
  show Except.ok (PySem.Unicode.isSpace c != (13 % 2 == 1))=_;unfold Zgn;cases PySem.Unicode.isSpace c <;> rfl
 exact show Gv Zq c 38 25 true _ from gv_cat rfl e (fun q=>by rw [q]; exact Zgs rfl) id
theorem Zef{C:Array Nat}{pc x c:Nat}(h:ops[C.getD pc 0]?=some .LITERAL)(hx:C.getD (pc + 1) 0=x):Zcr C pc c (c == x):=by
 intro sn;unfold accepts;dsimp only;rw [h,hx];exact ⟨sn,rfl⟩
theorem Zte{C:Array Nat}{pc c:Nat}(h:ops[C.getD pc 0]?=some .ANY):Zcr C pc c (c != 10):=by
 intro sn;unfold accepts;dsimp only;rw [h];exact ⟨sn,rfl⟩
theorem Ztf{C:Array Nat}{pc c:Nat}(h:ops[C.getD pc 0]?=some .ANY_ALL):Zcr C pc c true:=by
 intro sn;unfold accepts;dsimp only;rw [h];exact ⟨sn,rfl⟩
theorem Zsp{C:Array Nat}{pc:Nat}(h:ops[C.getD pc 0]?=some .LITERAL):itemWidth C pc=2:=by unfold itemWidth; rw [h]
theorem Zsq{C:Array Nat}{pc:Nat}(h:ops[C.getD pc 0]?=some .ANY_ALL):itemWidth C pc=1:=by unfold itemWidth; rw [h]
section
variable{R:Rx}{pc pos hd:Nat}{o:Bool}{L:Array PySem.Sre.Loop}{inn:Option Nat}{fs:List PySem.Sre.Frame}{wt:Nat}{sn:Seen}{k:Nat}{r:Option Nat}{c x:Nat}{l:List Nat}
theorem Zwf(hop:ops[R.C.getD (pc + 0) 0]?=some .LITERAL)(hl:pc < R.C.size)(h:At R pos (c :: l))(hx:R.C.getD (pc + 1) 0=c)
  (hk:∀ sn',Ends R k (S R (pc + 2) (pos + 1) hd o L inn fs wt none sn') r):Ends R (k + 1) (S R pc pos hd o L inn fs wt none sn) r :=
 Zwe (b:=true) hop (.inr (.inr (.inl rfl))) hl (by rw [h.get]; have:=Zef (c:=c) hop hx; simpa using this) h.lt fun sn'=>by rw [if_pos rfl,Zsp (pc:=pc) hop]; exact hk sn'
theorem Zka(hop:ops[R.C.getD (pc + 0) 0]?=some .LITERAL)(hl:pc < R.C.size)(h:At R pos (c :: l))(hx:R.C.getD (pc + 1) 0=x)(hne:c≠x)
  (hk:∀ sn',Ends R k (S R pc pos hd o L inn fs wt (some false) sn') r):Ends R (k + 1) (S R pc pos hd o L inn fs wt none sn) r :=
 Zwe (b:=false) hop (.inr (.inr (.inl rfl))) hl (by rw [h.get]; have:=Zef (c:=c) hop hx; rwa [show (c == x)=false by simpa using hne] at this) h.lt fun sn'=>by rw [if_neg Bool.false_ne_true]; exact hk sn'
theorem Zkc(hop:ops[R.C.getD (pc + 0) 0]?=some .LITERAL)(hl:pc < R.C.size)(h:At R pos [])
  (hk:∀ sn',Ends R k (S R pc pos hd o L inn fs wt (some false) sn') r):Ends R (k + 1) (S R pc pos hd o L inn fs wt none sn) r :=
 Zgw hop (.inr (.inr (.inl rfl))) hl h.nil hk
theorem e_all(hop:ops[R.C.getD (pc + 0) 0]?=some .ANY_ALL)(hl:pc < R.C.size)(h:At R pos (c :: l))
  (hk:∀ sn',Ends R k (S R (pc + 1) (pos + 1) hd o L inn fs wt none sn') r):Ends R (k + 1) (S R pc pos hd o L inn fs wt none sn) r :=
 Zwe (b:=true) hop (.inr (.inl rfl)) hl (Ztf hop) h.lt fun sn'=>by rw [if_pos rfl,Zsq (pc:=pc) hop]; exact hk sn'
theorem Zpz(hop:ops[R.C.getD (pc + 0) 0]?=some .ANY_ALL)(hl:pc < R.C.size)(h:At R pos [])
  (hk:∀ sn',Ends R k (S R pc pos hd o L inn fs wt (some false) sn') r):Ends R (k + 1) (S R pc pos hd o L inn fs wt none sn) r :=
 Zgw hop (.inr (.inl rfl)) hl h.nil hk
end
end Mine
namespace Mine
open PySem.Sre
noncomputable def Zrk(l:List Nat):Bool:=match l.dropWhile Zao with
 | 10 :: _=>true
 | 35 :: c :: _=>Zgn c
 | _=>false
noncomputable def bad:List Nat→Bool
 | []=>true
 | c :: l=>if c=10 then false else if c=35 then (match l with | []=>true | d :: _=>!Zgn d) else true
theorem Zem{p:Nat→Bool}{c:Nat}:∀ {l:List Nat},c∈l.takeWhile p→p c=true
 | [],h=>nomatch h
 | a :: l,h=>by
  rw [List.takeWhile_cons] at h
  split at h
  ·rename_i q
   rcases Ym.mp h with e | h
   ·rw [e]; exact q
   ·exact Zem h
  ·cases h
theorem Zmg:∀ {m:List Nat},10∈m→∃ m',m.dropWhile (· != 10)=10 :: m'
 | [],h=>nomatch h
 | a :: m,h=>by
  rw [List.dropWhile_cons]
  by_cases ha:a=10
  ·subst ha; exact ⟨m,rfl⟩
  ·rw [if_pos (by simpa using ha)]; exact Zmg (by simpa [Ne.symm ha] using h)
section
variable{T:Array Nat}{lim st pos hd:Nat}{fs:List PySem.Sre.Frame}{wt:Nat}{sn:Seen}{k:Nat}{r:Option Nat}{c x:Nat}{l:List Nat}
theorem Zns(hw:wt + 2 < 16777216)(h:∀ sn',Ends ⟨Zq,T,lim,st⟩ k (S ⟨Zq,T,lim,st⟩ 21 pos pos true (lp 17 0 (some pos)) (some 0) (Fm .maxMore 35 pos true 0 true 0 none :: Fm .closeLoop 17 pos true 0 false 0 none :: fs) (wt + 2) none sn') r) :
  Ends ⟨Zq,T,lim,st⟩ (k + 2) (S ⟨Zq,T,lim,st⟩ 17 pos hd true #[] none fs wt none sn) r:=by
 refine Zpx rfl (by show 17 < 38; decide) (by lia) fun sn'=>?_;refine e_more (pc:=34) (rp:=17) (c:=-1) (b:=none) rfl (by show 34 < 38; decide) (Yf ‹_›) (by decide) rfl (.inl (by show (-1:Int) + 1 < 1; decide)) (fun q=>nomatch q) fun sn''=>?_;exact h sn''
theorem j_out{hd' pc' pos':Nat}{o':Bool}(hw:wt + 2 < 16777216)(h:∀ sn',Ends ⟨Zq,T,lim,st⟩ k (S ⟨Zq,T,lim,st⟩ 35 pos pos true (lp 17 (-1) none) none (Fm .maxTail 35 pos true 0 false 0 none :: Fm .closeLoop 17 pos true 0 false 0 none :: fs) (wt + 2) none sn') r) :
  Ends ⟨Zq,T,lim,st⟩ (k + 1) (S ⟨Zq,T,lim,st⟩ pc' pos' hd' o' (lp 17 0 (some pos)) (some 0) (Fm .maxMore 35 pos true 0 true 0 none :: Fm .closeLoop 17 pos true 0 false 0 none :: fs) (wt + 2) (some false) sn) r :=
 Zas (wt:=wt + 1) (Yf ‹_›) fun sn'=>h sn'
theorem j_fail{hd' pc' pos':Nat}{o':Bool}(h:∀ pc pos hd o sn',Ends ⟨Zq,T,lim,st⟩ k (S ⟨Zq,T,lim,st⟩ pc pos hd o #[] none fs wt (some false) sn') r) :
  Ends ⟨Zq,T,lim,st⟩ (k + 2) (S ⟨Zq,T,lim,st⟩ pc' pos' hd' o' (lp 17 (-1) none) none (Fm .maxTail 35 pos true 0 false 0 none :: Fm .closeLoop 17 pos true 0 false 0 none :: fs) (wt + 2) (some false) sn) r:=by
 refine Zmf (wt:=wt + 1) fun sn'=>?_;exact Zro (wt:=wt) fun sn''=>h _ _ _ _ _
theorem j_bad(hA:At ⟨Zq,T,lim,st⟩ pos l)(hb:bad l=true)(hw:wt + 2 < 16777216)(h:∀ pc pos hd o sn',Ends ⟨Zq,T,lim,st⟩ k (S ⟨Zq,T,lim,st⟩ pc pos hd o #[] none fs wt (some false) sn') r) :
  Ends ⟨Zq,T,lim,st⟩ (k + 8) (S ⟨Zq,T,lim,st⟩ 17 pos hd true #[] none fs wt none sn) r:=by
 refine Ends.le (k:=k + 4 + 1 + 1 + 2) (Zns hw fun sn'=>?_) (Yau _);cases l with
 | nil =>
  refine Ends.le (k:=k + 2 + 1 + 1 + 1) (Zkc rfl (by show 21 < 38; decide) hA fun _=>j_out hw fun _=>Zkc rfl (by show 35 < 38; decide) hA fun _=>j_fail h) (Yba _)
 | cons c l =>
  unfold bad at hb;dsimp only at hb
  by_cases h1:c=10
  ·rw [if_pos h1] at hb; exact absurd hb Yy
  have out:∀ pc' pos' hd' o' sn',Ends ⟨Zq,T,lim,st⟩ (k + 2 + 1 + 1) (S ⟨Zq,T,lim,st⟩ pc' pos' hd' o' (lp 17 0 (some pos)) (some 0) (Fm .maxMore 35 pos true 0 true 0 none :: Fm .closeLoop 17 pos true 0 false 0 none :: fs) (wt + 2) (some false) sn') r:=by
   intro pc' pos' hd' o' sn';exact j_out hw fun _=>Zka rfl (by show 35 < 38; decide) hA rfl h1 fun _=>j_fail h
  by_cases h2:c=35
  ·rw [if_neg h1,if_pos h2] at hb;refine Zwf rfl (by show 21 < 38; decide) hA (by rw [h2]; rfl) fun _=>?_;cases l with
   | nil=>exact Zgw (op:=.IN) rfl (.inr (.inr (.inr rfl))) (by show 23 < 38; decide) hA.tl.nil fun _=>out _ _ _ _ _
   | cons d l =>
    refine Zwe (op:=.IN) (b:=false) rfl (.inr (.inr (.inr rfl))) (by show 23 < 38; decide) ?_ hA.tl.lt fun sn'=>?_
    ·rw [hA.tl.get];have:=Zgf d;rwa [show Zgn d=false by simpa using hb] at this
    ·rw [if_neg Bool.false_ne_true]; exact out _ _ _ _ _
  ·refine Ends.le (k:=k + 2 + 1 + 1 + 1) (Zka rfl (by show 21 < 38; decide) hA rfl h2 fun _=>out _ _ _ _ _) (Yba _)
theorem Zzl(hA:At ⟨Zq,T,lim,st⟩ pos (10 :: l))(hw:wt + 2 < 16777216)(hf:(fs.all fun f=>Zbx f.wait)=true) :
  Ends ⟨Zq,T,lim,st⟩ (fs.length + 9) (S ⟨Zq,T,lim,st⟩ 17 pos hd true #[] none fs wt none sn) (some (pos + 1)):=by
 refine Ends.le (k:=fs.length + 2 + 1 + 1 + 1 + 1 + 1 + 2) (Zns hw fun sn'=>?_) (Yau _);refine Zka rfl (by show 21 < 38; decide) hA rfl (by show 10≠35; decide) fun _=>j_out hw fun _=>?_;refine Zwf rfl (by show 35 < 38; decide) hA rfl fun _=>?_;refine Zdc rfl (by show 37 < 38; decide) fun _=>?_;exact Zwc (fs:=Fm .maxTail 35 pos true 0 false 0 none :: Fm .closeLoop 17 pos true 0 false 0 none :: fs) (by rw [List.all_cons,List.all_cons,hf]; rfl)
theorem Zzk{d:Nat}{m:List Nat}(hA:At ⟨Zq,T,lim,st⟩ pos (35 :: d :: l))(hd':Zgn d=true)(hm:l.dropWhile (· != 10)=10 :: m)(hl:l.length < 1048576)(hw:wt + 4 < 16777216)(hf:(fs.all fun f=>Zbx f.wait)=true) :
  Ends ⟨Zq,T,lim,st⟩ (fs.length + 15) (S ⟨Zq,T,lim,st⟩ 17 pos hd true #[] none fs wt none sn) (some (pos + 1 + 1 + (l.takeWhile (· != 10)).length + 1)):=by
 refine Ends.le (k:=fs.length + 4 + 1 + 1 + 1 + 1 + 1 + 1 + 1 + 2) (Zns (by lia) fun sn'=>?_) (by lia);refine Zwf rfl (by show 21 < 38; decide) hA rfl fun _=>?_;refine Zwe (op:=.IN) (b:=true) rfl (.inr (.inr (.inr rfl))) (by show 23 < 38; decide) ?_ hA.tl.lt fun sn'=>?_
 ·rw [hA.tl.get];have:=Zgf d;rwa [hd'] at this
 rw [if_pos rfl];have h3:=hA.tl.tl;have hr:lim - (pos + 1 + 1)=l.length:=h3.room;refine Zch (pc:=28) (p:=(· != 10)) (n:=(l.takeWhile (· != 10)).length) (N:=l.length) rfl (by show 28 < 38; decide) (by lia) h3.le (fun c=>Zte rfl) ?_ (h3.cnt _) (Yas _) (by show _≤lim - (pos + 1 + 1); rw [hr]; exact Zfy _ _) fun _=>?_
 ·show min 4294967295 (lim - (pos + 1 + 1))=l.length;lia
 have h4:=h3.dropW (· != 10);rw [hm] at h4;refine e_tail (pc:=34) (rp:=17) (c:=0) (b:=some pos) rfl (by show 34 < 38; decide) (Yf ‹_›) (by decide) rfl (.inl ⟨by show ¬ ((0:Int) + 1 < 1); decide,by show 1≠4294967295; decide⟩) fun _=>?_;refine Zwf rfl (by show 35 < 38; decide) h4 rfl fun _=>?_;refine Zdc rfl (by show 37 < 38; decide) fun _=>?_;exact Ends.le (Zwc (fs:=_ :: _ :: _ :: _ :: fs) (by rw [List.all_cons,List.all_cons,List.all_cons,List.all_cons,hf]; rfl)) (by simp only [List.length_cons]; exact Yau _)
theorem Zuz{pc' pos' hd':Nat}{o':Bool}(hA:At ⟨Zq,T,lim,st⟩ pos l)(hw:(l.takeWhile Zao).length≤1048576):∀ n,n≤(l.takeWhile Zao).length→∀ pc' pos' hd' o' sn,
  Ends ⟨Zq,T,lim,st⟩ (9 * n + 2) (S ⟨Zq,T,lim,st⟩ pc' pos' hd' o' #[] none [Fm .giveBack 5 (pos + n) true n false 0 none] 1 (some false) sn) none
 | 0,_,_,_,_,_,_=>Ends.le (Zht (wt:=0) (by show (0:Int) - 1 < 0; decide) fun _=>Zwg) (Yau _)
 | n + 1,hn,pc',pos',hd',o',sn=>by
  refine Ends.le (k:=9 * n + 2 + 8 + 1) (Zrn (wt:=0) (by decide) (by show (0:Int)≤((n + 1:Nat):Int) - 1; lia) fun sn'=>?_) (Yau _);have hlen:=Zfy Zao l;have hA':=hA.drop n (Yg (Yf ‹_›) ‹_›);have hlt:n < l.length:=by exact Yd ‹_› ‹_›
  have hbl:Zao l[n]=true:=by
   have h2:(l.takeWhile Zao)[n]'(by lia)=l[n]:=(Ybh Zao).getElem (by lia);have h3:(l.takeWhile Zao)[n]'(by lia)∈l.takeWhile Zao:=Yt _;rw [h2] at h3;exact Zem h3
  rw [List.drop_eq_getElem_cons hlt] at hA';have hb:bad (l[n] :: l.drop (n + 1))=true:=by
   unfold bad;dsimp only;unfold Zao at hbl;rw [if_neg,if_neg]
   ·intro q; rw [q] at hbl; exact absurd hbl Yy
   ·intro q; rw [q] at hbl; exact absurd hbl Yy
  have e1:pos + (n + 1) - 1=pos + n:=by exact rfl
  have e2:(((n + 1:Nat):Int) - 1)=(n:Int):=by lia
  rw [e1,e2];exact j_bad (wt:=1) hA' hb (Ybl _ _) fun pc1 pos1 hd1 o1 sn1=>Zuz hA hw (pc':=pc1) (pos':=pos1) (hd':=hd1) (o':=o1) n (Yf ‹_›) _ _ _ _ _
theorem Zuy(hA:At ⟨Zq,T,lim,pos⟩ pos l)(hl:l.length < 1048576)(h10:10∈l):∃ e,Ends ⟨Zq,T,lim,pos⟩ (9 * l.length + 20) (S ⟨Zq,T,lim,pos⟩ 5 pos pos true #[] none [] 0 none sn) (if Zrk l then some e else none):=by
 have hr:lim - pos=l.length:=hA.room;have hw:=Zfy Zao l;have hA':=hA.dropW Zao;have hlen:(l.takeWhile Zao).length + (l.dropWhile Zao).length=l.length:=by rw [← List.length_append,List.takeWhile_append_dropWhile]
 have m10:10∈l.dropWhile Zao:=by
  rw [← List.takeWhile_append_dropWhile (p:=Zao) (l:=l),List.mem_append] at h10
  rcases h10 with h | h
  ·have:=Zem h; exact absurd this Yy
  ·exact h
 have start:∀ {k r},(∀ sn',Ends ⟨Zq,T,lim,pos⟩ k (S ⟨Zq,T,lim,pos⟩ 17 (pos + (l.takeWhile Zao).length) (pos + (l.takeWhile Zao).length) true #[] none [Fm .giveBack 5 (pos + (l.takeWhile Zao).length) true (l.takeWhile Zao).length false 0 none] 1 none sn') r) →
   Ends ⟨Zq,T,lim,pos⟩ (k + 1) (S ⟨Zq,T,lim,pos⟩ 5 pos pos true #[] none [] 0 none sn) r:=fun h =>
  Zch (pc:=5) (p:=Zao) (N:=l.length) rfl (by show 5 < 38; decide) (Ybm _) hA.le Zna (by show min 4294967295 (lim - pos)=l.length; lia) (hA.cnt _) (Yas _) (by show _≤lim - pos; lia) h
 unfold Zrk;cases q:l.dropWhile Zao with
 | nil=>rw [q] at m10; cases m10
 | cons c m =>
  rw [q] at hA' m10 hlen;simp only [List.length_cons] at hlen
  by_cases h1:c=10
  ·subst h1;exact ⟨_,Ends.le (start fun _=>Zzl (wt:=1) hA' (Ybl _ _) rfl) (by show 10 + 1≤_; exact Ybl _ _)⟩
  by_cases h2:c=35
  ·subst h2;cases m with
   | nil=>simp at m10
   | cons d m =>
    show ∃ e,Ends _ _ _ (if Zgn d=true then some e else none);cases hd:Zgn d with
    | true =>
     have hne:d≠10:=by intro e; subst e; revert hd; decide +kernel
     have m10':10∈m:=by simpa [Ne.symm hne] using m10
     obtain ⟨m',hm⟩:=Zmg m10';have hml:m.length < 1048576:=by simp only [List.length_cons] at hlen; lia
     exact ⟨_,Ends.le (start fun _=>Zzk (wt:=1) hA' hd hm hml (Ybl _ _) rfl) (by show 16 + 1≤_; exact Ybl _ _)⟩
    | false =>
     exact ⟨0,Ends.le (k:=9 * (l.takeWhile Zao).length + 2 + 8 + 1) (start fun _=>j_bad (wt:=1) hA' (by simp [bad,hd]) (Ybl _ _) fun _ _ _ _ _=>Zuz hA (lted (Yh ‹_› ‹_›)) (pc':=0) (pos':=0) (hd':=0) (o':=true) _ (Yaa _) _ _ _ _ _) (by lia)⟩
  ·refine ⟨0,?_⟩;have e:(match c :: m with | 10 :: _=>true | 35 :: c :: _=>Zgn c | _=>false)=false:=by
    split
    ·rename_i z; cases z; exact absurd rfl h1
    ·rename_i z; cases z; exact absurd rfl h2
    ·rfl
   rw [e];exact Ends.le (k:=9 * (l.takeWhile Zao).length + 2 + 8 + 1) (start fun _=>j_bad (wt:=1) hA' (by simp [bad,h1,h2]) (Ybl _ _) fun _ _ _ _ _=>Zuz hA (lted (Yh ‹_› ‹_›)) (pc':=0) (pos':=0) (hd':=0) (o':=true) _ (Yaa _) _ _ _ _ _) (by lia)
end
end Mine
namespace Mine
open PySem.Sre
noncomputable def strC:Array Nat:=#[14,9,4,1,4294967295,16,34,16,39,0,7,72,16,34,16,34,16,34,24,12,0,4294967295,13,7,21,16,34,16,92,0,1,23,37,0,4294967295,7,6,16,92,3,15,15,13,16,34,5,7,0,16,34,16,34,1,15,2,0,24,12,0,4294967295,13,7,21,16,34,16,92,0,1,18,23,9,0,1,16,34,16,34,16,34,18,15,186,56,16,34,24,17,0,4294967295,13,12,21,9,1024,4,268435456,0,0,0,0,0,0,1,23,24,0,4294967295,16,92,3,24,17,0,4294967295,13,12,21,9,1024,4,268435456,0,0,0,0,0,0,1,18,24,6,0,1,16,34,1,15,130,72,16,39,16,39,16,39,24,12,0,4294967295,13,7,21,16,39,16,92,0,1,23,37,0,4294967295,7,6,16,92,3,15,15,13,16,39,5,7,0,16,39,16,39,1,15,2,0,24,12,0,4294967295,13,7,21,16,39,16,92,0,1,18,23,9,0,1,16,39,16,39,16,39,18,15,58,56,16,39,24,17,0,4294967295,13,12,21,9,1024,128,268435456,0,0,0,0,0,0,1,23,24,0,4294967295,16,92,3,24,17,0,4294967295,13,12,21,9,1024,128,268435456,0,0,0,0,0,0,1,18,24,6,0,1,16,39,1,15,2,0,1]
noncomputable def tEnd(q:Nat):List Nat→Nat
 | []=>0
 | [c]=>if c=92 then 0 else 1
 | c :: d :: l=>if c=92 then 2 + tEnd q l else if c=q∧d=q∧l.head?=some q then 3 else 1 + tEnd q (d :: l)
noncomputable def sEnd(q:Nat):List Nat→Nat
 | []=>0
 | [c]=>if c=q then 1 else if c=10∨c=92 then 0 else 1
 | c :: d :: l=>if c=q then 1 else if c=10 then 0 else if c=92 then 2 + sEnd q l else 1 + sEnd q (d :: l)
noncomputable def ordT(q c:Nat):Bool:=c != q && c != 92
noncomputable def ordS(q c:Nat):Bool:=c != q && c != 92 && c != 10
theorem Zjc{q:Nat}:∀ {l:List Nat},tEnd q l=(l.takeWhile (ordT q)).length + tEnd q (l.dropWhile (ordT q))
 | []=>rfl
 | c :: l=>by
  rw [List.takeWhile_cons,List.dropWhile_cons]
  split
  ·rename_i h
   unfold ordT at h;simp only [Bool.and_eq_true,bne_iff_ne] at h;rw [List.length_cons];have ih:=Zjc (q:=q) (l:=l);cases l with
   | nil=>simp [tEnd,h.2]
   | cons d l =>
    conv=>lhs; unfold tEnd
    rw [if_neg h.2,if_neg (fun z=>h.1 z.1)];lia
  ·simp
theorem Zji{q:Nat}:∀ {l:List Nat},sEnd q l=(l.takeWhile (ordS q)).length + sEnd q (l.dropWhile (ordS q))
 | []=>rfl
 | c :: l=>by
  rw [List.takeWhile_cons,List.dropWhile_cons]
  split
  ·rename_i h
   unfold ordS at h;simp only [Bool.and_eq_true,bne_iff_ne] at h;rw [List.length_cons];have ih:=Zji (q:=q) (l:=l);cases l with
   | nil=>simp [sEnd,h.1.1,h.1.2,h.2]
   | cons d l =>
    conv=>lhs; unfold sEnd
    rw [if_neg h.1.1,if_neg h.2,if_neg h.1.2];lia
  ·simp
theorem Ztg{q:Nat}{l:List Nat}(hq:q≠92)(h:∀ m,l≠q :: q :: m):tEnd q (q :: l)=1 + tEnd q l:=by
 cases l with
 | nil=>exact if_neg hq
 | cons d l =>
  conv=>lhs; unfold tEnd
  rw [if_neg hq,if_neg fun z=>?_];obtain ⟨_,rfl,e⟩:=z;cases l with
  | nil=>cases e
  | cons e' m=>cases e; exact h m rfl
theorem Zqq{q:Nat}{l:List Nat}(hq:q≠92):tEnd q (q :: q :: q :: l)=3:=by
 unfold tEnd;rw [if_neg hq,if_pos ⟨rfl,rfl,rfl⟩]
theorem tEnd_bs{q d:Nat}{l:List Nat}:tEnd q (92 :: d :: l)=2 + tEnd q l:=by rw [tEnd,if_pos rfl]
theorem Zma{q:Nat}{l:List Nat}:∀ c m,l.dropWhile (ordT q)=c :: m→c=q∨c=92:=by
 induction l with
 | nil=>intro c m h; cases h
 | cons a l ih =>
  intro c m h;rw [List.dropWhile_cons] at h
  split at h
  ·exact ih c m h
  ·rename_i ha
   cases h;unfold ordT at ha
   by_cases h1:a=q
   ·exact .inl h1
   ·by_cases h2:a=92
    ·exact .inr h2
    ·exact absurd (by simp [h1,h2]) ha
theorem Zmb{q:Nat}{l:List Nat}:∀ c m,l.dropWhile (ordS q)=c :: m→c=q∨c=92∨c=10:=by
 induction l with
 | nil=>intro c m h; cases h
 | cons a l ih =>
  intro c m h;rw [List.dropWhile_cons] at h
  split at h
  ·exact ih c m h
  ·rename_i ha
   cases h;unfold ordS at ha
   by_cases h1:a=q
   ·exact .inl h1
   ·by_cases h2:a=92
    ·exact .inr (.inl h2)
    ·by_cases h3:a=10
     ·exact .inr (.inr h3)
     ·exact absurd (by simp [h1,h2,h3]) ha
theorem Zer(p:Nat→Bool)(l:List Nat):(l.takeWhile p).length + (l.dropWhile p).length=l.length:=by rw [← List.length_append,List.takeWhile_append_dropWhile]
theorem Zdh{C:Array Nat}{pc a b n:Nat}(h0:ops[C.getD pc 0]?=some .IN)(hs:C.size=n + 4)(h2:ops[C.getD (pc + 2 + 0) 0]?=some .NEGATE)(h3:ops[C.getD (pc + 2 + 1 + 0) 0]?=some .LITERAL)(h4:C.getD (pc + 2 + 1 + 1) 0=a)
  (h5:ops[C.getD (pc + 2 + 1 + 2 + 0) 0]?=some .LITERAL) (h6:C.getD (pc + 2 + 1 + 2 + 1) 0=b) (h7:ops[C.getD (pc + 2 + 1 + 2 + 2 + 0) 0]?=some .FAILURE) (c:Nat):Zcr C pc c (c != a && c != b):=by
 have g:Gv C c C.size (pc + 2) true (c != a && c != b):=by
  rw [hs];refine Zvh h2 (Zpt h3 h4 (fun q1=>Zpt h5 h6 (fun q2=>?_) fun q2=>?_) fun q1=>?_)
  ·rw [show (c != a && c != b)=true by simp [q1,q2]]; exact Zgs h7
  ·simp [q2]
  ·simp [q1]
 intro sn;unfold accepts;rw [h0];exact g sn
theorem Zbm{C:Array Nat}{pc n:Nat}{p:Nat→Bool}(h0:ops[C.getD pc 0]?=some .IN)(hs:C.size=n + 3)(h2:ops[C.getD (pc + 2 + 0) 0]?=some .NEGATE)(h3:ops[C.getD (pc + 2 + 1 + 0) 0]?=some .CHARSET)
  (h4:∀ c,(decide (c < 256) && (C.getD (pc + 2 + 1 + (1 + c / 32)) 0).testBit (c % 32))=!p c) (h7:ops[C.getD (pc + 2 + 1 + 9 + 0) 0]?=some .FAILURE) (c:Nat):Zcr C pc c (p c):=by
 have g:Gv C c C.size (pc + 2) true (p c):=by
  rw [hs];refine Zvh h2 (gv_set h3 (h4 c) (fun q=>?_) fun q=>?_)
  ·rw [show p c=true by cases k:p c <;> rw [k] at q <;> first | rfl | cases q]; exact Zgs h7
  ·cases k:p c
   ·rfl
   ·rw [k] at q; exact absurd q Yy
 intro sn;unfold accepts;rw [h0];exact g sn
structure LitAt(C:Array Nat)(pc c:Nat):Prop where
 op:ops[C.getD (pc + 0) 0]?=some .LITERAL
 lt:pc < C.size
 x:C.getD (pc + 1) 0=c
structure OpAt(C:Array Nat)(pc:Nat)(o:PySem.Sre.Op):Prop where
 op:ops[C.getD (pc + 0) 0]?=some o
 lt:pc < C.size
structure JmpAt(C:Array Nat)(pc t:Nat)(o:PySem.Sre.Op):Prop extends OpAt C pc o where
 to:pc + 1 + C.getD (pc + 1) 0=t
structure RepAt(C:Array Nat)(pc t mx:Nat)(o:PySem.Sre.Op):Prop extends JmpAt C pc t o where
 mn:C.getD (pc + 2) 0=0
 mx:C.getD (pc + 3) 0=mx
structure TQ(C:Array Nat)(q p:Nat):Prop where
 l12:LitAt C (p + 12) q
 l14:LitAt C (p + 14) q
 l16:LitAt C (p + 16) q
 r18:RepAt C (p + 18) (p + 31) 4294967295 .REPEAT_ONE
 k18:∀ c,Zcr C (p + 18 + 4) c (ordT q c)
 p31:RepAt C (p + 31) (p + 69) 4294967295 .REPEAT
 b35:OpAt C (p + 35) .BRANCH
 b36:C.getD (p + 35 + 1) 0=6
 b42:C.getD (p + 42) 0=13
 b55:C.getD (p + 55) 0=0
 l37:LitAt C (p + 37) 92
 a39:OpAt C (p + 39) .ANY_ALL
 j40:JmpAt C (p + 40) (p + 56) .JUMP
 l43:LitAt C (p + 43) q
 n45:JmpAt C (p + 45) (p + 53) .ASSERT_NOT
 n47:C.getD (p + 45 + 2) 0=0
 l48:LitAt C (p + 48) q
 l50:LitAt C (p + 50) q
 s52:OpAt C (p + 52) .SUCCESS
 j53:JmpAt C (p + 53) (p + 56) .JUMP
 r56:RepAt C (p + 56) (p + 69) 4294967295 .REPEAT_ONE
 k56:∀ c,Zcr C (p + 56 + 4) c (ordT q c)
 u69:OpAt C (p + 69) .MAX_UNTIL
 p70:RepAt C (p + 70) (p + 80) 1 .REPEAT
 l74:LitAt C (p + 74) q
 l76:LitAt C (p + 76) q
 l78:LitAt C (p + 78) q
 u80:OpAt C (p + 80) .MAX_UNTIL
 j81:JmpAt C (p + 81) 268 .JUMP
 z:OpAt C 268 .SUCCESS
 l84:LitAt C (p + 84) q
 r86:RepAt C (p + 86) (p + 104) 4294967295 .REPEAT_ONE
 k86:∀ c,Zcr C (p + 86 + 4) c (ordS q c)
 p104:RepAt C (p + 104) (p + 129) 4294967295 .REPEAT
 l108:LitAt C (p + 108) 92
 a110:OpAt C (p + 110) .ANY_ALL
 r111:RepAt C (p + 111) (p + 129) 4294967295 .REPEAT_ONE
 k111:∀ c,Zcr C (p + 111 + 4) c (ordS q c)
 u129:OpAt C (p + 129) .MAX_UNTIL
 r130:RepAt C (p + 130) (p + 137) 1 .REPEAT_ONE
 k130:∀ c,Zcr C (p + 130 + 4) c (c == q)
 j137:JmpAt C (p + 137) 268 .JUMP
section
variable{R:Rx}{pc pos hd:Nat}{o:Bool}{L:Array PySem.Sre.Loop}{inn:Option Nat}{fs:List PySem.Sre.Frame}{wt:Nat}{sn:Seen}{k:Nat}{r:Option Nat}{c x t mx:Nat}{l:List Nat}
theorem Zcs(F:LitAt R.C pc c)(h:At R pos (c :: l))(hk:∀ sn',Ends R k (S R (pc + 2) (pos + 1) hd o L inn fs wt none sn') r):Ends R (k + 1) (S R pc pos hd o L inn fs wt none sn) r:=Zwf F.op F.lt h F.x hk
theorem Zbb(F:LitAt R.C pc x)(h:At R pos (c :: l))(hne:c≠x)(hk:∀ sn',Ends R k (S R pc pos hd o L inn fs wt (some false) sn') r):Ends R (k + 1) (S R pc pos hd o L inn fs wt none sn) r:=Zka F.op F.lt h F.x hne hk
theorem Zbl(F:LitAt R.C pc x)(h:At R pos [])(hk:∀ sn',Ends R k (S R pc pos hd o L inn fs wt (some false) sn') r):Ends R (k + 1) (S R pc pos hd o L inn fs wt none sn) r:=Zkc F.op F.lt h hk
theorem Zlf(F:JmpAt R.C pc t .JUMP)(h:∀ sn',Ends R k (S R t pos hd o L inn fs wt none sn') r):Ends R (k + 1) (S R pc pos hd o L inn fs wt none sn) r:=e_jump F.op (.inl rfl) F.lt fun sn'=>by rw [F.to]; exact h sn'
theorem x_out(F:OpAt R.C pc .SUCCESS)(hf:(fs.all fun f=>Zbx f.wait)=true)(hk:fs.length + 2≤k):Ends R k (S R pc pos hd o L inn fs wt none sn) (some pos) :=
 Ends.le (Zdc F.op F.lt fun _=>Zwc hf) hk
theorem Zle{p:Nat→Bool}{n N:Nat}(F:RepAt R.C pc t mx .REPEAT_ONE)(hp:∀ c,Zcr R.C (pc + 4) c (p c))(hw:wt < 16777216)(hle:pos≤R.lim)(hN:min mx (R.lim - pos)=N)(hn:cntP p R.T N pos=n)(hm:n≤R.lim - pos)
  (h:∀ sn',Ends R k (S R t (pos + n) (pos + n) o L inn (Fm .giveBack pc (pos + n) o n inn.isSome 0 none :: fs) (wt + 1) none sn') r):Ends R (k + 1) (S R pc pos hd o L inn fs wt none sn) r :=
 Zch F.op F.lt hw hle hp (by rw [F.mx]; exact hN) hn (by rw [F.mn]; exact Yas _) hm fun sn'=>by rw [F.to]; exact h sn'
theorem x_rep(F:RepAt R.C pc t mx .REPEAT)(hw:wt < 16777216)(h:∀ sn',Ends R k (S R t pos pos o (lp pc (-1) none) (some 0) (Fm .closeLoop pc pos o 0 false 0 none :: fs) (wt + 1) none sn') r):Ends R (k + 1) (S R pc pos hd o #[] none fs wt none sn) r :=
 Zpx F.op F.lt hw fun sn'=>by rw [F.to]; exact h sn'
theorem x_rep2{rp0:Nat}{c0:Int}{b0:Option Nat}(F:RepAt R.C pc t mx .REPEAT)(hw:wt < 16777216)(h:∀ sn',Ends R k (S R t pos pos o (lp2 rp0 c0 b0 pc (-1) none) (some 1) (Fm .closeLoop pc pos o 0 false 1 none :: fs) (wt + 1) none sn') r):Ends R (k + 1) (S R pc pos hd o (lp rp0 c0 b0) none fs wt none sn) r :=
 Zwd F.op F.lt hw fun sn'=>by rw [F.to]; exact h sn'
theorem Zia{rp:Nat}{c:Int}{b:Option Nat}(F:RepAt R.C rp t 4294967295 .REPEAT)(U:OpAt R.C pc .MAX_UNTIL)(hw:wt < 16777216)(hc:0≤c + 1)(hb:∀ x,b=some x→x < pos)
  (h:∀ sn',Ends R k (S R (rp + 4) pos pos o (lp rp (c + 1) (some pos)) (some 0) (Fm .maxMore (pc + 1) pos o (c + 1) true 0 b :: fs) (wt + 1) none sn') r):Ends R (k + 1) (S R pc pos hd o (lp rp c b) (some 0) fs wt none sn) r :=
 e_more U.op U.lt hw hc F.mn (.inr F.mx) (fun z=>absurd (hb pos z) (Yl _)) h
theorem Ziy{a:Nat}(F:OpAt R.C pc .BRANCH)(ha:R.C.getD (pc + 1) 0=a + 1)(hw:wt < 16777216)(h:∀ sn',Ends R k (S R (pc + 1 + 1) pos pos o L inn (Fm .nextBranch (pc + 1) pos o 0 inn.isSome 0 none :: fs) (wt + 1) none sn') r):Ends R (k + 1) (S R pc pos hd o L inn fs wt none sn) r :=
 Zpy F.op F.lt hw (by rw [ha]; exact Nat.succ_ne_zero _) h
theorem Zhz{pc' pos' a d:Nat}{o':Bool}{count:Int}{b:Bool}{loop:Nat}{began:Option Nat}(hd':R.C.getD pc' 0=d)(ha:R.C.getD (pc' + d) 0=a + 1)(hw:wt < 16777216)
  (h:∀ sn',Ends R k (S R (pc' + d + 1) pos' pos' o' L inn (Fm .nextBranch (pc' + d) pos' o' 0 b 0 none :: fs) (wt + 1) none sn') r) :
  Ends R (k + 1) (S R pc pos hd o L inn (Fm .nextBranch pc' pos' o' count b loop began :: fs) (wt + 1) (some false) sn) r:=by
 subst hd';exact Zme hw (by rw [ha]; exact Nat.succ_ne_zero _) h
theorem Zsm{pc' pos' d:Nat}{o':Bool}{count:Int}{b:Bool}{loop:Nat}{began:Option Nat}(hd':R.C.getD pc' 0=d)(ha:R.C.getD (pc' + d) 0=0)
  (h:∀ sn',Ends R k (S R pc' pos' hd o' L inn fs wt (some false) sn') r) :
  Ends R (k + 1) (S R pc pos hd o L inn (Fm .nextBranch pc' pos' o' count b loop began :: fs) (wt + 1) (some false) sn) r:=by
 subst hd';exact Zrm ha h
theorem Zso{pc' pos':Nat}{o' bk:Bool}{count:Int}{began:Option Nat}{i:Nat}(F:JmpAt R.C pc' t .ASSERT_NOT)(h:∀ sn',Ends R k (S R t pos' hd o' L inn fs wt none sn') r) :
  Ends R (k + 1) (S R pc pos hd o L inn (Fm .lookNot pc' pos' o' count bk i began :: fs) (wt + 1) (some false) sn) r:=e_look fun sn'=>by rw [if_neg Bool.false_ne_true,F.to]; exact h sn'
theorem Zql{pc' pos':Nat}{o' bk:Bool}{count:Int}{began:Option Nat}{i:Nat}(h:∀ sn',Ends R k (S R pc' pos' hd o' L inn fs wt (some false) sn') r) :
  Ends R (k + 1) (S R pc pos hd o L inn (Fm .lookNot pc' pos' o' count bk i began :: fs) (wt + 1) (some true) sn) r:=e_look fun sn'=>by rw [if_pos rfl]; exact h sn'
theorem Zsn{rp0:Nat}{c0:Int}{b0:Option Nat}{rp:Nat}(F:RepAt R.C rp t 1 .REPEAT)(U:OpAt R.C pc .MAX_UNTIL)(hw:wt < 16777216)
  (h:∀ sn',Ends R k (S R (rp + 4) pos pos o (lp2 rp0 c0 b0 rp (-1 + 1) (some pos)) (some 1) (Fm .maxMore (pc + 1) pos o (-1 + 1) true 1 none :: fs) (wt + 1) none sn') r):Ends R (k + 1) (S R pc pos hd o (lp2 rp0 c0 b0 rp (-1) none) (some 1) fs wt none sn) r :=
 e_more2 U.op U.lt hw (by decide) F.mn (.inl (by rw [F.mx]; decide)) (fun z=>nomatch z) h
theorem x_tail2{rp0:Nat}{c0:Int}{b0:Option Nat}{rp x:Nat}(F:RepAt R.C rp t 1 .REPEAT)(U:OpAt R.C pc .MAX_UNTIL)(hw:wt < 16777216)
  (h:∀ sn',Ends R k (S R (pc + 1) pos pos o (lp2 rp0 c0 b0 rp (-1 + 1) (some x)) none (Fm .maxTail (pc + 1) pos o (-1 + 1 + 1) false 1 none :: fs) (wt + 1) none sn') r):Ends R (k + 1) (S R pc pos hd o (lp2 rp0 c0 b0 rp (-1 + 1) (some x)) (some 1) fs wt none sn) r :=
 e_tail2 U.op U.lt hw (by decide) F.mn (.inl ⟨by rw [F.mx]; decide,by rw [F.mx]; decide⟩) h
end
section
variable{R:Rx}{q p:Nat}{pos hd:Nat}{fs:List PySem.Sre.Frame}{wt:Nat}{sn:Seen}{k:Nat}{r:Option Nat}{c x:Nat}{l:List Nat}
theorem Zyf(F:TQ R.C q p){c0:Int}{b0:Option Nat}{m:List Nat}(hA:At R pos (q :: q :: q :: m))(hw:wt + 6 < 16777216)(hf:(fs.all fun f=>Zbx f.wait)=true) :
  Ends R (fs.length + 12) (S R (p + 70) pos hd true (lp (p + 31) c0 b0) none fs wt none sn) (some (pos + 3)):=by
 refine Ends.le (k:=fs.length + 4 + 1 + 1 + 1 + 1 + 1 + 1 + 1 + 1) (x_rep2 F.p70 (by lia) fun _=>?_) (Yau _);refine Zsn F.p70 F.u80 (by lia) fun _=>?_;refine Zcs F.l74 hA fun _=>?_;refine Zcs F.l76 hA.tl fun _=>?_;refine Zcs F.l78 hA.tl.tl fun _=>?_;refine x_tail2 F.p70 F.u80 (by lia) fun _=>?_;refine Zlf F.j81 fun _=>?_;exact x_out F.z hf (by simp only [List.length_cons]; exact Yau _)
theorem Ztc(F:TQ R.C q p){c0:Int}{b0:Option Nat}(hA:At R pos l)(hl:∀ c m,l=c :: m→c≠q)(hw:wt + 6 < 16777216)(hf:(fs.all fun f=>Zbx f.wait)=true) :
  Ends R (fs.length + 12) (S R (p + 70) pos hd true (lp (p + 31) c0 b0) none fs wt none sn) (some pos):=by
 refine Ends.le (k:=fs.length + 3 + 1 + 1 + 1 + 1 + 1 + 1) (x_rep2 F.p70 (by lia) fun _=>?_) (by lia);refine Zsn F.p70 F.u80 (by lia) fun _=>?_;have out:∀ pc' pos' hd' o' sn',Ends R (fs.length + 3 + 1 + 1 + 1) (S R pc' pos' hd' o' (lp2 (p + 31) c0 b0 (p + 70) (-1 + 1) (some pos)) (some 1) (Fm .maxMore (p + 81) pos true (-1 + 1) true 1 none :: Fm .closeLoop (p + 70) pos true 0 false 1 none :: fs) (wt + 1 + 1) (some false) sn') (some pos):=by
  intro pc' pos' hd' o' sn';refine Zkb (wt:=wt + 1) (by lia) fun _=>?_;refine Zlf F.j81 fun _=>?_;exact x_out F.z hf (by simp only [List.length_cons]; exact Yau _)
 cases l with
 | nil=>exact Zbl F.l74 hA fun _=>out _ _ _ _ _
 | cons a l=>exact Zbb F.l74 hA (hl a l rfl) fun _=>out _ _ _ _ _
structure LO(R:Rx)(pos:Nat)(c:Int)(b:Option Nat)(fs:List PySem.Sre.Frame)(wt:Nat)(l:List Nat):Prop where
 hA:At R pos l
 hb:∀ x,b=some x→x < pos
 hc:0≤c + 1
 hw:wt + 4 * l.length + 20 < 16777216
 hf:(fs.all fun f=>Zbx f.wait)=true
theorem LO.next{c:Int}{b:Option Nat}{pos' wt':Nat}{l':List Nat}(H:LO R pos c b fs wt l)(hA:At R pos' l')(hp:pos < pos')(hw:wt' + 4 * l'.length + 20 < 16777216){fs':List PySem.Sre.Frame}(hf:(fs'.all fun f=>Zbx f.wait)=true):LO R pos' (c + 1) (some pos) fs' wt' l' :=
 ⟨hA,fun x z=>by cases z; exact hp,by have:=H.hc; lia,hw,hf⟩
theorem few{w n:Nat}(h:w + 4 * n + 20 < 16777216):n≤4294967295:=by lia
noncomputable def TLoop(R:Rx)(q p n:Nat):Prop:=∀ (l:List Nat) (pos hd:Nat) (c:Int) (b:Option Nat) (fs:List PySem.Sre.Frame) (wt:Nat) (sn:Seen),l.length≤n→LO R pos c b fs wt l→(∀ c m,l=c :: m→c=q∨c=92) →
  Ends R (30 * l.length + fs.length + 30) (S R (p + 69) pos hd true (lp (p + 31) c b) (some 0) fs wt none sn) (some (pos + tEnd q l))
theorem tq_nil(F:TQ R.C q p){c:Int}{b:Option Nat}(H:LO R pos c b fs wt []):Ends R (fs.length + 30) (S R (p + 69) pos hd true (lp (p + 31) c b) (some 0) fs wt none sn) (some pos):=by
 have hw:wt + 0 + 20 < 16777216:=H.hw;refine Ends.le (k:=fs.length + 13 + 1 + 1 + 1 + 1 + 1 + 1 + 1) (Zia F.p31 F.u69 (by lia) H.hc H.hb fun _=>?_) (by lia);refine Ziy F.b35 F.b36 (by lia) fun _=>?_;refine Zbl F.l37 H.hA fun _=>?_;refine Zhz (wt:=wt + 1) F.b36 F.b42 (by lia) fun _=>?_;refine Zbl F.l43 H.hA fun _=>?_;refine Zsm (wt:=wt + 1) F.b42 F.b55 fun _=>?_;refine Zas (wt:=wt) (by lia) fun _=>?_;refine Ztc (fs:=_ :: fs) F H.hA (fun c m z=>nomatch z) ?_ H.hf;lia
theorem tq_look{L:Array PySem.Sre.Loop}{inn:Option Nat}(F:TQ R.C q p)(hA:At R pos l)(hw:wt < 16777216)
  (no:(∀ m,l≠q :: q :: m)→∀ hd' sn',Ends R k (S R (p + 56) pos hd' true L inn fs wt none sn') r)
  (yes:∀ m,l=q :: q :: m→∀ pc' pos' hd' o' sn',Ends R k (S R pc' pos' hd' o' L inn fs wt (some false) sn') r) :
  Ends R (k + 5) (S R (p + 45) pos hd true L inn fs wt none sn) r:=by
 have go:(∀ m,l≠q :: q :: m)→∀ pc' pos' hd' o' sn',Ends R (k + 1 + 1) (S R pc' pos' hd' o' L inn (Fm .lookNot (p + 45) pos true 0 inn.isSome 0 none :: fs) (wt + 1) (some false) sn') r :=
  fun h pc' pos' hd' o' sn'=>Zso F.n45 fun _=>Zlf F.j53 fun _=>no h _ _
 refine e_not F.n45.op F.n45.lt hw F.n47 fun _=>?_
 match l,hA,no,yes,go with
 | [],hA,_,_,go=>exact Ends.le (Zbl F.l48 hA fun _=>go (fun m e=>nomatch e) _ _ _ _ _) (Yba _)
 | [d],hA,_,_,go =>
  have g:=go fun m e=>by cases e
  by_cases h:d=q
  ·subst h; exact Zcs F.l48 hA fun _=>Zbl F.l50 hA.tl fun _=>g _ _ _ _ _
  ·exact Ends.le (Zbb F.l48 hA h fun _=>g _ _ _ _ _) (Yba _)
 | d :: e :: m,hA,_,yes,go =>
  by_cases h:d=q
  ·by_cases h':e=q
   ·rw [h,h'] at hA yes;exact Zcs F.l48 hA fun _=>Zcs F.l50 hA.tl fun _=>Zdc F.s52.op F.s52.lt fun _=>Zql fun _=>yes m rfl _ _ _ _ _
   ·rw [h] at hA;exact Zcs F.l48 hA fun _=>Zbb F.l50 hA.tl h' fun _=>go (fun m e=>by cases e; exact h' rfl) _ _ _ _ _
  ·exact Ends.le (Zbb F.l48 hA h fun _=>go (fun m e=>by cases e; exact h rfl) _ _ _ _ _) (Yba _)
theorem Zou{n:Nat}(F:TQ R.C q p){c:Int}{b:Option Nat}(ih:TLoop R q p n)(hn:l.length≤n)(H:LO R pos c b fs (wt + 1) l):Ends R (30 * l.length + fs.length + 32) (S R (p + 56) pos hd true (lp (p + 31) c b) (some 0) fs wt none sn) (some (pos + tEnd q l)):=by
 have hr:R.lim - pos=l.length:=H.hA.room;have hD:=Zer (ordT q) l;have hw:=H.hw;refine Ends.le (k:=30 * (l.dropWhile (ordT q)).length + (fs.length + 1) + 30 + 1) (Zle F.r56 F.k56 (n:=(l.takeWhile (ordT q)).length) (N:=l.length) (by lia) H.hA.le (by rw [hr]; exact Ybf (few hw)) (H.hA.cnt _) (by rw [hr]; exact hD ▸ Yam _ _) fun _=>?_) (by lia);rw [Zjc,← Nat.add_assoc pos];refine ih _ _ _ _ _ (_ :: fs) _ _ ?_ ?_ Zma
 ·lia
 ·exact ⟨H.hA.dropW _,fun x z=>Yd (H.hb x z) (Yam _ _),H.hc,by lia,H.hf⟩
theorem Zye{n:Nat}(F:TQ R.C q p)(hq:q≠92){c:Int}{b:Option Nat}(ih:TLoop R q p n)(hn:l.length≤n)(H:LO R pos c b fs wt (q :: l)):Ends R (30 * (l.length + 1) + fs.length + 30) (S R (p + 69) pos hd true (lp (p + 31) c b) (some 0) fs wt none sn) (some (pos + tEnd q (q :: l))):=by
 have hw:wt + 4 * (l.length + 1) + 20 < 16777216:=H.hw;refine Ends.le (k:=30 * l.length + (fs.length + 1 + 1) + 32 + 5 + 1 + 1 + 1 + 1 + 1) (Zia F.p31 F.u69 (wlo0 ‹_›) H.hc H.hb fun _=>?_) (by lia);refine Ziy F.b35 F.b36 (wlo1 ‹_›) fun _=>?_;refine Zbb F.l37 H.hA hq fun _=>?_;refine Zhz (wt:=wt + 1) F.b36 F.b42 (wlo1 ‹_›) fun _=>?_;refine Zcs F.l43 H.hA fun _=>?_;refine tq_look F H.hA.tl (by lia) (fun h _ _=>?_) fun m e pc' pos' hd' o' sn'=>?_
 ·rw [Ztg hq h,← Nat.add_assoc pos];refine Zou (fs:=_ :: _ :: fs) F ih hn ?_;exact H.next H.hA.tl (Yau _) (by lia) H.hf
 ·subst e;rw [Zqq hq];refine Ends.le (k:=fs.length + 12 + 1 + 1 + 1) (Zsm (wt:=wt + 1) F.b42 F.b55 fun _=>?_) (by lia);refine Zas (wt:=wt) (wlo0 ‹_›) fun _=>?_;exact Ends.le (Zyf F H.hA (wlo7 ‹_›) H.hf) (Yaa _)
theorem tq_bsl{n:Nat}(F:TQ R.C q p)(hq:q≠92){c:Int}{b:Option Nat}(ih:TLoop R q p n)(hn:l.length≤n)(H:LO R pos c b fs wt (92 :: l)):Ends R (30 * (l.length + 1) + fs.length + 30) (S R (p + 69) pos hd true (lp (p + 31) c b) (some 0) fs wt none sn) (some (pos + tEnd q (92 :: l))):=by
 have hw:wt + 4 * (l.length + 1) + 20 < 16777216:=H.hw;refine Ends.le (k:=30 * l.length + fs.length + 40 + 1 + 1 + 1) (Zia F.p31 F.u69 (wlo0 ‹_›) H.hc H.hb fun _=>?_) (by lia);refine Ziy F.b35 F.b36 (wlo1 ‹_›) fun _=>?_;refine Zcs F.l37 H.hA fun _=>?_;cases l with
 | nil =>
  refine Ends.le (k:=fs.length + 20 + 1 + 1 + 1 + 1 + 1) (Zpz F.a39.op F.a39.lt H.hA.tl fun _=>?_) (by show _≤0 + fs.length + 40; lia);refine Zhz (wt:=wt + 1) F.b36 F.b42 (wlo1 ‹_›) fun _=>?_;refine Zbb F.l43 H.hA hq.symm fun _=>?_;refine Zsm (wt:=wt + 1) F.b42 F.b55 fun _=>?_;refine Zas (wt:=wt) (wlo0 ‹_›) fun _=>?_;exact Ends.le (Ztc F H.hA (fun c m z=>by cases z; exact hq.symm) (wlo7 ‹_›) H.hf) (by simp only [List.length_cons]; lia)
 | cons d l =>
  refine Ends.le (k:=30 * l.length + (fs.length + 1 + 1) + 32 + 1 + 1) (e_all F.a39.op F.a39.lt H.hA.tl fun _=>Zlf F.j40 fun _=>?_) (by simp only [List.length_cons]; lia);rw [tEnd_bs,← Nat.add_assoc pos];simp only [List.length_cons] at hn hw;refine Zou (fs:=_ :: _ :: fs) F ih ?_ ?_
  ·exact Yf ‹_›
  ·exact H.next H.hA.tl.tl (Yba _) (by lia) H.hf
theorem tq_loop(F:TQ R.C q p)(hq:q≠92):∀ n:Nat,TLoop R q p n:=by
 intro n
 induction n with
 | zero =>
  intro l pos hd c b fs wt sn hl H hh;cases l with
  | nil=>exact Ends.le (tq_nil F H) (by show _≤0 + fs.length + 30; exact Ybl _ _)
  | cons a l=>exact absurd hl (Nat.not_succ_le_zero _)
 | succ n ih =>
  intro l pos hd c b fs wt sn hl H hh;cases l with
  | nil=>exact Ends.le (tq_nil F H) (by show _≤0 + fs.length + 30; exact Ybl _ _)
  | cons a l =>
   rcases hh a l rfl with e | e
   ·subst e; exact Zye F hq ih (Ybn hl) H
   ·subst e; exact tq_bsl F hq ih (Ybn hl) H
theorem tq_str(F:TQ R.C q p)(hq:q≠92)(hA:At R pos (q :: q :: q :: l))(hl:l.length < 1048576)(hw:wt < 100)(hf:(fs.all fun f=>Zbx f.wait)=true) :
  Ends R (30 * l.length + fs.length + 40) (S R (p + 12) pos hd true #[] none fs wt none sn) (some (pos + (3 + tEnd q l))):=by
 refine Ends.le (k:=30 * l.length + fs.length + 33 + 1 + 1 + 1 + 1 + 1) (Zcs F.l12 hA fun _=>?_) (by lia);refine Zcs F.l14 hA.tl fun _=>?_;refine Zcs F.l16 hA.tl.tl fun _=>?_;have hM:=hA.tl.tl.tl;have hr:R.lim - (pos + 1 + 1 + 1)=l.length:=hM.room;have hD:=Zer (ordT q) l;refine Zle F.r18 F.k18 (n:=(l.takeWhile (ordT q)).length) (N:=l.length) (ltd ‹_›) hM.le (by rw [hr]; exact Ybf (Yg (Yf hl) (by decide))) (hM.cnt _) (by rw [hr]; exact hD ▸ Yam _ _) fun _=>?_;refine x_rep F.p31 (letd ‹_›) fun _=>?_;rw [Zjc,show pos + (3 + ((l.takeWhile (ordT q)).length + tEnd q (l.dropWhile (ordT q))))=pos + 1 + 1 + 1 + (l.takeWhile (ordT q)).length + tEnd q (l.dropWhile (ordT q)) by lia];refine Ends.le (tq_loop F hq _ _ _ _ _ _ (_ :: _ :: fs) _ _ (Yaa _) ?_ Zma) (by simp only [List.length_cons]; lia);exact ⟨hM.dropW _,(fun x z=>nomatch z),by decide,by lia,hf⟩
theorem Zym(F:TQ R.C q p){c0:Int}{b0:Option Nat}{n:Nat}(hA:At R pos l)(hn:cntP (· == q) R.T (min 1 (R.lim - pos)) pos=n)(hw:wt + 6 < 16777216)(hf:(fs.all fun f=>Zbx f.wait)=true) :
  Ends R (fs.length + 12) (S R (p + 130) pos hd true (lp (p + 104) c0 b0) none fs wt none sn) (some (pos + n)):=by
 have hm:n≤R.lim - pos:=hn ▸ Yg (Zgy (· == q) R.T (min 1 (R.lim - pos)) pos) (Nat.min_le_right _ _);refine Ends.le (k:=fs.length + 2 + 1 + 1 + 1) (Zle F.r130 F.k130 (n:=n) (N:=min 1 (R.lim - pos)) (by lia) hA.le rfl hn hm fun _=>?_) (by lia);refine Zlf F.j137 fun _=>?_;exact x_out F.z hf (by simp only [List.length_cons]; exact Yau _)
noncomputable def SLoop(R:Rx)(q p n:Nat):Prop:=∀ (l:List Nat) (pos hd:Nat) (c:Int) (b:Option Nat) (fs:List PySem.Sre.Frame) (wt:Nat) (sn:Seen),l.length≤n→LO R pos c b fs wt l→(∀ c m,l=c :: m→c=q∨c=92∨c=10) →
  Ends R (30 * l.length + fs.length + 30) (S R (p + 129) pos hd true (lp (p + 104) c b) (some 0) fs wt none sn) (some (pos + sEnd q l))
theorem Ztl(F:TQ R.C q p){c:Int}{b:Option Nat}{v pc' pos' hd':Nat}{o':Bool}{sn':Seen}{cc:Int}{bb:Option Nat}{inn:Option Nat}(hA:At R pos l)(hv:(if l.head?=some q then 1 else 0)=v)(hw:wt + 20 < 16777216)(hf:(fs.all fun f=>Zbx f.wait)=true) :
  Ends R (fs.length + 14) (S R pc' pos' hd' o' (lp (p + 104) cc bb) inn (Fm .maxMore (p + 130) pos true c true 0 b :: fs) (wt + 1) (some false) sn') (some (pos + v)):=by
 refine Ends.le (Zas (wt:=wt) (by lia) fun _=>Zym (fs:=_ :: fs) F hA (n:=v) ?_ (by lia) hf) (Yaa _);rw [hA.room,← hv];cases l with
 | nil=>rfl
 | cons a l =>
  rw [show min 1 (a :: l).length=1 from Nat.min_eq_left (Nat.succ_le_succ (Nat.zero_le _))];show (if (R.T.getD pos 0 == q)=true then cntP (· == q) R.T 0 (pos + 1) + 1 else 0)=if some a=some q then 1 else 0
  rw [show R.T.getD pos 0=a from hA.get]
  by_cases h:a=q
  ·rw [if_pos (by simpa using h),if_pos (congrArg some h)]; rfl
  ·rw [if_neg (by simpa using h),if_neg fun z=>h (Option.some.inj z)]
theorem sq_nil(F:TQ R.C q p){c:Int}{b:Option Nat}(H:LO R pos c b fs wt []):Ends R (fs.length + 30) (S R (p + 129) pos hd true (lp (p + 104) c b) (some 0) fs wt none sn) (some pos):=by
 have hw:wt + 0 + 20 < 16777216:=H.hw;exact Ends.le (k:=fs.length + 14 + 1 + 1) (Zia F.p104 F.u129 (by lia) H.hc H.hb fun _=>Zbl F.l108 H.hA fun _=>Ztl (wt:=wt) F H.hA (by rfl) (ltd ‹_›) H.hf) (by lia)
theorem Zoy{a:Nat}(F:TQ R.C q p){c:Int}{b:Option Nat}(ha:a≠92)(hv:sEnd q (a :: l)=if a=q then 1 else 0)(H:LO R pos c b fs wt (a :: l)):Ends R (30 * (l.length + 1) + fs.length + 30) (S R (p + 129) pos hd true (lp (p + 104) c b) (some 0) fs wt none sn) (some (pos + sEnd q (a :: l))):=by
 have hw:=H.hw;refine Ends.le (k:=fs.length + 14 + 1 + 1) (Zia F.p104 F.u129 (wlo0 ‹_›) H.hc H.hb fun _=>Zbb F.l108 H.hA ha fun _=>Ztl (wt:=wt) F H.hA ?_ (by lia) H.hf) (by lia);rw [hv];show (if some a=some q then 1 else 0)=_
 by_cases h:a=q
 ·rw [if_pos h,if_pos (congrArg some h)]
 ·rw [if_neg h,if_neg fun z=>h (Option.some.inj z)]
theorem sq_bsl{n:Nat}(F:TQ R.C q p)(hq:q≠92){c:Int}{b:Option Nat}(ih:SLoop R q p n)(hn:l.length≤n)(H:LO R pos c b fs wt (92 :: l)):Ends R (30 * (l.length + 1) + fs.length + 30) (S R (p + 129) pos hd true (lp (p + 104) c b) (some 0) fs wt none sn) (some (pos + sEnd q (92 :: l))):=by
 have hw:wt + 4 * (l.length + 1) + 20 < 16777216:=H.hw;refine Ends.le (k:=30 * l.length + fs.length + 40 + 1 + 1) (Zia F.p104 F.u129 (wlo0 ‹_›) H.hc H.hb fun _=>Zcs F.l108 H.hA fun _=>?_) (by lia);cases l with
 | nil =>
  rw [show sEnd q [92]=0 by simp [sEnd,hq.symm]];exact Ends.le (Zpz F.a110.op F.a110.lt H.hA.tl fun _=>Ztl (wt:=wt) F H.hA (if_neg fun z=>hq (Yc z).symm) (by lia) H.hf) (by show _≤0 + fs.length + 40; lia)
 | cons d l =>
  have e:sEnd q (92 :: d :: l)=2 + sEnd q l:=by rw [sEnd,if_neg hq.symm,if_neg (by decide),if_pos rfl]
  simp only [List.length_cons] at hn hw;have hM:=H.hA.tl.tl;have hr:=hM.room;have hD:=Zer (ordS q) l;refine Ends.le (k:=30 * (l.dropWhile (ordS q)).length + (fs.length + 1 + 1) + 30 + 1 + 1) (e_all F.a110.op F.a110.lt H.hA.tl fun _=>Zle F.r111 F.k111 (n:=(l.takeWhile (ordS q)).length) (N:=l.length) (wlo1 ‹_›) hM.le (by rw [hr]; exact Ybf (few (w:=wt + 8) (by lia))) (hM.cnt _) (by rw [hr]; exact hD ▸ Yam _ _) fun _=>?_) (by simp only [List.length_cons]; lia);rw [e,Zji,← Nat.add_assoc pos,← Nat.add_assoc (pos + 2)];refine ih _ _ _ _ _ (_ :: _ :: fs) _ _ ?_ ?_ Zmb
  ·lia
  ·exact H.next (hM.dropW _) (by lia) (by lia) H.hf
theorem sq_loop(F:TQ R.C q p)(hq:q≠92)(hq2:q≠10):∀ n:Nat,SLoop R q p n:=by
 intro n
 induction n with
 | zero =>
  intro l pos hd c b fs wt sn hl H hh;cases l with
  | nil=>exact Ends.le (sq_nil F H) (by show _≤0 + fs.length + 30; exact Ybl _ _)
  | cons a l=>exact absurd hl (Nat.not_succ_le_zero _)
 | succ n ih =>
  intro l pos hd c b fs wt sn hl H hh;cases l with
  | nil=>exact Ends.le (sq_nil F H) (by show _≤0 + fs.length + 30; exact Ybl _ _)
  | cons a l =>
   rcases hh a l rfl with e | e | e
   ·subst e; exact Zoy F hq (by rw [if_pos rfl]; cases l <;> simp [sEnd]) H
   ·subst e; exact sq_bsl F hq ih (Ybn hl) H
   ·subst e; exact Zoy F (by decide) (by rw [if_neg hq2.symm]; cases l <;> simp [sEnd,hq2.symm]) H
theorem sq_str(F:TQ R.C q p)(hq:q≠92)(hq2:q≠10)(hA:At R pos (q :: l))(hl:l.length < 1048576)(hw:wt < 100)(hf:(fs.all fun f=>Zbx f.wait)=true) :
  Ends R (30 * l.length + fs.length + 40) (S R (p + 84) pos hd true #[] none fs wt none sn) (some (pos + (1 + sEnd q l))):=by
 refine Ends.le (k:=30 * l.length + fs.length + 33 + 1 + 1 + 1) (Zcs F.l84 hA fun _=>?_) (by lia);have hM:=hA.tl;have hr:R.lim - (pos + 1)=l.length:=hM.room;have hD:=Zer (ordS q) l;refine Zle F.r86 F.k86 (n:=(l.takeWhile (ordS q)).length) (N:=l.length) (ltd ‹_›) hM.le (by rw [hr]; exact Ybf (Yg (Yf hl) (by decide))) (hM.cnt _) (by rw [hr]; exact hD ▸ Yam _ _) fun _=>?_;refine x_rep F.p104 (letd ‹_›) fun _=>?_;rw [Zji,show pos + (1 + ((l.takeWhile (ordS q)).length + sEnd q (l.dropWhile (ordS q))))=pos + 1 + (l.takeWhile (ordS q)).length + sEnd q (l.dropWhile (ordS q)) by lia];refine Ends.le (sq_loop F hq hq2 _ _ _ _ _ _ (_ :: _ :: fs) _ _ (Yaa _) ?_ Zmb) (by simp only [List.length_cons]; lia);exact ⟨hM.dropW _,(fun x z=>nomatch z),by decide,by lia,hf⟩
noncomputable def strL:List Nat→Nat
 | q :: l=>(match l with
  | a :: b :: m=>if a=q∧b=q then 3 + tEnd q m else 1 + sEnd q l
  | _=>1 + sEnd q l)
 | []=>0
theorem Zgh{q:Nat}{m:List Nat}:strL (q :: q :: q :: m)=3 + tEnd q m:=if_pos ⟨rfl,rfl⟩
theorem Zex{q:Nat}(h:∀ m,l≠q :: q :: m):strL (q :: l)=1 + sEnd q l:=by
 match l,h with
 | [],_=>rfl
 | [a],_=>rfl
 | a :: b :: m,h=>exact if_neg fun z=>h m (by rw [z.1,z.2])
theorem Zze{q:Nat}{l:List Nat}(h:∀ m,l≠q :: q :: m):l=[]∨(∃ a m,l=a :: m∧a≠q)∨(∃ m,l=q :: m∧(m=[]∨∃ b m',m=b :: m'∧b≠q)):=by
 match l,h with
 | [],_=>exact .inl rfl
 | [a],_=>by_cases e:a=q; exact .inr (.inr ⟨[],by rw [e],.inl rfl⟩); exact .inr (.inl ⟨a,[],rfl,e⟩)
 | a :: b :: m,h =>
  by_cases e:a=q
  ·by_cases e':b=q
   ·exact absurd (by rw [e,e']) (h m)
   ·exact .inr (.inr ⟨b :: m,by rw [e],.inr ⟨b,m,rfl,e'⟩⟩)
  ·exact .inr (.inl ⟨a,b :: m,rfl,e⟩)
theorem set_34(c:Nat):(decide (c < 256) && (strC.getD (90 + 2 + 1 + (1 + c / 32)) 0).testBit (c % 32))=!ordS 34 c:=by
 by_cases h:c < 256
 ·have:∀ c:Fin 256,(decide (c.val < 256) && (strC.getD (90 + 2 + 1 + (1 + c.val / 32)) 0).testBit (c.val % 32))=!ordS 34 c.val:=by decide +kernel
  exact this ⟨c,h⟩
 ·rw [decide_eq_false h,Bool.false_and];obtain ⟨d,rfl⟩:∃ d,c=d + 256:=⟨c - 256,(Ybi (Ybd.mp h)).symm⟩;rfl
theorem set_39(c:Nat):(decide (c < 256) && (strC.getD (218 + 2 + 1 + (1 + c / 32)) 0).testBit (c % 32))=!ordS 39 c:=by
 by_cases h:c < 256
 ·have:∀ c:Fin 256,(decide (c.val < 256) && (strC.getD (218 + 2 + 1 + (1 + c.val / 32)) 0).testBit (c.val % 32))=!ordS 39 c.val:=by decide +kernel
  exact this ⟨c,h⟩
 ·rw [decide_eq_false h,Bool.false_and];obtain ⟨d,rfl⟩:∃ d,c=d + 256:=⟨c - 256,(Ybi (Ybd.mp h)).symm⟩;rfl
theorem Zpb{a b:Nat}{f:Nat→Bool}(h:∀ c,(decide (c < 256) && (strC.getD (a + 2 + 1 + (1 + c / 32)) 0).testBit (c % 32))=!f c)(e:∀ i:Fin 8,strC.getD (a + 2 + 1 + (1 + i.val)) 0=strC.getD (b + 2 + 1 + (1 + i.val)) 0)(c:Nat) :
  (decide (c < 256) && (strC.getD (b + 2 + 1 + (1 + c / 32)) 0).testBit (c % 32))=!f c:=by
 rw [← h c]
 by_cases hc:c < 256
 ·rw [e ⟨c / 32,by lia⟩]
 ·rw [decide_eq_false hc,Bool.false_and,Bool.false_and]
theorem tq34:TQ strC 34 0:=⟨⟨rfl,by decide,rfl⟩,⟨rfl,by decide,rfl⟩,⟨rfl,by decide,rfl⟩,⟨⟨⟨rfl,by decide⟩,rfl⟩,rfl,rfl⟩,Zdh (n:=265) (a:=34) (b:=92) rfl rfl rfl rfl rfl rfl rfl rfl,⟨⟨⟨rfl,by decide⟩,rfl⟩,rfl,rfl⟩,⟨rfl,by decide⟩,rfl,rfl,rfl,⟨rfl,by decide,rfl⟩,⟨rfl,by decide⟩,⟨⟨rfl,by decide⟩,rfl⟩,⟨rfl,by decide,rfl⟩,⟨⟨rfl,by decide⟩,rfl⟩,rfl,⟨rfl,by decide,rfl⟩,⟨rfl,by decide,rfl⟩,⟨rfl,by decide⟩,⟨⟨rfl,by decide⟩,rfl⟩,⟨⟨⟨rfl,by decide⟩,rfl⟩,rfl,rfl⟩,Zdh (n:=265) (a:=34) (b:=92) rfl rfl rfl rfl rfl rfl rfl rfl,⟨rfl,by decide⟩,⟨⟨⟨rfl,by decide⟩,rfl⟩,rfl,rfl⟩,⟨rfl,by decide,rfl⟩,⟨rfl,by decide,rfl⟩,⟨rfl,by decide,rfl⟩,⟨rfl,by decide⟩,⟨⟨rfl,by decide⟩,rfl⟩,⟨rfl,by decide⟩,⟨rfl,by decide,rfl⟩,⟨⟨⟨rfl,by decide⟩,rfl⟩,rfl,rfl⟩,Zbm (n:=266) (p:=ordS 34) rfl rfl rfl rfl set_34 rfl,⟨⟨⟨rfl,by decide⟩,rfl⟩,rfl,rfl⟩,⟨rfl,by decide,rfl⟩,⟨rfl,by decide⟩,⟨⟨⟨rfl,by decide⟩,rfl⟩,rfl,rfl⟩,Zbm (n:=266) (p:=ordS 34) rfl rfl rfl rfl (Zpb (a:=90) (b:=115) set_34 (by decide)) rfl,⟨rfl,by decide⟩,⟨⟨⟨rfl,by decide⟩,rfl⟩,rfl,rfl⟩,fun c=>Zef rfl rfl,⟨⟨rfl,by decide⟩,rfl⟩⟩
theorem tq39:TQ strC 39 128:=⟨⟨rfl,by decide,rfl⟩,⟨rfl,by decide,rfl⟩,⟨rfl,by decide,rfl⟩,⟨⟨⟨rfl,by decide⟩,rfl⟩,rfl,rfl⟩,Zdh (n:=265) (a:=39) (b:=92) rfl rfl rfl rfl rfl rfl rfl rfl,⟨⟨⟨rfl,by decide⟩,rfl⟩,rfl,rfl⟩,⟨rfl,by decide⟩,rfl,rfl,rfl,⟨rfl,by decide,rfl⟩,⟨rfl,by decide⟩,⟨⟨rfl,by decide⟩,rfl⟩,⟨rfl,by decide,rfl⟩,⟨⟨rfl,by decide⟩,rfl⟩,rfl,⟨rfl,by decide,rfl⟩,⟨rfl,by decide,rfl⟩,⟨rfl,by decide⟩,⟨⟨rfl,by decide⟩,rfl⟩,⟨⟨⟨rfl,by decide⟩,rfl⟩,rfl,rfl⟩,Zdh (n:=265) (a:=39) (b:=92) rfl rfl rfl rfl rfl rfl rfl rfl,⟨rfl,by decide⟩,⟨⟨⟨rfl,by decide⟩,rfl⟩,rfl,rfl⟩,⟨rfl,by decide,rfl⟩,⟨rfl,by decide,rfl⟩,⟨rfl,by decide,rfl⟩,⟨rfl,by decide⟩,⟨⟨rfl,by decide⟩,rfl⟩,⟨rfl,by decide⟩,⟨rfl,by decide,rfl⟩,⟨⟨⟨rfl,by decide⟩,rfl⟩,rfl,rfl⟩,Zbm (n:=266) (p:=ordS 39) rfl rfl rfl rfl set_39 rfl,⟨⟨⟨rfl,by decide⟩,rfl⟩,rfl,rfl⟩,⟨rfl,by decide,rfl⟩,⟨rfl,by decide⟩,⟨⟨⟨rfl,by decide⟩,rfl⟩,rfl,rfl⟩,Zbm (n:=266) (p:=ordS 39) rfl rfl rfl rfl (Zpb (a:=218) (b:=243) set_39 (by decide)) rfl,⟨rfl,by decide⟩,⟨⟨⟨rfl,by decide⟩,rfl⟩,rfl,rfl⟩,fun c=>Zef rfl rfl,⟨⟨rfl,by decide⟩,rfl⟩⟩
theorem q_ends{R:Rx}{q p n d:Nat}{o':Bool}{pos hd wt:Nat}{sn:Seen}{l:List Nat}(F:TQ R.C q p)(hq:q≠92)(hq2:q≠10)(hA:At R pos (q :: l))(hl:l.length < 1048576)(h1:R.C.getD n 0=d)(h2:R.C.getD (n + d) 0=56)(h3:n + d + 1=p + 84)(hn:wt=0) :
  Ends R (30 * l.length + 90) (S R (p + 12) pos hd true #[] none [Fm .nextBranch n pos true 0 o' 0 none] (wt + 1) none sn) (some (pos + strL (q :: l))):=by
 subst hn
 by_cases h:∃ m,l=q :: q :: m
 ·obtain ⟨m,rfl⟩:=h;rw [Zgh];exact Ends.le (tq_str F hq hA (by simp only [List.length_cons] at hl; lia) (Ybl _ _) rfl) (by simp only [List.length_cons,List.length_nil]; lia)
 ·have h':∀ m,l≠q :: q :: m:=fun m e=>h ⟨m,e⟩;rw [Zex h'];have next:∀ {pc' pos' hd' o''} {sn'},Ends R (30 * l.length + 80 + 1) (S R pc' pos' hd' o'' #[] none [Fm .nextBranch n pos true 0 o' 0 none] (0 + 1) (some false) sn') (some (pos + (1 + sEnd q l))):=by
   intro pc' pos' hd' o'' sn';refine Zhz h1 h2 (by decide) fun _=>?_;rw [h3];exact Ends.le (sq_str F hq hq2 hA hl (Ybl _ _) rfl) (by simp only [List.length_cons,List.length_nil]; lia)
  refine Ends.le (k:=30 * l.length + 80 + 1 + 1 + 1 + 1) (Zcs F.l12 hA fun _=>?_) (by lia)
  rcases Zze h' with rfl | ⟨a,m,rfl,ha⟩ | ⟨m,rfl,rfl | ⟨b,m',rfl,hb⟩⟩
  ·exact Ends.le (Zbl F.l14 hA.tl fun _=>next) (Yba _)
  ·exact Ends.le (Zbb F.l14 hA.tl ha fun _=>next) (Yba _)
  ·exact Zcs F.l14 hA.tl fun _=>Zbl F.l16 hA.tl.tl fun _=>next
  ·exact Zcs F.l14 hA.tl fun _=>Zbb F.l16 hA.tl.tl hb fun _=>next
theorem Zyk{T:Array Nat}{lim st pos hd q:Nat}{sn:Seen}{l:List Nat}(hq:q=34∨q=39)(hA:At ⟨strC,T,lim,st⟩ pos (q :: l))(hl:l.length < 1048576) :
  Ends ⟨strC,T,lim,st⟩ (30 * l.length + 100) (S ⟨strC,T,lim,st⟩ 10 pos hd true #[] none [] 0 none sn) (some (pos + strL (q :: l))):=by
 refine Ends.le (k:=30 * l.length + 90 + 4 + 1) (Zpy (pc:=10) rfl (by show 10 < 269; decide) (by decide) (by show 72≠0; decide) fun _=>?_) (by lia);generalize hR:(⟨strC,T,lim,st⟩:Rx)=R at hA ⊢;have hC:R.C=strC:=by rw [← hR]
 rcases hq with rfl | rfl
 ·exact Ends.le (q_ends (p:=0) (n:=11) (d:=72) (hC ▸ tq34) (by decide) (by decide) hA hl (by rw [hC]; rfl) (by rw [hC]; rfl) rfl rfl) (Yam _ _)
 ·have F:=tq34;have F2:=tq39;rw [← hC] at F F2;refine Zbb F.l12 hA (by decide) fun _=>?_;refine Zhz (wt:=0) (d:=72) (a:=55) (by rw [hC]; rfl) (by rw [hC]; rfl) (by decide) fun _=>?_;refine Zbb F.l84 hA (by decide) fun _=>?_;refine Zhz (wt:=0) (d:=56) (a:=71) (by rw [hC]; rfl) (by rw [hC]; rfl) (by decide) fun _=>?_;exact q_ends (p:=128) (n:=139) (d:=72) F2 (by decide) (by decide) hA hl (by rw [hC]; rfl) (by rw [hC]; rfl) rfl rfl
end
end Mine
end
section
open PySem PySem.W PySem.Calls PyProof.Rows
set_option maxRecDepth 8000
namespace Mine
section
variable{prog:Program}{w:World}{M:Model}{A:Around}{E:Value→Shared→Prop}{s:Shared}
theorem Zqb{R:Rx}{r:Option Nat}:∀ (turns n:Nat) (m:Sre.M),n≤4 * turns→1≤turns→Told R (Sre.M.runFor n m) r→∀ {Q:Sre.M→Shared→Prop},(∀ m',Told R m' r→Q m' s)→wpAny M A (Builtin.Re.reDrive turns m) Q E s
 | 0,n,m,_,h1,_,_,_=>by exact absurd ‹_› (Yl _)
 | turns + 1,n,m,hn,_,h,Q,hQ=>by
  unfold Builtin.Re.reDrive;have e4:Builtin.Re.reTurnSteps=4:=rfl;rw [e4];show wpAny M A (if (Sre.M.runFor 4 m).outcome.isSome=true then pure (Sre.M.runFor 4 m) else (do rule "sre.turn"; Builtin.Re.reDrive turns (Sre.M.runFor 4 m))) Q E s
  by_cases hle:n≤4
  ·have e:Sre.M.runFor 4 m=Sre.M.runFor n m:=by
    rw [show 4=n + (4 - n) from (Nat.add_sub_cancel' hle).symm,Zik,Zbd h.done]
   rw [e];exact Yai h.done (wpAny_pure (hQ _ h))
  ·have e:Sre.M.runFor n m=Sre.M.runFor (n - 4) (Sre.M.runFor 4 m):=by rw [← Zik]; congr 1; lia
   by_cases hd:(Sre.M.runFor 4 m).outcome.isSome=true
   ·refine Yai hd (wpAny_pure (hQ _ ?_));rw [e,Zbd hd] at h; exact h
   ·refine Ybb (by simpa using hd) ?_;refine wpAny_bind (wpAny_rule ?_);exact Zqb turns (n - 4) (Sre.M.runFor 4 m) (by lia) (by lia) (e ▸ h) hQ
theorem Zua{R:Rx}{r:Option Nat}{k:Nat}{m:Sre.M}(h:Ends R k m r)(hk:k≤4294967296){Q:Option Sre.M→Shared→Prop}(h0:r=none→Q none s)(h1:∀ e m',r=some e→m'.handed=e→m'.start=R.st→Q (some m') s) :
  wpAny M A (Builtin.Re.reRunToEnd m) Q E s:=by
 obtain ⟨n,hn,ht⟩:=h;unfold Builtin.Re.reRunToEnd;refine wpAny_bind (Zqb (2 ^ 64) n m (by lia) (Ybm _) ht fun m' hm=>?_);refine wpAny_bind (wpAny_forIn_list _ (fun _ _ s'=>s'=s) _ ?_ ?_ _ _ rfl)
 ·rintro i rest b s' rfl
  by_cases hh:m'.seen.has i=true
  ·refine Yai hh (wpAny_bind (wpAny_rule (wpAny_pure rfl)))
  ·exact Ybb (by simpa using hh) (wpAny_pure rfl)
 ·rintro b s' rfl;cases r with
  | none =>
   have e:m'.outcome=some .failed:=hm;rw [e];exact wpAny_pure (h0 rfl)
  | some e =>
   obtain ⟨a,b,c⟩:=hm;rw [a];exact wpAny_pure (h1 e m' rfl b c)
end
end Mine
namespace Mine
inductive RK where
 | chew | junk | str
noncomputable def RK.code:RK→Array Nat
 | .chew=>chewC
 | .junk=>Zq
 | .str=>strC
inductive rexAns:RK→List V→(V→Prop)→Prop
 | chew {x:List Nat} {p q:Int} {Q:V→Prop} (a b:Nat) (hp:p=a) (hq:q=b) (h1:a≤b) (h2:b≤x.length) (h3:x.length < 1048576) (h:Q (match Zfb a ((x.take b).drop a) with | none=>.none | some e=>.mat e)):rexAns .chew [.str x,.int p,.int q] Q
 | str {x:List Nat} {p q:Int} {Q:V→Prop} (a b c:Nat) (l:List Nat) (hp:p=a) (hq:q=b) (h1:a≤b) (h2:b≤x.length) (h3:x.length < 1048576) (h4:(x.take b).drop a=c :: l) (h5:c=34∨c=39) (h:Q (.mat (a + strL (c :: l)))):rexAns .str [.str x,.int p,.int q] Q
 | junk {x:List Nat} {p:Int} {Q:V→Prop} (a:Nat) (hp:p=a) (h1:a≤x.length) (h2:x.length < 1048576) (h3:10∈x.drop a) (h:∀ e,Q (if Zrk (x.drop a) then .mat e else .none)):rexAns .junk [.str x,.int p] Q
theorem At.make{C:Array Nat}{x:List Nat}{a b st:Nat}(h1:a≤b)(h2:b≤x.length):At ⟨C,x.toArray,b,st⟩ a ((x.take b).drop a):=by
 refine ⟨by rw [List.length_drop,List.length_take,Nat.min_eq_left h2]; exact Ybo h1,fun i hi=>?_⟩;rw [List.length_drop,List.length_take] at hi;show x.toArray.getD (a + i) 0=_;simp only [Array.getD_eq_getD_getElem?,List.getElem?_toArray,List.getD_eq_getElem?_getD,List.getElem?_drop];rw [List.getElem?_take_of_lt (Nat.add_lt_of_lt_sub' (Nat.lt_of_lt_of_le hi (Nat.sub_le_sub_right (Nat.min_le_left _ _) _)))]
theorem At.len{C:Array Nat}{x l:List Nat}{a b st:Nat}(h:At ⟨C,x.toArray,b,st⟩ a l)(hb:b≤x.length)(hx:x.length < 1048576):l.length < 1048576:=Yh (Yg (Ybl _ _) (Yg (Ybg h.1) hb)) hx
noncomputable def Zrd:Sre.Seen:=({}:Sre.Seen).add 14
theorem Zqx{T:Array Nat}{pos lim:Nat}:Sre.forMatch chewC T 0 pos lim false false=if (decide (pos≤lim) && decide (lim - pos < 1))=true then S ⟨chewC,T,lim,pos⟩ 5 pos pos true #[] none [] 0 (some false) Zrd else S ⟨chewC,T,lim,pos⟩ 5 pos pos true #[] none [] 0 none Zrd:=rfl
theorem Zqw{T:Array Nat}{pos lim:Nat}:Sre.forMatch Zq T 0 pos lim false false=if (decide (pos≤lim) && decide (lim - pos < 1))=true then S ⟨Zq,T,lim,pos⟩ 5 pos pos true #[] none [] 0 (some false) Zrd else S ⟨Zq,T,lim,pos⟩ 5 pos pos true #[] none [] 0 none Zrd:=rfl
theorem Ztk{T:Array Nat}{pos lim:Nat}:Sre.forMatch strC T 0 pos lim false false=if (decide (pos≤lim) && decide (lim - pos < 1))=true then S ⟨strC,T,lim,pos⟩ 10 pos pos true #[] none [] 0 (some false) Zrd else S ⟨strC,T,lim,pos⟩ 10 pos pos true #[] none [] 0 none Zrd:=rfl
theorem Zrr{T:Array Nat}{pos lim:Nat}{l:List Nat}(h:At ⟨chewC,T,lim,pos⟩ pos l)(hl:l.length < 1048576):Ends ⟨chewC,T,lim,pos⟩ 4 (Sre.forMatch chewC T 0 pos lim false false) (Zfb pos l):=by
 rw [Zqx];have hr:lim - pos=l.length:=h.room;cases l with
 | nil =>
  rw [if_pos (by rw [Bool.and_eq_true,decide_eq_true_iff,decide_eq_true_iff]; exact ⟨h.le,by rw [hr]; decide⟩)];exact Ends.le Zwg (by decide)
 | cons c l =>
  rw [if_neg (by rw [Bool.and_eq_true,decide_eq_true_iff,decide_eq_true_iff]; simp only [List.length_cons] at hr; lia)];exact Zws h hl
theorem Zrj{T:Array Nat}{pos lim:Nat}{l:List Nat}(h:At ⟨Zq,T,lim,pos⟩ pos l)(hl:l.length < 1048576)(h10:10∈l):∃ e,Ends ⟨Zq,T,lim,pos⟩ (9 * l.length + 20) (Sre.forMatch Zq T 0 pos lim false false) (if Zrk l then some e else none):=by
 rw [Zqw];have hr:lim - pos=l.length:=h.room;cases l with
 | nil=>cases h10
 | cons c l =>
  rw [if_neg (by rw [Bool.and_eq_true,decide_eq_true_iff,decide_eq_true_iff]; simp only [List.length_cons] at hr; lia)];exact Zuy h hl h10
theorem Zti{T:Array Nat}{pos lim c:Nat}{l:List Nat}(h:At ⟨strC,T,lim,pos⟩ pos (c :: l))(hl:l.length < 1048576)(hc:c=34∨c=39):Ends ⟨strC,T,lim,pos⟩ (30 * l.length + 100) (Sre.forMatch strC T 0 pos lim false false) (some (pos + strL (c :: l))):=by
 rw [Ztk];have hr:lim - pos=l.length + 1:=h.room;rw [if_neg (by rw [Bool.and_eq_true,decide_eq_true_iff,decide_eq_true_iff]; lia)];exact Zyk hc h hl
noncomputable def patO(a b d e:Value)(ct:Addr):Obj:={ cls:=.type "re.Pattern",data:=.fields #[a,b,rawInt 0,d,e,.ref ct,rawInt 0] }
section
variable{prog:Program}{w:World}{M:Model}{A:Around}{E:Value→Shared→Prop}{s:Shared}
theorem Znl{pat str:Value}{p l:Nat}{m:Sre.M}{Q:Value→Shared→Prop}
  (h:∀ T u h',T=s.heap.objs.size→u=T + 1→h'=(s.heap.push (tupO [rawInt m.start,rawInt m.handed] 0)).push (matO str pat (rawInt p) (rawInt l) (rawInt m.lastindex) T)→Q (.ref u) { s with heap:=h' }) :
  wpAny (model prog w) A (Builtin.Re.reNewMatch pat str 0 p l m) Q E s:=by
 unfold Builtin.Re.reNewMatch;refine Ybb rfl ?_;refine wpAny_bind (wpAny_newTuple ?_ (by show 2≤sizeLine; rw [← sizeTop_eq]; decide));unfold newFields
 repeat (any_goals (first | assumption | wp_step))
 exact h _ _ _ rfl (by rw [Heap.size_push]) rfl
theorem Zxn{t:Builtin.Re.ReTarget}{R:Rx}{k:Nat}{r:Option Nat}{m:Sre.M}(hg:t.groups=0)(h:Ends R k m r)(hk:k≤4294967296){P:Fin→Shared→Prop}
  (h0:r=none→P (.done (.ret .none)) s) (h1:∀ e,r=some e→∀ (c d z:Value),P (.done (.ret (.ref (s.heap.objs.size + 1)))) { s with heap:=(s.heap.push (tupO [rawInt R.st,rawInt e] 0)).push (matO t.string t.pattern c d z s.heap.objs.size) }) :
  wpAny (model prog w) A (Builtin.Re.reAnswer t m) P E s:=by
 unfold Builtin.Re.reAnswer;refine wpAny_bind (Zua h hk (fun e=>?_) fun e m' he hm hs=>?_)
 ·exact wpAny_pure (h0 e)
 ·refine wpAny_bind ?_;rw [hg];refine Znl fun T u h' hT hu hh=>?_;subst hT hu hh;refine wpAny_pure ?_;rw [hm,hs];exact h1 e he _ _ _
end
end Mine
namespace Mine
section
variable{prog:Program}{w:World}{A:Around}{E:Value→Shared→Prop}{s:Shared}
theorem Zge{pa ct:Addr}{a b d e:Value}{items:Array Value}{n:Nat}{C:Array Nat}{x:List Nat}{t:Tok}{z y:Int}{i j:Nat}
  (ho:s.heap.get? pa=some (patO a b d e ct)) (hc:∃ o,s.heap.get? ct=some o∧o.data=.seq items n) (hC:(items.map Builtin.Re.reRawOf).map (·.toNat)=C)
  (hi:min z.toNat x.length=i) (hj:min y.toNat x.length=j) {Q:Builtin.Re.ReTarget→Shared→Prop} (h:Q ⟨.ref pa,.str ⟨x.toArray⟩ t,C,x.toArray,0,0,i,j⟩ s) :
  wpAny (model prog w) A (do
   let fs ← fieldsOf (.ref pa)
   let (text,kind) ← Builtin.Re.reTextOf (.str ⟨x.toArray⟩ t)
   let want:=Builtin.Re.reRawNat (fs.getD 6 .none)
   if want == 0 && kind == 1 then raiseError "TypeError" "cannot use a string pattern on a bytes-like object"
   if want == 1 && kind == 0 then raiseError "TypeError" "cannot use a bytes pattern on a string-like object"
   Builtin.Re.reNoCollectionInside (.str ⟨x.toArray⟩ t) kind
   let clip (i:Int):Nat:=min i.toNat text.size
   pure { pattern:=.ref pa,string:=.str ⟨x.toArray⟩ t,code:=(← Builtin.Re.reRawItems (fs.getD 5 .none)).map (·.toNat),text,kind,groups:=Builtin.Re.reRawNat (fs.getD 2 .none),pos:=clip z,lim:=clip y }) Q E s:=by
 obtain ⟨o,hco,hcd⟩:=hc;refine wpAny_bind (wpAny_fieldsOf ho rfl ?_);refine wpAny_bind (m:=Builtin.Re.reTextOf _) ?_;unfold Builtin.Re.reTextOf;refine wpAny_bind (wpAny_pure (wpAny_pure ?_));dsimp only;refine Ybb rfl ?_;refine Ybb rfl ?_;refine wpAny_bind (m:=Builtin.Re.reNoCollectionInside _ _) ?_;unfold Builtin.Re.reNoCollectionInside;refine Ybb rfl (wpAny_pure ?_);refine wpAny_bind (m:=Builtin.Re.reRawItems _) ?_;unfold Builtin.Re.reRawItems;refine wpAny_bind (wpAny_seqItems hco hcd (wpAny_pure (wpAny_pure ?_)));have e2:x.toArray.size=x.length:=by simp
 rw [e2,hi,hj];have e3:Array.map (fun x=>x.toNat) (Array.map Builtin.Re.reRawOf ((some items).getD #[]))=C:=hC;rw [e3];exact h
theorem Zje{i:Int}{t:Tok}{Q:Int→Shared→Prop}(hi:0≤i∧i < 4611686018427387904)(h:Q i s):wpAny (model prog w) A (Builtin.Re.reSsize (.int i t)) Q E s:=by
 unfold Builtin.Re.reSsize;refine wpAny_bind (wpAny_of_eq (a:=i) (by rfl) ?_);refine Ybb ?_ (wpAny_pure h);rw [Bool.or_eq_false_iff]; exact ⟨decide_eq_false (by lia),decide_eq_false (by lia)⟩
theorem named2(x y:Value):Builtin.Re.reNamed "re.Pattern.match" "match" ["string","pos","endpos"] 1 [x,y] []=pure [some x,some y,none]:=by rfl
theorem named3(x y z:Value):Builtin.Re.reNamed "re.Pattern.match" "match" ["string","pos","endpos"] 1 [x,y,z] []=pure [some x,some y,some z]:=by rfl
theorem Zqp{pa ct:Addr}{a b d e:Value}{items:Array Value}{n:Nat}{C:Array Nat}{x:List Nat}{t u:Tok}{i:Nat}
  (ho:s.heap.get? pa=some (patO a b d e ct)) (hc:∃ o,s.heap.get? ct=some o∧o.data=.seq items n) (hC:(items.map Builtin.Re.reRawOf).map (·.toNat)=C)
  (hi:i≤x.length) (hx:x.length < 1048576) {Q:Builtin.Re.ReTarget→Shared→Prop} (h:Q ⟨.ref pa,.str ⟨x.toArray⟩ t,C,x.toArray,0,0,i,x.length⟩ s) :
  wpAny (model prog w) A (Builtin.Re.reTarget "re.Pattern.match" "match" ⟨[.ref pa,.str ⟨x.toArray⟩ t,.int i u],[]⟩) Q E s:=by
 unfold Builtin.Re.reTarget;refine wpAny_bind (wpAny_of_eq (named2 _ _) ?_);dsimp only;refine wpAny_bind (Zje (by lia) ?_);refine wpAny_bind (wpAny_pure ?_);exact Zge ho hc hC (by lia) (by lia) h
theorem Zie{pa ct:Addr}{a b d e:Value}{items:Array Value}{n:Nat}{C:Array Nat}{x:List Nat}{t u v:Tok}{i j:Nat}
  (ho:s.heap.get? pa=some (patO a b d e ct)) (hc:∃ o,s.heap.get? ct=some o∧o.data=.seq items n) (hC:(items.map Builtin.Re.reRawOf).map (·.toNat)=C)
  (hi:i≤x.length) (hj:j≤x.length) (hx:x.length < 1048576) {Q:Builtin.Re.ReTarget→Shared→Prop} (h:Q ⟨.ref pa,.str ⟨x.toArray⟩ t,C,x.toArray,0,0,i,j⟩ s) :
  wpAny (model prog w) A (Builtin.Re.reTarget "re.Pattern.match" "match" ⟨[.ref pa,.str ⟨x.toArray⟩ t,.int i u,.int j v],[]⟩) Q E s:=by
 unfold Builtin.Re.reTarget;refine wpAny_bind (wpAny_of_eq (named3 _ _ _) ?_);dsimp only;refine wpAny_bind (Zje (by lia) ?_);refine wpAny_bind (Zje (by lia) ?_);exact Zge ho hc hC (by lia) (by lia) h
structure PatAt(hb:Heap)(u:Addr)(k:RK):Prop where
 at':∃ pa ct a b d e items n o,hb.get? u=some (bmo "re.Pattern.match" (.ref pa))∧hb.get? pa=some (patO a b d e ct)∧hb.get? ct=some o∧o.data=.seq items n∧(items.map Builtin.Re.reRawOf).map (·.toNat)=k.code
theorem Zdw:entryFor table "re.Pattern.match"=some Builtin.«re.Pattern.match»:=entryFor_of_tree (by kernel_rfl)
theorem Znp(x y z:Value):(match Manifest.signature? "re.Pattern.match" with | none=>pure () | some sig=>Bind.checkArgs "re.Pattern.match" { sig with full:=s!"{Bind.lastOf "re.Pattern"}.{Bind.lastOf "re.Pattern.match"}" } ⟨[x,y,z],[]⟩)=(pure ():Sem Unit):=by kernel_rfl
theorem Zgo(x y z v:Value):(match Manifest.signature? "re.Pattern.match" with | none=>pure () | some sig=>Bind.checkArgs "re.Pattern.match" { sig with full:=s!"{Bind.lastOf "re.Pattern"}.{Bind.lastOf "re.Pattern.match"}" } ⟨[x,y,z,v],[]⟩)=(pure ():Sem Unit):=by kernel_rfl
theorem Zrh:builtinKind "re.Pattern.match"=some .method:=by decide +kernel
theorem Zut:Manifest.varargsMethods.contains "re.Pattern.match"=false:=by decide +kernel
theorem Zdx{pa ct:Addr}{a b d e:Value}{xs:List Value}{Q:Unit→Shared→Prop}(ho:s.heap.get? pa=some (patO a b d e ct))(h:Q () s)
  (hs:(match Manifest.signature? "re.Pattern.match" with | none=>pure () | some sig=>Bind.checkArgs "re.Pattern.match" { sig with full:=s!"{Bind.lastOf "re.Pattern"}.{Bind.lastOf "re.Pattern.match"}" } ⟨.ref pa :: xs,[]⟩)=(pure ():Sem Unit)) :
  wpAny (model prog w) A (checkBoundCall "re.Pattern.match" ⟨.ref pa :: xs,[]⟩) Q E s:=by
 have hT:s.TypeIs (.ref pa) "re.Pattern":=⟨_,ho,rfl⟩;unfold checkBoundCall;cases hsig:Manifest.signature? "re.Pattern.match" with
 | none=>exact wpAny_pure h
 | some sig =>
  rw [hsig] at hs;rw [Zrh];dsimp only at hs ⊢;have f1:isSubtype (.type "re.Pattern") (.type "module")=pure false:=by rw [isSubtype_type]; kernel_rfl
  have f2:isSubtype (.type "re.Pattern") (.type "type")=pure false:=by rw [isSubtype_type]; kernel_rfl
  refine Ybb rfl ?_;refine wpAny_bind (wpAny_isInstance hT f1 ?_);refine Ybb (by rw [Zut]; rfl) ?_;refine wpAny_bind (m:=isType (.ref pa)) (wpAny_bind (wpAny_loadPart' ho (wpAny_pure ?_)));refine Ybb rfl ?_;refine wpAny_bind (wpAny_typeOf hT ?_);dsimp only;rw [hs];exact wpAny_pure h
end
end Mine
end
section
set_option tactic.hygienic true
open PySem PySem.W PySem.Calls PyProof.Rows
set_option maxRecDepth 8000
namespace Mine
noncomputable def pRex(k:RK)(Ps:PL):PE:=fun Q=>Ps fun vs st=>rexAns k vs (fun r=>Q r st)
section
variable{prog:Program}{w:World}{B:Base}{f:Fx}{A:Around}{E:Value→Shared→Prop}{ω:Wd}{st:St}{s:Shared}
theorem Zrg(R:Rel B f ω st s){st0 e:Nat}{x y c d z:Value}:PostO B f ω st (.mat e) (.ref (s.heap.objs.size + 1)) { s with heap:=(s.heap.push (tupO [rawInt st0,rawInt e] 0)).push (matO x y c d z s.heap.objs.size) }:=by
 obtain ⟨l1,R1⟩:=R.push (o:=tupO [rawInt st0,rawInt e] 0) (k:=s.toks) rfl;obtain ⟨l2,R2⟩:=R1.push (o:=matO x y c d z s.heap.objs.size) (k:=s.toks) rfl;refine ⟨_,l1.trans l2,?_,R2⟩;have hsz:(s.heap.push (tupO [rawInt st0,rawInt e] 0)).objs.size=s.heap.objs.size + 1:=by rw [Heap.size_push]
 have e1:=l2.F _ _ (Wd.add_self (ω:=ω) (a:=s.heap.objs.size) (o:=tupO [rawInt st0,rawInt e] 0));refine .mat (u:=s.heap.objs.size + 1) (T:=s.heap.objs.size) (a:=x) (b:=y) (c:=c) (d:=d) (z:=z) (g:=rawInt st0) (n:=0) ?_ e1;rw [← hsz];exact Wd.add_self
theorem VRs.cons_inv{v:V}{vs:List V}{xs:List Value}(h:VRs ω (v :: vs) xs):∃ x r,xs=x :: r∧VR ω v x∧VRs ω vs r:=by cases h with | cons a b=>exact ⟨_,_,rfl,a,b⟩
theorem VRs.nil_inv{xs:List Value}(h:VRs ω [] xs):xs=[]:=by cases h; rfl
theorem vrs_si{x:List Nat}{i:Int}{xs:List Value}(h:VRs ω [.str x,.int i] xs):∃ t u,xs=[.str ⟨x.toArray⟩ t,.int i u]:=by
 obtain ⟨_,_,rfl,a,h⟩:=h.cons_inv;obtain ⟨_,_,rfl,b,h⟩:=h.cons_inv;rw [h.nil_inv];obtain ⟨t,rfl⟩:=a.str_inv;obtain ⟨u,rfl⟩:=b.int_inv;exact ⟨t,u,rfl⟩
theorem Zst{x:List Nat}{i j:Int}{xs:List Value}(h:VRs ω [.str x,.int i,.int j] xs):∃ t u v,xs=[.str ⟨x.toArray⟩ t,.int i u,.int j v]:=by
 obtain ⟨_,_,rfl,a,h⟩:=h.cons_inv;obtain ⟨_,_,rfl,b,h⟩:=h.cons_inv;obtain ⟨_,_,rfl,c,h⟩:=h.cons_inv;rw [h.nil_inv];obtain ⟨t,rfl⟩:=a.str_inv;obtain ⟨u,rfl⟩:=b.int_inv;obtain ⟨v,rfl⟩:=c.int_inv;exact ⟨t,u,v,rfl⟩
theorem Zyu(R:Rel B f ω st s){u:Addr}{k:RK}(P:PatAt B.hb u k){vs:List V}{xs:List Value}(hv:VRs ω vs xs){Q:V→St→Prop}(h:rexAns k vs (fun r=>Q r st)):wpAny (model prog w) A (call (.ref u) xs []) (Post B f ω Q) E s:=by
 obtain ⟨pa,ct,a,b,d,e,items,n,o,hu,hp,hc,hcd,hC⟩:=P.at';have hu':=R.hk _ _ hu;have hp':=R.hk _ _ hp;have hc':∃ o,s.heap.get? ct=some o∧o.data=.seq items n:=⟨o,R.hk _ _ hc,hcd⟩;have fin:∀ {r:Option Nat} {R0:Rx} {K:Nat} {m:Sre.M} {t:Builtin.Re.ReTarget} {A'},t.groups=0→Ends R0 K m r→K≤4294967296→(∀ v,(v=match r with | none=>V.none | some e=>V.mat e)→Q v st) →
   wpAny (model prog w) A' (Builtin.Re.reAnswer t m) (fun fin s'=>∃ v,fin=.done (.ret v)∧Post B f ω Q v s') E s:=by
  intro r R0 K m t A' hg he hk hq;refine Zxn hg he hk (fun e=>?_) fun e he' c d z=>?_
  ·subst e; exact ⟨_,rfl,.none,st,ω,.refl ω,.none,R,hq _ rfl⟩
  ·subst he';obtain ⟨ω',l,hv,R'⟩:=Zrg R (st0:=R0.st) (e:=e) (x:=t.string) (y:=t.pattern) (c:=c) (d:=d) (z:=z);exact ⟨_,rfl,.mat e,st,ω',l,hv,R',hq _ rfl⟩
 cases h with
 | chew i j e1 e2 h1 h2 h3 hQ =>
  subst e1 e2
  rename_i x
  obtain ⟨t1,t2,t3,rfl⟩:=Zst hv
  ·skip
   refine Zgb (id:="re.Pattern.match") hu' (fun as=>Yaj _ (by decide +kernel)) Zdw (fun Q' E' A' z=>Zdx hp' z (Zgo _ _ _ _)) fun A'=>?_;unfold Builtin.«re.Pattern.match»;refine wpAny_bind (Zie hp' hc' hC (Yg ‹_› ‹_›) h2 h3 ?_);have hA:=At.make (C:=chewC) (x:=x) (st:=i) h1 h2;exact fin rfl (Zrr hA (hA.len h2 h3)) (Ybl _ _) fun v hv'=>by subst hv'; exact hQ
 | str i j c l e1 e2 h1 h2 h3 h4 h5 hQ =>
  subst e1 e2
  rename_i x
  obtain ⟨t1,t2,t3,rfl⟩:=Zst hv
  ·skip
   refine Zgb (id:="re.Pattern.match") hu' (fun as=>Yaj _ (by decide +kernel)) Zdw (fun Q' E' A' z=>Zdx hp' z (Zgo _ _ _ _)) fun A'=>?_;unfold Builtin.«re.Pattern.match»;refine wpAny_bind (Zie hp' hc' hC (Yg ‹_› ‹_›) h2 h3 ?_);have hA:=At.make (C:=strC) (x:=x) (st:=i) h1 h2;rw [h4] at hA;have hL:=hA.len h2 h3;simp only [List.length_cons] at hL;exact fin rfl (Zti hA (Yf ‹_›) h5) (by lia) fun v hv'=>by subst hv'; exact hQ
 | junk i e1 h1 h2 h3 hQ =>
  subst e1
  rename_i x
  obtain ⟨t1,t2,rfl⟩:=vrs_si hv
  ·skip
   refine Zgb (id:="re.Pattern.match") hu' (fun as=>Yaj _ (by decide +kernel)) Zdw (fun Q' E' A' z=>Zdx hp' z (Znp _ _ _)) fun A'=>?_;unfold Builtin.«re.Pattern.match»;refine wpAny_bind (Zqp hp' hc' hC h1 h2 ?_);have hA:=At.make (C:=Zq) (x:=x) (a:=i) (st:=i) h1 (Yaa _);rw [List.take_length] at hA;have hL:=hA.len (Yaa _) h2;obtain ⟨e,he⟩:=Zrj hA hL h3;refine fin rfl he (by lia) fun v hv'=>?_;subst hv';have:=hQ e;cases q:Zrk (x.drop i) <;> rw [q] at this <;> exact this
theorem ev_rex(O:TopOk w B){x:Str}{u:Addr}{k:RK}(P:PatAt B.hb u k){p pos:Pos}{es:List Expr}{Ps:PL}(G:GlobAt B x (.ref u))(hk:f.scope.kind=.function)(hx:f.scope.names.lookup x=some .globalImplicit)(hd:(x == ("__debug__":Str))=false)
  (hp:es.all Zf=true) (h:EL prog w B f A (spliced (backTo pos (starEach es f.env))) Ps):EV prog w B f A (eval (.Call (.Name x p) es [] pos) f.env) (pRex k Ps):=by
 intro E ω st s Q R hq;refine Call_ (Zat O R G hk hx hd ?_);obtain ⟨pa,ct,a,b,d,e,items,n,o,hu,_⟩:=P.at';refine Zfp (id:="re.Pattern.match") (self:=.ref pa) (Zek hp pos f.env) (Zfc hp h R hq (fun a s₁ vs st₁ ω₁ l₁ va R₁ q=>?_));refine ⟨R₁.hk _ _ hu,?_⟩;exact up (Zyu R₁ P va q) fun _ _ z=>z.le l₁
end
end Mine
end
section
open PySem PySem.W PySem.Calls PyProof.Rows
namespace Mine
noncomputable def pMM(mx:Bool)(P₁ P₂:PE):PE:=fun Q=>P₁ fun a=>P₂ fun b st=>∃ i j,a=.int i∧b=.int j∧Q (.int (if mx then max i j else min i j)) st
noncomputable def Zop(l:Bool)(x y:List Nat):List Nat:=(if l then Txt.stripChars (txt x) (txt y) else Txt.rstripChars (txt x) (txt y)).cps.toList
noncomputable def Zuk(l:Bool)(P:PE)(y:List Nat):PE:=fun Q=>P fun v st=>∃ x,v=.str x∧x.length≤Zc∧Q (.str (Zop l x y)) st
section
variable{prog:Program}{w:World}{B:Base}{f:Fx}{A:Around}{E:Value→Shared→Prop}{ω:Wd}{st:St}{s:Shared}
theorem ev_max(O:TopOk w B)(hh:A.handled=none){e₁ e₂:Expr}{p pos:Pos}{P₁ P₂:PE}(G:GlobAt B "max" (.builtin "max"))(hk:f.scope.kind=.function)(hx:f.scope.names.lookup ("max":Str)=some .globalImplicit)(h₁:EV prog w B f A (eval e₁ f.env) P₁)(h₂:EV prog w B f A (eval e₂ f.env) P₂)(he₁:Zf e₁=true)(he₂:Zf e₂=true) :
  EV prog w B f A (eval (.Call (.Name "max" p) [e₁,e₂] [] pos) f.env) (pMM true P₁ P₂):=by
 intro E ω st s Q R hq;refine Call_Name2 (Zat O R G hk hx (by decide) ?_) (by rw [Zp he₁,Zp he₂]; rfl);refine callWith_builtin rfl (evalArgs_plain (spliced_cons (h₁.to R hq (fun x s₁ a st₁ ω₁ l₁ va R₁ q₁=>?_))));refine spliced_cons (h₂.to R₁ q₁ (fun y s₂ c st₂ ω₂ l₂ vb R₂ q0=>spliced_nil ?_));obtain ⟨i,j,ea,eb,q⟩:=q0;subst ea eb;obtain ⟨t1,rfl⟩:=va.int_inv;obtain ⟨t2,rfl⟩:=vb.int_inv;refine wpAny_with_toks (n:=s₂.toks) (Yaa _) (max_two_ints hh fun h' tk hk' htk=>?_);have R₃:=R₂.keeps (h':=h') (k:=tk) hk' htk;refine ⟨_,st₂,ω₂,l₁.trans l₂,?_,R₃,q⟩;show VR ω₂ (.int (max i j)) _
 by_cases hij:j > i
 ·rw [if_pos hij,show max i j=j by lia]; exact .int _ _
 ·rw [if_neg hij,show max i j=i by lia]; exact .int _ _
noncomputable def Zll:Bool→Str
 | true=>"strip"
 | false=>"rstrip"
theorem Zzu{l:Bool}{o:Expr}{apos pos p1:Pos}{y:Str}{k1:Nat}{env:Env}{P:PE}(ho:EV prog w B f A (eval o env) P)(hb:Zs o=true)(hline:(apos.endLine == pos.line)=true) :
  EV prog w B f A (eval (.Call (.Attribute o (Zll l) apos) [.Constant (.str y) k1 p1] [] pos) env) (Zuk l P y.cps.toList):=by
 intro E ω st s Q R hq;have ey:txt y.cps.toList=y:=by unfold txt; simp
 have key:∀ (x:List Nat) (z:Str),z=(if l then Txt.stripChars (txt x) y else Txt.rstripChars (txt x) y)→(⟨(Zop l x y.cps.toList).toArray⟩:Str)=z:=by
  intro x z hz;unfold Zop;rw [ey,hz,Array.toArray_toList]
 refine wpAny_Call_method_lateS (Zab hb _ _) rfl hline (ho.to R hq (fun ov s₁ v st₁ ω₁ l₁ va R₁ q0=>?_));obtain ⟨x,hv,hx,q⟩:=q0;subst hv;obtain ⟨t,rfl⟩:=va.str_inv;have hsz:(⟨x.toArray⟩:Str).length≤sizeLine:=by rw [Zo,← sizeTop_eq]; exact hx
 cases l with
 | true =>
  refine ⟨"str","str.strip",Yay,Ybp,Ybq,typeIs_str _ _ _,(fun _ e=>nomatch e),?_⟩;refine callWith_builtin rfl (evalArgs_plain (spliced_cons (wpAny_Constant_str (k:=k1) (pos:=p1) (spliced_nil ?_))));refine wpAny_with_toks (n:=s₁.toks) (by show s₁.toks≤s₁.toks + 1; exact Yba _) (SC.stripChars (fun t' k hk=>?_) hsz);rw [← key x (Txt.stripChars ⟨x.toArray⟩ y) rfl];exact ⟨_,st₁,ω₁,l₁,.str _ _,R₁.toks,q⟩
 | false =>
  refine ⟨"str","str.rstrip",Yay,PySem.F.slot_str_rstrip,PySem.F.type_str_rstrip,typeIs_str _ _ _,(fun _ e=>nomatch e),?_⟩;refine callWith_builtin rfl (evalArgs_plain (spliced_cons (wpAny_Constant_str (k:=k1) (pos:=p1) (spliced_nil ?_))));refine wpAny_with_toks (n:=s₁.toks) (by show s₁.toks≤s₁.toks + 1; exact Yba _) (SC.rstripChars (fun t' k hk=>?_) hsz);rw [← key x (Txt.rstripChars ⟨x.toArray⟩ y) rfl];exact ⟨_,st₁,ω₁,l₁,.str _ _,R₁.toks,q⟩
noncomputable def pBo(o:Bool)(P P':PE):PE:=fun Q=>P fun v st=>∃ t,Zmy st.cells v=some t∧(t=o→Q v st)∧(t=!o→P' Q st)
noncomputable def boOf:Bool→BoolOp
 | true=>.Or
 | false=>.And
theorem ev_bo1{op:BoolOp}{x:Expr}{pos:Pos}{env:Env}{P:PE}(h:EV prog w B f A (eval x env) P):EV prog w B f A (eval (.BoolOp op [x] pos) env) P:=h
theorem ev_bo{o:Bool}{x y:Expr}{xs:List Expr}{pos:Pos}{env:Env}{P P':PE}(h:EV prog w B f A (eval x env) P)(h':EV prog w B f A (eval (.BoolOp (boOf o) (y :: xs) pos) env) P'):EV prog w B f A (eval (.BoolOp (boOf o) (x :: y :: xs) pos) env) (pBo o P P'):=by
 intro E ω st s Q R hq;show wpAny _ A (do let v ← eval x env; standAt pos; let t ← holding [v] (truthy v); match boOf o,t with | .And,false | .Or,true=>pure v | _,_=>boolOp pos (boOf o) (evalEach (y :: xs) env)) _ _ s;refine wpAny_bind (h.to R hq fun xv s₁ v st₁ ω₁ l₁ va R₁ q0=>?_);obtain ⟨t,e,q1,q2⟩:=q0;refine wpAny_bind (wpAny_standAt (wpAny_bind (wpAny_holding (up (Zee (Q:=fun b st=>b=t∧st=st₁) R₁ va e ⟨rfl,rfl⟩) fun b s₂ z=>?_))));obtain ⟨st₂,ω₂,l₂,R₂,rfl,rfl⟩:=z;have go:b=!o→wpAny (model prog w) A (boolOp pos (boOf o) (evalEach (y :: xs) env)) (Post B f ω Q) E s₂:=fun e=>up (h' E ω₂ st₂ s₂ Q R₂ (q2 e)) fun _ _ z=>z.le (l₁.trans l₂);have no:b=o→wpAny (model prog w) A (pure xv) (Post B f ω Q) E s₂:=fun e=>wpAny_pure ⟨v,st₂,ω₂,l₁.trans l₂,va.mono l₂,R₂,q1 e⟩;cases o <;> cases b
 ·exact no rfl
 ·exact go rfl
 ·exact go rfl
 ·exact no rfl
end
noncomputable def pMax(P:PE):PE:=fun Q=>P fun v st=>∃ (ns:List Int) (m:Int),v=.lst (ns.map .int)∧m∈ns∧(∀ x∈ns,x≤m)∧Q (.int m) st
theorem Zxj(val:Nat→Int):∀ k,argBest (fun i j=>decide (val i > val j)) k≤k∧∀ i,i≤k→val i≤val (argBest (fun i j=>decide (val i > val j)) k)
 | 0=>⟨Yaa _,fun i hi=>by rw [Nat.le_zero.mp hi]; exact Int.le_refl _⟩
 | k + 1=>by
  obtain ⟨h1,h2⟩:=Zxj val k;unfold argBest
  by_cases h:val (k + 1) > val (argBest (fun i j=>decide (val i > val j)) k)
  ·rw [if_pos (by simpa using h)];refine ⟨Yaa _,fun i hi=>?_⟩
   by_cases e:i=k + 1
   ·rw [e]; exact Int.le_refl _
   ·have:=h2 i (by lia); lia
  ·rw [if_neg (by simpa using h)];refine ⟨by exact Yby ‹_›,fun i hi=>?_⟩
   by_cases e:i=k + 1
   ·rw [e]; lia
   ·exact h2 i (by lia)
section
variable{prog:Program}{w:World}{B:Base}{f:Fx}{A:Around}{E:Value→Shared→Prop}{ω:Wd}{st:St}{s:Shared}
theorem Zvf:∀ {ns:List Int} {ws:List Value},VRs ω (ns.map .int) ws→∃ l:List (Int × Tok),ws=l.map (fun p=>.int p.1 p.2)∧l.map (·.1)=ns
 | [],ws,h=>by cases h; exact ⟨[],rfl,rfl⟩
 | n :: ns,ws,h=>by
  cases h with
  | cons h1 h2 =>
   obtain ⟨t,rfl⟩:=h1.int_inv;obtain ⟨l,rfl,e⟩:=Zvf h2;exact ⟨(n,t) :: l,rfl,by rw [List.map_cons,e]⟩
theorem ev_maxL(O:TopOk w B)(hh:A.handled=none){e:Expr}{p pos:Pos}{P:PE}(G:GlobAt B "max" (.builtin "max"))(hk:f.scope.kind=.function)(hx:f.scope.names.lookup ("max":Str)=some .globalImplicit)(h:EV prog w B f A (eval e f.env) P)(he:Zf e=true) :
  EV prog w B f A (eval (.Call (.Name "max" p) [e] [] pos) f.env) (pMax P):=by
 intro E ω st s Q R hq;refine Call_Name1 (Zat O R G hk hx (by decide) ?_) (by rw [Zp he]; rfl);refine callWith_builtin rfl (evalArgs_plain (spliced_cons (h.to R hq (fun x s₁ v st₁ ω₁ l₁ va R₁ q0=>spliced_nil ?_))));obtain ⟨ns,m,hv,hm,hle,q⟩:=q0;subst hv;obtain ⟨a,ws,k,rfl,e1,r1⟩:=va.lst_inv;obtain ⟨l,rfl,e2⟩:=Zvf r1;have hl:s₁.heap.IsList a (intItems l.toArray):=⟨_,R₁.keep _ _ e1,rfl,k,by simp [lstO,intItems]⟩;have hlen:l.length=ns.length:=by rw [← e2,List.length_map]
 have pos:0 < ns.length:=List.length_pos_of_mem hm;refine wpAny_with_toks (n:=s₁.toks) (Yaa _) (max_intList hh hl (by simpa [hlen] using pos) fun v h' tk hP hk' htk=>?_);obtain ⟨t,rfl⟩:=intItems_at hP;obtain ⟨b1,b2⟩:=Zxj (numAt l.toArray) (l.toArray.size - 1);have val:∀ i,i < ns.length→numAt l.toArray i=ns.getD i 0:=fun i hi=>by
  unfold numAt;rw [List.getElem?_toArray,← List.getElem?_map,e2,List.getD_eq_getElem?_getD]
 have em:numAt l.toArray (argBest (fun i j=>decide (numAt l.toArray i > numAt l.toArray j)) (l.toArray.size - 1))=m:=by
  have hz:l.toArray.size=ns.length:=by simpa using hlen
  rw [hz] at b1 b2 ⊢;refine Int.le_antisymm ?_ ?_
  ·rw [val _ (by lia),List.getD_eq_getElem?_getD,List.getElem?_eq_getElem (by lia)];exact hle _ (Yt _)
  ·obtain ⟨i,hi,rfl⟩:=List.getElem_of_mem hm;have:=b2 i (by lia);rw [val i hi,List.getD_eq_getElem?_getD,List.getElem?_eq_getElem hi] at this;exact this
 rw [em];exact ⟨_,st₁,ω₁,l₁,.int _ _,R₁.keeps (h':=h') (k:=tk) hk' htk,q⟩
end
end Mine
namespace Mine
noncomputable def pBox(n:Nat):PE:=fun Q st=>∃ v,st.cells[n]?=some (.box (some v))∧Q v st
noncomputable def St.setBox(st:St)(n:Nat)(v:V):St:={ st with cells:=st.cells.set n (.box (some v)) }
noncomputable def sBox(n:Nat):PS:=fun v K st=>∃ u,st.cells[n]?=some (.box u)∧K (st.setBox n v)
noncomputable def xTo(S:PS)(P:PE):PX:=fun Q=>P fun v=>S v (Q .next)
noncomputable def tYes:PB:=fun Q st=>Q true st
noncomputable def Zob(S:PS)(T:PB)(P:PE)(K:List V→St→Prop):List V→List V→St→Prop
 | [],acc=>K acc
 | v :: vs,acc=>S v (T fun b st=>(b=true→P (fun r st=>acc.length < Zc∧Zob S T P K vs (acc++[r]) st) st)∧(b=false→Zob S T P K vs acc st))
noncomputable def Zjn(nl:Nat)(It:PI)(S:PS)(T:PB)(P:PE):PE:=fun Q=>It fun vs st=>Zob S T P (fun rs st'=>Q (.lst rs) ⟨st.loc,st'.cells⟩) vs [] ⟨List.replicate nl none,st.cells⟩
section
variable{prog:Program}{w:World}{B:Base}{f:Fx}{A:Around}{E:Value→Shared→Prop}{ω ω₂:Wd}{st st₂:St}{s s₂:Shared}
theorem box_at(R:Rel B f ω st s){x:Str}{n:Nat}{u:Option V}(hb:f.bx.lookup x=some n)(hc:st.cells[n]?=some (.box u)):∃ d y,f.cl.lookup x=some d∧ω.cs[n]?=some d∧s.heap.IsCell d y∧∀ v,u=some v→∃ z,y=some z∧VR ω v z:=by
 obtain ⟨d,h1,h2⟩:=R.bx x n hb;obtain ⟨o,y,a,b,c⟩:=R.cells n d _ h2 hc;exact ⟨d,y,h1,h2,⟨o,a,b⟩,c⟩
theorem ev_box(ok:f.Ok){x:Str}{n:Nat}{pos:Pos}(hb:f.bx.lookup x=some n)(hd:(x == ("__debug__":Str))=false):EV prog w B f A (eval (.Name x pos) f.env) (pBox n):=by
 rintro E ω st s Q R ⟨v,hc,q⟩;obtain ⟨d,y,h1,h2,h3,h4⟩:=box_at R hb hc;obtain ⟨z,rfl,hz⟩:=h4 v rfl;exact wpAny_Name (wpAny_loadName_cell (env:=f.env) ok.1 (ok.2.2.2 x n hb) h1 h3 ⟨v,st,ω,.refl ω,hz,R,q⟩) hd
theorem Zgz(R:Rel B f ω st s)(ok:f.Ok){x:Str}{n:Nat}{u:Option V}{v:V}{y:Value}(hb:f.bx.lookup x=some n)(hc:st.cells[n]?=some (.box u))(hv:VR ω v y){Q:Unit→Shared→Prop}
  (h:∀ h',Rel B f ω (st.setBox n v) { s with heap:=h' }→Q () { s with heap:=h' }):wpAny (model prog w) A (storeName f.env x y) Q E s:=by
 obtain ⟨d,y0,h1,h2,h3,_⟩:=box_at R hb hc;refine wpAny_storeName_cell (env:=f.env) ok.1 (ok.2.2.2 x n hb) h1 h3 fun h' hc' hs=>h h' ?_;obtain ⟨m,hn,hl⟩:=R.fr;obtain ⟨o,ho,hdat⟩:=hc';have dL:f.L≠d:=fun q=>(Yu.mp R.dis).1 (q ▸ Yw h2);exact R.change (k:=s.toks) (c:=.box (some v)) hl (hn.sameBut hs dL) h2 (fun b o _ hb2 e=>(hs.2 b hb2).trans e) ⟨o,some y,ho,hdat,fun v' e=>by cases e; exact ⟨y,rfl,hv⟩⟩
theorem es_box(ok:f.Ok){x:Str}{n:Nat}{pos:Pos}(hb:f.bx.lookup x=some n):ES prog w B f A (assign (.Name x pos) f.env) (sBox n):=by
 rintro E ω st s v y K R hv ⟨u,hc,h⟩;exact assign_Name (Zgz R ok hb hc hv fun h' R'=>⟨_,ω,.refl ω,R',h⟩)
theorem es_bbox(ok:f.Ok){x:Str}{n:Nat}(hb:f.bx.lookup x=some n):ES prog w B f A (bindName f.env x) (sBox n):=by
 rintro E ω st s v y K R hv ⟨u,hc,h⟩;exact bindName_ (Zgz R ok hb hc hv fun h' R'=>⟨_,ω,.refl ω,R',h⟩)
theorem ex_box(ok:f.Ok){n:Nat}{x:Str}{e:Expr}{p p':Pos}{P:PE}(hb:f.bx.lookup x=some n)(h:EV prog w B f A (eval e f.env) P)(hs:swapsWith e (some (.Name x p)) p'.line f.env=pure false):EX prog w B f A (exec (.Assign [.Name x p] e p') f.env) (xTo (sBox n) P):=by
 intro E ω st s Q R hq;refine wpAny_Assign_Name (h.to R hq (fun y s₁ v st₁ ω₁ l₁ va R₁ q0=>?_)) hs;obtain ⟨u,hc,q⟩:=q0;exact Zgz R₁ ok hb hc va fun h' R'=>⟨.next,_,ω₁,l₁,.next,R',q⟩
noncomputable def Zbo(scope sc:Scope):Scope:={ scope with names:=scope.names.map fun (n,k)=>if (k == .free && sc.kind == .function && sc.names.lookup n == some .cell) then (n,.cell) else (n,k) }
noncomputable def clF(cl:List (Str × Addr)):List (Str × NameKind)→List (Str × Addr)→List (Str × Addr)
 | [],acc=>acc
 | (x,k) :: r,acc=>if k == .free then clF cl r ((x,(cl.lookup x).getD 0) :: acc) else clF cl r acc
noncomputable def Fx.sub(f:Fx)(scope:Scope)(names:List Str)(bx:List (Str × Nat))(C:Addr):Fx:=⟨f.qual,Zbo scope f.scope,C,none,f.cd,f.frame,clF f.cl scope.names [],names,bx⟩
inductive CompI(B:Base)(g:Fx)(ω:Wd)(I D:Addr)(m:Nat)(J:Nat→Heap→Prop)(K:Nat→List V→St→Prop)(n:Nat)(s:Shared):Prop
 | mk (st:St) (ω':Wd) (i:Nat) (rs:List V) (ws:List Value) (k:Nat) (hn:n=m - i) (hi:i≤m) (l:ω.Le ω') (aI:Apart B g ω' I) (aD:Apart B g ω' D) (hI:J i s.heap) (hD:s.heap.get? D=some (lstO ws k)) (hr:VRs ω' rs ws) (R:Rel B g ω' st s) (q:K i rs st)
theorem Zis{g:Fx}{I D:Addr}{oi oD:Obj}(aI:Apart B g ω I)(aD:Apart B g ω D)(ne:I≠D)(l:((ω.hold I oi).hold D oD).Le ω₂)(R:Rel B g ω₂ st₂ s₂) :
  ω.Le (ω.free ω₂)∧Rel B g (ω.free ω₂) st₂ s₂∧Apart B g (ω.free ω₂) I∧Apart B g (ω.free ω₂) D∧s₂.heap.get? I=some oi∧s₂.heap.get? D=some oD:=by
 have eD:ω₂.H D=some oD:=l.H _ _ Wd.hold_self;have eI:ω₂.H I=some oi:=l.H _ _ ((if_neg ne).trans Wd.hold_self)
 have hH:∀ a o,ω.H a=some o→ω₂.H a=some o:=fun a o e=>l.H a o (by
  have n1:a≠D:=fun q=>by rw [q,aD.noH] at e; exact nn e
  have n2:a≠I:=fun q=>by rw [q,aI.noH] at e; exact nn e
  show (if a=D then _ else if a=I then _ else ω.H a)=_
  rw [if_neg n1,if_neg n2]; exact e)
 have no:∀ {x:Addr} {o:Obj},ω₂.H x=some o→x ∉ g.L :: ω₂.cs:=fun e h=>by have:=(R.off _ h).2; rw [e] at this; exact nn this.symm
 exact ⟨⟨l.F,fun _ _ e=>e,l.cs,l.C⟩,R.free hH,⟨(R.held _ _ eI).2,aI.noH,no eI⟩,⟨(R.held _ _ eD).2,aD.noH,no eD⟩,(R.held _ _ eI).1,(R.held _ _ eD).1⟩
structure Src(prog:Program)(w:World)(B:Base)(A:Around)(ω:Wd)(I:Addr)(vs:List V)(J:Nat→Heap→Prop)(Inv:St→Prop):Prop where
 step:∀ {g:Fx} {E:Value→Shared→Prop} {ω':Wd} {st:St} {s:Shared} {i:Nat} {v:V} {Q:Option Value→Shared→Prop},ω.Le ω'→Apart B g ω' I→Rel B g ω' st s→J i s.heap→Inv st→vs[i]?=some v →
  (∀ x s' o,VR ω' v x→J (i + 1) s'.heap→s'.heap.get? I=some o→Free o→ω'.Le (ω'.hold I o)→Rel B g (ω'.hold I o) st s'→Heap.ExtBut I s.heap s'.heap→Q (some x) s')→wpAny (model prog w) A (pyNext (.ref I)) Q E s
 fin:∀ {g:Fx} {E:Value→Shared→Prop} {ω':Wd} {st:St} {s:Shared} {Q:Option Value→Shared→Prop},ω.Le ω'→Apart B g ω' I→Rel B g ω' st s→J vs.length s.heap→Inv st →
  (∀ s',Rel B g ω' st s'→Heap.ExtBut I s.heap s'.heap→Q none s')→wpAny (model prog w) A (pyNext (.ref I)) Q E s
 stay:∀ {i:Nat} {h h':Heap} {o:Obj},J i h→h.get? I=some o→h'.get? I=some o→(∀ b o,ω.F b=some o→h.get? b=some o)→(∀ b o,ω.F b=some o→h'.get? b=some o)→J i h'
 hg:∀ i h,J i h→∃ o,h.get? I=some o∧Free o
 ext:∀ i h h',J i h→(∀ b o,h.get? b=some o→h'.get? b=some o)→J i h'
 self:∀ {E:Value→Shared→Prop} {s:Shared} {Q:Value→Shared→Prop} (i:Nat),J i s.heap→Q (.ref I) s→wpAny (model prog w) A (pyIter (.ref I)) Q E s
theorem Iter.src{I:Addr}{vs:List V}{fp:List Addr}{P:Nat→Value→Prop}{D:Nat→Heap→Prop}(W:Iter prog w B A ω I vs fp P D):Src prog w B A ω I vs D fun _=>True :=
 ⟨fun l ap R h _ hv k=>(W.le l).step ap R h hv k,fun l ap R h _ k=>(W.le l).fin ap R h k,fun a b c d e=>W.stay a b c d e,W.hg,fun i h h' d k=>W.W.frame i h h' d fun b _ o e=>k b o e,fun i d q=>W.W.self i _ _ _ d q⟩
theorem Src.le{I:Addr}{vs:List V}{J:Nat→Heap→Prop}{Inv:St→Prop}(W:Src prog w B A ω I vs J Inv)(l:ω.Le ω₂):Src prog w B A ω₂ I vs J Inv :=
 ⟨fun l'=>W.step (l.trans l'),fun l'=>W.fin (l.trans l'),fun a b c d e=>W.stay a b c (fun b o z=>d b o (l.F _ _ z)) fun b o z=>e b o (l.F _ _ z),W.hg,W.ext,W.self⟩
structure Turns(S:PS)(T:PB)(P:PE)(vs:List V)(Inv:St→Prop)(K:Nat→List V→St→Prop):Prop where
 turn:∀ {i:Nat} {v:V} {rs:List V} {st:St},vs[i]?=some v→K i rs st→S v (T fun b st=>(b=true→P (fun r st=>rs.length < Zc∧K (i + 1) (rs++[r]) st) st)∧(b=false→K (i + 1) rs st)) st
 inv:∀ {i:Nat} {rs:List V} {st:St},K i rs st→Inv st
inductive PostC(prog:Program)(w:World)(B:Base)(f:Fx)(A:Around)(ω:Wd)(n:Nat)(S:PS)(T:PB)(P:PE)(Q:V→St→Prop)(x:Value)(s:Shared):Prop
 | mk (I:Addr) (vs:List V) (st:St) (ω':Wd) (J:Nat→Heap→Prop) (Inv:St→Prop) (K:Nat→List V→St→Prop) (l:ω.Le ω') (hx:x=.ref I) (W:Src prog w B A ω' I vs J Inv) (U:Turns S T P vs Inv K) (ap:Apart B f ω' I) (h0:J 0 s.heap) (R:Rel B f ω' st s)
  (e:∀ rs st',K vs.length rs st'→Q (.lst rs) ⟨st.loc,st'.cells⟩) (q:K 0 [] ⟨List.replicate n none,st.cells⟩)
noncomputable def EC(prog:Program)(w:World)(B:Base)(f:Fx)(A:Around)(e:Expr)(n:Nat)(S:PS)(T:PB)(P X:PE):Prop:=∀ (E:Value→Shared→Prop) (ω:Wd) (st:St) (s:Shared) (Q:V→St→Prop),Rel B f ω st s→X Q st →
 wpAny (model prog w) A (eval e f.env) (fun x s₁=>wpAny (model prog w) A (pyIter x) (PostC prog w B f A ω n S T P Q) E s₁) E s
theorem Zoa{S:PS}{T:PB}{P:PE}{K:List V→St→Prop}{vs:List V}:Turns S T P vs (fun _=>True) fun i rs st=>Zob S T P K (vs.drop i) rs st :=
 ⟨fun {i} {v} {rs} {st} hv q=>by
  obtain ⟨hlt,rfl⟩:=Yi.mp hv;rw [List.drop_eq_getElem_cons hlt] at q; exact q,fun _=>trivial⟩
theorem EI.ec{e:Expr}{It:PI}{n:Nat}{S:PS}{T:PB}{P:PE}(h:EI prog w B f A e It):EC prog w B f A e n S T P (Zjn n It S T P):=fun E ω st s Q R hq =>
 up (h E ω st s _ R hq) fun x s₁ z=>up z fun y s₂ z=>z.casesOn fun I vs st' ω' fp PP D l hx W ap h0 R q=>⟨I,vs,st',ω',D,_,_,l,hx,W.src,Zoa,ap,h0,R,fun rs st'' q=>by rw [List.drop_eq_nil_of_le (Nat.le_refl _)] at q; exact q,q⟩
noncomputable def Zcv(ifs:List Expr)(env:Env):Sem Bool:=forIn ifs true fun c r=>if r=true then do let ok ← isTrue c env (eval c env); pure (ForInStep.yield ok) else pure (ForInStep.yield r)
theorem Zwb{env:Env}:EB prog w B f A (Zcv [] env) tYes:=fun E ω st s Q R h=>wpAny_tests_nil ⟨st,ω,.refl ω,R,h⟩
theorem Zwa{env:Env}{c:Expr}{T:PB}(h:EB prog w B f A (isTrue c env (eval c env)) T):EB prog w B f A (Zcv [c] env) T:=fun E ω st s Q R hq=>wpAny_tests_one (h E ω st s Q R hq)
theorem Zrq{elt t iter:Expr}{ifs:List Expr}{scope:Scope}{pos:Pos}{it acc:Value}{env:Env}{RR:Result→Shared→Prop}(I:Nat→Shared→Prop)
  (turn:∀ n s,I n s→wpAny (model prog w) A (pyNext it) (fun r s₁=>match r with
   | none=>RR (.ok .next) s₁
   | some v=>wpAny (model prog w) A (letOwnedTupleGo t it v) (fun _ s₀=>wpAny (model prog w) A (assign t env v) (fun _ s₂=>wpAny (model prog w) A (Zcv ifs env) (fun ok s₃ =>
      if ok=true then wpAny (model prog w) A (eval elt env) (fun x s₄ =>
       wpAny (model prog w) A (call (.builtin "list.append") [acc,x]) (fun _ s₅=>∃ m,m < n∧I m s₅) (notedBy (model prog w) A env fun e s'=>RR (.error e) s') s₄) (notedBy (model prog w) A env fun e s'=>RR (.error e) s') s₃
      else ∃ m,m < n∧I m s₃) (notedBy (model prog w) A env fun e s'=>RR (.error e) s') s₂) (notedBy (model prog w) A env fun e s'=>RR (.error e) s') s₀) (notedBy (model prog w) A env fun e s'=>RR (.error e) s') s₁) (notedBy (model prog w) A env fun e s'=>RR (.error e) s') s)
  (n:Nat) (h:I n s):codeAny (model prog w) A (.compLoop (.ListComp elt [⟨t,iter,ifs,0⟩] scope pos) 0 it acc env) RR s:=by
 refine codeAny_loop rfl I (fun n s hI=>?_) n h;show wpAny _ A ((compTurn (.ListComp elt [⟨t,iter,ifs,0⟩] scope pos) 0 it acc env).onRaise (fun x=>do noteFrame x env; theTreesLotGoes x)) _ _ s;refine wpAny_noted ?_;rw [compTurn_list];refine wpAny_bind (wpAny_standAt (wpAny_bind (up (turn n s hI) fun r s₁ h₁=>?_)));cases r with
 | none=>exact wpAny_pure h₁
 | some v =>
  refine wpAny_bind (up h₁ fun _ s₀ h₀=>wpAny_bind (up h₀ fun _ s₂ h₂=>wpAny_bind (up h₂ fun ok s₃ h₃=>?_)));cases ok with
  | false=>exact wpAny_pure ⟨rfl,h₃⟩
  | true=>exact wpAny_bind (wpAny_bind (up h₃ fun x s₄ h₄=>wpAny_bind (up h₄ fun _ s₅ h₅=>wpAny_pure (wpAny_pure ⟨rfl,h₅⟩))))
theorem Zwo{g:Fx}{t elt iter:Expr}{ifs:List Expr}{scope:Scope}{pos:Pos}{S:PS}{T:PB}{P:PE}(hS:ES prog w B g A (assign t g.env) S)(hT:EB prog w B g A (Zcv ifs g.env) T)(hP:EV prog w B g A (eval elt g.env) P)
  {I D:Addr} {vs:List V} {J:Nat→Heap→Prop} {Inv:St→Prop} {K:Nat→List V→St→Prop} (ne:I≠D) (W:Src prog w B A ω I vs J Inv) (U:Turns S T P vs Inv K) {RR:Result→Shared→Prop}
  (hend:∀ s' st' ω' rs ws k,ω.Le ω'→Apart B g ω' D→s'.heap.get? D=some (lstO ws k)→VRs ω' rs ws→Rel B g ω' st' s'→K vs.length rs st'→RR (.ok .next) s')
  {n:Nat} (h:CompI B g ω I D vs.length J K n s):codeAny (model prog w) A (.compLoop (.ListComp elt [⟨t,iter,ifs,0⟩] scope pos) 0 (.ref I) (.ref D) g.env) RR s:=by
 refine Zrq (CompI B g ω I D vs.length J K) ?_ n h;clear h;intro n s z;obtain ⟨st,ω',i,rs,ws,k,hn,hi,l',aI,aD,hI,hD,hr,R',q'⟩:=z
 by_cases hlt:i < vs.length
 ·refine W.step l' aI R' hI (U.inv q') (Yo hlt) fun x s' oi vx hd' hoi hfr l3 R4 hx=>Zvj hoi hfr ?_;replace q':=U.turn (Yo hlt) q';have hD3:s'.heap.get? D=some (lstO ws k):=hx D _ (Ne.symm ne) hD;obtain ⟨l4,R5⟩:=R4.holdH (a:=D) (o:=lstO ws k) hD3 aD.noF ((if_neg (Ne.symm ne)).trans aD.noH) aD.new;refine hS.to R5 (vx.mono (l3.trans l4)) q' (fun _ s₃ st₃ ω₃ l₃ R₃ q₃=>?_);refine hT.to R₃ q₃ (fun b s₄ st₄ ω₄ l₄ R₄ q₄=>?_);have stay:∀ {h:Heap},h.get? I=some oi→(∀ b o,ω'.F b=some o→h.get? b=some o)→J (i + 1) h:=fun e kf=>W.stay hd' hoi e (fun b o e=>R4.keep b o (l3.F _ _ (l'.F _ _ e))) fun b o e=>kf b o (l'.F _ _ e);cases b with
  | false =>
   obtain ⟨L,R6,bI,bD,gI,gD⟩:=Zis aI aD ne (l₃.trans l₄) R₄;exact ⟨vs.length - (i + 1),hn ▸ Yat hlt (Yau i),st₄,_,i + 1,rs,ws,k,rfl,hlt,l'.trans L,bI,bD,stay gI (fun b o e=>R6.keep b o (L.F _ _ e)),gD,hr.mono L,R6,q₄.2 rfl⟩
  | true =>
   refine hP.to R₄ (q₄.1 rfl) (fun y s₅ v st₅ ω₅ l₅ vy R₅ q₅=>?_);obtain ⟨L,R6,bI,bD,gI,gD⟩:=Zis aI aD ne ((l₃.trans l₄).trans l₅) R₅;refine append_at gD (fun h'' hs hD'=>?_) (by rw [List.size_toArray,← hr.length,← sizeTop_eq]; exact Yf q₅.1);have e:(ws.toArray.push y)=(ws++[y]).toArray:=by simp
   rw [e] at hD';have R7:=R6.other bD (k:=s₅.toks) hs.extBut;exact ⟨vs.length - (i + 1),hn ▸ Yat hlt (Yau i),st₅,_,i + 1,rs++[v],ws++[y],k + 1,rfl,hlt,l'.trans L,bI,bD,stay (hs.extBut I oi ne gI) (fun b o e=>R7.keep b o (L.F _ _ e)),hD',(hr.mono L).append (.cons vy.free .nil),R7,q₅.2⟩
 ·have hi':i=vs.length:=by lia
  subst hi';refine W.fin l' aI R' hI (U.inv q') fun s' R3 hx=>?_;exact hend _ st ω' rs ws k l' aD (hx D _ (Ne.symm ne) hD) hr R3 q'
theorem Zfa{cl:List (Str × Addr)}{x:Str}:∀ {names:List (Str × NameKind)} {acc:List (Str × Addr)},((x,NameKind.free)∈names∨acc.lookup x=some ((cl.lookup x).getD 0))→(clF cl names acc).lookup x=some ((cl.lookup x).getD 0)
 | [],acc,h=>by
  rcases h with h | h
  ·cases h
  ·exact h
 | (y,k) :: r,acc,h=>by
  unfold clF
  by_cases hk:(k == NameKind.free)=true
  ·rw [if_pos hk];refine Zfa ?_
   by_cases hx:x=y
   ·subst hx; exact .inr (by rw [List.lookup_cons]; simp)
   ·rcases h with h | h
    ·rcases Ym.mp h with h | h
     ·cases h; exact absurd rfl hx
     ·exact .inl h
    ·refine .inr ?_;rw [List.lookup_cons,show (x == y)=false by simpa using hx]; exact h
  ·rw [if_neg hk];refine Zfa ?_
   rcases h with h | h
   ·rcases Ym.mp h with h | h
    ·cases h; exact absurd rfl hk
    ·exact .inl h
   ·exact .inr h
theorem Zwq{env:Env}{scope:Scope}(h:∀ x,(x,NameKind.free)∈scope.names→∃ d,env.cells.lookup x=some d):closureFor scope env=pure (clF env.cells scope.names []):=by
 unfold closureFor;have key:∀ (names:List (Str × NameKind)) (acc:List (Str × Addr)),(∀ x,(x,NameKind.free)∈names→∃ d,env.cells.lookup x=some d) →
   (forIn names acc fun (x:Str × NameKind) (cs:List (Str × Addr))=>(if x.2 == NameKind.free then (do let a ← cellOf env x.1; pure (ForInStep.yield ((x.1,a) :: cs))) else pure (ForInStep.yield cs):Sem (ForInStep (List (Str × Addr)))))=pure (clF env.cells names acc):=by
  intro names
  induction names with
  | nil=>intro acc _; rfl
  | cons p r ih =>
   intro acc hp;obtain ⟨y,k⟩:=p;rw [List.forIn_cons];unfold clF
   by_cases hk:(k == NameKind.free)=true
   ·have:k=.free:=by simpa using hk
    subst this;obtain ⟨d,hd⟩:=hp y (.head _);have hc:cellOf env y=pure d:=by unfold cellOf; rw [hd]
    simp only [beq_self_eq_true,if_true,hc,pure_bind,hd,Option.getD_some];exact ih _ fun x hx=>hp x (.tail _ hx)
   ·simp only [hk,if_false,pure_bind];exact ih _ fun x hx=>hp x (.tail _ hx)
 have:=key scope.names [] h;simp only [bind_pure];exact this
theorem Zmi(hh:A.handled=none){t elt iter:Expr}{ifs:List Expr}{scope:Scope}{pos:Pos}{names:List Str}{bx:List (Str × Nat)}{S:PS}{T:PB}{P X:PE}(hI:EC prog w B f A iter names.length S T P X)
  (hS:∀ C,ES prog w B (f.sub scope names bx C) A (assign t (f.sub scope names bx C).env) S) (hT:∀ C,EB prog w B (f.sub scope names bx C) A (Zcv ifs (f.sub scope names bx C).env) T) (hP:∀ C,EV prog w B (f.sub scope names bx C) A (eval elt (f.sub scope names bx C).env) P)
  (hcell:∀ y∈scope.names,y.2≠.cell) (hkind:scope.kind=.function) (hnames:∀ y∈scope.names,y.2=.local→scope.names.lookup y.1=some .local)
  (hbx:∀ x n,bx.lookup x=some n→f.bx.lookup x=some n∧(x,NameKind.free)∈scope.names) (hfr:∀ x,(x,NameKind.free)∈scope.names→∃ n,f.bx.lookup x=some n) (hset:∀ x,foldedSetIterable iter f.env x=pure x)
  {use:Option (Value→Sem Unit)} {p0:Pos} {Q₀:Value→Shared→Prop} {Q:V→St→Prop} (R:Rel B f ω st s) (hq:X Q st)
  (hfin:∀ (C D:Addr) s' v st' ω',ω.Le ω'→VR ω' v (.ref D)→Rel B f ω' st' s'→Apart B f ω' C→(∃ oC m,s'.heap.get? C=some oC∧∀ h':Heap,h'.get? C=some oC→h'.Ns C m)→Q v st'→compPost (model prog w) A E use Q₀ (.ref D) C (.ok .next) s') :
  wpAny (model prog w) A (comprehension (.ListComp elt [⟨t,iter,ifs,0⟩] scope pos) scope f.env p0 (newList []) false (eval iter f.env) use) Q₀ E s:=by
 have hclos:=Zwq (env:=f.env) (scope:=scope) fun x hx=>by obtain ⟨n,e⟩:=hfr x hx; obtain ⟨d,h,_⟩:=R.bx x n e; exact ⟨d,h⟩
 refine wpAny_comprehension_free (use:=use) rfl hset hclos hkind hnames (up (hI E ω st s _ R hq) fun y s₀ h=>up h fun it s₁ z=>?_);obtain ⟨I,vs,st₁,ω₁,J,Inv,K,l₁,rfl,W,U,ap₁,h0,R₁,eq,q⟩:=z;obtain ⟨oI,hoI,_⟩:=W.hg _ _ h0;have hIl:=Yk hoI;refine wpAny_newList ?_ (by simp);refine wpAny_newFunctionEnv hcell (fun y hy=>nomatch hy) (fun h₁ hns hsb=>?_) hkind;obtain ⟨oL,hL,_,m,hm,hl⟩:=R₁.frameObj;generalize hH2:s₁.heap.push { cls:=.type "list",data:=.seq ([]:List Value).toArray }=H2 at hns hsb ⊢;have z2:H2.objs.size=s₁.heap.objs.size + 1:=by rw [← hH2,Heap.size_push]
 have gD:H2.get? s₁.heap.objs.size=some (lstO [] 0):=by rw [← hH2]; exact Yq _ rfl
 have k2:∀ b o,s₁.heap.get? b=some o→H2.get? b=some o:=fun b o e=>by rw [← hH2]; exact Yp _ e
 have k3:∀ b o,H2.get? b=some o→h₁.get? b=some o:=fun b o e=>hsb.extBut b o (Yao (Yk e)) (Yp _ e);obtain ⟨l2,R₂⟩:=R₁.enter (g:=f.sub scope names bx H2.objs.size) (loc:=List.replicate names.length none) (k:=s₁.toks) hL (fun b o e=>k3 b o (k2 b o e)) (show s₁.heap.objs.size≤H2.objs.size by lia) hns
  (fun i x v h1 h2=>by have:=Yw h2; rw [List.mem_replicate] at this; exact absurd this.2 (fun z=>nomatch z))
  (fun x n e=>by obtain ⟨e1,e2⟩:=hbx x n e; obtain ⟨d,h1,h2⟩:=R₁.bx x n e1; exact ⟨d,(Zfa (.inl e2)).trans (by rw [h1]; rfl),h2⟩)
 have hd:=R₁.high (show s₁.heap.objs.size≤s₁.heap.objs.size by exact Yaa _);have hc:=R₁.high (show s₁.heap.objs.size≤H2.objs.size by lia);have nL:∀ {x},x ∉ f.L :: ω₁.cs→(ω₁.hold f.L oL).H x=ω₁.H x:=fun {x} h=>if_neg fun q:x=f.L=>h (q ▸ .head _);have out:∀ {x},x ∉ f.L :: ω₁.cs→x≠H2.objs.size→x ∉ (f.sub scope names bx H2.objs.size).L :: (ω₁.hold f.L oL).cs:=fun h h' q=>by
  rcases Ym.mp q with q | q
  ·exact h' q
  ·exact h (.tail _ q)
 have aI:Apart B (f.sub scope names bx H2.objs.size) (ω₁.hold f.L oL) I:=⟨ap₁.noF,(nL ap₁.new).trans ap₁.noH,out ap₁.new (by lia)⟩;have aD:Apart B (f.sub scope names bx H2.objs.size) (ω₁.hold f.L oL) s₁.heap.objs.size:=⟨hd.1,(nL hd.2.2).trans hd.2.1,out hd.2.2 (by lia)⟩;have W2:=W.le l2;have hit:J 0 h₁:=W.ext 0 _ _ h0 fun b o e=>k3 _ _ (k2 _ _ e)
 have loop:=Zwo (prog:=prog) (w:=w) (iter:=iter) (scope:=scope) (pos:=pos) (RR:=compPost (model prog w) A E use Q₀ (.ref s₁.heap.objs.size) H2.objs.size) (hS _) (hT _) (hP _) (show I≠s₁.heap.objs.size by exact Yao ‹_›) W2 U (fun s' st' ω' rs ws k l' aD' gD' hr R' q'=>by
  obtain ⟨oC,hoC,_,mC,hmC,_⟩:=R'.frameObj;obtain ⟨le,R3⟩:=R₁.leave hL hm hl l' R';have nC:H2.objs.size ∉ f.L :: (ω₁.free ω').cs:=fun h=>by
   rcases Ym.mp h with h | h
   ·exact hc.2.2 (h ▸ .head _)
   ·exact (Yu.mp R'.dis).1 h
  obtain ⟨l5,R5⟩:=R3.addF gD' aD'.noF hd.2.1 (fun h=>by
   rcases Ym.mp h with h | h
   ·exact hd.2.2 (h ▸ .head _)
   ·exact aD'.new (.tail _ h))
  exact hfin _ _ _ (.lst rs) _ _ ((l₁.trans le).trans l5) (.lst Wd.add_self (hr.free.mono l5)) R5 ⟨(if_neg (show H2.objs.size≠s₁.heap.objs.size by lia)).trans (R'.off _ (.head _)).1,hc.2.1,nC⟩ ⟨oC,mC,hoC,hmC⟩ (eq _ _ q')) (n:=vs.length)
  (s:={ s₁ with heap:=h₁,toks:=s₁.toks }) ⟨_,_,0,[],[],0,rfl,Yas _,.refl _,aI,aD,hit,k3 _ _ gD,.nil,R₂,q⟩
 exact codeAny_compStart_list loop (W.self 0 hit loop)
theorem Zzw(hh:A.handled=none){t elt iter:Expr}{ifs:List Expr}{scope:Scope}{pos:Pos}{names:List Str}{bx:List (Str × Nat)}{S:PS}{T:PB}{P X:PE}(hI:EC prog w B f A iter names.length S T P X)
  (hS:∀ C,ES prog w B (f.sub scope names bx C) A (assign t (f.sub scope names bx C).env) S) (hT:∀ C,EB prog w B (f.sub scope names bx C) A (Zcv ifs (f.sub scope names bx C).env) T) (hP:∀ C,EV prog w B (f.sub scope names bx C) A (eval elt (f.sub scope names bx C).env) P)
  (hcell:∀ y∈scope.names,y.2≠.cell) (hkind:scope.kind=.function) (hnames:∀ y∈scope.names,y.2=.local→scope.names.lookup y.1=some .local)
  (hbx:∀ x n,bx.lookup x=some n→f.bx.lookup x=some n∧(x,NameKind.free)∈scope.names) (hfr:∀ x,(x,NameKind.free)∈scope.names→∃ n,f.bx.lookup x=some n) (hset:∀ x,foldedSetIterable iter f.env x=pure x) :
  EV prog w B f A (eval (.ListComp elt [⟨t,iter,ifs,0⟩] scope pos) f.env) X:=by
 intro E ω st s Q R hq;rw [eval_ListComp];refine Zmi hh hI hS hT hP hcell hkind hnames hbx hfr hset R hq fun C D s' v st' ω' l va R' ap hC q=>?_;obtain ⟨oC,m,hoC,hm⟩:=hC;refine ⟨m,hm _ hoC,fun h' hs=>?_⟩;exact ⟨v,st',ω',l,va,R'.other ap (k:=s'.toks) hs.extBut,q⟩
theorem Zrl(ok:f.Ok){i:Nat}{x:Str}{px spos:Pos}(hx:f.names[i]?=some x)(hh:A.handled=none){t elt iter:Expr}{ifs:List Expr}{scope:Scope}{pos:Pos}{names:List Str}{bx:List (Str × Nat)}{S:PS}{T:PB}{P X:PE}(hI:EC prog w B f A iter names.length S T P X)
  (hS:∀ C,ES prog w B (f.sub scope names bx C) A (assign t (f.sub scope names bx C).env) S) (hT:∀ C,EB prog w B (f.sub scope names bx C) A (Zcv ifs (f.sub scope names bx C).env) T) (hP:∀ C,EV prog w B (f.sub scope names bx C) A (eval elt (f.sub scope names bx C).env) P)
  (hcell:∀ y∈scope.names,y.2≠.cell) (hkind:scope.kind=.function) (hnames:∀ y∈scope.names,y.2=.local→scope.names.lookup y.1=some .local)
  (hbx:∀ x n,bx.lookup x=some n→f.bx.lookup x=some n∧(x,NameKind.free)∈scope.names) (hfr:∀ x,(x,NameKind.free)∈scope.names→∃ n,f.bx.lookup x=some n) (hset:∀ x,foldedSetIterable iter f.env x=pure x)
  (hsw:swapsWith (.ListComp elt [⟨t,iter,ifs,0⟩] scope pos) (some (.Name x px)) spos.line f.env=pure true):EX prog w B f A (exec (.Assign [.Name x px] (.ListComp elt [⟨t,iter,ifs,0⟩] scope pos) spos) f.env) (xSet i X):=by
 intro E ω st s Q R hq;rw [exec_Assign_Name_used _ _ _ _ hsw];refine wpAny_bind (wpAny_standAt (wpAny_bind ?_));show wpAny _ A (do let _ ← comprehension (.ListComp elt [⟨t,iter,ifs,0⟩] scope pos) scope f.env _ (newList []) false (eval iter f.env) (some (assign (.Name x px) f.env))) _ _ s;refine wpAny_bind (wpAny_mono (Zmi (Q₀:=fun _ s'=>PostX B f ω Q .next s') hh hI hS hT hP hcell hkind hnames hbx hfr hset R hq fun C D s' v st' ω' l va R' ap hC q=>?_) (fun _ s' z=>wpAny_pure (wpAny_pure z)) fun _ _ z=>z);obtain ⟨oC,m,hoC,hm⟩:=hC;obtain ⟨l2,R2⟩:=R'.holdH hoC ap.noF ap.noH ap.new;refine (Znx (prog:=prog) (w:=w) (A:=A) ok hx:ES prog w B f A (assign (.Name x px) f.env) (Zw i)).to R2 (va.mono l2) q fun u s₃ st₃ ω₃ l₃ R₃ q₃=>?_;obtain ⟨l4,R4,ap4,h4⟩:=ap.again l₃ R₃;exact ⟨m,hm _ h4,fun h' hs=>⟨.next,st₃,_,l.trans l4,.next,R4.other ap4 (k:=s₃.toks) hs.extBut,q₃⟩⟩
end
end Mine
namespace Mine
open PySem.Builtin PySem.Builtin.Str
section
variable{prog:Program}{w:World}{B:Base}{f:Fx}{A:Around}{E:Value→Shared→Prop}{ω:Wd}{st:St}{s:Shared}
end
end Mine
end
section
set_option tactic.hygienic true
open PySem PySem.W PySem.Calls PyProof.Rows
namespace Mine
section
variable{prog:Program}{w:World}{B:Base}{f:Fx}{A:Around}{E:Value→Shared→Prop}{ω ω₂:Wd}{st st₂:St}{s s₂:Shared}
theorem Zga{os:List (Addr × Obj)}{b:Addr}{o:Obj}(h:os.lookup b=some o):(b,o)∈os:=by
 induction os with
 | nil=>cases h
 | cons p os ih =>
  rw [List.lookup_cons] at h;cases e:b == p.1 with
  | true=>rw [e] at h; cases h; rw [eq_of_beq e]; exact .head _
  | false=>rw [e] at h; exact .tail _ (ih h)
noncomputable def Wd.holds(ω:Wd)(os:List (Addr × Obj)):Wd:=⟨ω.F,fun b=>match os.lookup b with
 | some o=>some o
 | none=>ω.H b,ω.cs,ω.C⟩
theorem Wd.holds_old{os:List (Addr × Obj)}{b:Addr}(h:os.lookup b=none):(ω.holds os).H b=ω.H b:=by show (match os.lookup b with | some o=>some o | none=>ω.H b)=_; rw [h]
theorem Wd.holds_new{os:List (Addr × Obj)}{b:Addr}{o:Obj}(h:os.lookup b=some o):(ω.holds os).H b=some o:=by show (match os.lookup b with | some o=>some o | none=>ω.H b)=_; rw [h]
theorem Rel.holds(R:Rel B f ω st s){os:List (Addr × Obj)}(h:∀ p∈os,s.heap.get? p.1=some p.2∧Apart B f ω p.1):ω.Le (ω.holds os)∧Rel B f (ω.holds os) st s:=by
 have up:∀ b o,ω.H b=some o→(ω.holds os).H b=some o:=fun b o e=>by
  cases q:os.lookup b with
  | none=>rw [Wd.holds_old q]; exact e
  | some o'=>rw [(h _ (Zga q)).2.noH] at e; exact nn e
 have l:ω.Le (ω.holds os):=⟨fun _ _ e=>e,up,⟨[],(Yj _).symm⟩,rfl⟩;obtain ⟨m,hm,hl⟩:=R.fr;refine ⟨l,R.keep,fun b o e=>?_,R.base,R.above,⟨m,hm,fun i x v h1 h2=>?_⟩,R.size,fun i d c h1 h2=>(R.cells i d c h1 h2).mono l rfl,R.dis,fun b hb=>⟨(R.off b hb).1,?_⟩,R.gens,R.cls,R.tk,R.bx⟩
 ·cases q:os.lookup b with
  | none=>rw [Wd.holds_old q] at e; exact R.held b o e
  | some o'=>rw [Wd.holds_new q] at e; cases e; exact ⟨(h _ (Zga q)).1,(h _ (Zga q)).2.noF⟩
 ·obtain ⟨y,a,b⟩:=hl i x v h1 h2; exact ⟨y,a,b.mono l⟩
 ·cases q:os.lookup b with
  | none=>rw [Wd.holds_old q]; exact (R.off b hb).2
  | some o'=>exact absurd hb (h _ (Zga q)).2.new
structure ZAt(h:Heap)(z TI TO i1 i2 l1 l2:Addr)(f0:Value)(i:Nat):Prop where
 hz:IsZip h z TI TO f0
 hTI:IsPair h TI (.ref i1) (.ref i2)
 hTO:∃ a b,IsPair h TO a b
 h1:h.IsListIter i1 l1 i
 h2:h.IsListIter i2 l2 i
theorem ZAt.at{h h':Heap}{z TI TO i1 i2 l1 l2:Addr}{f0:Value}{i:Nat}(Z:ZAt h z TI TO i1 i2 l1 l2 f0 i)(k:∀ b∈[z,TI,TO,i1,i2],∀ o,h.get? b=some o→h'.get? b=some o):ZAt h' z TI TO i1 i2 l1 l2 f0 i :=
 ⟨k _ (.head _) _ Z.hz,k _ (.tail _ (.head _)) _ Z.hTI,let ⟨a,b,e⟩:=Z.hTO; ⟨a,b,k _ (.tail _ (.tail _ (.head _))) _ e⟩,Z.h1.at fun o e=>k _ (.tail _ (.tail _ (.tail _ (.head _)))) o e,Z.h2.at fun o e=>k _ (.tail _ (.tail _ (.tail _ (.tail _ (.head _))))) o e⟩
abbrev five(z TI TO i1 i2:Addr):List Addr:=[z,TI,TO,i1,i2]
theorem ZAt.objs{h:Heap}{z TI TO i1 i2 l1 l2:Addr}{f0:Value}{i:Nat}(Z:ZAt h z TI TO i1 i2 l1 l2 f0 i):∃ os:List (Addr × Obj),os.map (·.1)=five z TI TO i1 i2∧∀ p∈os,h.get? p.1=some p.2:=by
 obtain ⟨hz,hTI,⟨a,b,hTO⟩,⟨o1,g1,_⟩,⟨o2,g2,_⟩⟩:=Z;have key:∀ {oz oI oO:Obj},h.get? z=some oz→h.get? TI=some oI→h.get? TO=some oO→∃ os:List (Addr × Obj),os.map (·.1)=five z TI TO i1 i2∧∀ p∈os,h.get? p.1=some p.2:=fun {oz oI oO} e1 e2 e3 =>
  ⟨[(z,oz),(TI,oI),(TO,oO),(i1,o1),(i2,o2)],rfl,by simp only [List.forall_mem_cons]; exact ⟨e1,e2,e3,g1,g2,fun p hp=>nomatch hp⟩⟩
 exact key hz hTI hTO
inductive ForZ(B:Base)(f:Fx)(ω:Wd)(z TI TO i1 i2 l1 l2:Addr)(m:Nat)(K:Nat→St→Prop)(n:Nat)(s:Shared):Prop
 | mk (st:St) (ω':Wd) (i:Nat) (hn:n=m - i) (hi:i≤m) (l:ω.Le ω') (ap:∀ a∈[z,TI,TO,i1,i2],Apart B f ω' a) (Z:ZAt s.heap z TI TO i1 i2 l1 l2 .none i) (R:Rel B f ω' st s) (q:K i st)
theorem ZAt.lt{h:Heap}{z TI TO i1 i2 l1 l2:Addr}{f0:Value}{i:Nat}(Z:ZAt h z TI TO i1 i2 l1 l2 f0 i):∀ b∈five z TI TO i1 i2,b < h.objs.size:=fun b hb=>by
 obtain ⟨os,om,og⟩:=Z.objs;obtain ⟨p,hp,rfl⟩:=Ybr.mp (om ▸ hb);exact Yk (og p hp)
inductive ZTurn(B:Base)(f:Fx)(ω:Wd)(st:St)(z TI TO i1 i2 l1 l2:Addr)(i:Nat)(u v:V)(T:Value)(s:Shared):Prop
 | mk (ω':Wd) (os:List (Addr × Obj)) (l:ω.Le ω') (om:os.map (·.1)=five z TI TO i1 i2) (hos:∀ p∈os,s.heap.get? p.1=some p.2∧Apart B f ω' p.1) (Z:ZAt s.heap z TI TO i1 i2 l1 l2 .none i) (R:Rel B f (ω'.holds os) st s) (vt:VR (ω'.holds os) (.tup [u,v]) T)
end
section
variable{prog:Program}{w:World}{B:Base}{f:Fx}{A:Around}{E:Value→Shared→Prop}{ω ω₂:Wd}{st st₂:St}{s s₂:Shared}
open PySem.Builtin PySem.Builtin.Str
end
end Mine
end
section
open PySem PySem.W PySem.Calls PyProof.Rows
namespace Mine
section
variable{prog:Program}{w:World}{B:Base}{f:Fx}{A:Around}{E:Value→Shared→Prop}{ω:Wd}{st:St}{s:Shared}
end
section
variable{prog:Program}{w:World}{B:Base}{f:Fx}{A:Around}{E:Value→Shared→Prop}{ω:Wd}{st:St}{s:Shared}
end
end Mine
namespace Mine
structure DefAtB(B:Base)(fa:Addr)(fd:FuncData)(body:List Stmt)(names bs:List Str):Prop where
 obj:∃ o,B.hb.get? fa=some o∧o.data=.func fd
 code:B.hb.CodeRec fd.code fd.qualname
 body:fd.body=.stmts body
 glob:fd.globals=mainGlobals
 clo:fd.closure=[]
 blt:fd.builtins=builtinsNs
 co:fd.scope.isCoroutine=false
 gen:fd.scope.isGenerator=false
 kind:fd.scope.kind=.function
 nd:names.Nodup
 loc:∀ x∈names,fd.scope.names.lookup x=some .local
 bind:∃ p,names[0]?=some p∧∀ x:Value,bindArgs fd ⟨[x],[]⟩=pure [(p,x)]
 cells:∀ n,cellsFrom n fd.scope.names []=(bs.zip (List.range' n bs.length)).reverse
 nb:bs.Nodup
 cell:∀ x∈bs,fd.scope.names.lookup x=some .cell
theorem Zew{α:Type}{x:Str}{n:α}:∀ {bs:List Str} {ns:List α},(bs.zip ns).lookup x=some n→∃ i:Nat,bs[i]?=some x∧ns[i]?=some n
 | [],_,h=>by cases h
 | _ :: _,[],h=>by cases h
 | b :: bs,m :: ns,h=>by
  rw [List.zip_cons_cons,List.lookup_cons] at h;cases e:x == b with
  | true=>rw [e] at h; cases h; exact ⟨0,by rw [eq_of_beq e]; rfl,rfl⟩
  | false=>rw [e] at h; obtain ⟨i,h1,h2⟩:=Zew h; exact ⟨i + 1,h1,h2⟩
section
variable{prog:Program}{w:World}{B:Base}{f:Fx}{A:Around}{E:Value→Shared→Prop}{ω:Wd}{st:St}{s:Shared}{fa:Addr}{fd:FuncData}{body:List Stmt}{names bs:List Str}
noncomputable def DefAtB.fx(_:DefAtB B fa fd body names bs)(b:Nat)(L:Addr):Fx:=⟨fd.qualname++".<locals>.",fd.scope,L,some fa,fd.code,some L,(bs.zip (List.range' (L + 1) bs.length)).reverse,names,bs.zip (List.range' b bs.length)⟩
theorem DefAtB.ok(D:DefAtB B fa fd body names bs)(b:Nat)(L:Addr):(D.fx b L).Ok :=
 ⟨D.kind,D.nd,D.loc,fun x n e=>by obtain ⟨i,h1,_⟩:=Zew e; exact D.cell x (Yw h1)⟩
theorem DefAtB.bx(D:DefAtB B fa fd body names bs)(b:Nat)(L:Addr){cs:List Addr}(hc:cs.length=b)(x:Str)(n:Nat)(e:(D.fx b L).bx.lookup x=some n):∃ d,(D.fx b L).cl.lookup x=some d∧(cs++List.range' (L + 1) bs.length)[n]?=some d:=by
 obtain ⟨i,h1,h2⟩:=Zew e;have hi:=(Yi.mp h1).1;have hni:n=b + i:=by rw [List.getElem?_range' hi,Nat.one_mul] at h2; exact (Yc h2).symm
 have h3:(List.range' (L + 1) bs.length)[i]?=some (L + 1 + i):=by rw [List.getElem?_range' hi,Nat.one_mul]
 exact ⟨_,Zaj D.nb h1 h3,by rw [hni,List.getElem?_append_right (hc ▸ Nat.le_add_right _ _),hc,Nat.add_sub_cancel_left]; exact h3⟩
theorem callB_in(O:TopOk w B)(D:DefAtB B fa fd body names bs)(b:Nat)(hd:A.depth < recursionLimit)(hk0:∀ b o,B.hb.get? b=some o→s.heap.get? b=some o){xv:Value}{Rr:Result→Shared→Prop}
  (k:∀ h' pn,names[0]?=some pn→h'.Ns s.heap.objs.size (fun z=>if z=pn then some xv else none)→(∀ b o,s.heap.get? b=some o→h'.get? b=some o)→(∀ d∈List.range' (s.heap.objs.size + 1) bs.length,∃ o,h'.get? d=some o∧o.data=.cell none) →
   wpAny (model prog w) (A.deeper (D.fx b s.heap.objs.size).env) (execs body (D.fx b s.heap.objs.size).env) (fun f s'=>Rr (.ok (.ret (match f with | .ret v=>v | _=>.none))) s')
    (fun e s'=>wpAny (model prog w) (A.deeper (D.fx b s.heap.objs.size).env) (leaving (D.fx b s.heap.objs.size).env e) (fun _ s''=>Rr (.error e) s'') (fun e' s''=>Rr (.error e') s'') s') { s with heap:=h',toks:=s.toks + 1 }) :
  codeAny (model prog w) A (.call (.ref fa) ⟨[xv],[]⟩) Rr s:=by
 obtain ⟨o,hobj,hdat⟩:=D.obj;obtain ⟨p,Zfu,mg,mb,T⟩:=O.top;obtain ⟨pn,hp0,hbind⟩:=D.bind;refine codeAny_call_function hd (hk0 _ _ hobj) hdat D.co D.gen D.body (D.code.keeps hk0) ?_;rw [hbind,D.clo];refine wpAny_pure ?_;simp only [newFunctionEnv,Option.isSome_none,Bool.false_eq_true,if_false];refine wpAny_bind (wpAny_alloc ?_);refine wpAny_bind (wpAny_layCells _ (fun name kind cells=>by cases hkc:kind == NameKind.cell <;> simp [hkc]) _ _ _ _ ?_);have ok:=cellsFrom_ok fd.scope.names (s.heap.push { cls:=.type "frame",data:=.dict #[] }) (s.heap.objs.size + 1) [] ⟨fun _ _ hm=>(nomatch hm),List.Pairwise.nil⟩ (by rw [Heap.size_push]; exact Yaa _);rw [Heap.size_push,D.cells] at ok;rw [show ({ s with heap:=s.heap.push { cls:=.type "frame",data:=.dict #[] } }:Shared).heap.objs.size=s.heap.objs.size + 1 from Heap.size_push ..,D.cells];rw [List.forIn_cons];have hns:(pushCells (s.heap.push { cls:=.type "frame",data:=.dict #[] }) fd.scope.names).Ns s.heap.objs.size fun _=>none:=(Heap.Ns.new s.heap (.type "frame")).keeps (pushCells_keeps _ _);have hkeep:∀ b o,s.heap.get? b=some o→(pushCells (s.heap.push { cls:=.type "frame",data:=.dict #[] }) fd.scope.names).get? b=some o:=fun b o e=>pushCells_keeps _ _ b o (Yp _ e);generalize pushCells (s.heap.push { cls:=.type "frame",data:=.dict #[] }) fd.scope.names=H at ok hns hkeep ⊢;have hen:({ scope:=fd.scope,locals:=s.heap.objs.size,globals:=fd.globals,cells:=(bs.zip (List.range' (s.heap.objs.size + 1) bs.length)).reverse,qual:=fd.qualname++".<locals>.",func:=some fa,code:=fd.code,frame:=some s.heap.objs.size,builtins:=fd.builtins }:Env)=(D.fx b s.heap.objs.size).env:=by
  rw [D.glob,D.blt]; rfl
 rw [hen];refine wpAny_bind (wpAny_bind (wpAny_bind (wpAny_storeName_local (env:=(D.fx b s.heap.objs.size).env) (m:=fun _=>none) (D.loc pn (Yw hp0)) hns (fun h' hn' hs=>?_) ?_)))
 ·refine wpAny_pure ?_;change wpAny _ _ (pure PUnit.unit) _ _ _;refine wpAny_pure (wpAny_pure ⟨(T.nolimit.keeps hk0).keeps fun b o e=>(hs.2 b (Yao (Yk e))).trans (hkeep b o e),codeAny_func (k h' pn hp0 hn' (fun b o e=>(hs.2 b (Yao (Yk e))).trans (hkeep b o e)) fun d hdm=>?_)⟩);obtain ⟨i,hi,rfl⟩:=Yn.mp hdm;have hi':i < bs.length:=by rw [List.length_range'] at hi; exact hi
  have hm:(bs[i],(List.range' (s.heap.objs.size + 1) bs.length)[i])∈(bs.zip (List.range' (s.heap.objs.size + 1) bs.length)).reverse:=by
   rw [List.mem_reverse];exact Yw (i:=i) (by rw [List.getElem?_zip_eq_some]; exact ⟨Yo hi',Yo hi⟩)
  obtain ⟨⟨oc,ho1,ho2⟩,hlo⟩:=ok.empty _ _ hm;exact ⟨oc,(hs.2 _ (Yaz (Nat.lt_of_succ_le hlo))).trans ho1,ho2⟩
 ·show (fd.scope.kind == .class || (fd.scope.kind == .module && s.heap.objs.size != mainGlobals))=false;rw [D.kind]; rfl
theorem Rel.addBoxes:∀ {ds:List Addr} {ω:Wd} {st:St},Rel B f ω st s→ds.Nodup→(∀ d∈ds,Apart B f ω d∧∃ o,s.heap.get? d=some o∧o.data=.cell none)→Rel B f ⟨ω.F,ω.H,ω.cs++ds,ω.C⟩ ⟨st.loc,st.cells++ds.map fun _=>.box none⟩ s
 | [],ω,st,R,_,_=>by rw [List.append_nil,List.map_nil,List.append_nil]; exact R
 | d :: ds,ω,st,R,nd,h=>by
  obtain ⟨nd1,nd2⟩:=Yu.mp nd;obtain ⟨ap,o,ho,hd⟩:=h d (.head _);have R':=R.addC (c:=.box none) ap.noF ap.noH ap.new ⟨o,none,ho,hd,fun v e=>nomatch e⟩;have:=Rel.addBoxes R' nd2 fun d' hd'=>by
   obtain ⟨ap',o',h1,h2⟩:=h d' (.tail _ hd');refine ⟨⟨ap'.noF,ap'.noH,fun q=>?_⟩,o',h1,h2⟩;have q':d'∈f.L :: (ω.cs++[d]):=q;rw [← List.cons_append,List.mem_append] at q'
   rcases q' with q' | q'
   ·exact ap'.new q'
   ·exact nd1 (Yx.mp q' ▸ hd')
  rw [List.map_cons,show st.cells++(Cell.box none :: ds.map fun _=>Cell.box none)=(st.cells++[.box none])++ds.map (fun _=>Cell.box none) from (List.append_assoc _ [_] _).symm,show ω.cs++(d :: ds)=(ω.cs++[d])++ds from (List.append_assoc _ [d] _).symm];exact this
theorem Rel.reframe{g:Fx}(R:Rel B g ω st s)(hL:f.L=g.L)(hn:f.names=g.names)(hb:∀ x n,f.bx.lookup x=some n→∃ d,f.cl.lookup x=some d∧ω.cs[n]?=some d):Rel B f ω st s :=
 ⟨R.keep,R.held,R.base,hL ▸ R.above,hL ▸ hn ▸ R.fr,R.size,R.cells,hL ▸ R.dis,hL ▸ R.off,R.gens,R.cls,R.tk,hb⟩
structure OneFrame(f:Fx)(A:Around):Prop where
 fr:A.frames=some [f.env]
 at':f.frame=some f.L
structure DefDoesB(prog:Program)(w:World)(n:Nat)(D:DefAtB B fa fd body names bs)(X:Nat→PX):Prop where
 run:∀ (b:Nat) (L:Addr) (A:Around),Room A n→EX prog w B (D.fx b L) A (execs body (D.fx b L).env) (X b)
theorem Znq{α:Type}(c:Cell):∀ l:List α,l.map (fun _=>c)=List.replicate l.length c
 | []=>rfl
 | _ :: l=>congrArg (c :: ·) (Znq c l)
end
end Mine
namespace Mine
abbrev PR:=(St→Prop)→St→Prop
noncomputable def rX(T:PB):PR:=fun K=>T fun b st=>b=false∧K st
noncomputable def ER(prog:Program)(w:World)(B:Base)(f:Fx)(A:Around)(t:Sem Flow)(r:PR):Prop:=∀ (E:Value→Shared→Prop) (ω:Wd) (st:St) (s:Shared) (K:St→Prop),Rel B f ω st s→r K st →
 (∀ st' ω' s' h' e,ω.Le ω'→Rel B f ω' st' s'→K st'→Heap.NewExc s'.heap h' e "AssertionError"→E (.ref e) { s' with heap:=h' })→wpAny (model prog w) A t (fun _ _=>False) E s
inductive Thrown(B:Base)(f:Fx)(ω:Wd)(K:St→Prop)(e:Addr)(s':Shared):Prop
 | mk (st':St) (ω':Wd) (s₂:Shared) (x:Addr) (a0:Value) (h':Heap) (l:ω.Le ω') (R:Rel B f ω' st' s₂) (ap:Apart B f ω' x) (q:K st') (fl:Heap.FlyingW (hideAll s₂.heap [x,f.L]) [f.env] e (.type "AssertionError") a0 h') (hu:s₂.heap.UpToSlots h') (hs:s'={ s₂ with heap:=h' })
section
variable{prog:Program}{w:World}{B:Base}{f:Fx}{A:Around}{E:Value→Shared→Prop}{ω ω':Wd}{st:St}{s:Shared}
theorem Thrown.le{K:St→Prop}{e:Addr}(l:ω.Le ω')(h:Thrown B f ω' K e s):Thrown B f ω K e s :=
 h.casesOn fun st s₂ s₃ x a0 h' l' R ap q fl hu hs=>⟨st,s₂,s₃,x,a0,h',l.trans l',R,ap,q,fl,hu,hs⟩
theorem Zvx(hh:A.handled=none){t:Expr}{p:Pos}{ss:List Stmt}{env:Env}{T:PB}(h:EB prog w B f A (isTrue t env (eval t env)) T):ER prog w B f A (execs (.Assert t none p :: ss) env) (rX T):=by
 intro E ω st s K R hq k;refine wpAny_execs_cons (wpAny_Assert_new hh (h.to R hq fun c s₁ st₁ ω₁ l₁ R₁ q0=>?_));obtain ⟨hc,q⟩:=q0;subst hc;rw [if_neg Bool.false_ne_true];exact fun h' e hx=>k st₁ ω₁ s₁ h' e l₁ R₁ q hx
theorem Rel.flown(R:Rel B f ω st s){x:Addr}(ap:Apart B f ω x){h':Heap}(hk:(hideAll s.heap [x,f.L]).StaysIn h')(hu:s.heap.UpToSlots h'):Rel B f ω st { s with heap:=h' }:=by
 have kp:∀ b o,b≠x→b≠f.L→s.heap.get? b=some o→h'.get? b=some o:=fun b o h1 h2 e=>hk b o (hideAll_get _ e fun q=>by
  simp only [List.mem_cons,List.not_mem_nil,or_false] at q
  exact q.elim h1 h2)
 obtain ⟨m,hn,hl⟩:=R.fr;refine ⟨fun a ob e=>kp a ob (fun q=>?_) (R.neF e (.head _)) (R.keep a ob e),fun a ob e=>⟨kp a ob (fun q=>?_) (R.neH e (.head _)) (R.held a ob e).1,(R.held a ob e).2⟩,R.base,R.above,⟨m,hu.ns hn,hl⟩,R.size,fun i d c h1 h2=>?_,R.dis,R.off,R.gens,R.cls,R.tk,R.bx⟩
 ·rw [q,ap.noF] at e; exact nn e
 ·rw [q,ap.noH] at e; exact nn e
 ·have hd:d≠x:=fun q=>ap.new (q ▸ .tail _ (Yw h1));have hL:d≠f.L:=fun q=>(Yu.mp R.dis).1 (q ▸ Yw h1);have:=R.cells i d c h1 h2;cases c with
  | list vs=>obtain ⟨ws,n,a,b⟩:=this; exact ⟨ws,n,kp _ _ hd hL a,b⟩
  | inst as=>obtain ⟨z,es,n,a,b⟩:=this; exact ⟨z,es,n,kp _ _ hd hL a,b⟩
  | box u=>obtain ⟨o,y,a,b⟩:=this; exact ⟨o,y,kp _ _ hd hL a,b⟩
  | dct ks vs=>obtain ⟨lo,o,ws,a,b⟩:=this; exact ⟨lo,o,ws,kp _ _ hd hL a,b⟩
structure DefRaises(prog:Program)(w:World)(n:Nat){fa:Addr}{fd:FuncData}{body:List Stmt}{names:List Str}{np:Nat}(D:DefAt B fa fd body names np)(T:PB):Prop where
 run:∀ (L:Addr) (A:Around),Room A n→ER prog w B (D.fx L) A (execs body (D.fx L).env) (rX T)
noncomputable def callRz(np nl:Nat)(T:PB)(vs:List V)(K:St→Prop)(st:St):Prop :=
 vs.length=np∧T (fun b st₂=>b=false∧K ⟨st.loc,st₂.cells⟩) ⟨vs.map some++List.replicate (nl - np) none,st.cells⟩
theorem Zkd{n:Nat}(O:TopOk w B)(R:Rel B f ω st s)(room:Room A (n + 1))(hf:OneFrame f A)(hkd:f.scope.kind=.function){fa:Addr}{fd:FuncData}{body:List Stmt}{names:List Str}{np:Nat}(D:DefAt B fa fd body names np){T:PB}(hX:DefRaises prog w n D T)
  {vs:List V} {xs:List Value} (hv:VRs ω vs xs) {K:St→Prop} (hq:callRz np names.length T vs K st) (hE:∀ e s',Thrown B f ω K e s'→E (.ref e) s'):codeAny (model prog w) A (.call (.ref fa) ⟨xs,[]⟩) (fun r s'=>match r with | .ok _=>False | .error e=>E e s') s:=by
 obtain ⟨o,ho,hdat⟩:=D.obj;obtain ⟨p,Zfu,mg,mb,TT⟩:=O.top;obtain ⟨oL,hL,⟨esL,nL,hdL⟩,m,hm,hl⟩:=R.frameObj;obtain ⟨hlen,hq⟩:=hq;have hxs:xs.length=np:=hv.length.symm.trans hlen;refine codeAny_call_def (binds:=(names.take np).zip xs) (by have:=room.2.2; omega) (R.hk _ _ ho) hdat (TT.nolimit.keeps R.hk) (D.code.keeps R.hk) D.body (.of_eq (D.bind xs hxs)) D.nocell ?_ ?_ D.co D.gen D.kind
 ·intro x hx;exact D.loc x.1 (List.mem_of_mem_take (List.of_mem_zip (a:=x.1) (b:=x.2) hx).1)
 ·intro h₀ hns hk;have hen:callEnv fd s.heap.objs.size fa=(D.fx s.heap.objs.size).env:=by
   delta callEnv DefAt.fx Fx.env newEnv;rw [D.glob,D.clo,D.blt]
  rw [hen];have hloc:∀ (i:Nat) (x:Str) (v:V),names[i]?=some x→(vs.map some++List.replicate (names.length - np) none)[i]?=some (some v)→∃ y,((names.take np).zip xs).reverse.lookup x=some y∧VR ω v y:=by
   intro i x v h1 h2
   by_cases hi:i < np
   ·rw [List.getElem?_append_left (by rw [List.length_map,hlen]; exact hi)] at h2;obtain ⟨y,hy,hr⟩:=hv.getElem h2;refine ⟨y,Zaj (D.nd.sublist (Yan _ _)) (i:=i) ?_ hy,hr⟩;rw [List.getElem?_take_of_lt hi]; exact h1
   ·rw [List.getElem?_append_right (by rw [List.length_map,hlen]; omega)] at h2;have:=Yw h2;rw [List.mem_replicate] at this;exact absurd this.2 (fun q=>nomatch q)
  obtain ⟨l,R₁⟩:=R.enter (g:=D.fx s.heap.objs.size) hL (h₀:=h₀) (k:=s.toks + ((names.take np).zip xs).length) hk (Yaa _) hns hloc (fun _ _ e=>nomatch e) (Yam _ _);have hi:=R.high (Yaa s.heap.objs.size);refine wpAny_mono (hX.run s.heap.objs.size _ (room.deeper _) _ _ _ _ _ R₁ hq (fun st₂ ω₂ s₂ h' e l₂ R₂ q hx=>?_)) (fun _ _ z=>z.elim) fun _ _ z=>z;obtain ⟨le,R₃⟩:=R.leave hL hm hl l₂ R₂;have eL:s₂.heap.get? f.L=some oL:=(R₂.held _ _ (l₂.H _ _ Wd.hold_self)).1;obtain ⟨mg,⟨og,esg,ng,hog,hdg,_⟩,_⟩:=R₂.fr;obtain ⟨ob,tp,he,hcls,hd⟩:=hx.there;have hgL:(D.fx s.heap.objs.size).L=s.heap.objs.size:=rfl;have st':(hideAll s₂.heap [s.heap.objs.size,f.L]).StaysIn h':=fun b o q=>hx.keeps b o (of_hideAll _ q);refine wpAny_leaving_firstW (base:=hideAll s₂.heap [s.heap.objs.size,f.L]) (outer:=[f.env]) (Around.frames_deeper hf.fr) ?_ rfl he st' ?_ hd rfl rfl fun h'' hL2=>?_
  ·refine ⟨fun z=>?_,⟨s.heap.objs.size,og,rfl,hideAll_none _ (.head _),hx.keeps _ _ hog,fun vs q=>by rw [hdg] at q; cases q⟩,fun z=>?_,⟨f.L,oL,hf.at',hideAll_none _ (.tail _ (.head _)),hx.keeps _ _ eL,fun vs q=>by rw [hdL] at q; cases q⟩,trivial⟩
   ·have:fd.scope.kind=.module:=z;rw [D.kind] at this; cases this
   ·have:f.scope.kind=.module:=z;rw [hkd] at this; cases this
  ·cases q:(hideAll s₂.heap [s.heap.objs.size,f.L]).get? e with
   | none=>rfl
   | some o=>have:=of_hideAll _ q; rw [hx.new] at this; cases this
  ·obtain ⟨k1,⟨_,_,k2⟩,k3,k4⟩:=hL2;refine hE e _ ⟨_,_,s₂,s.heap.objs.size,tp,h'',le,R₃,⟨(R₂.off _ (.head _)).1,hi.2.1,fun z=>?_⟩,q,⟨k1,?_,k2,hcls ▸ k3⟩,(Heap.UpToSlots.of_keeps hx.keeps).trans k4,rfl⟩
   ·rcases Ym.mp z with z | z
    ·exact hi.2.2 (z ▸ .head _)
    ·exact (Yu.mp R₂.dis).1 z
   ·cases q:(hideAll s₂.heap [s.heap.objs.size,f.L]).get? e with
    | none=>rfl
    | some o=>have:=of_hideAll _ q; rw [hx.new] at this; cases this
noncomputable def Zuc(np nl:Nat)(T:PB)(P:PE)(Ps:PL):PR:=fun K=>P fun v st=>(∃ n as,v=.inst n∧st.cells[n]?=some (.inst as))∧Ps (fun vs st=>callRz np nl T (v :: vs) K st) st
theorem er_meth{n:Nat}(O:TopOk w B)(room:Room A (n + 1))(hf:OneFrame f A)(hkd:f.scope.kind=.function){name:Str}{fa:Addr}{fd:FuncData}{body:List Stmt}{names:List Str}{np:Nat}(D:DefAt B fa fd body names np){T:PB}(hX:DefRaises prog w n D T)(Mt:MethAt w B name fa)
  {o:Expr} {apos pos:Pos} {es:List Expr} {env:Env} {P:PE} {Ps:PL} (ho:EV prog w B f A (eval o env) P) (hb:Zs o=true) (hline:(apos.endLine == pos.line)=true)
  (hp:es.all Zf=true) (hfew:((backTo pos (starEach es env)).all (fun x=>!x.1) && (backToKw pos (keywordEach [] env)).all (fun x=>x.1.isSome)
   && decide (es.length + ([]:List Keyword).length + (if ([]:List Keyword).isEmpty then 0 else 1) < 30))=true) (h:EL prog w B f A (spliced (backTo pos (starEach es env))) Ps)
  (R:Rel B f ω st s) {K:St→Prop} (hq:Zuc np names.length T P Ps K st) (hE:∀ e s',Thrown B f ω K e s'→E (.ref e) s') :
  wpAny (model prog w) A (eval (.Call (.Attribute o name apos) es [] pos) env) (fun _ _=>False) E s:=by
 rw [arm_eval_Call,Zab hb];refine wpAny_bind (ho.to R hq (fun ov s₁ v st₁ ω₁ l₁ va R₁ q0=>?_));obtain ⟨⟨c,as,hv,hc⟩,q⟩:=q0;subst hv;cases va with
 | @inst _ x d e hd =>
  obtain ⟨es',k,I,_,_,_,_,_,_,c3⟩:=InstAt.of_rel R₁ e hd hc;obtain ⟨m,F,_⟩:=R₁.frame;refine wpAny_bind (wpAny_standAt ?_);have hform:methodCallForm (es.length + ([]:List Keyword).length) (backTo pos (starEach es env)) (backToKw pos (keywordEach [] env))=true:=hfew;have hpos:methodCallPos true o env apos pos=pure pos:=by unfold methodCallPos; simp [hline]
  unfold methodCall;rw [hform];refine wpAny_bind (wpAny_holding (method_inst F O.X I (O.hg name) Mt.find Mt.fn (c3 name Mt.noattr) ?_));refine wpAny_bind (wpAny_of_eq hpos ?_);obtain ⟨o',ho',hdat⟩:=D.obj;refine callWith_function (o:=o') (fd:=fd) (Zfc hp h R₁ q (fun a s₂ vs st₂ ω₂ l₂ vb R₂ q₂=>?_));refine ⟨⟨R₂.hk _ _ ho',hdat⟩,?_⟩;refine wpAny_call (codeAny_mono (Zkd (E:=E) O R₂ room hf hkd D hX (.cons ((VR.inst e hd).mono l₂) vb) q₂ fun e s' z=>hE e s' (z.le (l₁.trans l₂))) fun r s' z=>?_);cases r with
  | ok r=>exact z.elim
  | error e=>exact z
noncomputable def xTry(r:PR):PX:=fun Q=>r (Q .next)
theorem ex_try{e:Expr}{ss:List Stmt}{p p1 p2 p3 np:Pos}{r:PR}(O:TopOk w B)(hf:OneFrame f A)(hkd:f.scope.kind=.function)(G:GlobAt B "AssertionError" (.type "AssertionError"))(hx:f.scope.names.lookup ("AssertionError":Str)=some .globalImplicit)
  (hi:interactive f.env=false) (hs:swapsWith e none p1.line f.env=pure false)
  (h:∀ (E:Value→Shared→Prop) (ω:Wd) (st:St) (s:Shared) (K:St→Prop),Rel B f ω st s→r K st→(∀ e s',Thrown B f ω K e s'→E (.ref e) s')→wpAny (model prog w) A (eval e f.env) (fun _ _=>False) E s) :
  EX prog w B f A (exec (.Try (.Expr e p1 :: ss) [.ExceptHandler (some (.Name "AssertionError" np)) none [.Pass p2] p3] [] [] p) f.env) (xTry r):=by
 intro E ω st s Q R hq;refine wpAny_Try_except (wpAny_execs_cons (wpAny_Expr_any (wpAny_mono (h (fun e s₁=>wpAny (model prog w) A (noteFrame e f.env) (fun _ s₂=>wpAny (model prog w) A (setFlight e none) (fun _ s₃=>wpAny (model prog w) A (handleBy e f.env [.ExceptHandler (some (.Name "AssertionError" np)) none [.Pass p2] p3]) (PostX B f ω Q) E s₃) E s₂) E s₁) ω st s _ R hq fun e s' z=>?_) (fun _ _ z=>z.elim) fun _ _ z=>z) hi hs));obtain ⟨st',ω',s₂,x,a0,h',l,R',ap,q,fl,hu,rfl⟩:=z;refine wpAny_looks_onW hf.fr hf.at' fl fun h₄ hheld₄ u₄=>?_;refine wpAny_landsW hheld₄ fun h₅ fl₅ u₅=>?_;have hu₅:=(hu.trans u₄).trans u₅;have R₅:Rel B f ω' st' { s₂ with heap:=h₅ }:=R'.flown ap fl₅.1 hu₅;obtain ⟨ob,hob,hobc⟩:=fl₅.there;refine wpAny_handleBy_builtin (X:="AssertionError") (T:="AssertionError") (b:=true) PySem.F.isExc_AssertionError PySem.F.notTuple_AssertionError PySem.F.self_AssertionError (Zat O R₅ G hkd hx (by decide) ⟨rfl,⟨ob,hob,hobc⟩,?_⟩);refine lands_againW fl₅ fun h₆ fl₆ u₆=>?_;have R₆:Rel B f ω' st' { s₂ with heap:=h₆ }:=R'.flown ap fl₆.1 (hu₅.trans u₆);exact up ((Zvu Zvt ex_nil:EX prog w B f _ (execs [.Pass p2] f.env) (Zb xNil xNil)) _ ω' st' _ Q R₆ q) fun _ _ z=>z.le l
end
end Mine
end
section
set_option tactic.hygienic true
open PySem PySem.W PySem.Calls PyProof.Rows
namespace Mine
noncomputable def txts(ks:List (List Nat)):List Str:=ks.map fun k=>⟨k.toArray⟩
noncomputable def dP:List (Option Expr)→List Expr→Env→Pos→List (Sem Value × Sem Value)
 | some k :: ks,v :: vs,env,pos=>(eval k env,(do let x ← eval v env; standAt pos; pure x)) :: dP ks vs env pos
 | _,_,_,_=>[]
noncomputable def pDct(ks:List (List Nat))(Ps:PL):PE:=fun Q=>Ps fun vs st=>vs.length=ks.length∧Q (.ref st.cells.length) { st with cells:=st.cells++[.dct ks vs] }
theorem Zdk{α:Type}(k:List Nat)(ks:List (List Nat))(w:α)(ws:List α)(x:Str):Zbq (k :: ks) (w :: ws) x=if x=⟨k.toArray⟩ then some w else Zbq ks ws x:=rfl
theorem Zqc:∀ (ks:List (List Nat)) (ws:List Value) (x:Str),valueAt ((txts ks).zip ws) x=Zbq ks ws x
 | [],ws,x=>by cases ws <;> rfl
 | k :: ks,[],x=>rfl
 | k :: ks,w :: ws,x=>by
  have ih:=Zqc ks ws x;rw [Zdk,← ih];show (List.find? _ ((⟨k.toArray⟩,w) :: (txts ks).zip ws)).map _=_;rw [List.find?_cons]
  by_cases h:x=⟨k.toArray⟩
  ·rw [if_pos h,decide_eq_true h.symm]; rfl
  ·rw [if_neg h,decide_eq_false (Ne.symm h)]; rfl
theorem Zsz{a b:List Nat}(h:(⟨a.toArray⟩:Str)=⟨b.toArray⟩):a=b:=by
 have:=congrArg (fun s:Str=>s.cps.toList) h;simpa using this
theorem Zqn{ks:List (List Nat)}(h:ks.Nodup):(txts ks).Nodup:=List.Pairwise.map _ (fun a b hab q=>hab (Zsz q)) h
theorem Zgx{ω:Wd}:∀ {ks:List (List Nat)} {vs:List V} {ws:List Value},VRs ω vs ws→∀ (x:Str),(∀ v,Zbq ks vs x=some v→∃ y,Zbq ks ws x=some y∧VR ω v y)∧(Zbq ks vs x=none→Zbq ks ws x=none)
 | [],vs,ws,_,x=>⟨fun v h=>(by cases vs <;> exact nn h),fun _=>(by cases ws <;> rfl)⟩
 | k :: ks,_,_,.nil,x=>⟨fun v h=>nn h,fun _=>rfl⟩
 | k :: ks,_,_,.cons (v:=v) (vs:=vs) (x:=y) (xs:=ws) a b,x=>by
  rw [Zdk,Zdk]
  by_cases h:x=⟨k.toArray⟩
  ·rw [if_pos h,if_pos h]; exact ⟨fun v h=>by cases h; exact ⟨_,rfl,a⟩,fun h=>nn h.symm⟩
  ·rw [if_neg h,if_neg h]; exact Zgx b x
section
variable{prog:Program}{w:World}{B:Base}{f:Fx}{A:Around}{E:Value→Shared→Prop}{ω:Wd}{st:St}{s:Shared}
inductive PostD(prog:Program)(w:World)(B:Base)(f:Fx)(ω:Wd)(ks:List (List Nat))(Q:List V→St→Prop)(kvs:List (Value × Value))(s':Shared):Prop
 | mk (vs:List V) (ws:List Value) (st':St) (ω':Wd) (l:ω.Le ω') (c:vs.length=ks.length→Carries (strKind prog w) kvs ((txts ks).zip ws)) (r:VRs ω' vs ws) (R:Rel B f ω' st' s') (q:Q vs st')
structure ED(prog:Program)(w:World)(B:Base)(f:Fx)(A:Around)(pos:Pos)(keys:List (Option Expr))(values:List Expr)(ks:List (List Nat))(Ps:PL):Prop where
 shape:(evalEachOpt keys f.env).zip ((evalEach values f.env).map fun v=>do let x ← v; standAt pos; pure x)=(dP keys values f.env pos).map fun p=>(some p.1,p.2)
 len:(dP keys values f.env pos).length=ks.length
 run:∀ (E:Value→Shared→Prop) (ω:Wd) (st:St) (s:Shared) (Q:List V→St→Prop),Rel B f ω st s→Ps Q st→wpAny (model prog w) A (evalPairs (dP keys values f.env pos)) (PostD prog w B f ω ks Q) E s
theorem ed_nil{pos:Pos}:ED prog w B f A pos [] [] [] pNil:=⟨rfl,rfl,fun E ω st s Q R h=>evalPairs_nil ⟨[],[],st,ω,.refl ω,fun _=>trivial,.nil,R,h⟩⟩
theorem ed_cons{pos p:Pos}{x:Str}{n:Nat}{v:Expr}{keys:List (Option Expr)}{values:List Expr}{ks:List (List Nat)}{P:PE}{Ps:PL}(h:EV prog w B f A (eval v f.env) P)(h':ED prog w B f A pos keys values ks Ps) :
  ED prog w B f A pos (some (.Constant (.str x) n p) :: keys) (v :: values) (x.cps.toList :: ks) (Za P Ps):=by
 refine ⟨?_,congrArg (· + 1) h'.len,fun E ω st s Q R hq=>?_⟩
 ·exact congrArg (List.cons _) h'.shape
 ·refine evalPairs_cons ((ev_str (f:=f) (env:=f.env)).to (Q:=fun u st'=>u=.str x.cps.toList∧st'=st) R ⟨rfl,rfl⟩ fun kx s₁ u st₁ ω₁ l₁ vk R₁ q1=>?_);obtain ⟨rfl,rfl⟩:=q1;obtain ⟨t,rfl⟩:=vk.str_inv;refine wpAny_bind (h.to R₁ hq fun y s₂ u st₂ ω₂ l₂ va R₂ q2=>wpAny_bind (wpAny_standAt (wpAny_pure ?_)));refine up (h'.run E ω₂ st₂ s₂ _ R₂ q2) fun kvs s₃ z=>?_;obtain ⟨vs,ws,st₃,ω₃,l₃,c,r,R₃,q3⟩:=z;refine ⟨u :: vs,y :: ws,st₃,ω₃,(l₁.trans l₂).trans l₃,fun hl=>⟨?_,rfl,c (Nat.succ.inj hl)⟩,.cons (va.mono l₃) r,R₃,q3⟩;show Value.isStrOf _ (.str _ t)=true;simp [Value.isStrOf]
theorem Rel.two(R:Rel B f ω st s)(O:TopOk w B):1 < s.heap.objs.size:=by
 obtain ⟨p,Zfu,mg,mb,T⟩:=O.top;have h1:=R.above;have h2:=R.cell_lt (d:=f.L) (.head _);obtain ⟨_,_,_,hg,_⟩:=T.g;have h3:=Yk hg;lia
theorem ev_dct(O:TopOk w B){keys:List (Option Expr)}{values:List Expr}{pos:Pos}{ks:List (List Nat)}{Ps:PL}(h:ED prog w B f A pos keys values ks Ps)(h0:ks≠[])(hl:ks.length≤15)(hn:ks.Nodup):EV prog w B f A (eval (.Dict keys values pos) f.env) (pDct ks Ps):=by
 intro E ω st s Q R hq;have h1:dP keys values f.env pos≠[]:=fun z=>h0 (Ycd (h.len ▸ by rw [z]; rfl));have lo:=R.two O;have R0:=R.keeps (h':=s.heap.push { cls:=.type "dict",data:=.dict #[] }) (k:=s.toks) (fun b o e=>Yp _ e);have hd:(s.heap.push { cls:=.type "dict",data:=.dict #[] }).get? s.heap.objs.size=some { cls:=.type "dict",data:=.dict #[] }:=Yq _ rfl;obtain ⟨a1,a2,a3⟩:=R.high (Yaa s.heap.objs.size);obtain ⟨l1,R1⟩:=R0.holdH hd a1 a2 a3;have ap:Apart B f ω s.heap.objs.size:=⟨a1,a2,a3⟩;refine wpAny_Dict_pairs (knd:=strKind prog w) h.shape h1 (h.len ▸ hl) (up (h.run E _ _ _ _ R1 hq) fun kvs s₁ z=>?_);obtain ⟨vs,ws,st₁,ω₁,l₂,c,r,R₂,hlen,q⟩:=z;obtain ⟨l3,R3,ap3,g3⟩:=ap.again l₂ R₂;refine ⟨_,c hlen,⟨_,#[],0,g3,⟨rfl,rfl,rfl⟩,rfl,fun _ he=>by simp at he,Pairs.nil,Yah⟩,fun h' hD hs=>?_⟩;have R4:=R3.other ap3 (k:=s₁.toks + kvs.length) hs.extBut (Yam _ _);have hz:((txts ks).zip ws).map (·.1)=txts ks:=List.map_fst_zip (by unfold txts; rw [List.length_map,← hlen,r.length]; exact Yaa _);rw [merged_nil_of_nodup _ (by rw [hz]; exact Zqn hn)] at hD;obtain ⟨o,es,ep,ho,hx,hdat,hk,hfb⟩:=hD.mapOf;have R5:=R4.addC (c:=.dct ks vs) ap3.noF ap3.noH ap3.new ⟨lo,o,ws,ho,⟨hx,es,ep,hdat,fun e he=>?_,fun k=>(hfb k).trans (Zqc ks ws k)⟩,r.free.mono Wd.le_addC⟩
 ·exact ⟨.ref st₁.cells.length,_,_,l3.trans Wd.le_addC,.ref (by rw [← R4.size]; exact Wd.addC_get),R5,q⟩
 ·obtain ⟨k,h1,h2⟩:=hk e he;exact ⟨k,h1,by rw [O.hash]; exact h2⟩
theorem dct_at(O:TopOk w B)(R:Rel B f ω st s){n:Nat}{d:Addr}{ks:List (List Nat)}{vs:List V}(hd:ω.cs[n]?=some d)(hc:st.cells[n]?=some (.dct ks vs)):(d == sysModules)=false∧∃ ws,s.heap.MapOf (strKind prog w) d (Zbq ks ws)∧VRs ω vs ws:=by
 obtain ⟨lo,o,ws,ho,⟨hx,es,ep,hdat,hk,hfb⟩,r⟩:=R.cells n d _ hd hc;refine ⟨beq_eq_false_iff_ne.mpr fun z=>by rw [z] at lo; exact absurd lo (by decide),ws,⟨o,es,ep,ho,hx,hdat,fun e he=>?_,hfb⟩,r⟩;obtain ⟨k,h1,h2⟩:=hk e he;exact ⟨k,h1,by rw [h2,O.hash]; rfl⟩
theorem is_str(x:List Nat)(t:PySem.Tok):(strKind prog w).is ⟨x.toArray⟩ (.str ⟨x.toArray⟩ t)=true:=by show Value.isStrOf _ (.str _ t)=true; simp [Value.isStrOf]
noncomputable def pHas(P P':PE):PE:=fun Q=>P fun a=>P' fun b st=>∃ x n ks vs,a=.str x∧b=.ref n∧st.cells[n]?=some (.dct ks vs)∧Q (.bool (Zbq ks vs ⟨x.toArray⟩).isSome) st
theorem eb_has(O:TopOk w B){l r:Expr}{pos:Pos}{env:Env}{whole:Sem Value}{P₁ P₂:PE}(h₁:EV prog w B f A (eval l env) P₁)(h₂:EV prog w B f A (eval r env) P₂)(hm:behindInMarks .In r=false) :
  EB prog w B f A (isTrue (.Compare l [.In] [r] pos) env whole) (tE (pHas P₁ P₂)):=by
 intro E ω st s Q R h;refine wpAny_isTrue_Compare1 (h₁.to R h (fun x s₁ a st₁ ω₁ l₁ va R₁ h'=>?_)) hm;refine h₂.to R₁ h' (fun y s₂ b st₂ ω₂ l₂ vb R₂ q0=>?_);obtain ⟨z,n,ks,vs,rfl,rfl,hc,c,hc',q⟩:=q0;obtain ⟨t,rfl⟩:=(va.mono l₂).str_inv;cases vb with
 | @ref _ d hd =>
  obtain ⟨hs,ws,hm,r⟩:=dct_at (prog:=prog) O R₂ hd hc;refine wpAny_in_of (is_str z t) hs hm ?_;have e:(Zbq ks ws ⟨z.toArray⟩).isSome=(Zbq ks vs ⟨z.toArray⟩).isSome:=by
   obtain ⟨g1,g2⟩:=Zgx (ks:=ks) r ⟨z.toArray⟩;cases q:Zbq ks vs ⟨z.toArray⟩ with
   | none=>rw [g2 q]; rfl
   | some v=>obtain ⟨y,e,_⟩:=g1 v q; rw [e]; rfl
  rw [e];exact up (Zee R₂.toks (.bool _) hc' q) fun _ _ z=>z.le (l₁.trans l₂)
noncomputable def pGet(P P':PE):PE:=fun Q=>P fun a=>P' fun b st=>∃ x n ks vs v,b=.str x∧a=.ref n∧st.cells[n]?=some (.dct ks vs)∧Zbq ks vs ⟨x.toArray⟩=some v∧Q v st
theorem ev_get(O:TopOk w B){v i:Expr}{pos:Pos}{env:Env}{P₁ P₂:PE}(h₁:EV prog w B f A (eval v env) P₁)(h₂:EV prog w B f A (eval i env) P₂)(hs:Zay i=true):EV prog w B f A (eval (.Subscript v i pos) env) (pGet P₁ P₂):=by
 intro E ω st s Q R h;refine Subscript_ (h₁.to R h (fun x s₁ a st₁ ω₁ l₁ va R₁ h'=>?_));refine h₂.to R₁ h' (fun y s₂ b st₂ ω₂ l₂ vb R₂ q0=>?_);obtain ⟨z,n,ks,vs,u,rfl,rfl,hc,e,q⟩:=q0;obtain ⟨t,rfl⟩:=vb.str_inv;cases va.mono l₂ with
 | @ref _ d hd =>
  obtain ⟨_,ws,hm,r⟩:=dct_at (prog:=prog) O R₂ hd hc;obtain ⟨y,e',vy⟩:=(Zgx (ks:=ks) r ⟨z.toArray⟩).1 u e;exact tail_any hm.typeIs PySem.F.slot_dict_getitem.lookup (wpAny_getItem_of (is_str z t) hm e' ⟨u,st₂,ω₂,l₁.trans l₂,vy,R₂.toks,q⟩) (Zdj hs _ _)
end
mutual
noncomputable def Zfs(cells:List Cell):V→Option PyData
 | .none=>some .none
 | .bool b=>some (.bool b)
 | .int i=>some (.int i)
 | .str x=>some (.str ⟨x.toArray⟩)
 | .tup vs=>(Zgd cells vs).map .tuple
 | .lst vs=>(Zav vs).map .list
 | .ref n=>(match cells[n]? with
  | some (.list vs)=>(Zav vs).map .list
  | _=>none)
 | _=>none
noncomputable def Zgd(cells:List Cell):List V→Option (List PyData)
 | []=>some []
 | v :: vs=>match Zfs cells v,Zgd cells vs with
  | some d,some ds=>some (d :: ds)
  | _,_=>none
end
noncomputable def pNeC(P P':PE):PE:=fun Q=>P fun a=>P' fun b st=>∃ d d',Zfs st.cells a=some d∧Zfs st.cells b=some d'∧d.canLay0=true∧d'.canLay0=true∧min d.depth d'.depth≤64∧Q (.bool (!PyData.eqv d d')) st
section
variable{prog:Program}{w:World}{B:Base}{f:Fx}{A:Around}{E:Value→Shared→Prop}{ω:Wd}{st:St}{s:Shared}
theorem Rel.readsC(R:Rel B f ω st s){v:V}{x:Value}{d:PyData}(r:VR ω v x)(e:Zfs st.cells v=some d):∃ as,Reads s.heap x d as:=by
 have lists:∀ {vs:List V} {ws:List Value} {ds:List PyData},VRs ω vs ws→Zav vs=some ds→∃ as,ReadsAll s.heap ws ds as:=by
  intro vs ws ds r e
  induction vs generalizing ws ds with
  | nil=>cases r; cases e; exact ⟨_,.nil⟩
  | cons v vs ih =>
   cases r with
   | cons a b =>
    have e:(match toPy v,Zav vs with | some d,some ds=>some (d :: ds) | _,_=>Option.none)=some ds:=e;cases e1:toPy v with
    | none=>rw [e1] at e; cases e
    | some d =>
     cases e2:Zav vs with
     | none=>rw [e1,e2] at e; cases e
     | some ds' =>
      rw [e1,e2] at e; cases e;obtain ⟨as,p⟩:=a.reads R.keep e1;obtain ⟨bs,q⟩:=ih b e2;exact ⟨_,.cons p q⟩
 refine VR.rec (motive_1:=fun v x _=>∀ d,Zfs st.cells v=some d→∃ as,Reads s.heap x d as) (motive_2:=fun vs xs _=>∀ ds,Zgd st.cells vs=some ds→∃ as,ReadsAll s.heap xs ds as)
  ?_ ?_ ?_ ?_ ?_ ?_ ?_ ?_ ?_ ?_ ?_ ?_ ?_ r d e
 ·intro d e; cases e; exact ⟨_,.none⟩
 ·intro b d e; cases e; exact ⟨_,.bool b⟩
 ·intro i t d e; cases e; exact ⟨_,.int i t⟩
 ·intro x t d e; cases e; exact ⟨_,.str _ t⟩
 ·intro vs ws a n e1 _ ih d e;obtain ⟨ds,e',rfl⟩:=Yv.mp (show (Zgd st.cells vs).map PyData.tuple=some d from e);obtain ⟨as,q⟩:=ih ds e';exact ⟨_,.tuple (R.keep _ _ e1) rfl rfl q⟩
 ·intro vs ws a n e1 r1 ih d e;obtain ⟨ds,e',rfl⟩:=Yv.mp (show (Zav vs).map PyData.list=some d from e);obtain ⟨as,q⟩:=lists r1 e';exact ⟨_,.list (R.keep _ _ e1) rfl rfl q⟩
 ·intro n a hn d e;have e:(match st.cells[n]? with | some (.list vs)=>(Zav vs).map PyData.list | _=>Option.none)=some d:=e;cases hc:st.cells[n]? with
  | none=>rw [hc] at e; cases e
  | some c =>
   rw [hc] at e;cases c with
   | list vs =>
    obtain ⟨ds,e',rfl⟩:=Yv.mp (show (Zav vs).map PyData.list=some d from e);obtain ⟨ws,k,ho,r1⟩:=Zbj R hn hc;obtain ⟨as,q⟩:=lists r1 e';exact ⟨_,.list ho rfl rfl q⟩
   | _=>cases e
 ·intros; rename_i e; exact nn e
 ·intros; rename_i e; exact nn e
 ·intros; rename_i e; exact nn e
 ·intros; rename_i e; exact nn e
 ·intro ds e; cases e; exact ⟨_,.nil⟩
 ·intro v vs x xs _ _ h1 h2 ds e;have e:(match Zfs st.cells v,Zgd st.cells vs with | some d,some ds=>some (d :: ds) | _,_=>Option.none)=some ds:=e;cases e1:Zfs st.cells v with
  | none=>rw [e1] at e; cases e
  | some d =>
   cases e2:Zgd st.cells vs with
   | none=>rw [e1,e2] at e; cases e
   | some ds' =>
    rw [e1,e2] at e; cases e;obtain ⟨as,p⟩:=h1 d e1;obtain ⟨bs,q⟩:=h2 ds' e2;exact ⟨_,.cons p q⟩
theorem eb_neC(hu:A.units + 64 < cLine){l r:Expr}{pos:Pos}{env:Env}{whole:Sem Value}{P₁ P₂:PE}(h₁:EV prog w B f A (eval l env) P₁)(h₂:EV prog w B f A (eval r env) P₂)(hm:behindInMarks .NotEq r=false) :
  EB prog w B f A (isTrue (.Compare l [.NotEq] [r] pos) env whole) (tE (pNeC P₁ P₂)):=by
 intro E ω st s Q R h;refine wpAny_isTrue_Compare1 (h₁.to R h (fun x s₁ a st₁ ω₁ l₁ va R₁ h'=>?_)) hm;refine h₂.to R₁ h' (fun y s₂ b st₂ ω₂ l₂ vb R₂ q0=>?_);obtain ⟨d,d',e,e',c1,c2,hd,c,hc',q⟩:=q0;obtain ⟨as,p1⟩:=R₂.readsC (va.mono l₂) e;obtain ⟨bs,p2⟩:=R₂.readsC vb e';refine PySem.SeqAt.compareNe_reads p1 p2 c1 c2 (Yh (Yal hd _) hu) ?_;exact up (Zee R₂ (.bool _) hc' q) fun _ _ z=>z.le (l₁.trans l₂)
end
end Mine
end
section
open PySem PySem.W PySem.Calls PyProof.Rows
namespace Mine
inductive G where
 | val (v:V)
 | len | tuple | range
 | mm (mx:Bool)
 | fn (np nl:Nat) (X:PX)
 | cls (na np nl:Nat) (X:PX)
 | rex (k:RK)
 | trans
 | zip
 | rz (np nl:Nat) (T:PB)
 | exc
structure Ctx where
 names:List Str
 sc:Scope
 attrs:List Str
 globs:List (Str × G)
 meths:List (Str × Nat × Nat × PX)
 tr:Pos→Bool
 bx:List (Str × Nat)
noncomputable def at?:List Str→Str→Option Nat
 | [],_=>none
 | y :: l,x=>if y == x then some 0 else (at? l x).map (· + 1)
theorem Zxm:∀ {l:List Str} {x:Str} {i:Nat},at? l x=some i→l[i]?=some x
 | [],_,_,h=>by cases h
 | y :: l,x,i,h=>by
  unfold at? at h
  split at h
  ·rename_i q; cases h; rw [eq_of_beq q]; rfl
  ·obtain ⟨j,hj,rfl⟩:=Yv.mp h; exact show l[j]?=some x from Zxm hj
noncomputable def Ctx.loc(c:Ctx)(x:Str):Option Nat:=if (x == ("__debug__":Str))=true then none else at? c.names x
noncomputable def Ctx.box(c:Ctx)(x:Str):Option Nat:=if (x == ("__debug__":Str))=true then none else c.bx.lookup x
noncomputable def Ctx.glob(c:Ctx)(x:Str):Option G:=if (x == ("__debug__":Str))=true then none else match c.sc.names.lookup x with
 | some .globalImplicit=>c.globs.lookup x
 | _=>none
noncomputable def pNeg(P:PE):PE:=fun Q=>P fun v st=>∃ i,v=.int i∧Q (.int (-i)) st
noncomputable def mmName:Bool→Str
 | true=>"max"
 | false=>"min"
inductive FnOk(prog:Program)(w:World)(B:Base)(n np nl:Nat)(X:PX)(P:Addr→Prop):Prop
 | mk {fa:Addr} {fd:FuncData} {body:List Stmt} {names:List Str} (D:DefAt B fa fd body names np) (e:names.length=nl) (hp:P fa) (hX:DefDoes prog w n D X)
inductive FnRz(prog:Program)(w:World)(B:Base)(n np nl:Nat)(T:PB)(P:Addr→Prop):Prop
 | mk {fa:Addr} {fd:FuncData} {body:List Stmt} {names:List Str} (D:DefAt B fa fd body names np) (e:names.length=nl) (hp:P fa) (hX:DefRaises prog w n D T)
noncomputable def GOk(prog:Program)(w:World)(B:Base)(n:Nat)(x:Str):G→Prop
 | .val v=>∃ y,GlobAt B x y∧∀ ω,VR ω v y
 | .len=>x="len"∧GlobAt B "len" (.builtin "len")
 | .tuple=>x="tuple"∧GlobAt B "tuple" (.type "tuple")
 | .mm mx=>x=mmName mx∧GlobAt B (mmName mx) (.builtin (if mx then "max" else "min"))
 | .range=>x="range"∧GlobAt B "range" (.type "range")
 | .fn np nl X=>FnOk prog w B n np nl X fun fa=>GlobAt B x (.ref fa)
 | .cls na np nl X=>na=B.attrs.length∧GlobAt B x (.ref B.C)∧FnOk prog w B n np nl X (MakeAt w B)
 | .rex k=>∃ u,GlobAt B x (.ref u)∧PatAt B.hb u k
 | .trans=>∃ tr,GlobAt B x (.ref tr)∧TransAt B tr
 | .zip=>x="zip"∧GlobAt B "zip" (.type "zip")
 | .rz np nl T=>FnRz prog w B n np nl T (MethAt w B x)
 | .exc=>x="AssertionError"∧GlobAt B "AssertionError" (.type "AssertionError")
noncomputable def MOk(prog:Program)(w:World)(B:Base)(n:Nat)(x:Str)(np nl:Nat)(X:PX):Prop :=
 FnOk prog w B n np nl X (MethAt w B x)
structure CtxOk(prog:Program)(w:World)(B:Base)(f:Fx)(A:Around)(n:Nat)(c:Ctx):Prop where
 top:TopOk w B
 room:Room A (n + 2)
 names:f.names=c.names
 sc:f.scope=c.sc
 ok:f.Ok
 attrs:B.attrs=c.attrs
 bx:f.bx=c.bx
 gl:∀ x g,c.globs.lookup x=some g→GOk prog w B n x g
 ms:∀ x np nl X,c.meths.lookup x=some (np,nl,X)→MOk prog w B n x np nl X
section
variable{prog:Program}{w:World}{B:Base}{f:Fx}{A:Around}{n:Nat}{c:Ctx}
theorem CtxOk.loc(K:CtxOk prog w B f A n c){x:Str}{i:Nat}(h:c.loc x=some i):f.names[i]?=some x∧(x == ("__debug__":Str))=false:=by
 unfold Ctx.loc at h
 split at h
 ·exact nn h
 ·rename_i hd
  rw [K.names];exact ⟨Zxm h,by simpa using hd⟩
theorem CtxOk.box(K:CtxOk prog w B f A n c){x:Str}{i:Nat}(h:c.box x=some i):f.bx.lookup x=some i∧(x == ("__debug__":Str))=false:=by
 unfold Ctx.box at h
 split at h
 ·exact nn h
 ·rename_i hd
  rw [K.bx];exact ⟨h,by simpa using hd⟩
theorem CtxOk.glob(K:CtxOk prog w B f A n c){x:Str}{g:G}(h:c.glob x=some g):GOk prog w B n x g∧f.scope.names.lookup x=some .globalImplicit∧(x == ("__debug__":Str))=false:=by
 unfold Ctx.glob at h
 split at h
 ·exact nn h
 ·rename_i hd
  split at h
  ·rename_i hl
   exact ⟨K.gl x g h,by rw [K.sc]; exact hl,by simpa using hd⟩
  ·exact nn h
theorem CtxOk.units(K:CtxOk prog w B f A n c):A.units + 64 < cLine:=Zyt K.room.2.1 (by decide)
theorem ev_neg{e:Expr}{pos:Pos}{env:Env}{P:PE}(h:EV prog w B f A (eval e env) P):EV prog w B f A (eval (.UnaryOp .USub e pos) env) (pNeg P):=by
 intro E ω st s Q R hq;refine wpAny_UnaryOp (h.to R hq (fun x s₁ v st₁ ω₁ l₁ va R₁ q0=>?_));obtain ⟨i,hv,q⟩:=q0;subst hv;obtain ⟨t,rfl⟩:=va.int_inv;exact PySem.P.neg_int ⟨_,st₁,ω₁,l₁,.int _ _,R₁.toks,q⟩
theorem ev_negc{i:Int}{k:Nat}{p pos:Pos}{env:Env}:EV prog w B f A (eval (.UnaryOp .USub (.Constant (.int i) k p) pos) env) (pC (.int (-i))):=by
 intro E ω st s Q R hq;exact ev_neg ev_int E ω st s Q R ⟨i,rfl,hq⟩
theorem Zxl{o:Expr}{a:Str}{pos:Pos}{env:Env}(hb:Zs o=true):eval (.Attribute o a pos) env=(do let o' ← eval o env; standAt pos.atName; let r ← holding [o'] (getAttr o' a true); letTemporaryGo o o' r; pure r):=by
 show (do let o' ← attributeBase o a env (eval o env); standAt pos.atName; let r ← holding [o'] (getAttr o' a true); letTemporaryGo o o' r; pure r)=_;rw [Zab hb]
end
section
variable{prog:Program}{w:World}{B:Base}{ι:Type}{f:ι→Fx}{A:Around}{n:Nat}{c:Ctx}
abbrev OE(prog:Program)(w:World)(B:Base){ι:Type}(f:ι→Fx)(A:Around)(e:Expr):=Option {P:PE // ∀ j,EV prog w B (f j) A (eval e (f j).env) P}
abbrev OB(prog:Program)(w:World)(B:Base){ι:Type}(f:ι→Fx)(A:Around)(e:Expr):=Option {T:PB // ∀ j,EB prog w B (f j) A (isTrue e (f j).env (eval e (f j).env)) T}
abbrev OL(prog:Program)(w:World)(B:Base){ι:Type}(f:ι→Fx)(A:Around)(es:List Expr):=Option {Ps:PL // es.all Zf=true∧∀ j pos,EL prog w B (f j) A (spliced (backTo pos (starEach es (f j).env))) Ps}
structure Comp(prog:Program)(w:World)(B:Base){ι:Type}(f:ι→Fx)(A:Around) where
 e:(e:Expr)→OE prog w B f A e
 t:(e:Expr)→OB prog w B f A e
 l:(es:List Expr)→OL prog w B f A es
noncomputable def wit{α:Type}{T:α→Prop}(o:Option α)(h:∀ a,o=some a→T a):Option {a // T a}:=match o,h with
 | some a,h=>some ⟨a,h a rfl⟩
 | none,_=>none
noncomputable def chk(b:Bool):Option (PLift (b=true)):=match b with
 | true=>some ⟨rfl⟩
 | false=>none
noncomputable def eqS(x y:Str):Option (PLift (x=y)):=(chk (x == y)).map fun h=>⟨eq_of_beq h.down⟩
noncomputable def one{β:List Expr→Type}(es:List Expr)(k:(e:Expr)→Option (β [e])):Option (β es):=match es with
 | [e]=>k e
 | _=>none
noncomputable def two{β:List Expr→Type}(es:List Expr)(k:(a b:Expr)→Option (β [a,b])):Option (β es):=match es with
 | [a,b]=>k a b
 | _=>none
noncomputable def litP{β:Expr→Type}(e:Expr)(k:(x:Str)→(n:Nat)→(p:Pos)→Option (β (.Constant (.str x) n p))):Option (β e):=match e with
 | .Constant (.str x) n p=>k x n p
 | _=>none
noncomputable def namP{β:Expr→Type}(e:Expr)(k:(x:Str)→(p:Pos)→Option (β (.Name x p))):Option (β e):=match e with
 | .Name x p=>k x p
 | _=>none
theorem Zcz{e:Expr}(h:[e].all Zf=true):Zf e=true:=by simpa using h
theorem Zli{a b:Expr}(h:[a,b].all Zf=true):Zf a=true∧Zf b=true:=by simpa using h
noncomputable def locP(K:∀ j,CtxOk prog w B (f j) A n c)(x:Str):=wit (T:=fun i=>∀ j,(f j).names[i]?=some x∧(x == ("__debug__":Str))=false) (c.loc x) fun _ h j=>(K j).loc h
noncomputable def boxP(K:∀ j,CtxOk prog w B (f j) A n c)(x:Str):=wit (T:=fun i=>∀ j,(f j).bx.lookup x=some i∧(x == ("__debug__":Str))=false) (c.box x) fun _ h j=>(K j).box h
noncomputable def Zvk(K:∀ j,CtxOk prog w B (f j) A n c)(x:Str):=wit (T:=fun g=>∀ j,GOk prog w B n x g∧(f j).scope.names.lookup x=some .globalImplicit∧(x == ("__debug__":Str))=false) (c.glob x) fun _ h j=>(K j).glob h
noncomputable def attrP(K:∀ j,CtxOk prog w B (f j) A n c)(x:Str):=wit (T:=fun i=>ι→B.attrs[i]?=some x) (at? c.attrs x) fun _ h j=>(K j).attrs ▸ Zxm h
noncomputable def cName(K:∀ j,CtxOk prog w B (f j) A n c)(x:Str)(p:Pos):OE prog w B f A (.Name x p):=match locP K x with
 | some i=>some ⟨pVar i.1,fun j=>ev_var (K j).ok (i.2 j).1 (i.2 j).2⟩
 | none=>match boxP K x with
 | some i=>some ⟨pBox i.1,fun j=>ev_box (K j).ok (i.2 j).1 (i.2 j).2⟩
 | none=>(Zvk K x).bind fun g=>match g with
  | ⟨.val v,h⟩=>some ⟨pC v,fun j=>by obtain ⟨⟨y,g1,g2⟩,h2,h3⟩:=h j; exact ev_glob (K j).top g1 g2 (K j).ok.1 h2 h3⟩
  | _=>none
noncomputable def cCallG(K:∀ j,CtxOk prog w B (f j) A n c)(r:Comp prog w B f A)(x:Str)(p pos:Pos)(es:List Expr)(g:G)(h:∀ j,GOk prog w B n x g∧(f j).scope.names.lookup x=some .globalImplicit∧(x == ("__debug__":Str))=false):OE prog w B f A (.Call (.Name x p) es [] pos):=match g,h with
 | .len,h=>one (β:=fun es=>{P:PE // ∀ j,EV prog w B (f j) A (eval (.Call (.Name x p) es [] pos) (f j).env) P}) es fun e=>(r.l [e]).bind fun l=>(r.e e).map fun P=>⟨pLen P.1,fun j=>by obtain ⟨⟨rfl,G⟩,h2,_⟩:=h j; exact ev_len (K j).top G (K j).ok.1 h2 (P.2 j) (Zcz l.2.1)⟩
 | .tuple,h=>one (β:=fun es=>{P:PE // ∀ j,EV prog w B (f j) A (eval (.Call (.Name x p) es [] pos) (f j).env) P}) es fun e=>(r.l [e]).bind fun l=>(r.e e).map fun P=>⟨Zpi P.1,fun j=>by obtain ⟨⟨rfl,G⟩,h2,_⟩:=h j; exact Zzs (K j).top G (K j).ok.1 h2 (P.2 j) (Zcz l.2.1)⟩
 | .mm true,h=>match es with
  | [e]=>(r.l [e]).bind fun l=>(r.e e).map fun P=>⟨pMax P.1,fun j=>by obtain ⟨⟨rfl,G⟩,h2,_⟩:=h j; exact ev_maxL (K j).top (K j).room.1 G (K j).ok.1 h2 (P.2 j) (Zcz l.2.1)⟩
  | [a,b]=>(r.l [a,b]).bind fun l=>(r.e a).bind fun P=>(r.e b).map fun P'=>⟨pMM true P.1 P'.1,fun j=>by obtain ⟨⟨rfl,G⟩,h2,_⟩:=h j; exact ev_max (K j).top (K j).room.1 G (K j).ok.1 h2 (P.2 j) (P'.2 j) (Zli l.2.1).1 (Zli l.2.1).2⟩
  | _=>none
 | .fn np nl X,h=>(r.l es).map fun l=>⟨pDef np nl X l.1,fun j=>by obtain ⟨⟨D,rfl,G,hX⟩,h2,h3⟩:=h j; exact ev_def (K j).top ((K j).room.less (Yba _)) D hX G (K j).ok.1 h2 h3 l.2.1 (l.2.2 j _)⟩
 | .cls na np nl X,h=>(r.l es).map fun l=>⟨Zul na np nl X l.1,fun j=>by obtain ⟨⟨rfl,G,⟨D,rfl,M,hX⟩⟩,h2,h3⟩:=h j; exact ev_make (K j).top (K j).room D hX M G (K j).ok.1 h2 h3 l.2.1 (l.2.2 j _)⟩
 | .rex k,h=>(r.l es).map fun l=>⟨pRex k l.1,fun j=>by obtain ⟨⟨u,G,PA⟩,h2,h3⟩:=h j; exact ev_rex (K j).top PA G (K j).ok.1 h2 h3 l.2.1 (l.2.2 j _)⟩
 | _,_=>none
noncomputable def cCallN(K:∀ j,CtxOk prog w B (f j) A n c)(r:Comp prog w B f A)(x:Str)(p pos:Pos)(es:List Expr):OE prog w B f A (.Call (.Name x p) es [] pos):=match locP K x with
 | some i=>one (β:=fun es=>{P:PE // ∀ j,EV prog w B (f j) A (eval (.Call (.Name x p) es [] pos) (f j).env) P}) es fun e=>(r.l [e]).bind fun l=>(r.e e).map fun P=>⟨Zrf i.1 P.1,fun j=>ev_push (K j).ok (i.2 j).1 (i.2 j).2 (P.2 j) (Zcz l.2.1)⟩
 | none=>(Zvk K x).bind fun g=>cCallG K r x p pos es g.1 g.2
noncomputable def cMeth(K:∀ j,CtxOk prog w B (f j) A n c)(r:Comp prog w B f A)(o:Expr)(Po:PE)(ho:∀ j,EV prog w B (f j) A (eval o (f j).env) Po)(hb:Zs o=true)(m:Str)(apos pos:Pos)(hl:(apos.endLine == pos.line)=true)(es:List Expr):OE prog w B f A (.Call (.Attribute o m apos) es [] pos) :=
 (chk (decide (es.length < 30))).bind fun hn=>match eqS m "append" with
 | some h=>one (β:=fun es=>{P:PE // ∀ j,EV prog w B (f j) A (eval (.Call (.Attribute o m apos) es [] pos) (f j).env) P}) es fun e=>(r.l [e]).bind fun l=>(r.e e).map fun P=>⟨Zcy Po P.1,fun j=>h.down ▸ Zvw (ho j) (P.2 j) hb (Zcz l.2.1) hl⟩
 | none=>match eqS m "end" with
 | some h=>(match es with
  | []=>some ⟨pEnd Po,fun j=>h.down ▸ ev_end (ho j) (Zab hb _ _) hl⟩
  | _=>none)
 | none=>match eqS m "replace" with
 | some h=>two (β:=fun es=>{P:PE // ∀ j,EV prog w B (f j) A (eval (.Call (.Attribute o m apos) es [] pos) (f j).env) P}) es fun a b=>litP (β:=fun a=>{P:PE // ∀ j,EV prog w B (f j) A (eval (.Call (.Attribute o m apos) [a,b] [] pos) (f j).env) P}) a fun y n1 p1=>litP (β:=fun b=>{P:PE // ∀ j,EV prog w B (f j) A (eval (.Call (.Attribute o m apos) [.Constant (.str y) n1 p1,b] [] pos) (f j).env) P}) b fun z n2 p2 =>
  some ⟨Znj Po y.cps.toList z.cps.toList,fun j=>h.down ▸ ev_repl (ho j) hb hl⟩
 | none=>match eqS m "translate" with
 | some h=>one (β:=fun es=>{P:PE // ∀ j,EV prog w B (f j) A (eval (.Call (.Attribute o m apos) es [] pos) (f j).env) P}) es fun a=>namP (β:=fun a=>{P:PE // ∀ j,EV prog w B (f j) A (eval (.Call (.Attribute o m apos) [a] [] pos) (f j).env) P}) a fun x p1=>(Zvk K x).bind fun g=>match g with
  | ⟨.trans,hg⟩=>some ⟨Zuj Po,fun j=>by obtain ⟨⟨tr,G,T⟩,h2,h3⟩:=hg j; exact h.down ▸ Zzt (K j).top T (ho j) hb hl G (K j).ok.1 h2 h3⟩
  | _=>none
 | none=>match eqS m SM.find.name with
 | some h=>(r.l es).map fun l=>⟨pSM .find Po l.1,fun j=>h.down ▸ ev_sm (m:=.find) (ho j) hb hl l.2.1 (of_decide_eq_true hn.down) (l.2.2 j _)⟩
 | none=>match eqS m SM.rfind.name with
 | some h=>(r.l es).map fun l=>⟨pSM .rfind Po l.1,fun j=>h.down ▸ ev_sm (m:=.rfind) (ho j) hb hl l.2.1 (of_decide_eq_true hn.down) (l.2.2 j _)⟩
 | none=>match eqS m SM.join.name with
 | some h=>(r.l es).map fun l=>⟨pSM .join Po l.1,fun j=>h.down ▸ ev_sm (m:=.join) (ho j) hb hl l.2.1 (of_decide_eq_true hn.down) (l.2.2 j _)⟩
 | none=>match eqS m (Zll false) with
 | some h=>one (β:=fun es=>{P:PE // ∀ j,EV prog w B (f j) A (eval (.Call (.Attribute o m apos) es [] pos) (f j).env) P}) es fun a=>litP (β:=fun a=>{P:PE // ∀ j,EV prog w B (f j) A (eval (.Call (.Attribute o m apos) [a] [] pos) (f j).env) P}) a fun y n1 p1=>some ⟨Zuk false Po y.cps.toList,fun j=>h.down ▸ Zzu (ho j) hb hl⟩
 | none=>(wit (T:=fun g=>ι→MOk prog w B n m g.1 g.2.1 g.2.2) (c.meths.lookup m) fun g h j=>(K j).ms m g.1 g.2.1 g.2.2 h).bind fun g=>(r.l es).map fun l=>⟨Zbf g.1.1 g.1.2.1 g.1.2.2 Po l.1,fun j=>by
   obtain ⟨D,e,M,hX⟩:=g.2 j;exact e ▸ ev_meth (K j).top ((K j).room.less (Yba _)) D hX M (ho j) hb hl l.2.1 (Zvr l.2.1 (of_decide_eq_true hn.down) _ _) (l.2.2 j _)⟩
noncomputable def cCall(K:∀ j,CtxOk prog w B (f j) A n c)(r:Comp prog w B f A)(pos:Pos)(es:List Expr):(e:Expr)→OE prog w B f A (.Call e es [] pos)
 | .Name x p=>cCallN K r x p pos es
 | .Attribute o m apos=>(chk (Zs o)).bind fun hb=>(chk (apos.endLine == pos.line)).bind fun hl=>(r.e o).bind fun P=>cMeth K r o P.1 P.2 hb.down m apos pos hl.down es
 | _=>none
noncomputable def cPart(r:Comp prog w B f A):(o:Option Expr)→Option {P:Option PE // ∀ j,EO prog w B (f j) A (evalPart o (f j).env) P}
 | none=>some ⟨none,fun j=>eo_none⟩
 | some e=>(r.e e).map fun P=>⟨some P.1,fun j=>eo_some (P.2 j)⟩
noncomputable def cConst(k:Nat)(p:Pos):(v:Const)→OE prog w B f A (.Constant v k p)
 | .none=>some ⟨pC .none,fun j=>ev_none⟩
 | .bool b=>some ⟨pC (.bool b),fun j=>ev_bool⟩
 | .int i=>some ⟨pC (.int i),fun j=>ev_int⟩
 | .str x=>some ⟨pC (.str x.cps.toList),fun j=>ev_str⟩
 | _=>none
noncomputable def cNeg(r:Comp prog w B f A)(p:Pos):(e:Expr)→OE prog w B f A (.UnaryOp .USub e p)
 | .Constant (.int i) k p'=>some ⟨pC (.int (-i)),fun j=>ev_negc⟩
 | e=>(r.e e).map fun P=>⟨pNeg P.1,fun j=>ev_neg (P.2 j)⟩
noncomputable def cComp{β:List CmpOp→List Expr→Type}(r:Comp prog w B f A)(a:Expr)(ops:List CmpOp)(bs:List Expr)(k:(op:CmpOp)→(b:Expr)→(P P':PE)→(∀ j,EV prog w B (f j) A (eval a (f j).env) P)→(∀ j,EV prog w B (f j) A (eval b (f j).env) P')→behindInMarks op b=false→β [op] [b]):Option (β ops bs):=match ops,bs with
 | [op],[b]=>(chk (!behindInMarks op b)).bind fun h=>(r.e a).bind fun P=>(r.e b).map fun P'=>k op b P.1 P'.1 P.2 P'.2 (by simpa using h.down)
 | _,_=>none
noncomputable def cSub(r:Comp prog w B f A)(v:Expr)(p:Pos):(i:Expr)→OE prog w B f A (.Subscript v i p)
 | .Slice lo hi none p'=>(r.e v).bind fun P=>(cPart r lo).bind fun a=>(cPart r hi).map fun b=>⟨Zcx P.1 a.1 b.1,fun j=>Zzv (P.2 j) (a.2 j) (b.2 j)⟩
 | i=>(chk (Zay i)).bind fun h=>(r.e v).bind fun P=>(r.e i).map fun P'=>⟨pIdx P.1 P'.1,fun j=>ev_idx (P.2 j) (P'.2 j) h.down⟩
noncomputable def Ctx.dq(c:Ctx)(p:Pos):Bool:=c.tr p && (c.globs.lookup ("AssertionError":Str)).isSome
noncomputable def cDct(r:Comp prog w B f A)(pos:Pos):(keys:List (Option Expr))→(values:List Expr)→Option {X:List (List Nat) × PL // ∀ j,ED prog w B (f j) A pos keys values X.1 X.2}
 | [],[]=>some ⟨([],pNil),fun _=>ed_nil⟩
 | some k :: keys,v :: values=>litP (β:=fun k=>{X:List (List Nat) × PL // ∀ j,ED prog w B (f j) A pos (some k :: keys) (v :: values) X.1 X.2}) k fun x n p=>(r.e v).bind fun P=>(cDct r pos keys values).map fun Y=>⟨(x.cps.toList :: Y.1.1,Za P.1 Y.1.2),fun j=>ed_cons (P.2 j) (Y.2 j)⟩
 | _,_=>none
noncomputable def cCmpC(K:∀ j,CtxOk prog w B (f j) A n c)(r:Comp prog w B f A)(a b:Expr)(p:Pos)(op:CmpOp):OB prog w B f A (.Compare a [op] [b] p):=(chk (!behindInMarks op b)).bind fun h=>(r.e a).bind fun P=>(r.e b).bind fun P'=>match op,h with
 | .In,h=>some ⟨tE (pHas P.1 P'.1),fun j=>eb_has (K j).top (P.2 j) (P'.2 j) (by simpa using h.down)⟩
 | .NotEq,h=>some ⟨tE (pNeC P.1 P'.1),fun j=>eb_neC (K j).units (P.2 j) (P'.2 j) (by simpa using h.down)⟩
 | _,_=>none
noncomputable def cCmpL(K:∀ j,CtxOk prog w B (f j) A n c)(r:Comp prog w B f A)(a:Expr)(p:Pos):(ops:List CmpOp)→(bs:List Expr)→OB prog w B f A (.Compare a ops bs p)
 | [op],[b]=>cCmpC K r a b p op
 | _,_=>none
noncomputable def cAttr(K:∀ j,CtxOk prog w B (f j) A n c)(r:Comp prog w B f A)(o:Expr)(a:Str)(p:Pos):OE prog w B f A (.Attribute o a p):=(chk (Zs o)).bind fun hb=>(r.e o).bind fun P=>match eqS a "append" with
 | some h=>some ⟨Zpj P.1,fun j=>h.down ▸ Zzx (P.2 j) (Zxl hb.down)⟩
 | none=>(attrP K a).map fun i=>⟨Zax P.1 i.1,fun j=>ev_attr (K j).top.toBaseOk (P.2 j) (i.2 j) (Zxl hb.down)⟩
noncomputable def freeIn(scope:Scope)(x:Str):Bool:=scope.names.any fun y=>y.1 == x && y.2 == .free
noncomputable def Zby(scope:Scope):List Str:=scope.names.filterMap fun y=>if y.2 == .local && y.1 != (".0":Str) then some y.1 else none
noncomputable def Ctx.sub(c:Ctx)(scope:Scope):Ctx:={ c with names:=Zby scope,sc:=Zbo scope c.sc,bx:=c.bx.filter fun y=>freeIn scope y.1 }
noncomputable def Zpm:List Str→Bool
 | []=>true
 | x :: r=>!r.any (· == x) && Zpm r
theorem Zlv:∀ {l:List Str},Zpm l=true→l.Nodup
 | [],_=>Yah
 | x :: r,h=>by
  unfold Zpm at h;rw [Bool.and_eq_true] at h;refine Yu.mpr ⟨fun hx=>?_,Zlv h.2⟩;have:r.any (· == x)=true:=List.any_eq_true.mpr ⟨x,hx,by simp⟩;rw [this] at h;exact absurd h.1 (by decide)
structure SubOk(c:Ctx)(scope:Scope):Prop where
 kind:scope.kind=.function
 nd:Zpm (Zby scope)=true
 loc:((Zby scope).all fun x=>(Zbo scope c.sc).names.lookup x == some .local)=true
 bx:((c.sub scope).bx.all fun y=>(Zbo scope c.sc).names.lookup y.1 == some .cell)=true
 nocell:(scope.names.all fun y=>y.2 != .cell)=true
 names:(scope.names.all fun y=>y.2 != .local || scope.names.lookup y.1 == some .local)=true
 free:(scope.names.all fun y=>y.2 != .free || (c.bx.lookup y.1).isSome)=true
noncomputable def subOk(c:Ctx)(scope:Scope):Option (PLift (SubOk c scope)) :=
 (chk (scope.kind == .function)).bind fun h1=>(chk _).bind fun h2=>(chk _).bind fun h3=>(chk _).bind fun h4=>(chk _).bind fun h5=>(chk _).bind fun h6=>(chk _).map fun h7=>⟨⟨eq_of_beq h1.down,h2.down,h3.down,h4.down,h5.down,h6.down,h7.down⟩⟩
theorem Zaz{q:Str→Bool}{x:Str}:∀ {l:List (Str × Nat)} {n:Nat},(l.filter fun y=>q y.1).lookup x=some n→l.lookup x=some n∧q x=true
 | [],_,h=>by cases h
 | (y,m) :: l,n,h=>by
  rw [List.filter_cons] at h
  by_cases hq:q y=true
  ·rw [if_pos hq,List.lookup_cons] at h;rw [List.lookup_cons];cases e:x == y with
   | true=>rw [e] at h; rw [eq_of_beq e]; exact ⟨h,hq⟩
   | false=>rw [e] at h; exact Zaz h
  ·rw [if_neg hq] at h;obtain ⟨h1,h2⟩:=Zaz h;rw [List.lookup_cons];cases e:x == y with
   | true=>rw [eq_of_beq e] at h2; exact absurd h2 hq
   | false=>exact ⟨h1,h2⟩
theorem Ziq{scope:Scope}{x:Str}(h:freeIn scope x=true):(x,NameKind.free)∈scope.names:=by
 obtain ⟨y,hy,e⟩:=List.any_eq_true.mp h;rw [Bool.and_eq_true] at e;obtain ⟨a,b⟩:=y;rw [← show a=x from eq_of_beq e.1,← show b=NameKind.free from eq_of_beq e.2]; exact hy
theorem CtxOk.sub{f:Fx}(K:CtxOk prog w B f A n c){scope:Scope}(h:SubOk c scope)(C:Addr):CtxOk prog w B (f.sub scope (Zby scope) (c.sub scope).bx C) A n (c.sub scope):=by
 have e:Zbo scope f.scope=Zbo scope c.sc:=by rw [K.sc]
 refine ⟨K.top,K.room,rfl,e,⟨h.kind,Zlv h.nd,fun x hx=>?_,fun x m hm=>?_⟩,K.attrs,rfl,K.gl,K.ms⟩
 ·show (Zbo scope f.scope).names.lookup x=_;rw [e]; exact eq_of_beq (Ybv.mp h.loc x hx)
 ·show (Zbo scope f.scope).names.lookup x=_;rw [e]; exact eq_of_beq (Ybv.mp h.bx (x,m) (mem_of_lookup hm))
noncomputable def setP:(e:Expr)→Option (PLift (∀ env x,foldedSetIterable e env x=pure x))
 | .Name ..=>some ⟨fun _ _=>rfl⟩
 | .Subscript ..=>some ⟨fun _ _=>rfl⟩
 | .Call ..=>some ⟨fun _ _=>rfl⟩
 | .Attribute ..=>some ⟨fun _ _=>rfl⟩
 | _=>none
noncomputable def cTests(r:Comp prog w B f A):(ifs:List Expr)→Option {T:PB // ∀ j,EB prog w B (f j) A (Zcv ifs (f j).env) T}
 | []=>some ⟨tYes,fun _=>Zwb⟩
 | [e]=>(r.t e).map fun T=>⟨T.1,fun j=>Zwa (T.2 j)⟩
 | _=>none
noncomputable def cRng(K:∀ j,CtxOk prog w B (f j) A n c)(r:Comp prog w B f A)(p q:Pos)(G:ι→GlobAt B "range" (.type "range"))(g2:∀ j,(f j).scope.names.lookup ("range":Str)=some .globalImplicit):(es:List Expr)→Option {It:PI // ∀ j,EI prog w B (f j) A (.Call (.Name "range" p) es [] q) It}
 | [a]=>(chk (Zf a)).bind fun h=>(r.e a).map fun P=>⟨itR1 P.1,fun j=>Zvz (K j).top (K j).room.1 (G j) (K j).ok.1 (g2 j) (P.2 j) h.down⟩
 | [a,d]=>(chk (Zf a)).bind fun h=>(chk (Zf d)).bind fun h'=>(r.e a).bind fun P=>(r.e d).map fun P'=>⟨itR2 P.1 P'.1,fun j=>Zvy (K j).top (K j).room.1 (G j) (K j).ok.1 (g2 j) (P.2 j) (P'.2 j) h.down h'.down⟩
 | _=>none
noncomputable def cIt(K:∀ j,CtxOk prog w B (f j) A n c)(r:Comp prog w B f A):(it:Expr)→Option {It:PI // ∀ j,EI prog w B (f j) A it It}
 | .Call (.Name x p) es [] q=>(eqS x "range").bind fun h=>(Zvk K "range").bind fun g=>match g with
  | ⟨.range,hg⟩=>h.down ▸ cRng K r p q (fun j=>(hg j).1.2) (fun j=>(hg j).2.1) es
  | _=>none
 | it=>(r.e it).map fun P=>⟨itV P.1,fun j=>ei_val (K j).room.1 (P.2 j)⟩
noncomputable def cTg1(K:∀ j,CtxOk prog w B (f j) A n c):(t:Expr)→Option {S:PS // (∀ j,ES prog w B (f j) A (assign t (f j).env) S)∧∀ j ts,assignEach (t :: ts) (f j).env=(false,assign t (f j).env) :: assignEach ts (f j).env}
 | .Name x p=>match locP K x with
  | some i=>some ⟨Zw i.1,fun j=>Znx (K j).ok (i.2 j).1,fun _ _=>rfl⟩
  | none=>(boxP K x).map fun i=>⟨sBox i.1,fun j=>es_box (K j).ok (i.2 j).1,fun _ _=>rfl⟩
 | _=>none
noncomputable def cTg(K:∀ j,CtxOk prog w B (f j) A n c):(t:Expr)→Option {S:PS // ∀ j,ES prog w B (f j) A (assign t (f j).env) S}
 | t=>(cTg1 K t).map fun S=>⟨S.1,S.2.1⟩
noncomputable def cEC(K:∀ j,CtxOk prog w B (f j) A n c)(r:Comp prog w B f A)(it:Expr)(pos:Pos)(m:Nat)(S:PS)(T:PB)(P:PE):Option {X:PE // ∀ j,EC prog w B (f j) A it m S T P X} :=
 (cIt K r it).map fun It=>⟨Zjn m It.1 S T P,fun j=>(It.2 j).ec⟩
noncomputable def cLC(K:∀ j,CtxOk prog w B (f j) A n c)(r:Comp prog w B f A)(sub:∀ {ι':Type} {f':ι'→Fx} {c':Ctx},(∀ j,CtxOk prog w B (f' j) A n c')→Comp prog w B f' A)(elt:Expr)(scope:Scope)(pos:Pos):(gens:List Comprehension)→OE prog w B f A (.ListComp elt gens scope pos)
 | [⟨t,iter,ifs,0⟩]=>(subOk c scope).bind fun h=>(setP iter).bind fun hs =>
  (cTg (fun j:ι × Addr=>(K j.1).sub h.down j.2) t).bind fun S=>((sub fun j:ι × Addr=>(K j.1).sub h.down j.2).e elt).bind fun P=>(cTests (sub fun j:ι × Addr=>(K j.1).sub h.down j.2) ifs).bind fun T=>(cEC K r iter pos (Zby scope).length S.1 T.1 P.1).map fun X =>
   ⟨X.1,fun j=>Zzw (K j).room.1 (X.2 j) (fun C=>S.2 (j,C)) (fun C=>T.2 (j,C)) (fun C=>P.2 (j,C))
    (fun y hy=>by have:=Ybv.mp h.down.nocell y hy; simpa using this) h.down.kind
    (fun y hy e=>by have:=Ybv.mp h.down.names y hy; rw [e] at this; simpa using this)
    (fun y m hm=>by obtain ⟨h1,h2⟩:=Zaz hm; rw [(K j).bx]; exact ⟨h1,Ziq h2⟩)
    (fun y hy=>by have:=Ybv.mp h.down.free _ hy; rw [(K j).bx]; exact Option.isSome_iff_exists.mp (by simpa using this)) (fun y=>hs.down _ y)⟩
 | _=>none
noncomputable def cBo(r:Comp prog w B f A)(o:Bool)(p:Pos):(xs:List Expr)→OE prog w B f A (.BoolOp (boOf o) xs p)
 | []=>none
 | [x]=>(r.e x).map fun P=>⟨P.1,fun j=>ev_bo1 (P.2 j)⟩
 | x :: y :: xs=>(r.e x).bind fun P=>(r.e (.BoolOp (boOf o) (y :: xs) p)).map fun P'=>⟨pBo o P.1 P'.1,fun j=>ev_bo (P.2 j) (P'.2 j)⟩
noncomputable def cE(K:∀ j,CtxOk prog w B (f j) A n c)(r:Comp prog w B f A)(sub:∀ {ι':Type} {f':ι'→Fx} {c':Ctx},(∀ j,CtxOk prog w B (f' j) A n c')→Comp prog w B f' A):(e:Expr)→OE prog w B f A e
 | .Constant v k p=>cConst k p v
 | .Name x p=>cName K x p
 | .BinOp a op b p=>(r.e a).bind fun P=>(r.e b).map fun P'=>⟨pBin op P.1 P'.1,fun j=>ev_bin (P.2 j) (P'.2 j)⟩
 | .UnaryOp .USub e p=>cNeg r p e
 | .Compare a ops bs p=>cComp (β:=fun ops bs=>{P:PE // ∀ j,EV prog w B (f j) A (eval (.Compare a ops bs p) (f j).env) P}) r a ops bs fun op b P P' h1 h2 hm=>⟨pCmp op P P',fun j=>ev_cmp (K j).units (h1 j) (h2 j) hm⟩
 | .IfExp t a b p=>(r.t t).bind fun T=>(r.e a).bind fun P=>(r.e b).map fun P'=>⟨pIte T.1 P.1 P'.1,fun j=>ev_ite (T.2 j) (P.2 j) (P'.2 j)⟩
 | .BoolOp .And xs p=>cBo r false p xs
 | .BoolOp .Or xs p=>cBo r true p xs
 | .Dict keys values p=>(cDct r p keys values).bind fun X=>(chk (decide (X.1.1≠[]∧X.1.1.length≤15∧X.1.1.Nodup))).map fun h=>⟨pDct X.1.1 X.1.2,fun j=>ev_dct (K j).top (X.2 j) (of_decide_eq_true h.down).1 (of_decide_eq_true h.down).2.1 (of_decide_eq_true h.down).2.2⟩
 | .Subscript v i p =>
  match c.dq p with
  | true=>(chk (Zay i)).bind fun h=>(r.e v).bind fun P=>(r.e i).map fun P'=>⟨pGet P.1 P'.1,fun j=>ev_get (K j).top (P.2 j) (P'.2 j) h.down⟩
  | false =>
  cSub r v p i
 | .Tuple es k p=>(r.l es).map fun l=>⟨pTup l.1,fun j=>ev_tup (l.2.2 j _)⟩
 | .List es p=>(r.l es).map fun l=>match c.tr p with
  | true=>⟨pNew l.1,fun j=>ev_new (l.2.2 j _)⟩
  | false=>⟨pLst l.1,fun j=>ev_lst (l.2.2 j _)⟩
 | .Attribute o a p=>cAttr K r o a p
 | .Call g es [] p=>cCall K r p es g
 | .ListComp elt gens scope p=>cLC K r sub elt scope p gens
 | _=>none
noncomputable def cAnd(r:Comp prog w B f A)(p:Pos):(xs:List Expr)→OB prog w B f A (.BoolOp .And xs p)
 | []=>none
 | [x]=>(r.t x).map fun T=>⟨T.1,fun j=>eb_and1 (T.2 j)⟩
 | x :: y :: xs=>(r.t x).bind fun T=>(r.t (.BoolOp .And (y :: xs) p)).map fun U=>⟨tAnd T.1 U.1,fun j=>eb_and (T.2 j) (U.2 j)⟩
noncomputable def cOr(r:Comp prog w B f A)(p:Pos):(xs:List Expr)→OB prog w B f A (.BoolOp .Or xs p)
 | []=>none
 | [x]=>(r.t x).map fun T=>⟨T.1,fun j=>eb_or1 (T.2 j)⟩
 | x :: y :: xs=>(r.t x).bind fun T=>(r.t (.BoolOp .Or (y :: xs) p)).map fun U=>⟨tOr T.1 U.1,fun j=>eb_or (T.2 j) (U.2 j)⟩
noncomputable def cTE(r:Comp prog w B f A)(e:Expr)(h:∀ j,isTrue e (f j).env (eval e (f j).env)=(do let v ← eval e (f j).env; standAt e.pos; holding [v] (truthy v))):OB prog w B f A e:=(r.e e).map fun P=>⟨tE P.1,fun j=>Zzz (P.2 j) (h j)⟩
noncomputable def cT(K:∀ j,CtxOk prog w B (f j) A n c)(r:Comp prog w B f A):(e:Expr)→OB prog w B f A e
 | .UnaryOp .Not x p=>(r.t x).map fun T=>⟨tNot T.1,fun j=>eb_not (T.2 j)⟩
 | .BoolOp .And xs p=>cAnd r p xs
 | .BoolOp .Or xs p=>cOr r p xs
 | .Compare a ops bs p =>
  match c.dq p with
  | true=>cCmpL K r a p ops bs
  | false =>
  cComp (β:=fun ops bs=>{T:PB // ∀ j,EB prog w B (f j) A (isTrue (.Compare a ops bs p) (f j).env (eval (.Compare a ops bs p) (f j).env)) T}) r a ops bs fun op b P P' h1 h2 hm=>⟨tE (pCmp op P P'),fun j=>eb_cmp (K j).units (h1 j) (h2 j) hm⟩
 | .Name x p=>cTE r _ fun _=>rfl
 | .Constant k n p=>cTE r _ fun _=>rfl
 | .Call g es ks p=>cTE r _ fun _=>rfl
 | .Attribute o a p=>cTE r _ fun _=>rfl
 | .Subscript o i p=>cTE r _ fun _=>rfl
 | .BinOp a o b p=>cTE r _ fun _=>rfl
 | _=>none
noncomputable def cEs(r:Comp prog w B f A):(es:List Expr)→OL prog w B f A es
 | []=>some ⟨pNil,rfl,fun _ _=>el_nil⟩
 | e :: es=>(chk (Zf e)).bind fun h=>(r.e e).bind fun P=>(r.l es).map fun l=>⟨Za P.1 l.1,by rw [List.all_cons,h.down,l.2.1]; rfl,fun j p=>el_cons (P.2 j) (l.2.2 j p) (Zp h.down _ _)⟩
noncomputable def comp:Nat→{ι:Type}→{f:ι→Fx}→{c:Ctx}→(∀ j,CtxOk prog w B (f j) A n c)→Comp prog w B f A
 | 0,_,_,_,_=>⟨fun _=>none,fun _=>none,fun _=>none⟩
 | k + 1,_,_,_,K=>⟨cE K (comp k K) (comp k),cT K (comp k K),cEs (comp k K)⟩
end
end Mine
namespace Mine
noncomputable def Zez(e:Expr):Bool:=Nat.blt e.ctorIdx 8 || Nat.blt 10 e.ctorIdx
theorem Zdi{e:Expr}{t:Option Expr}{line:Nat}{env:Env}(h:Zez e=true):swapsWith e t line env=pure false:=by
 cases e <;> first | rfl | exact absurd h Yy
theorem Zig{e t:Expr}{line:Nat}{env:Env}(h:Zez e=true):swapsWithSole [t] e line env=pure false:=Zdi h
section
variable{prog:Program}{w:World}{B:Base}{ι:Type}{f:ι→Fx}{A:Around}{n:Nat}{c:Ctx}
abbrev OX(prog:Program)(w:World)(B:Base){ι:Type}(f:ι→Fx)(A:Around)(s:Stmt):=Option {X:PX // ∀ j,EX prog w B (f j) A (exec s (f j).env) X}
abbrev OXs(prog:Program)(w:World)(B:Base){ι:Type}(f:ι→Fx)(A:Around)(ss:List Stmt):=Option {X:PX // ∀ j,EX prog w B (f j) A (execs ss (f j).env) X}
abbrev OS(prog:Program)(w:World)(B:Base){ι:Type}(f:ι→Fx)(A:Around)(t:Expr):=Option {S:PS // (∀ j,ES prog w B (f j) A (assign t (f j).env) S)∧∀ j ts,assignEach (t :: ts) (f j).env=(false,assign t (f j).env) :: assignEach ts (f j).env}
noncomputable def cS(K:∀ j,CtxOk prog w B (f j) A n c)(r:Comp prog w B f A):(t:Expr)→OS prog w B f A t
 | .Name x p=>match locP K x with
  | some i=>some ⟨Zw i.1,fun j=>Znx (K j).ok (i.2 j).1,fun _ _=>rfl⟩
  | none=>(boxP K x).map fun i=>⟨sBox i.1,fun j=>es_box (K j).ok (i.2 j).1,fun _ _=>rfl⟩
 | .Attribute o a p=>(r.e o).bind fun P=>(attrP K a).map fun i=>⟨Ztt P.1 i.1,fun j=>es_attr (K j).top (P.2 j) (i.2 j),fun _ _=>rfl⟩
 | _=>none
noncomputable def cSs(K:∀ j,CtxOk prog w B (f j) A n c)(r:Comp prog w B f A):(ts:List Expr)→Option {Ss:List PS // ∀ j,ESs prog w B (f j) A ((assignEach ts (f j).env).map (·.2)) Ss∧(assignEach ts (f j).env).findIdx? (·.1)=none}
 | []=>some ⟨[],fun _=>⟨.nil,rfl⟩⟩
 | t :: ts=>(cS K r t).bind fun S=>(cSs K r ts).map fun Ss=>⟨S.1 :: Ss.1,fun j=>⟨by rw [S.2.2 j ts]; exact .cons (S.2.1 j) (Ss.2 j).1,by rw [S.2.2 j ts,List.findIdx?_cons,(Ss.2 j).2]; rfl⟩⟩
noncomputable def cNs(K:∀ j,CtxOk prog w B (f j) A n c):(xs:List Str)→Option {Ss:List PS // ∀ j,ESs prog w B (f j) A (xs.map fun n=>bindName (f j).env n) Ss}
 | []=>some ⟨[],fun _=>.nil⟩
 | x :: xs=>(cNs K xs).bind fun Ss=>match locP K x with
  | some i=>some ⟨Zw i.1 :: Ss.1,fun j=>.cons (es_bind (K j).ok (i.2 j).1) (Ss.2 j)⟩
  | none=>(boxP K x).map fun i=>⟨sBox i.1 :: Ss.1,fun j=>.cons (es_bbox (K j).ok (i.2 j).1) (Ss.2 j)⟩
noncomputable def swpE(sc:Scope)(ts:List Expr):Expr→Option (Option (List Str))
 | .Tuple vs _ _=>swp sc ts vs
 | _=>some none
theorem swpE_ok{f:Fx}(K:CtxOk prog w B f A n c){ts:List Expr}{k:Nat}{p:Pos}{e:Expr}{r:Option (List Str)}(h:swpE c.sc ts e=some r):swappedStores [.Tuple ts k p] e f.env=pure r:=by
 cases e with
 | Tuple vs k' p'=>rw [show swpE c.sc ts (.Tuple vs k' p')=swp c.sc ts vs from rfl,← K.sc] at h; exact swp_ok K.ok.1 h
 | _=>cases h; rfl
noncomputable def cAssign1(K:∀ j,CtxOk prog w B (f j) A n c)(r:Comp prog w B f A)(e:Expr)(pos:Pos)(P:PE)(hP:∀ j,EV prog w B (f j) A (eval e (f j).env) P)(hn:Zez e=true):(t:Expr)→OX prog w B f A (.Assign [t] e pos)
 | .Name x p=>match locP K x with
  | some i=>some ⟨xSet i.1 P,fun j=>ex_set (K j).ok (i.2 j).1 (hP j) (Zdi hn)⟩
  | none=>(boxP K x).map fun i=>⟨xTo (sBox i.1) P,fun j=>ex_box (K j).ok (i.2 j).1 (hP j) (Zdi hn)⟩
 | .Attribute o a p=>(r.e o).bind fun O=>(attrP K a).map fun i=>⟨Zea P O.1 i.1,fun j=>ex_attr (K j).top.toBaseOk (hP j) (O.2 j) (i.2 j) (Zdi hn)⟩
 | .Tuple ts k p=>(wit (T:=fun q=>∀ j,swappedStores [.Tuple ts k p] e (f j).env=pure q) (swpE c.sc ts e) fun _ h j=>swpE_ok (K j) h).bind fun q=>match q with
  | ⟨none,h⟩=>(cSs K r ts).map fun Ss=>⟨Zdq Ss.1 P,fun j=>Zvs (K j).room.1 (Ss.2 j).1 (Ss.2 j).2 (hP j) (Zig hn) (h j)⟩
  | ⟨some names,h⟩=>(cNs K names.reverse).map fun Ss=>⟨Zmt Ss.1 P,fun j=>ex_swap (K j).room.1 (Ss.2 j) (hP j) (Zig hn) (h j)⟩
 | _=>none
noncomputable def cAssign(K:∀ j,CtxOk prog w B (f j) A n c)(r:Comp prog w B f A)(e:Expr)(pos:Pos)(P:PE)(hP:∀ j,EV prog w B (f j) A (eval e (f j).env) P)(hn:Zez e=true):(ts:List Expr)→OX prog w B f A (.Assign ts e pos)
 | [t]=>cAssign1 K r e pos P hP hn t
 | [t₁,t₂]=>(cS K r t₁).bind fun S₁=>(cS K r t₂).map fun S₂=>⟨xTwo S₁.1 S₂.1 P,fun j=>ex_two (S₁.2.1 j) (S₂.2.1 j) (hP j) (by rw [S₁.2.2 j,S₂.2.2 j]; rfl)⟩
 | _=>none
noncomputable def cFor(K:∀ j,CtxOk prog w B (f j) A n c)(r:Comp prog w B f A)(t:Expr)(b o:List Stmt)(S X O)(hS:∀ j,ES prog w B (f j) A (assign t (f j).env) S)(hX:∀ j,EX prog w B (f j) A (execs b (f j).env) X)(hO:∀ j,EX prog w B (f j) A (execs o (f j).env) O)(pos:Pos)(it:Expr):OX prog w B f A (.For t it b o pos) :=
 (chk (notSet it)).bind fun h=>(cIt K r it).map fun It=>⟨xFor S It.1 X O,fun j=>ex_for (hS j) (It.2 j) (hX j) (hO j) h.down⟩
structure CompX(prog:Program)(w:World)(B:Base){ι:Type}(f:ι→Fx)(A:Around) where
 x:(s:Stmt)→OX prog w B f A s
 xs:(ss:List Stmt)→OXs prog w B f A ss
theorem Zpr{f:Fx}(K:CtxOk prog w B f A n c):interactive f.env=false:=by
 unfold interactive;rw [show f.env.scope.kind=.function from K.ok.1]; rfl
abbrev OF{ι:Type}(f:ι→Fx)(A:Around):=Option (PLift (∀ j,OneFrame (f j) A))
noncomputable def cTry(K:∀ j,CtxOk prog w B (f j) A n c)(r:Comp prog w B f A)(o:OF f A)(p p1 p2 p3 np pos apos:Pos)(x:Str)(ss:List Stmt)(ob:Expr)(m:Str)(es:List Expr):OX prog w B f A (.Try (.Expr (.Call (.Attribute ob m apos) es [] pos) p1 :: ss) [.ExceptHandler (some (.Name x np)) none [.Pass p2] p3] [] [] p) :=
 o.bind fun o=>(eqS x "AssertionError").bind fun hx=>(Zvk K "AssertionError").bind fun g=>match g with
  | ⟨.exc,hg⟩=>(chk (Zs ob)).bind fun hb=>(chk (apos.endLine == pos.line)).bind fun hl=>(chk (decide (es.length < 30))).bind fun hn=>(r.e ob).bind fun P=>(r.l es).bind fun l =>
   (wit (T:=fun g=>∀ j:ι,GOk prog w B n m g) (c.globs.lookup m) fun g h j=>(K j).gl m g h).bind fun g2=>match g2 with
    | ⟨.rz np nl T,h⟩=>some ⟨xTry (Zuc np nl T P.1 l.1),fun j=>hx.down ▸ ex_try (K j).top (o.down j) (K j).ok.1 (hg j).1.2 (hg j).2.1 (Zpr (K j)) (Zdi rfl) fun E ω st s Q R hq hE=>by
      obtain ⟨D,e,M,hX⟩:=h j;subst e;exact er_meth (K j).top ((K j).room.less (Yba _)) (o.down j) (K j).ok.1 D hX M (P.2 j) hb.down hl.down l.2.1 (Zvr l.2.1 (of_decide_eq_true hn.down) _ _) (l.2.2 j _) R hq hE⟩
    | _=>none
  | _=>none
noncomputable def useB(x:Str)(px pos:Pos)(scope:Scope):Bool:=px.line == pos.line && !(scope.names.any fun y=>y.1 == x && (y.2 == .local || y.2 == .cell))
theorem use_ok{f:Fx}(K:CtxOk prog w B f A n c){x:Str}{i:Nat}(hx:f.names[i]?=some x){elt:Expr}{gens:List Comprehension}{scope:Scope}{px pos:Pos}{line:Nat}(h:useB x px pos scope=true):swapsWith (.ListComp elt gens scope pos) (some (.Name x px)) line f.env=pure true:=by
 have hk:f.env.blockKind=.function:=by
  unfold Env.blockKind;rw [show f.env.scope.kind=.function from K.ok.1]; rfl
 have hl:f.env.kindOf x=some .local:=K.ok.2.2.1 x (Yw hx);show (pure (f.env.blockKind == .function && f.env.kindOf x == some .local && px.line == pos.line && !(scope.names.any fun y=>y.1 == x && (y.2 == .local || y.2 == .cell))):Sem Bool)=pure true;rw [hk,hl,Bool.and_assoc,show (px.line == pos.line && !(scope.names.any fun y=>y.1 == x && (y.2 == .local || y.2 == .cell)))=true from h]; rfl
noncomputable def cUse(K:∀ j,CtxOk prog w B (f j) A n c)(r:Comp prog w B f A)(x:Str)(px spos:Pos)(elt:Expr)(scope:Scope)(pos:Pos):(gens:List Comprehension)→OX prog w B f A (.Assign [.Name x px] (.ListComp elt gens scope pos) spos)
 | [⟨t,iter,ifs,0⟩]=>(locP K x).bind fun i=>(chk (useB x px pos scope)).bind fun hu=>(subOk c scope).bind fun h=>(setP iter).bind fun hs =>
  (cTg (fun j:ι × Addr=>(K j.1).sub h.down j.2) t).bind fun S=>((comp 40 fun j:ι × Addr=>(K j.1).sub h.down j.2).e elt).bind fun P=>(cTests (comp 40 fun j:ι × Addr=>(K j.1).sub h.down j.2) ifs).bind fun T=>(cEC K r iter pos (Zby scope).length S.1 T.1 P.1).map fun X =>
   ⟨xSet i.1 X.1,fun j=>Zrl (K j).ok (i.2 j).1 (K j).room.1 (X.2 j) (fun C=>S.2 (j,C)) (fun C=>T.2 (j,C)) (fun C=>P.2 (j,C))
    (fun y hy=>by have:=Ybv.mp h.down.nocell y hy; simpa using this) h.down.kind
    (fun y hy e=>by have:=Ybv.mp h.down.names y hy; rw [e] at this; simpa using this)
    (fun y m hm=>by obtain ⟨h1,h2⟩:=Zaz hm; rw [(K j).bx]; exact ⟨h1,Ziq h2⟩)
    (fun y hy=>by have:=Ybv.mp h.down.free _ hy; rw [(K j).bx]; exact Option.isSome_iff_exists.mp (by simpa using this)) (fun y=>hs.down _ y) (use_ok (K j) (i.2 j).1 hu.down)⟩
 | _=>none
noncomputable def cX(K:∀ j,CtxOk prog w B (f j) A n c)(r:Comp prog w B f A)(q:CompX prog w B f A)
 (o:OF f A)
 : (s:Stmt)→OX prog w B f A s
 | .Assign [.Name x px] (.ListComp elt gens scope pos) p=>cUse K r x px p elt scope pos gens
 | .Assign ts e p=>(chk (Zez e)).bind fun h=>(r.e e).bind fun P=>cAssign K r e p P.1 P.2 h.down ts
 | .If t b o p=>(r.t t).bind fun T=>(q.xs b).bind fun X=>(q.xs o).map fun Y=>⟨xIf T.1 X.1 Y.1,fun j=>ex_if (T.2 j) (X.2 j) (Y.2 j)⟩
 | .While t b o p=>(r.t t).bind fun T=>(q.xs b).bind fun X=>(q.xs o).map fun Y=>⟨Zaq T.1 X.1 Y.1,fun j=>Zzr (T.2 j) (X.2 j) (Y.2 j)⟩
 | .Return none p=>some ⟨Zxx,fun _=>ex_ret0⟩
 | .Return (some e) p=>(r.e e).map fun P=>⟨xRet P.1,fun j=>ex_ret (P.2 j)⟩
 | .Pass p=>some ⟨xNil,fun _=>Zvt⟩
 | .Try (.Expr (.Call (.Attribute ob m apos) es [] pos) p1 :: ss) [.ExceptHandler (some (.Name x np)) none [.Pass p2] p3] [] [] p=>cTry K r o p p1 p2 p3 np pos apos x ss ob m es
 | .Break p=>some ⟨xBrk,fun _=>ex_brk⟩
 | .Continue p=>some ⟨Zdr,fun _=>ex_cont⟩
 | .Expr e p=>(chk (Zez e)).bind fun h=>(r.e e).map fun P=>⟨Zbt P.1,fun j=>ex_expr (P.2 j) (Zpr (K j)) (Zdi h.down)⟩
 | .Assert t none p=>(r.t t).map fun T=>⟨Zaf T.1,fun j=>Zvv (K j).room.1 (T.2 j)⟩
 | .Delete [.Subscript o i p'] p=>(r.e o).bind fun P=>(r.e i).map fun P'=>⟨xDel P.1 P'.1,fun j=>ex_del (P.2 j) (P'.2 j)⟩
 | .For t it b o p=>(cTg K t).bind fun S=>(q.xs b).bind fun X=>(q.xs o).bind fun Y =>
  cFor K r t b o S.1 X.1 Y.1 S.2 X.2 Y.2 p it
 | _=>none
noncomputable def cXs(q:CompX prog w B f A):(ss:List Stmt)→OXs prog w B f A ss
 | []=>some ⟨xNil,fun _=>ex_nil⟩
 | s :: ss=>(q.x s).bind fun X=>(q.xs ss).map fun Y=>⟨Zb X.1 Y.1,fun j=>Zvu (X.2 j) (Y.2 j)⟩
noncomputable def compX(K:∀ j,CtxOk prog w B (f j) A n c)
 (o:OF f A)
 (k:Nat):Nat→CompX prog w B f A
 | 0=>⟨fun _=>none,fun _=>none⟩
 | m + 1=>⟨cX K (comp k K) (compX K
  o
  k m)
  o
  ,cXs (compX K
  o
  k m)⟩
structure Compiles(c:Ctx)(body:List Stmt)(X:PX):Prop where
 run:∀ {prog:Program} {w:World} {B:Base} {f:Unit→Fx} {A:Around} {n:Nat} (K:∀ j,CtxOk prog w B (f j) A n c),((compX K
  none
  40 100).xs body).map (·.1)=some X
structure CompilesT(c:Ctx)(body:List Stmt)(X:PX):Prop where
 run:∀ {prog:Program} {w:World} {B:Base} {f:Unit→Fx} {A:Around} {n:Nat} (K:∀ j,CtxOk prog w B (f j) A n c) (o:∀ j,OneFrame (f j) A),((compX K (some ⟨o⟩) 40 100).xs body).map (·.1)=some X
theorem CompilesT.does(h:CompilesT c body X){f:Fx}(K:CtxOk prog w B f A n c)(o:OneFrame f A):EX prog w B f A (execs body f.env) X:=by
 obtain ⟨Y,_,e⟩:=Yv.mp (h.run (prog:=prog) (w:=w) (B:=B) (f:=fun _=>f) (A:=A) (n:=n) (fun _=>K) fun _=>o);exact e ▸ Y.2 ()
noncomputable def cRz(K:∀ j,CtxOk prog w B (f j) A n c):(body:List Stmt)→Option {T:PB // ∀ j,ER prog w B (f j) A (execs body (f j).env) (rX T)}
 | .Assert t none p :: ss=>((comp 40 K).t t).map fun T=>⟨T.1,fun j=>Zvx (K j).room.1 (T.2 j)⟩
 | _=>none
structure CompilesR(c:Ctx)(body:List Stmt)(T:PB):Prop where
 run:∀ {prog:Program} {w:World} {B:Base} {f:Unit→Fx} {A:Around} {n:Nat} (K:∀ j,CtxOk prog w B (f j) A n c),(cRz K body).map (·.1)=some T
theorem CompilesR.does{T:PB}(h:CompilesR c body T){f:Fx}(K:CtxOk prog w B f A n c):ER prog w B f A (execs body f.env) (rX T):=by
 obtain ⟨Y,_,e⟩:=Yv.mp (h.run (prog:=prog) (w:=w) (B:=B) (f:=fun _=>f) (A:=A) (n:=n) fun _=>K);exact e ▸ Y.2 ()
theorem Zir{fa:Addr}{fd:FuncData}{body:List Stmt}{np:Nat}(D:DefAt B fa fd body c.names np){T:PB}{j:Nat}(O:TopOk w B)(hsc:fd.scope=c.sc)(ha:B.attrs=c.attrs)(hbx:c.bx=[])(gl:∀ x g,c.globs.lookup x=some g→GOk prog w B n x g)(ms:∀ x np nl X,c.meths.lookup x=some (np,nl,X)→MOk prog w B n x np nl X)
  (hn:n + 2≤j) (h:CompilesR c body T):DefRaises prog w j D T:=⟨fun L A room=>h.does (f:=D.fx L) (A:=A) ⟨O,room.less hn,rfl,hsc,D.ok L,ha,hbx.symm,gl,ms⟩⟩
theorem Compiles.does(h:Compiles c body X){f:Fx}(K:CtxOk prog w B f A n c):EX prog w B f A (execs body f.env) X:=by
 obtain ⟨Y,_,e⟩:=Yv.mp (h.run (prog:=prog) (w:=w) (B:=B) (f:=fun _=>f) (A:=A) (n:=n) fun _=>K);exact e ▸ Y.2 ()
theorem Zam{fa:Addr}{fd:FuncData}{body:List Stmt}{np:Nat}(D:DefAt B fa fd body c.names np){X:PX}{j:Nat}(T:TopOk w B)(hsc:fd.scope=c.sc)(ha:B.attrs=c.attrs)(hbx:c.bx=[])(gl:∀ x g,c.globs.lookup x=some g→GOk prog w B n x g)(ms:∀ x np nl X,c.meths.lookup x=some (np,nl,X)→MOk prog w B n x np nl X)
  (hn:n + 2≤j) (h:Compiles c body X):DefDoes prog w j D X:=⟨fun L A room=>h.does (f:=D.fx L) (A:=A) ⟨T,room.less hn,rfl,hsc,D.ok L,ha,hbx.symm,gl,ms⟩⟩
end
end Mine
namespace Mine
noncomputable def Xinit_t1:PX:=Zb (Zea (pVar 2) (pVar 0) 1) xNil
noncomputable def Zon:PX:=Zb (Zea (pVar 1) (pVar 0) 0) Xinit_t1
noncomputable def Zxw:List Str:=["self","indentwidth","tabwidth"]
noncomputable def Zok:PX:=Zb (Zea (pC (.int 0)) (pVar 0) 3) xNil
noncomputable def Zol:PX:=Zb (Zea (pVar 1) (pVar 0) 2) Zok
noncomputable def Zap:PX:=Zb (Zaf (tOr (tE (pCmp .Eq (pLen (pVar 1)) (pC (.int 0)))) (tE (pCmp .Eq (pIdx (pVar 1) (pC (.int (-1)))) (pC (.str [10])))))) Zol
noncomputable def Ziw:List Str:=["self","s"]
noncomputable def Zkq:PX:=Zb (xIf (tE (pCmp .Eq (pVar 9) (pC (.str [92])))) (Zb (Zaf (tE (pCmp .Lt (pVar 7) (pVar 8))))
 (Zb (xIf (tE (pCmp .Eq (pIdx (pVar 1) (pVar 7)) (pC (.str [10])))) (Zb (xSet 4 (pBin .Add (pVar 4) (pC (.int 1))))
 xNil) xNil)
 (Zb (xSet 7 (pBin .Add (pVar 7) (pC (.int 1))))
 (Zb Zdr
 xNil)))) xNil) xNil
noncomputable def Zkr:PX:=Zb (xIf (tE (pCmp .Eq (pVar 9) (pC (.str [10])))) (Zb (xSet 4 (pBin .Add (pVar 4) (pC (.int 1))))
 (Zb (xIf (tE (pCmp .Eq (pVar 12) (pC (.int 0)))) (Zb (xIf (tE (pCmp .Eq (pVar 3) (pC (.int 0)))) (Zb (Zbt (Zrf 6 (pVar 4)))
 xNil) xNil)
 (Zb xBrk
 xNil)) xNil)
 (Zb Zdr
 xNil))) xNil) Zkq
noncomputable def Zks:PX:=Zb (xIf (tE (pCmp .Eq (Zcx (pVar 1) (some (pBin .Sub (pVar 7) (pC (.int 1)))) (some (pBin .Add (pVar 7) (pVar 12)))) (pVar 10))) (Zb (xSet 7 (pBin .Add (pVar 7) (pVar 12)))
 (Zb xBrk
 xNil)) xNil) Zkr
noncomputable def Zkt:PX:=Zb (xIf (tE (pCmp .Eq (pVar 9) (pC (.str [120])))) (Zb Zdr
 xNil) xNil) Zks
noncomputable def Zku:PX:=Zb (xSet 7 (pBin .Add (pVar 7) (pC (.int 1)))) Zkt
noncomputable def Zt:PX:=Zb (xSet 9 (pIdx (pVar 1) (pVar 7))) Zku
noncomputable def Zba:PX:=Zb (xIf (tE (pCmp .Eq (pBin .Sub (pVar 4) (pC (.int 1))) (pVar 11))) (Zb (xSet 2 (pC (.int 2)))
 xNil) (Zb (xSet 2 (pC (.int 3)))
 xNil)) xNil
noncomputable def Zhx:PX:=Zb (xSet 7 (pBin .Add (pVar 7) (pC (.int 1)))) xNil
noncomputable def Zhy:PX:=Zb (xIf (tE (pCmp .Eq (pIdx (pVar 1) (pVar 7)) (pC (.str [10])))) (Zb (xSet 4 (pBin .Add (pVar 4) (pC (.int 1))))
 (Zb (xIf (tE (pCmp .Eq (pBin .Add (pVar 7) (pC (.int 1))) (pVar 8))) (Zb (xSet 2 (pC (.int 1)))
 xNil) xNil)
 xNil)) xNil) Zhx
noncomputable def Zkv:PX:=Zb (Zaf (tE (pCmp .Lt (pVar 7) (pVar 8)))) Zhy
noncomputable def Zkw:PX:=Zb (Zaf (tE (pCmp .Eq (pVar 9) (pC (.str [92]))))) Zkv
noncomputable def Zkx:PX:=Zb (xIf (tE (pCmp .Eq (pVar 9) (pC (.str [35])))) (Zb (xSet 7 (pSM .find (pVar 1) (Za (pC (.str [10])) (Za (pVar 7) pNil))))
 (Zb (Zaf (tE (pCmp .GtE (pVar 7) (pC (.int 0)))))
 (Zb Zdr
 xNil))) xNil) Zkw
noncomputable def Zky:PX:=Zb (xIf (tOr (tE (pCmp .Eq (pVar 9) (pC (.str [34])))) (tE (pCmp .Eq (pVar 9) (pC (.str [39]))))) (Zb (xSet 10 (pVar 9))
 (Zb (xIf (tE (pCmp .Eq (Zcx (pVar 1) (some (pBin .Sub (pVar 7) (pC (.int 1)))) (some (pBin .Add (pVar 7) (pC (.int 2))))) (pBin .Mult (pVar 10) (pC (.int 3))))) (Zb (xSet 10 (pBin .Mult (pVar 10) (pC (.int 3))))
 xNil) xNil)
 (Zb (xSet 11 (pVar 4))
 (Zb (xSet 12 (pBin .Sub (pLen (pVar 10)) (pC (.int 1))))
 (Zb (xSet 7 (pBin .Add (pVar 7) (pVar 12)))
 (Zb (Zaq (tE (pCmp .Lt (pVar 7) (pVar 8))) Zt Zba)
 (Zb Zdr
 xNil))))))) xNil) Zkx
noncomputable def Zkz:PX:=Zb (xIf (tE (pCmp .Eq (pVar 9) (pC (.str [41])))) (Zb (xIf (tE (pVar 3)) (Zb (xSet 3 (pBin .Sub (pVar 3) (pC (.int 1))))
 xNil) xNil)
 (Zb Zdr
 xNil)) xNil) Zky
noncomputable def Zla:PX:=Zb (xIf (tE (pCmp .Eq (pVar 9) (pC (.str [40])))) (Zb (xSet 3 (pBin .Add (pVar 3) (pC (.int 1))))
 (Zb Zdr
 xNil)) xNil) Zkz
noncomputable def Zlb:PX:=Zb (xIf (tE (pCmp .Eq (pVar 9) (pC (.str [10])))) (Zb (xSet 4 (pBin .Add (pVar 4) (pC (.int 1))))
 (Zb (xIf (tE (pCmp .Eq (pVar 3) (pC (.int 0)))) (Zb (Zbt (Zrf 6 (pVar 4)))
 xNil) xNil)
 (Zb Zdr
 xNil))) xNil) Zla
noncomputable def Zlc:PX:=Zb (xIf (tE (pCmp .Eq (pVar 9) (pC (.str [120])))) (Zb Zdr
 xNil) xNil) Zlb
noncomputable def Zld:PX:=Zb (xSet 7 (pBin .Add (pVar 7) (pC (.int 1)))) Zlc
noncomputable def Zu:PX:=Zb (xSet 9 (pIdx (pVar 1) (pVar 7))) Zld
noncomputable def Zhe:PX:=Zb (xIf (tE (pCmp .NotEq (pIdx (pVar 5) (pC (.int (-1)))) (pVar 4))) (Zb (Zbt (Zrf 6 (pVar 4)))
 xNil) xNil) xNil
noncomputable def Zhf:PX:=Zb (Zaf (tE (pCmp .Eq (pCmp .Eq (pVar 2) (pC (.int 0))) (pCmp .Eq (pIdx (pVar 5) (pC (.int (-1)))) (pVar 4))))) Zhe
noncomputable def Zhg:PX:=Zb (Zea (pVar 2) (pVar 0) 5) Zhf
noncomputable def Zck:PX:=Zb (xIf (tAnd (tE (pCmp .NotEq (pVar 2) (pC (.int 2)))) (tAnd (tE (pCmp .NotEq (pVar 2) (pC (.int 3)))) (tE (pCmp .Gt (pVar 3) (pC (.int 0)))))) (Zb (xSet 2 (pC (.int 4)))
 xNil) xNil) Zhg
noncomputable def Zcl:PX:=Zb (Zaq (tE (pCmp .Lt (pVar 7) (pVar 8))) Zu xNil) Zck
noncomputable def Zog:PX:=Zb (Zmt [(Zw 8),(Zw 7)] (pTup (Za (pC (.int 0)) (Za (pLen (pVar 1)) pNil)))) Zcl
noncomputable def Zoh:PX:=Zb (xSet 6 (Zpj (pVar 5))) Zog
noncomputable def Zoi:PX:=Zb (xTwo (Ztt (pVar 0) 4) (Zw 5) (pNew (Za (pC (.int 0)) pNil))) Zoh
noncomputable def Zoj:PX:=Zb (xTwo (Zw 3) (Zw 4) (pC (.int 0))) Zoi
noncomputable def Zfk:PX:=Zb (xSet 2 (pC (.int 0))) Zoj
noncomputable def Zsc:PX:=Zb (xSet 1 (Znj (pVar 1) [10,120] [10])) Zfk
noncomputable def Zsd:PX:=Zb (xSet 1 (Znj (pVar 1) [120,120] [120])) Zsc
noncomputable def Zse:PX:=Zb (xSet 1 (Znj (pVar 1) [120,120] [120])) Zsd
noncomputable def Zsf:PX:=Zb (xSet 1 (Znj (pVar 1) [120,120,120,120] [120])) Zse
noncomputable def Zsg:PX:=Zb (xSet 1 (Znj (pVar 1) [120,120,120,120,120,120,120,120] [120])) Zsf
noncomputable def Zsh:PX:=Zb (xSet 1 (Zuj (pVar 1))) Zsg
noncomputable def Zsi:PX:=Zb (xSet 1 (Zax (pVar 0) 2)) Zsh
noncomputable def Zsj:PX:=Zb (Zea (pC (.int 1)) (pVar 0) 3) Zsi
noncomputable def Zbk:PX:=Zb (xIf (tE (pCmp .GtE (Zax (pVar 0) 3) (pC (.int 1)))) (Zb Zxx
 xNil) xNil) Zsj
noncomputable def Zmo:List Str:=["self","code","continuation","level","lno","goodlines","push_good","i","n","ch","quote","firstlno","w"]
noncomputable def Zfi:PX:=Zb (xSet 4 (pBin .Add (pSM .rfind (pVar 1) (Za (pC (.str [10])) (Za (pC (.int 0)) (Za (pBin .Sub (pVar 4) (pC (.int 1))) pNil)))) (pC (.int 1)))) xNil
noncomputable def Zeu:PX:=Zb (xIf (tE (pRex .junk (Za (pVar 1) (Za (pVar 4) pNil)))) (Zb (xSet 3 (pBin .Sub (pVar 3) (pC (.int 1))))
 xNil) (Zb xBrk
 xNil)) xNil
noncomputable def Zko:PX:=Zb (xFor (Zw 6) (itR2 (pIdx (pVar 2) (pBin .Sub (pVar 3) (pC (.int 1)))) (pIdx (pVar 2) (pVar 3))) Zfi xNil) Zeu
noncomputable def Zkp:PX:=Zb (xSet 5 (pVar 4)) Zko
noncomputable def Zfj:PX:=Zb (Zaf (tE (pVar 4))) Zkp
noncomputable def Zfh:PX:=Zb (xSet 3 (pBin .Sub (pVar 3) (pC (.int 1)))) xNil
noncomputable def Zhv:PX:=Zb (xSet 4 (pBin .Add (pVar 4) (pC (.int 1)))) xNil
noncomputable def Zhw:PX:=Zb (xIf (tE (pCmp .NotEq (pIdx (pVar 1) (pVar 4)) (pC (.str [10])))) (Zb (xSet 7 (pBin .Add (pVar 13) (pIdx (pVar 1) (pVar 4))))
 xNil) xNil) Zhv
noncomputable def Zkg:PX:=Zb (Zaf (tE (pCmp .Lt (pVar 4) (pVar 5)))) Zhw
noncomputable def Zkh:PX:=Zb (xSet 4 (pBin .Add (pVar 4) (pC (.int 1)))) Zkg
noncomputable def Zki:PX:=Zb (Zaf (tE (pCmp .Eq (pVar 13) (pC (.str [92]))))) Zkh
noncomputable def Zkj:PX:=Zb (xIf (tE (pCmp .Eq (pVar 13) (pC (.str [35])))) (Zb (Zbt (Zcy (pVar 10) (pTup (Za (pVar 4) (Za (pBin .Add (pLen (pVar 8)) (pC (.int 1))) pNil)))))
 (Zb (xSet 4 (pBin .Add (pSM .find (pVar 1) (Za (pC (.str [10])) (Za (pVar 4) (Za (pVar 5) pNil)))) (pC (.int 1))))
 (Zb (Zaf (tE (pCmp .Gt (pVar 4) (pC (.int 0)))))
 (Zb (Zbt (Zcy (pVar 10) (pTup (Za (pVar 4) (Za (pLen (pVar 8)) pNil)))))
 (Zb Zdr
 xNil))))) xNil) Zki
noncomputable def Zkk:PX:=Zb (xIf (tOr (tE (pCmp .Eq (pVar 13) (pC (.str [34])))) (tE (pCmp .Eq (pVar 13) (pC (.str [39]))))) (Zb (Zbt (Zcy (pVar 10) (pTup (Za (pVar 4) (Za (pBin .Add (pLen (pVar 8)) (pC (.int 1))) pNil)))))
 (Zb (xSet 7 (pVar 13))
 (Zb (xSet 4 (pEnd (pRex .str (Za (pVar 1) (Za (pVar 4) (Za (pVar 5) pNil))))))
 (Zb (Zbt (Zcy (pVar 10) (pTup (Za (pVar 4) (Za (pLen (pVar 8)) pNil)))))
 (Zb Zdr
 xNil))))) xNil) Zkj
noncomputable def Zkl:PX:=Zb (xIf (tE (pCmp .In (pVar 13) (pC (.str [41,93,125])))) (Zb (xIf (tE (pVar 8)) (Zb (xDel (pVar 8) (pC (.int (-1))))
 xNil) xNil)
 (Zb (xSet 7 (pVar 13))
 (Zb (xSet 4 (pBin .Add (pVar 4) (pC (.int 1))))
 (Zb (Zbt (Zcy (pVar 10) (pTup (Za (pVar 4) (Za (pLen (pVar 8)) pNil)))))
 (Zb Zdr
 xNil))))) xNil) Zkk
noncomputable def Zkm:PX:=Zb (xIf (tE (pCmp .In (pVar 13) (pC (.str [40,91,123])))) (Zb (Zbt (Zrf 9 (pVar 4)))
 (Zb (Zbt (Zcy (pVar 10) (pTup (Za (pVar 4) (Za (pLen (pVar 8)) pNil)))))
 (Zb (xSet 7 (pVar 13))
 (Zb (xSet 4 (pBin .Add (pVar 4) (pC (.int 1))))
 (Zb Zdr
 xNil))))) xNil) Zkl
noncomputable def Zj:PX:=Zb (xSet 13 (pIdx (pVar 1) (pVar 4))) Zkm
noncomputable def Zkn:PX:=Zb (xIf (tE (pVar 11)) (Zb (xSet 12 (pEnd (pVar 11)))
 (Zb (xSet 3 (pBin .Sub (pVar 12) (pC (.int 1))))
 (Zb (Zaq (tAnd (tE (pCmp .GtE (pVar 3) (pVar 4))) (tE (pCmp .In (pIdx (pVar 1) (pVar 3)) (pC (.str [32,9,10]))))) Zfh xNil)
 (Zb (xIf (tE (pCmp .GtE (pVar 3) (pVar 4))) (Zb (xSet 7 (pIdx (pVar 1) (pVar 3)))
 xNil) xNil)
 (Zb (xSet 4 (pVar 12))
 (Zb (xIf (tE (pCmp .GtE (pVar 4) (pVar 5))) (Zb xBrk
 xNil) xNil)
 xNil)))))) xNil) Zj
noncomputable def Zdm:PX:=Zb (xSet 11 (pRex .chew (Za (pVar 1) (Za (pVar 4) (Za (pVar 5) pNil))))) Zkn
noncomputable def Zhb:PX:=Zb (Zea (Zpi (pVar 10)) (pVar 0) 10) xNil
noncomputable def Zhc:PX:=Zb (Zea (pIte (tE (pVar 8)) (pIdx (pVar 8) (pC (.int (-1)))) (pC .none)) (pVar 0) 9) Zhb
noncomputable def Zdz:PX:=Zb (Zea (pVar 7) (pVar 0) 8) Zhc
noncomputable def Zhd:PX:=Zb (Zaq (tE (pCmp .Lt (pVar 4) (pVar 5))) Zdm xNil) Zdz
noncomputable def Zod:PX:=Zb (xSet 10 (pNew (Za (pTup (Za (pVar 4) (Za (pC (.int 0)) pNil))) pNil))) Zhd
noncomputable def Zoe:PX:=Zb (xSet 9 (Zpj (pVar 8))) Zod
noncomputable def Zof:PX:=Zb (xSet 8 (pNew pNil)) Zoe
noncomputable def Ziu:PX:=Zb (xSet 7 (pC (.str []))) Zof
noncomputable def Zfe:PX:=Zb (Zdq [(Ztt (pVar 0) 6),(Ztt (pVar 0) 7)] (pTup (Za (pVar 4) (Za (pVar 5) pNil)))) Ziu
noncomputable def Ziv:PX:=Zb (xIf (tE (pCmp .Eq (pVar 3) (pC (.int 0)))) (Zb (Zaf (tE (pCmp .Eq (pVar 4) (pC (.int 0)))))
 (Zb (xSet 5 (pVar 4))
 xNil)) xNil) Zfe
noncomputable def Zff:PX:=Zb (Zaq (tE (pVar 3)) Zfj xNil) Ziv
noncomputable def Zry:PX:=Zb (xSet 4 (pLen (pVar 1))) Zff
noncomputable def Zrz:PX:=Zb (xSet 3 (pBin .Sub (pLen (pVar 2)) (pC (.int 1)))) Zry
noncomputable def Zsa:PX:=Zb (Zmt [(Zw 2),(Zw 1)] (pTup (Za (Zax (pVar 0) 2) (Za (Zax (pVar 0) 4) pNil)))) Zrz
noncomputable def Zfg:PX:=Zb (Zea (pC (.int 2)) (pVar 0) 3) Zsa
noncomputable def Zsb:PX:=Zb (Zbt (Zbf 1 13 Zbk (pVar 0) pNil)) Zfg
noncomputable def Zaa:PX:=Zb (xIf (tE (pCmp .GtE (Zax (pVar 0) 3) (pC (.int 2)))) (Zb Zxx
 xNil) xNil) Zsb
noncomputable def Zmn:List Str:=["self","code","goodlines","i","p","q","nothing","lastch","stack","push_stack","bracketing","m","newp","ch"]
noncomputable def attrsP:List Str:=["indentwidth","tabwidth","code","study_level","goodlines","continuation","stmt_start","stmt_end","lastch","lastopenbracketpos","stmt_bracketing"]
noncomputable def gS:List (Str × G):=[("len",.len),("tuple",.tuple),("range",.range),("trans",.trans),("_junkre",.rex .junk),("_match_stringre",.rex .str),("_chew_ordinaryre",.rex .chew),
 ("C_NONE",.val (.int 0)),("C_BACKSLASH",.val (.int 1)),("C_STRING_FIRST_LINE",.val (.int 2)),("C_STRING_NEXT_LINES",.val (.int 3)),("C_BRACKET",.val (.int 4))]
noncomputable def mS1:List (Str × Nat × Nat × PX):=[("_study1",1,13,Zbk)]
noncomputable def cxInit(sc:Scope):Ctx:=⟨Zxw,sc,attrsP,gS,[],fun _=>true,[]⟩
noncomputable def cxSet(sc:Scope):Ctx:=⟨Ziw,sc,attrsP,gS,[],fun _=>true,[]⟩
noncomputable def cx1(sc:Scope):Ctx:=⟨Zmo,sc,attrsP,gS,[],fun _=>true,[]⟩
noncomputable def cx2(sc:Scope):Ctx:=⟨Zmn,sc,attrsP,gS,mS1,fun _=>true,[]⟩
end Mine
end
section
open PySem
namespace Mine
theorem eI{α:Type}{p r:α→Prop}{w:α}(h:p w)(k:r w):∃ x,p x∧r x:=⟨w,h,k⟩
theorem iN{b:Bool}{p q:Prop}(e:b=false)(h:q):(b=true→p)∧(b=false→q):=⟨fun z=>Bool.noConfusion (e.symm.trans z),fun _=>h⟩
theorem iY{b:Bool}{p q:Prop}(e:b=true)(h:p):(b=true→p)∧(b=false→q):=⟨fun _=>h,fun z=>Bool.noConfusion (e.symm.trans z)⟩
noncomputable def ical(y:List Nat):List (List Nat)→List Nat
 | []=>[]
 | p :: r=>p++(r.map (y++·)).flatten
theorem Zip(y:Str):∀ (r:List Str) (a:List Nat),(r.foldl (fun acc p=>acc++y.cps++p.cps) a.toArray).toList=a++((r.map (·.cps.toList)).map (y.cps.toList++·)).flatten
 | [],a=>by simp
 | p :: r,a=>by
  rw [List.foldl_cons];have e:a.toArray++y.cps++p.cps=(a++y.cps.toList++p.cps.toList).toArray:=by
   apply Array.toList_inj.mp; simp
  rw [e,Zip y r];simp [List.append_assoc]
theorem Zpv(y p:Str)(r:List Str):(Builtin.Str.glued y (p :: r)).cps.toList=ical y.cps.toList ((p :: r).map (·.cps.toList)):=by
 show (r.foldl (fun acc p=>acc++y.cps++p.cps) p.cps).toList=_;have:=Zip y r p.cps.toList;rw [Array.toArray_toList] at this;rw [this]; rfl
theorem Zcb(x y z:List Nat)(hy:y≠[]):∃ ps,ps≠[]∧x=ical y ps∧Zeb x y z=ical z ps:=by
 have hx:∀ l:List Nat,(txt l).cps.toList=l:=fun l=>by simp [txt]
 have hs:=PySem.StrLaws.glued_between_self (txt x) (txt y) ((txt x).length + 1);delta Zeb Txt.replace
 split
 ·refine ⟨[x],by simp,by simp [ical],?_⟩;rw [hx]; simp [ical]
 ·cases q:Builtin.Str.partsBetween (txt x) (Builtin.Str.occurrences (txt x) (txt y) 0 (txt x).length ((txt x).length + 1)) (txt y).length with
  | nil=>have:=PySem.length_partsBetween (txt x) (Builtin.Str.occurrences (txt x) (txt y) 0 (txt x).length ((txt x).length + 1)) (txt y).length; rw [q] at this; cases this
  | cons p r =>
   rw [q] at hs;refine ⟨(p :: r).map (·.cps.toList),by simp,?_,?_⟩
   ·have:=congrArg (fun s:Str=>s.cps.toList) hs;rw [Zpv,hx,hx] at this;exact this.symm
   ·rw [Zpv,hx]
theorem Zzp{y z:List Nat}(h:z.length≤y.length)(ps:List (List Nat)):(ical z ps).length≤(ical y ps).length:=by
 cases ps with
 | nil=>exact Yaa _
 | cons p r =>
  simp only [ical,List.length_append];have:∀ r:List (List Nat),((r.map (z++·)).flatten).length≤((r.map (y++·)).flatten).length:=by
   intro r
   induction r with
   | nil=>exact Yaa _
   | cons a r ih=>simp only [List.map_cons,List.flatten_cons,List.length_append]; lia
  have:=this r;lia
theorem Zak{x y z:List Nat}(hy:y≠[])(h:z.length≤y.length):(Zeb x y z).length≤x.length:=by
 obtain ⟨ps,_,h1,h2⟩:=Zcb x y z hy;rw [h2]; conv=>rhs; rw [h1]
 exact Zzp h ps
theorem Zzo{y z:List Nat}{p:Nat→Prop}(hz:∀ c∈z,p c){ps:List (List Nat)}(h:∀ c∈ical y ps,p c):∀ c∈ical z ps,p c:=by
 cases ps with
 | nil=>exact h
 | cons a r =>
  intro c hc;simp only [ical,List.mem_append,List.mem_flatten,List.mem_map] at h hc
  rcases hc with hc | ⟨l,⟨b,hb,rfl⟩,hc⟩
  ·exact h c (.inl hc)
  ·rcases Ybw.mp hc with hc | hc
   ·exact hz c hc
   ·exact h c (.inr ⟨_,⟨b,hb,rfl⟩,Ybw.mpr (.inr hc)⟩)
theorem Zcu{x y z:List Nat}(hy:y≠[]){p:Nat→Prop}(hz:∀ c∈z,p c)(h:∀ c∈x,p c):∀ c∈Zeb x y z,p c:=by
 obtain ⟨ps,_,h1,h2⟩:=Zcb x y z hy;rw [h1] at h; rw [h2];exact Zzo hz h
theorem Zvg{y z:List Nat}{c d:Nat}(hy:y.getLast?=some d)(hd:d≠c):∀ {ps:List (List Nat)},(ical y ps).getLast?=some c→(ical z ps).getLast?=some c:=by
 have key:∀ (r:List (List Nat)) (a b:List Nat),(r=[]→b.getLast?=some c)→(a++(r.map (y++·)).flatten).getLast?=some c→(b++(r.map (z++·)).flatten).getLast?=some c:=by
  intro r
  induction r with
  | nil=>intro a b hb _; simpa using hb rfl
  | cons p r ih =>
   intro a b hb h;simp only [List.map_cons,List.flatten_cons] at h ⊢;rw [← List.append_assoc] at h ⊢;refine ih (a++(y++p)) (b++(z++p)) (fun e=>?_) h;subst e;simp only [List.map_nil,List.flatten_nil,List.append_nil] at h;cases p with
   | nil =>
    rw [List.append_nil,List.getLast?_append,hy] at h;cases h;exact absurd rfl hd
   | cons q p =>
    have e1:(q :: p).getLast?=some ((q :: p).getLast (by simp)):=List.getLast?_eq_some_getLast (by simp);rw [← List.append_assoc,List.getLast?_append,e1] at h ⊢;exact h
 intro ps h;cases ps with
 | nil=>exact h
 | cons p r=>exact key r p p (fun e=>by subst e; simpa [ical] using h) h
theorem Zbv{x y z:List Nat}{c d:Nat}(hy:y.getLast?=some d)(hd:d≠c)(h:x.getLast?=some c):(Zeb x y z).getLast?=some c:=by
 obtain ⟨ps,_,h1,h2⟩:=Zcb x y z (fun e=>by subst e; exact nn hy);rw [h1] at h; rw [h2];exact Zvg hy hd h
theorem Zzn{α:Type}{f:α→Nat→α}{y z:List Nat}(h:∀ a,y.foldl f a=z.foldl f a)(ps:List (List Nat))(a:α):(ical y ps).foldl f a=(ical z ps).foldl f a:=by
 have key:∀ (r:List (List Nat)) (a:α),((r.map (y++·)).flatten).foldl f a=((r.map (z++·)).flatten).foldl f a:=by
  intro r
  induction r with
  | nil=>intro a; rfl
  | cons p r ih =>
   intro a;simp only [List.map_cons,List.flatten_cons,List.foldl_append];rw [h,ih]
 cases ps with
 | nil=>rfl
 | cons p r=>simp only [ical,List.foldl_append]; exact key r _
theorem Zct{α:Type}{f:α→Nat→α}{x y z:List Nat}(hy:y≠[])(h:∀ a,y.foldl f a=z.foldl f a)(a:α):(Zeb x y z).foldl f a=x.foldl f a:=by
 obtain ⟨ps,_,h1,h2⟩:=Zcb x y z hy;rw [h2]; conv=>rhs; rw [h1]
 exact (Zzn h ps a).symm
end Mine
end
section
set_option tactic.hygienic true
open PySem
namespace Mine
inductive Lx where
 | N | NB | B | C
 | Q1 (q:Bool) | Q2 (q:Bool) | S (q:Bool) | SB (q:Bool)
 | T (q:Bool) | T1 (q:Bool) | T2 (q:Bool) | TB (q:Bool)
 deriving DecidableEq
noncomputable def qc:Bool→Nat
 | false=>34
 | true=>39
structure M1 where
 lx:Lx
 f:Nat
 lv:Nat
 ln:Nat
 gd:List Nat
noncomputable def isO(c:Nat):Bool:=c == 40 || c == 91 || c == 123
noncomputable def isC(c:Nat):Bool:=c == 41 || c == 93 || c == 125
inductive Cl where
 | nl | op | cl | dq | sq | hash | bs | ord
 deriving DecidableEq
noncomputable def cls(c:Nat):Cl:=if c=10 then .nl else if isO c then .op else if isC c then .cl else if c=34 then .dq else if c=39 then .sq else if c=35 then .hash else if c=92 then .bs else .ord
noncomputable def qk:Bool→Cl
 | false=>.dq
 | true=>.sq
noncomputable def M1.line(s:M1):M1:={ s with ln:=s.ln + 1 }
noncomputable def M1.nl(s:M1):M1:={ s with lx:=.N,ln:=s.ln + 1,gd:=if s.lv=0 then s.gd++[s.ln + 1] else s.gd }
noncomputable def M1.to(s:M1)(x:Lx):M1:={ s with lx:=x }
noncomputable def nrm(s:M1):Cl→M1
 | .nl=>s.nl
 | .op=>{ s with lx:=.N,lv:=s.lv + 1 }
 | .cl=>{ s with lx:=.N,lv:=s.lv - 1 }
 | .dq=>{ s with lx:=.Q1 false,f:=s.ln }
 | .sq=>{ s with lx:=.Q1 true,f:=s.ln }
 | .hash=>s.to .C
 | .bs=>s.to .B
 | .ord=>if s.lx=.NB then s else s.to .N
noncomputable def inS(q:Bool)(s:M1)(k:Cl):M1:=if k=qk q then s.to .N else if k=.nl then s.nl else if k=.bs then s.to (.SB q) else s.to (.S q)
noncomputable def inT(q:Bool)(s:M1)(k:Cl):M1:=if k=.bs then s.to (.TB q) else if k=.nl then s.line.to (.T q) else s.to (.T q)
noncomputable def dk(s:M1)(k:Cl):M1:=match s.lx with
 | .N=>nrm s k
 | .NB=>nrm s k
 | .B=>if k=.nl then s.line.to .NB else s.to .N
 | .C=>if k=.nl then s.nl else s
 | .Q1 q=>if k=qk q then s.to (.Q2 q) else inS q s k
 | .Q2 q=>if k=qk q then s.to (.T q) else nrm (s.to .N) k
 | .S q=>inS q s k
 | .SB q=>if k=.nl then s.line.to (.S q) else s.to (.S q)
 | .T q=>if k=qk q then s.to (.T1 q) else inT q s k
 | .T1 q=>if k=qk q then s.to (.T2 q) else inT q s k
 | .T2 q=>if k=qk q then s.to .N else inT q s k
 | .TB q=>if k=.nl then s.line.to (.T q) else s.to (.T q)
noncomputable def d1(s:M1)(c:Nat):M1:=dk s (cls c)
noncomputable def run1(s:M1)(l:List Nat):M1:=l.foldl d1 s
theorem Ze(s:M1)(c:Nat)(l:List Nat):run1 s (c :: l)=run1 (d1 s c) l:=rfl
theorem Znh(s:M1)(a b:List Nat):run1 s (a++b)=run1 (run1 s a) b:=Ybx
theorem cls_trc(c:Nat):cls (trc c)=cls c:=by
 delta trc
 by_cases h1:c=40∨c=123∨c=91
 ·rw [if_pos h1]; rcases h1 with rfl | rfl | rfl <;> rfl
 ·rw [if_neg h1]
  by_cases h2:c=41∨c=125∨c=93
  ·rw [if_pos h2]; rcases h2 with rfl | rfl | rfl <;> rfl
  ·rw [if_neg h2]
   by_cases h3:c=34∨c=39∨c=92∨c=10∨c=35
   ·rw [if_pos h3]
   ·rw [if_neg h3];have e1:isO c=false:=by
     delta isO;rw [beq_false_of_ne fun q=>h1 (.inl q),beq_false_of_ne fun q=>h1 (.inr (.inr q)),beq_false_of_ne fun q=>h1 (.inr (.inl q))]; rfl
    have e2:isC c=false:=by
     delta isC;rw [beq_false_of_ne fun q=>h2 (.inl q),beq_false_of_ne fun q=>h2 (.inr (.inr q)),beq_false_of_ne fun q=>h2 (.inr (.inl q))]; rfl
    delta cls;rw [e1,e2,if_neg fun q=>h3 (.inr (.inr (.inr (.inl q)))),if_neg fun q=>h3 (.inl q),if_neg fun q=>h3 (.inr (.inl q)),if_neg fun q=>h3 (.inr (.inr (.inr (.inr q)))),if_neg fun q=>h3 (.inr (.inr (.inl q)))];rfl
theorem Zys(s:M1)(l:List Nat):run1 s (l.map trc)=run1 s l:=by
 induction l generalizing s with
 | nil=>rfl
 | cons c l ih=>rw [List.map_cons,Ze,Ze,ih]; delta d1; rw [cls_trc]
theorem Znk(s:M1):dk (dk s .ord) .ord=dk s .ord:=by
 obtain ⟨lx,f,lv,ln,gd⟩:=s;cases lx <;> (try rename_i q; cases q) <;> rfl
theorem nl_ord(s:M1):dk (dk s .nl) .ord=dk s .nl:=by
 obtain ⟨lx,f,lv,ln,gd⟩:=s;cases lx <;> (try rename_i q; cases q) <;> rfl
theorem cls_x:cls 120=.ord:=rfl
theorem cls_10:cls 10=.nl:=rfl
theorem x8(s:M1):[120,120,120,120,120,120,120,120].foldl d1 s=[120].foldl d1 s:=by
 simp only [List.foldl_cons,List.foldl_nil,d1,cls_x,Znk]
theorem x4(s:M1):[120,120,120,120].foldl d1 s=[120].foldl d1 s:=by
 simp only [List.foldl_cons,List.foldl_nil,d1,cls_x,Znk]
theorem x2(s:M1):[120,120].foldl d1 s=[120].foldl d1 s:=by
 simp only [List.foldl_cons,List.foldl_nil,d1,cls_x,Znk]
theorem xnl(s:M1):[10,120].foldl d1 s=[10].foldl d1 s:=by
 simp only [List.foldl_cons,List.foldl_nil,d1,cls_x,cls_10,nl_ord]
noncomputable def small(x:List Nat):List Nat:=Zeb (Zeb (Zeb (Zeb (Zeb (x.map trc) [120,120,120,120,120,120,120,120] [120]) [120,120,120,120] [120]) [120,120] [120]) [120,120] [120]) [10,120] [10]
theorem Ztn(s:M1)(x:List Nat):run1 s (small x)=run1 s x:=by
 delta small run1;rw [Zct (by simp) xnl,Zct (by simp) x2,Zct (by simp) x2,Zct (by simp) x4,Zct (by simp) x8];exact Zys s x
noncomputable def Zmk(c:Nat):Prop:=c=120∨c=10∨c=40∨c=41∨c=34∨c=39∨c=35∨c=92
theorem Zta(c:Nat):Zmk (trc c):=by
 delta trc Zmk
 split
 ·exact .inr (.inr (.inl rfl))
 ·split
  ·exact .inr (.inr (.inr (.inl rfl)))
  ·split
   ·rename_i h
    rcases h with h | h | h | h | h
    ·exact .inr (.inr (.inr (.inr (.inl h))))
    ·exact .inr (.inr (.inr (.inr (.inr (.inl h)))))
    ·exact .inr (.inr (.inr (.inr (.inr (.inr (.inr h))))))
    ·exact .inr (.inl h)
    ·exact .inr (.inr (.inr (.inr (.inr (.inr (.inl h))))))
   ·exact .inl rfl
theorem Zne(x:List Nat):∀ c∈small x,Zmk c:=by
 have hx:∀ c∈[120],Zmk c:=fun c h=>by simp at h; exact .inl h
 have hn:∀ c∈[10],Zmk c:=fun c h=>by simp at h; exact .inr (.inl h)
 delta small;refine Zcu (by simp) hn (Zcu (by simp) hx (Zcu (by simp) hx (Zcu (by simp) hx (Zcu (by simp) hx ?_))));intro c hc;obtain ⟨d,_,rfl⟩:=Ybr.mp hc;exact Zta d
theorem Zii{x:List Nat}(h:x.getLast?=some 10):(small x).getLast?=some 10:=by
 delta small;refine Zbv (d:=120) rfl (by decide) (Zbv (d:=120) rfl (by decide) (Zbv (d:=120) rfl (by decide) (Zbv (d:=120) rfl (by decide) (Zbv (d:=120) rfl (by decide) ?_))));rw [List.getLast?_map,h]; rfl
theorem Ztp(x:List Nat):(small x).length≤x.length:=by
 delta small;refine Yg (Zak (by simp) (by simp)) (Yg (Zak (by simp) (by simp)) (Yg (Zak (by simp) (by simp)) (Yg (Zak (by simp) (by simp)) (Yg (Zak (by simp) (by simp)) ?_))));rw [List.length_map]; exact Yaa _
noncomputable def Ztj:Lx→Bool
 | .N | .NB | .B | .C | .Q2 _=>false
 | _=>true
noncomputable def Zg(s:M1):Int:=if Ztj s.lx then (if (s.ln:Int) - 1=s.f then 2 else 3) else if 0 < s.lv then 4 else if s.lx=.NB then 1 else 0
noncomputable def start1:M1:=⟨.N,0,0,0,[0]⟩
noncomputable def endLx:Lx→Bool
 | .N | .NB | .S _ | .T _=>true
 | _=>false
structure Inv1(s:M1):Prop where
 ne:s.gd≠[]
 le:∀ x∈s.gd,x≤s.ln
theorem Zva{s:M1}(h:Inv1 s):Inv1 s.nl:=by
 refine ⟨?_,fun x hx=>?_⟩
 ·show (if s.lv=0 then s.gd++[s.ln + 1] else s.gd)≠[]
  split
  ·simp
  ·exact h.ne
 ·have hx':x∈(if s.lv=0 then s.gd++[s.ln + 1] else s.gd):=hx;show x≤s.ln + 1
  split at hx'
  ·rcases Ybw.mp hx' with q | q
   ·have:=h.le x q; exact Yby ‹_›
   ·simp at q; exact Ybg ‹_›
  ·have:=h.le x hx'; exact Yby ‹_›
theorem Zk{s t:M1}(h:Inv1 s)(e:t.gd=s.gd)(l:s.ln≤t.ln):Inv1 t:=⟨e ▸ h.ne,fun x hx=>Yg (h.le x (e ▸ hx)) l⟩
theorem Znt{s:M1}(h:Inv1 s)(k:Cl):Inv1 (nrm s k):=by
 cases k with
 | nl=>exact Zva h
 | ord =>
  show Inv1 (if s.lx=.NB then s else s.to .N)
  split
  ·exact h
  ·exact Zk (t:=s.to .N) h rfl (Yaa s.ln)
 | op=>exact Zk (t:={ s with lx:=.N,lv:=s.lv + 1 }) h rfl (Yaa s.ln)
 | cl=>exact Zk (t:={ s with lx:=.N,lv:=s.lv - 1 }) h rfl (Yaa s.ln)
 | dq=>exact Zk (t:={ s with lx:=.Q1 false,f:=s.ln }) h rfl (Yaa s.ln)
 | sq=>exact Zk (t:={ s with lx:=.Q1 true,f:=s.ln }) h rfl (Yaa s.ln)
 | hash=>exact Zk (t:=s.to .C) h rfl (Yaa s.ln)
 | bs=>exact Zk (t:=s.to .B) h rfl (Yaa s.ln)
theorem Zvb{q:Bool}{s:M1}(h:Inv1 s)(k:Cl):Inv1 (inS q s k):=by
 delta inS; split; exact Zk h rfl (Yaa _); split; exact Zva h; split <;> exact Zk h rfl (Yaa _)
theorem Znu{q:Bool}{s:M1}(h:Inv1 s)(k:Cl):Inv1 (inT q s k):=by
 delta inT; split; exact Zk h rfl (Yaa _); split; exact Zk h rfl (Yba _); exact Zk h rfl (Yaa _)
theorem inv_dk{s:M1}(h:Inv1 s)(k:Cl):Inv1 (dk s k):=by
 delta dk
 split
 ·exact Znt h k
 ·exact Znt h k
 ·split; exact Zk h rfl (Yba _); exact Zk h rfl (Yaa _)
 ·split; exact Zva h; exact h
 ·split; exact Zk h rfl (Yaa _); exact Zvb h k
 ·split; exact Zk h rfl (Yaa _); exact Znt (Zk (t:=s.to .N) h rfl (Yaa s.ln)) k
 ·exact Zvb h k
 ·split; exact Zk h rfl (Yba _); exact Zk h rfl (Yaa _)
 ·split; exact Zk h rfl (Yaa _); exact Znu h k
 ·split; exact Zk h rfl (Yaa _); exact Znu h k
 ·split; exact Zk h rfl (Yaa _); exact Znu h k
 ·split; exact Zk h rfl (Yba _); exact Zk h rfl (Yaa _)
theorem Zjv{s:M1}(h:Inv1 s)(l:List Nat):Inv1 (run1 s l):=by
 induction l generalizing s with
 | nil=>exact h
 | cons c l ih=>exact ih (inv_dk h _)
theorem Zen:Inv1 start1:=⟨by decide,by decide⟩
theorem dk_nl(s:M1):dk s .nl=s.nl∨∃ x,(x≠.N∧endLx x=true)∧dk s .nl=s.line.to x:=by
 obtain ⟨lx,f,lv,ln,gd⟩:=s;cases lx with
 | N | NB | C=>exact .inl rfl
 | B=>exact .inr ⟨.NB,by decide,rfl⟩
 | Q1 q | Q2 q | S q=>cases q <;> exact .inl rfl
 | SB q=>exact .inr ⟨.S q,⟨nofun,rfl⟩,rfl⟩
 | T q | T1 q | T2 q=>exact .inr ⟨.T q,⟨nofun,rfl⟩,by cases q <;> rfl⟩
 | TB q=>exact .inr ⟨.T q,⟨nofun,rfl⟩,rfl⟩
theorem end_nl{s:M1}(h:Inv1 s):endLx (dk s .nl).lx=true∧((dk s .nl).gd.getLast?=some (dk s .nl).ln↔(dk s .nl).lx=.N∧(dk s .nl).lv=0):=by
 have key:s.gd.getLast?≠some (s.ln + 1):=fun e=>by
  have:=h.le _ (Ybz e); exact absurd ‹_› (Yl _)
 rcases dk_nl s with e | ⟨x,⟨hx,he⟩,e⟩
 ·rw [e];refine ⟨rfl,?_⟩;show (if s.lv=0 then s.gd++[s.ln + 1] else s.gd).getLast?=some (s.ln + 1)↔Lx.N=Lx.N∧s.lv=0
  by_cases h0:s.lv=0
  ·rw [if_pos h0]; simp [h0]
  ·rw [if_neg h0]; exact ⟨fun e=>absurd e key,fun e=>absurd e.2 h0⟩
 ·rw [e]; exact ⟨he,⟨fun e=>absurd e key,fun e=>absurd e.1 hx⟩⟩
noncomputable def GdOk(s t:M1)(k:Cl):Prop:=t.ln=(if k=.nl then s.ln + 1 else s.ln)∧(t.gd=s.gd∨(k=.nl∧t.gd=s.gd++[s.ln + 1]))
theorem Zmd{s:M1}{k:Cl}(h:k≠.nl){t:M1}(e:t.ln=s.ln)(g:t.gd=s.gd):GdOk s t k:=⟨by rw [if_neg h]; exact e,.inl g⟩
theorem Zjy{s:M1}(x:Lx):GdOk s (s.line.to x) .nl:=⟨rfl,.inl rfl⟩
theorem gd_nl(s t:M1)(e:t.ln=s.ln)(g:t.gd=s.gd):GdOk s t.nl .nl:=by
 refine ⟨congrArg (· + 1) e,?_⟩;show (if t.lv=0 then t.gd++[t.ln + 1] else t.gd)=_∨_∧(if t.lv=0 then t.gd++[t.ln + 1] else t.gd)=_;rw [e,g]
 by_cases h:t.lv=0
 ·rw [if_pos h]; exact .inr ⟨rfl,rfl⟩
 ·rw [if_neg h]; exact .inl rfl
theorem Zvm(s t:M1)(e:t.ln=s.ln)(g:t.gd=s.gd)(k:Cl):GdOk s (nrm t k) k:=by
 cases k with
 | nl=>exact gd_nl s t e g
 | ord=>show GdOk s (if t.lx=.NB then t else t.to .N) .ord; split <;> exact Zmd (by decide) e g
 | _=>exact Zmd (by decide) e g
theorem gd_inS(q:Bool)(s:M1)(k:Cl):GdOk s (inS q s k) k:=by
 delta inS
 by_cases h1:k=.nl
 ·subst h1;rw [if_neg (by cases q <;> decide),if_pos rfl]; exact gd_nl s s rfl rfl
 ·rw [if_neg h1]
  split
  ·exact Zmd h1 rfl rfl
  ·split <;> exact Zmd h1 rfl rfl
theorem Zvo{s t u:M1}{k:Cl}(h:k=.nl→GdOk s t .nl)(h':k≠.nl→GdOk s u k):GdOk s (if k=.nl then t else u) k:=by
 by_cases e:k=.nl
 ·rw [if_pos e,e]; exact h e
 ·rw [if_neg e]; exact h' e
theorem Zvn(q:Bool)(s:M1)(k:Cl):GdOk s (inT q s k) k:=by
 delta inT
 split
 ·rename_i h; exact Zmd (by rw [h]; decide) rfl rfl
 ·exact Zvo (fun _=>Zjy _) fun h=>Zmd h rfl rfl
theorem gd_q{s t u:M1}{k:Cl}{q:Bool}(h:k≠.nl→GdOk s t k)(h':GdOk s u k):GdOk s (if k=qk q then t else u) k:=by
 by_cases e:k=qk q
 ·rw [if_pos e]; exact h (by rw [e]; cases q <;> decide)
 ·rw [if_neg e]; exact h'
theorem dk_gd(s:M1)(k:Cl):(dk s k).ln=(if k=.nl then s.ln + 1 else s.ln)∧((dk s k).gd=s.gd∨(k=.nl∧(dk s k).gd=s.gd++[s.ln + 1])):=by
 show GdOk s (dk s k) k;have t:∀ x,k≠.nl→GdOk s (s.to x) k:=fun x h=>Zmd h rfl rfl;delta dk
 split
 ·exact Zvm s s rfl rfl k
 ·exact Zvm s s rfl rfl k
 ·exact Zvo (fun _=>Zjy _) (t _)
 ·exact Zvo (fun _=>gd_nl s s rfl rfl) fun h=>Zmd h rfl rfl
 ·exact gd_q (t _) (gd_inS _ s k)
 ·exact gd_q (t _) (Zvm s (s.to .N) rfl rfl k)
 ·exact gd_inS _ s k
 ·exact Zvo (fun _=>Zjy _) (t _)
 ·exact gd_q (t _) (Zvn _ s k)
 ·exact gd_q (t _) (Zvn _ s k)
 ·exact gd_q (t _) (Zvn _ s k)
 ·exact Zvo (fun _=>Zjy _) (t _)
theorem Zpf{x:List Nat}(h:x.getLast?=some 10)(s:M1):∃ x',x=x'++[10]∧run1 s x=dk (run1 s x') .nl:=by
 obtain ⟨x',rfl⟩:=Yca.mp h;exact ⟨x',rfl,by rw [Znh]; rfl⟩
end Mine
end
section
open PySem
namespace Mine
theorem Zh{cells:List Cell}{y pre z:List Nat}{c:Nat}{i:Int}(hy:y=pre++c :: z)(hi:i=pre.length)(hl:y.length < 1048576):vidx cells (.str y) (.int i)=some (.str [c]):=by
 have h0:y.length=pre.length + (z.length + 1):=by rw [hy]; simp
 have hp:pre.length < y.length:=h0 ▸ Nat.lt_add_of_pos_right (Ybm _);have hf:fits i:=Zcg hi (Ycb hp (Ycb hl (by decide)));have hs:seqIndex? i y.length=some pre.length:=Zjg hi hp;show (if fits i then ((seqIndex? i y.length).bind (y[·]?)).map fun c=>V.str [c] else none)=_;rw [if_pos hf,hs];show Option.map _ (y[pre.length]?)=_;rw [hy,List.getElem?_append_right (Nat.le_refl _),Nat.sub_self]; rfl
theorem Zyj{k:Nat}{z:List Nat}:z.take (min k z.length)=z.take k:=by
 by_cases h:k≤z.length
 ·rw [Nat.min_eq_left h]
 ·rw [Nat.min_eq_right (by lia),List.take_of_length_le (Nat.le_refl _),List.take_of_length_le (by lia)]
theorem Zqg(n:Nat)(d:Int)(p:Nat):(Zbr n d (some (p:Int))).toNat=min p n:=by
 show (max 0 (min (if (p:Int) < 0 then (p:Int) + n else p) (n:Int))).toNat=_;rw [if_neg (Int.not_lt.mpr (Int.natCast_nonneg p))]
 rcases Ycc p n with h | h
 ·rw [Int.min_eq_left (Int.ofNat_le.mpr h),Int.max_eq_right (Int.natCast_nonneg p),Int.toNat_natCast,Nat.min_eq_left h]
 ·rw [Int.min_eq_right (Int.ofNat_le.mpr h),Int.max_eq_right (Int.natCast_nonneg n),Int.toNat_natCast,Nat.min_eq_right h]
theorem vsl_eq{y pre z:List Nat}{a b:Int}{k:Nat}(hy:y=pre++z)(ha:a=pre.length)(hb:b=pre.length + k):vsl y (some a) (some b)=z.take k:=by
 have h0:y.length=pre.length + z.length:=by rw [hy]; simp
 subst ha;rw [← Int.natCast_add] at hb;subst hb;have e1:(Zbr y.length 0 (some (pre.length:Int))).toNat=pre.length:=by rw [Zqg,h0,Nat.min_eq_left (Nat.le_add_right _ _)]
 have e2:(Zbr y.length y.length (some ((pre.length + k:Nat):Int))).toNat - pre.length=min k z.length:=by rw [Zqg,h0,Nat.add_min_add_left,Nat.add_sub_cancel_left]
 unfold vsl;rw [e1,e2,hy,List.drop_left,Zyj]
theorem Zbc{cells:List Cell}{y pre z:List Nat}{a b:Int}{k:Nat}(hl:y.length < 1048576)(hy:y=pre++z)(ha:a=pre.length)(hb:b=pre.length + k):Zbu cells (.str y) (some a) (some b)=some (.str (z.take k)):=by
 show (if y.length≤Zc then some (V.str (vsl y (some a) (some b))) else none)=_;rw [if_pos (by unfold Zc; exact lted ‹_›),vsl_eq hy ha hb]
theorem Zce(base:List Cell)(c:Cell):(base++[c])[base.length]?=some c:=by simp
theorem Zjs(base:List Cell)(c d:Cell):(base++[c]).set base.length d=base++[d]:=by simp
noncomputable def gl(gd:List Nat):List V:=gd.map fun n:Nat=>.int n
theorem Zvl(gd:List Nat)(n:Nat):gl gd++[.int n]=gl (gd++[n]):=by simp [gl]
theorem Zgt(gd:List Nat):(gl gd).length=gd.length:=by simp [gl]
noncomputable def st1(base:List Cell)(self:V)(y:List Nat)(cont lv ln:Int)(gd:List Nat)(i:Int)(ch qt fl w:Option V):St :=
 ⟨[some self,some (.str y),some (.int cont),some (.int lv),some (.int ln),some (.ref base.length),some (.app base.length),some (.int i),some (.int y.length),ch,qt,fl,w],base++[.list (gl gd)]⟩
noncomputable def Zfx(s:M1):Int:=if Ztj s.lx then (if (s.ln:Int) - 1=s.f then 2 else 3) else if s.lx=.NB then 1 else 0
theorem Zbg{y pre z:List Nat}{c:Nat}(h:y.getLast?=some 10)(hy:y=pre++c :: z)(hc:c≠10):∃ d z',z=d :: z':=by
 cases z with
 | cons d z'=>exact ⟨d,z',rfl⟩
 | nil=>subst hy; simp at h; exact absurd h hc
theorem Zbh{y pre z:List Nat}(h:y.getLast?=some 10)(hy:y=pre++z)(hz:z≠[]):z.getLast?=some 10:=by
 subst hy;rw [List.getLast?_append] at h;cases q:z.getLast? with
 | none=>rw [List.getLast?_eq_none_iff] at q; exact absurd q hz
 | some d=>rw [q] at h; exact h
theorem t1_t{q:Bool}{s:M1}{z:List Nat}(hl:z.getLast?=some 10)(h:∀ a b r,z=a :: b :: r→¬ (cls a=qk q∧cls b=qk q)):run1 (s.to (.T1 q)) z=run1 (s.to (.T q)) z:=by
 cases z with
 | nil=>cases hl
 | cons c z =>
  rw [Ze,Ze]
  by_cases hc:cls c=qk q
  ·cases z with
   | nil=>simp at hl; subst hl; cases q <;> cases hc
   | cons d z =>
    have hd:cls d≠qk q:=fun e=>h c d z rfl ⟨hc,e⟩;rw [Ze,Ze];have e1:d1 (s.to (.T1 q)) c=s.to (.T2 q):=if_pos hc;have e2:d1 (s.to (.T q)) c=s.to (.T1 q):=if_pos hc;rw [e1,e2];have e3:d1 (s.to (.T2 q)) d=inT q (s.to (.T2 q)) (cls d):=if_neg hd;have e4:d1 (s.to (.T1 q)) d=inT q (s.to (.T1 q)) (cls d):=if_neg hd;rw [e3,e4]; rfl
  ·have e1:d1 (s.to (.T1 q)) c=inT q (s.to (.T1 q)) (cls c):=if_neg hc;have e2:d1 (s.to (.T q)) c=inT q (s.to (.T q)) (cls c):=if_neg hc;rw [e1,e2]; rfl
theorem q1_s{q:Bool}{s:M1}{z:List Nat}(hl:z.getLast?=some 10)(h:∀ a b r,z=a :: b :: r→¬ (cls a=qk q∧cls b=qk q)):run1 (s.to (.Q1 q)) z=run1 (s.to (.S q)) z:=by
 cases z with
 | nil=>cases hl
 | cons c z =>
  rw [Ze,Ze]
  by_cases hc:cls c=qk q
  ·cases z with
   | nil=>simp at hl; subst hl; cases q <;> cases hc
   | cons d z =>
    have hd:cls d≠qk q:=fun e=>h c d z rfl ⟨hc,e⟩;rw [Ze,Ze];have e1:d1 (s.to (.Q1 q)) c=s.to (.Q2 q):=if_pos hc;have e2:d1 (s.to (.S q)) c=s.to .N:=by
     show inS q (s.to (.S q)) (cls c)=_;unfold inS; rw [if_pos hc]; rfl
    rw [e1,e2];have e3:d1 (s.to (.Q2 q)) d=nrm (s.to .N) (cls d):=if_neg hd;rw [e3]; rfl
  ·have e1:d1 (s.to (.Q1 q)) c=inS q (s.to (.Q1 q)) (cls c):=if_neg hc;rw [e1]; rfl
theorem cls_q{q:Bool}{c:Nat}:cls c=qk q↔c=qc q:=by
 constructor
 ·intro h;unfold cls at h
  by_cases h1:c=10
  ·rw [if_pos h1] at h; cases q <;> cases h
  ·rw [if_neg h1] at h
   split at h
   ·cases q <;> cases h
   ·split at h
    ·cases q <;> cases h
    ·split at h
     ·rename_i e; cases q with | false=>exact e | true=>cases h
     ·split at h
      ·rename_i e; cases q with | true=>exact e | false=>cases h
      ·split at h
       ·cases q <;> cases h
       ·split at h <;> (cases q <;> cases h)
 ·intro h; subst h; exact q.rec rfl rfl
section
variable{base:List Cell}{self:V}{y pre z:List Nat}{cont lv i:Int}{ln:Nat}{gd:List Nat}{ch qt fl w:Option V}{Q:Fl→St→Prop}
theorem b2_x(hy:y=pre++120 :: z)(hi:i=pre.length)(hl:y.length < 1048576)(h:Q .cont (st1 base self y cont lv ln gd (i + 1) (some (.str [120])) qt fl w)):Zt Q (st1 base self y cont lv ln gd i ch qt fl w):=by
 have e1:∀ cells,vidx cells (.str y) (.int i)=some (.str [120]):=fun cells=>Zh hy hi hl
 repeat (first
 | exact h
 | refine eI rfl ?_
 | refine eI (e1 _) ?_
 | refine Ybk rfl ?_
 | refine iN (by decide) ?_
 | refine iY (by decide) ?_)
theorem b2_q{c:Nat}{k:Nat}{t:List Nat}(hc:c≠120)(hy:y=pre++c :: z)(hi:i=pre.length)(hl:y.length < 1048576)(ht:(c :: z).take (1 + k)=t)
  (h:Q .brk (st1 base self y cont lv ln gd (i + 1 + k) (some (.str [c])) (some (.str t)) fl (some (.int k)))):Zt Q (st1 base self y cont lv ln gd i ch (some (.str t)) fl (some (.int k))):=by
 have e1:∀ cells,vidx cells (.str y) (.int i)=some (.str [c]):=fun cells=>Zh hy hi hl;have e2:∀ cells,Zbu cells (.str y) (some (i + 1 - 1)) (some (i + 1 + k))=some (.str t):=fun cells=>by rw [← ht]; exact Zbc (k:=1 + k) hl hy (by lia) (by lia)
 have n1:([c] == [120])=false:=by simp [hc]
 have n2:(t == t)=true:=by simp
 repeat (first
 | exact h
 | refine eI rfl ?_
 | refine eI (e1 _) ?_
 | refine eI (e2 _) ?_
 | refine Ybk rfl ?_
 | refine iN (by decide) ?_
 | refine iY (by decide) ?_
 | refine iN n1 ?_
 | refine iY n2 ?_)
theorem b2_nl0{t:List Nat}(hy:y=pre++10 :: z)(hi:i=pre.length)(hl:y.length < 1048576)(ht:([10] == t)=false)
  (h1:lv=0→gd.length < 1048577∧Q .brk (st1 base self y cont lv (ln + 1:Nat) (gd++[ln + 1]) (i + 1) (some (.str [10])) (some (.str t)) fl (some (.int 0))))
  (h2:lv≠0→Q .brk (st1 base self y cont lv (ln + 1:Nat) gd (i + 1) (some (.str [10])) (some (.str t)) fl (some (.int 0)))) :
  Zt Q (st1 base self y cont lv ln gd i ch (some (.str t)) fl (some (.int 0))):=by
 have e1:∀ cells,vidx cells (.str y) (.int i)=some (.str [10]):=fun cells=>Zh hy hi hl;have e2:∀ cells,Zbu cells (.str y) (some (i + 1 - 1)) (some (i + 1 + 0))=some (.str [10]):=fun cells=>Zbc (k:=1) hl hy (by lia) (by lia)
 by_cases h0:lv=0
 ·obtain ⟨a,b⟩:=h1 h0;have e5:(gl gd).length < Zc:=by rw [Zgt]; unfold Zc; exact ltd ‹_›
  have y1:(lv == 0)=true:=by simpa using h0
  have fin:∃ n vs,V.ref base.length=V.ref n∧(base++[Cell.list (gl gd)])[n]?=some (.list vs)∧vs.length < Zc∧Q .brk ⟨[some self,some (.str y),some (.int cont),some (.int lv),some (.int ((ln:Int) + 1)),some (.ref base.length),some (.app base.length),some (.int (i + 1)),some (.int y.length),some (.str [10]),some (.str t),fl,some (.int 0)],(base++[Cell.list (gl gd)]).set n (.list (vs++[.int ((ln:Int) + 1)]))⟩:=by
   refine ⟨base.length,_,rfl,Zce _ _,e5,?_⟩;rw [Zjs,show ((ln:Int) + 1)=((ln + 1:Nat):Int) by exact rfl,Zvl];exact b
  repeat (first
 | exact fin
 | refine eI rfl ?_
 | refine eI (e1 _) ?_
 | refine eI (e2 _) ?_
 | refine Ybk rfl ?_
 | refine iN (by decide) ?_
 | refine iY (by decide) ?_
 | refine iN ht ?_
 | refine iY y1 ?_)
 ·have e6:(lv == 0)=false:=by simpa using h0
  have fin:=h2 h0
  repeat (first
 | exact fin
 | refine eI rfl ?_
 | refine eI (e1 _) ?_
 | refine eI (e2 _) ?_
 | refine Ybk rfl ?_
 | refine iN (by decide) ?_
 | refine iY (by decide) ?_
 | refine iN ht ?_
 | refine iN e6 ?_)
theorem b2_nl2{t:List Nat}{c2 c3:Nat}(hy:y=pre++10 :: z)(hi:i=pre.length)(hl:y.length < 1048576)(ht:((10 :: z).take 3 == t)=false)
  (h2:Q .cont (st1 base self y cont lv (ln + 1:Nat) gd (i + 1) (some (.str [10])) (some (.str t)) fl (some (.int 2)))) :
  Zt Q (st1 base self y cont lv ln gd i ch (some (.str t)) fl (some (.int 2))):=by
 have e1:∀ cells,vidx cells (.str y) (.int i)=some (.str [10]):=fun cells=>Zh hy hi hl;have e2:∀ cells,Zbu cells (.str y) (some (i + 1 - 1)) (some (i + 1 + 2))=some (.str ((10 :: z).take 3)):=fun cells=>Zbc (k:=3) hl hy (by lia) (by lia)
 repeat (first
 | exact h2
 | refine eI rfl ?_
 | refine eI (e1 _) ?_
 | refine eI (e2 _) ?_
 | refine Ybk rfl ?_
 | refine iN (by decide) ?_
 | refine iY (by decide) ?_
 | refine iN ht ?_)
theorem b2_bs{t:List Nat}{k d:Nat}(hy:y=pre++92 :: d :: z)(hi:i=pre.length)(hl:y.length < 1048576)(ht:((92 :: d :: z).take (1 + k) == t)=false)
  (h2:Q .cont (st1 base self y cont lv (if d=10 then ln + 1 else ln:Nat) gd (i + 1 + 1) (some (.str [92])) (some (.str t)) fl (some (.int k)))) :
  Zt Q (st1 base self y cont lv ln gd i ch (some (.str t)) fl (some (.int k))):=by
 have e1:∀ cells,vidx cells (.str y) (.int i)=some (.str [92]):=fun cells=>Zh hy hi hl;have e0:∀ cells,vidx cells (.str y) (.int (i + 1))=some (.str [d]):=fun cells=>Zh (pre:=pre++[92]) (z:=z) (by rw [hy]; simp) (by rw [hi]; simp) hl;have e2:∀ cells,Zbu cells (.str y) (some (i + 1 - 1)) (some (i + 1 + k))=some (.str ((92 :: d :: z).take (1 + k))):=fun cells=>Zbc (k:=1 + k) hl hy (by lia) (by lia);have e5:decide (i + 1 < (y.length:Int))=true:=by rw [hy,hi]; simp; lia
 by_cases hd:d=10
 ·subst hd;rw [if_pos rfl] at h2
  repeat (first
 | exact h2
 | refine eI rfl ?_
 | refine eI (e1 _) ?_
 | refine eI (e0 _) ?_
 | refine eI (e2 _) ?_
 | refine Ybk e5 ?_
 | refine Ybk rfl ?_
 | refine iN (by decide) ?_
 | refine iY (by decide) ?_
 | refine iN ht ?_)
 ·have e6:([d] == [10])=false:=by simp [hd]
  rw [if_neg hd] at h2
  repeat (first
 | exact h2
 | refine eI rfl ?_
 | refine eI (e1 _) ?_
 | refine eI (e0 _) ?_
 | refine eI (e2 _) ?_
 | refine Ybk e5 ?_
 | refine Ybk rfl ?_
 | refine iN (by decide) ?_
 | refine iY (by decide) ?_
 | refine iN ht ?_
 | refine iN e6 ?_)
theorem b2_ord{t:List Nat}{k c:Nat}(hc:c≠120∧c≠10∧c≠92)(hy:y=pre++c :: z)(hi:i=pre.length)(hl:y.length < 1048576)(ht:((c :: z).take (1 + k) == t)=false)
  (h2:Q .next (st1 base self y cont lv ln gd (i + 1) (some (.str [c])) (some (.str t)) fl (some (.int k)))) :
  Zt Q (st1 base self y cont lv ln gd i ch (some (.str t)) fl (some (.int k))):=by
 have e1:∀ cells,vidx cells (.str y) (.int i)=some (.str [c]):=fun cells=>Zh hy hi hl;have e2:∀ cells,Zbu cells (.str y) (some (i + 1 - 1)) (some (i + 1 + k))=some (.str ((c :: z).take (1 + k))):=fun cells=>Zbc (k:=1 + k) hl hy (by lia) (by lia);have q1:([c] == [120])=false:=by simp [hc.1]
 have q2:([c] == [10])=false:=by simp [hc.2.1]
 have q3:([c] == [92])=false:=by simp [hc.2.2]
 repeat (first
 | exact h2
 | refine eI rfl ?_
 | refine eI (e1 _) ?_
 | refine eI (e2 _) ?_
 | refine Ybk rfl ?_
 | refine iN (by decide) ?_
 | refine iY (by decide) ?_
 | refine iN ht ?_
 | refine iN q1 ?_
 | refine iN q2 ?_
 | refine iN q3 ?_)
end
end Mine
namespace Mine
section
variable{base:List Cell}{self:V}{y:List Nat}{Q:Fl→St→Prop}
theorem Znr{cont lv ln i:Int}{gd:List Nat}{ch qt fl w:Option V}{K:Bool→St→Prop}(h:K (decide (i < (y.length:Int))) (st1 base self y cont lv ln gd i ch qt fl w)):tE (pCmp .Lt (pVar 7) (pVar 8)) K (st1 base self y cont lv ln gd i ch qt fl w):=by
 repeat (first
 | exact h
 | refine eI rfl ?_
 | refine Ybk rfl ?_
 | refine iN (by decide) ?_
 | refine iY (by decide) ?_)
theorem o3_ok{lv i:Int}{ln f:Nat}{gd:List Nat}{ch qt w:Option V}(h:Q .next (st1 base self y (if (ln:Int) - 1=f then 2 else 3) lv ln gd i ch qt (some (.int f)) w)):Zba Q (st1 base self y 0 lv ln gd i ch qt (some (.int f)) w):=by
 by_cases h0:(ln:Int) - 1=f
 ·rw [if_pos h0] at h;have y1:((ln:Int) - 1 == f)=true:=by simpa using h0
  repeat (first
 | exact h
 | refine eI rfl ?_
 | refine Ybk rfl ?_
 | refine iN (by decide) ?_
 | refine iY (by decide) ?_
 | refine iY y1 ?_)
 ·rw [if_neg h0] at h;have y1:((ln:Int) - 1 == f)=false:=by simpa using h0
  repeat (first
 | exact h
 | refine eI rfl ?_
 | refine Ybk rfl ?_
 | refine iN (by decide) ?_
 | refine iY (by decide) ?_
 | refine iN y1 ?_)
theorem cls_nl{c:Nat}:cls c=.nl↔c=10:=by
 constructor
 ·intro h;unfold cls at h
  by_cases h1:c=10
  ·exact h1
  ·rw [if_neg h1] at h
   repeat (split at h; cases h)
   all_goals cases h
 ·intro h; subst h; rfl
theorem bs_step{q:Bool}{f lv ln:Nat}{gd:List Nat}{d:Nat}{z:List Nat}:run1 ⟨.S q,f,lv,ln,gd⟩ (92 :: d :: z)=run1 ⟨.S q,f,lv,if d=10 then ln + 1 else ln,gd⟩ z:=by
 have e:d1 ⟨.S q,f,lv,ln,gd⟩ 92=⟨.SB q,f,lv,ln,gd⟩:=by exact q.rec rfl rfl
 rw [Ze,e,Ze]
 congr 1
 show (if cls d=.nl then M1.to (M1.line ⟨.SB q,f,lv,ln,gd⟩) (.S q) else M1.to ⟨.SB q,f,lv,ln,gd⟩ (.S q))=_
 by_cases h:d=10
 ·rw [if_pos (cls_nl.mpr h),if_pos h]; rfl
 ·rw [if_neg (fun e=>h (cls_nl.mp e)),if_neg h]; rfl
theorem bt_step{q:Bool}{f lv ln:Nat}{gd:List Nat}{d:Nat}{z:List Nat}:run1 ⟨.T q,f,lv,ln,gd⟩ (92 :: d :: z)=run1 ⟨.T q,f,lv,if d=10 then ln + 1 else ln,gd⟩ z:=by
 have e:d1 ⟨.T q,f,lv,ln,gd⟩ 92=⟨.TB q,f,lv,ln,gd⟩:=by exact q.rec rfl rfl
 rw [Ze,e,Ze]
 congr 1
 show (if cls d=.nl then M1.to (M1.line ⟨.TB q,f,lv,ln,gd⟩) (.T q) else M1.to ⟨.TB q,f,lv,ln,gd⟩ (.T q))=_
 by_cases h:d=10
 ·rw [if_pos (cls_nl.mpr h),if_pos h]; rfl
 ·rw [if_neg (fun e=>h (cls_nl.mp e)),if_neg h]; rfl
theorem Zjz{a b c d e f:Prop}(h:a∨b∨c∨d∨e∨f)(n:¬ f):a∨b∨c∨d∨e:=by
 rcases h with h | h | h | h | h | h
 ·exact .inl h
 ·exact .inr (.inl h)
 ·exact .inr (.inr (.inl h))
 ·exact .inr (.inr (.inr (.inl h)))
 ·exact .inr (.inr (.inr (.inr h)))
 ·exact absurd h n
theorem ne_of5{c:Nat}(h:c=40∨c=41∨c=34∨c=39∨c=35):c≠120∧c≠10∧c≠92:=by
 rcases h with rfl | rfl | rfl | rfl | rfl <;> decide
theorem Zud(q:Bool):qc q≠120∧qc q≠10∧qc q≠92:=by cases q <;> decide
theorem s_ord{q:Bool}{f lv ln:Nat}{gd z:List Nat}{c:Nat}(hh:c=40∨c=41∨c=34∨c=39∨c=35)(hq:¬ c=qc q):run1 ⟨.S q,f,lv,ln,gd⟩ z=run1 (d1 ⟨.S q,f,lv,ln,gd⟩ c) z:=by
 rcases hh with rfl | rfl | rfl | rfl | rfl <;> (cases q <;> first | rfl | exact absurd rfl hq)
theorem t_ord{q:Bool}{f lv ln:Nat}{gd z:List Nat}{c:Nat}(hh:c=40∨c=41∨c=34∨c=39∨c=35)(hq:¬ c=qc q):run1 ⟨.T q,f,lv,ln,gd⟩ z=run1 (d1 ⟨.T q,f,lv,ln,gd⟩ c) z:=by
 rcases hh with rfl | rfl | rfl | rfl | rfl <;> (cases q <;> first | rfl | exact absurd rfl hq)
theorem snoc{y pre z:List Nat}{c:Nat}(h:y=pre++c :: z):y=(pre++[c])++z:=by rw [h]; simp
theorem Zei{i:Int}{pre:List Nat}{c:Nat}(h:i=pre.length):i + 1=(pre++[c]).length:=by rw [h]; simp
inductive InvQ(base:List Cell)(self:V)(y:List Nat)(fin:M1)(lx:Lx)(qt w:V)(f z0 n:Nat)(st:St):Prop
 | mk (pre z:List Nat) (lv ln:Nat) (gd:List Nat) (ch:Option V) (i:Int) (hst:st=st1 base self y 0 lv ln gd i ch (some qt) (some (.int f)) (some w)) (hy:y=pre++z) (hi:i=pre.length) (hn:n=z.length) (hr:run1 ⟨lx,f,lv,ln,gd⟩ z=fin) (hgd:gd.length + z.length≤y.length + 1) (hz:z.length≤z0)
theorem in_s{q:Bool}{f:Nat}{fin:M1}{z0:Nat}(hal:∀ c∈y,Zmk c)(hlast:y.getLast?=some 10)(hl:y.length < 1048576)
  (hQ:∀ (pre' z':List Nat) (s':M1) (ch':Option V) (cont' i':Int),y=pre'++z'→i'=pre'.length→run1 s' z'=fin→s'.gd.length + z'.length≤y.length + 1→z'.length≤z0→((s'.lx=.N∧cont'=0)∨(z'=[]∧cont'=Zfx s')) →
   Q .next (st1 base self y cont' s'.lv s'.ln s'.gd i' ch' (some (.str [qc q])) (some (.int f)) (some (.int 0))))
  {pre z:List Nat} {lv ln:Nat} {gd:List Nat} {ch:Option V} {i:Int} (hy:y=pre++z) (hi:i=pre.length) (hr:run1 ⟨.S q,f,lv,ln,gd⟩ z=fin) (hgd:gd.length + z.length≤y.length + 1) (hz:z.length≤z0) :
  Zaq (tE (pCmp .Lt (pVar 7) (pVar 8))) Zt Zba Q (st1 base self y 0 lv ln gd i ch (some (.str [qc q])) (some (.int f)) (some (.int 0))):=by
 refine ⟨InvQ base self y fin (.S q) (.str [qc q]) (.int 0) f z0,
  ⟨z.length,pre,z,lv,ln,gd,ch,i,rfl,hy,hi,rfl,hr,hgd,hz⟩,?_⟩
 clear hy hi hr hgd hz;intro n st z0';obtain ⟨pre,z,lv,ln,gd,ch,i,rfl,hy,hi,hn,hr,hgd,hz⟩:=z0';have hlen:y.length=pre.length + z.length:=by rw [hy]; simp
 refine Znr ?_;cases z with
 | nil =>
  refine ⟨fun e=>?_,fun _=>?_⟩
  ·simp at hlen; rw [decide_eq_true_iff] at e; lia
  ·refine o3_ok (hQ pre [] ⟨.S q,f,lv,ln,gd⟩ _ _ _ hy hi hr hgd hz (.inr ⟨rfl,?_⟩));exact (if_pos (show Ztj (.S q)=true from rfl)).symm
 | cons c z =>
  simp only [List.length_cons] at hlen hgd hz hn;refine ⟨fun _=>?_,fun e=>?_⟩
  ·have hc:=hal c (by rw [hy]; simp)
   by_cases hq:c=qc q
   ·subst hq;refine b2_q (k:=0) (Zud q).1 hy hi hl rfl (hQ (pre++[qc q]) z ⟨.N,f,lv,ln,gd⟩ _ _ _ (snoc hy) (by rw [hi]; simp) ?_ (by show gd.length + _≤_; exact Ybu (by assumption)) (by exact Ybu (by assumption)) (.inl ⟨rfl,rfl⟩));rw [← hr,Ze]; exact q.rec rfl rfl
   rcases hc with rfl | rfl | hc
   ·refine b2_x hy hi hl ⟨z.length,by exact Ybg (Eq.symm (by assumption)),pre++[120],z,lv,ln,gd,_,_,rfl,snoc hy,Zei hi,rfl,?_,by exact Ybu (by assumption),by exact Ybu (by assumption)⟩;rw [← hr,Ze]; exact q.rec rfl rfl
   ·refine b2_nl0 hy hi hl (by exact q.rec rfl rfl) (fun h0=>⟨by lia,?_⟩) fun h0=>?_
    ·refine hQ (pre++[10]) z ⟨.N,f,lv,ln + 1,gd++[ln + 1]⟩ _ _ _ (snoc hy) (Zei hi) ?_ (by show (gd++[ln + 1]).length + _≤_; simp; lia) (by exact Ybu (by assumption)) (.inl ⟨rfl,rfl⟩);have:lv=0:=by lia
     subst this;rw [← hr,Ze]; exact q.rec rfl rfl
    ·refine hQ (pre++[10]) z ⟨.N,f,lv,ln + 1,gd⟩ _ _ _ (snoc hy) (Zei hi) ?_ (by show gd.length + _≤_; exact Ybu (by assumption)) (by exact Ybu (by assumption)) (.inl ⟨rfl,rfl⟩);have e:M1.nl ⟨.S q,f,lv,ln,gd⟩=⟨.N,f,lv,ln + 1,gd⟩:=by
      unfold M1.nl;rw [if_neg (by show ¬ lv=0; lia)]
     rw [← hr,Ze,← e]; exact q.rec rfl rfl
   ·by_cases h92:c=92
    ·subst h92;obtain ⟨d,z',rfl⟩:=Zbg hlast hy (by decide);simp only [List.length_cons] at hlen hgd hz hn;refine b2_bs (k:=0) hy hi hl (by exact q.rec rfl rfl) ⟨z'.length,by lia,pre++[92,d],z',lv,_,gd,_,_,rfl,by rw [hy]; simp,by rw [hi]; simp; rfl,rfl,?_,by lia,by lia⟩;rw [← hr,bs_step]
    ·have hne:c≠120∧c≠10∧c≠92:=ne_of5 (Zjz hc h92);have ht:((c :: z).take (1 + 0) == [qc q])=false:=by
      show ([c] == [qc q])=false;simp [hq]
     refine b2_ord (k:=0) hne hy hi hl ht ⟨z.length,by exact Ybg (Eq.symm (by assumption)),pre++[c],z,lv,ln,gd,_,_,rfl,snoc hy,Zei hi,rfl,?_,by exact Ybu (by assumption),by exact Ybu (by assumption)⟩;rw [← hr,Ze];exact s_ord (Zjz hc h92) hq
  ·rw [decide_eq_false_iff_not] at e; lia
theorem in_t{q:Bool}{f:Nat}{fin:M1}{z0:Nat}(hal:∀ c∈y,Zmk c)(hlast:y.getLast?=some 10)(hl:y.length < 1048576)
  (hQ:∀ (pre' z':List Nat) (s':M1) (ch':Option V) (cont' i':Int),y=pre'++z'→i'=pre'.length→run1 s' z'=fin→s'.gd.length + z'.length≤y.length + 1→z'.length≤z0→((s'.lx=.N∧cont'=0)∨(z'=[]∧cont'=Zfx s')) →
   Q .next (st1 base self y cont' s'.lv s'.ln s'.gd i' ch' (some (.str [qc q,qc q,qc q])) (some (.int f)) (some (.int 2))))
  {pre z:List Nat} {lv ln:Nat} {gd:List Nat} {ch:Option V} {i:Int} (hy:y=pre++z) (hi:i=pre.length) (hr:run1 ⟨.T q,f,lv,ln,gd⟩ z=fin) (hgd:gd.length + z.length≤y.length + 1) (hz:z.length≤z0) :
  Zaq (tE (pCmp .Lt (pVar 7) (pVar 8))) Zt Zba Q (st1 base self y 0 lv ln gd i ch (some (.str [qc q,qc q,qc q])) (some (.int f)) (some (.int 2))):=by
 refine ⟨InvQ base self y fin (.T q) (.str [qc q,qc q,qc q]) (.int 2) f z0,
  ⟨z.length,pre,z,lv,ln,gd,ch,i,rfl,hy,hi,rfl,hr,hgd,hz⟩,?_⟩
 clear hy hi hr hgd hz;intro n st z0';obtain ⟨pre,z,lv,ln,gd,ch,i,rfl,hy,hi,hn,hr,hgd,hz⟩:=z0';have hlen:y.length=pre.length + z.length:=by rw [hy]; simp
 refine Znr ?_;cases z with
 | nil =>
  refine ⟨fun e=>?_,fun _=>?_⟩
  ·simp at hlen; rw [decide_eq_true_iff] at e; lia
  ·refine o3_ok (hQ pre [] ⟨.T q,f,lv,ln,gd⟩ _ _ _ hy hi hr hgd hz (.inr ⟨rfl,?_⟩));exact (if_pos (show Ztj (.T q)=true from rfl)).symm
 | cons c z =>
  simp only [List.length_cons] at hlen hgd hz hn;refine ⟨fun _=>?_,fun e=>?_⟩
  ·have hc:=hal c (by rw [hy]; simp)
   by_cases h3:∃ r,c :: z=qc q :: qc q :: qc q :: r
   ·obtain ⟨r,e⟩:=h3;cases e;simp only [List.length_cons] at hlen hgd hz hn;refine b2_q (k:=2) (Zud q).1 hy hi hl rfl (hQ (pre++[qc q,qc q,qc q]) r ⟨.N,f,lv,ln,gd⟩ _ _ _ (by rw [hy]; simp) (by rw [hi]; simp; rfl) ?_ (by show gd.length + _≤_; lia) (by lia) (.inl ⟨rfl,rfl⟩));rw [← hr,Ze,Ze,Ze]; exact q.rec rfl rfl
   have ht:((c :: z).take 3 == [qc q,qc q,qc q])=false:=by
    rw [beq_eq_false_iff_ne];intro e
    match z,e with
    | [],e=>cases e
    | [_],e=>cases e
    | a :: b :: r,e=>cases e; exact h3 ⟨r,rfl⟩
   rcases hc with rfl | rfl | hc
   ·refine b2_x hy hi hl ⟨z.length,by exact Ybg (Eq.symm (by assumption)),pre++[120],z,lv,ln,gd,_,_,rfl,snoc hy,Zei hi,rfl,?_,by exact Ybu (by assumption),by exact Ybu (by assumption)⟩;rw [← hr,Ze]; exact q.rec rfl rfl
   ·refine b2_nl2 (c2:=0) (c3:=0) hy hi hl ht ⟨z.length,by exact Ybg (Eq.symm (by assumption)),pre++[10],z,lv,ln + 1,gd,_,_,rfl,snoc hy,Zei hi,rfl,?_,by exact Ybu (by assumption),by exact Ybu (by assumption)⟩;rw [← hr,Ze]; exact q.rec rfl rfl
   ·by_cases h92:c=92
    ·subst h92;obtain ⟨d,z',rfl⟩:=Zbg hlast hy (by decide);simp only [List.length_cons] at hlen hgd hz hn;refine b2_bs (k:=2) hy hi hl ht ⟨z'.length,by lia,pre++[92,d],z',lv,_,gd,_,_,rfl,by rw [hy]; simp,by rw [hi]; simp; rfl,rfl,?_,by lia,by lia⟩;rw [← hr,bt_step]
    ·have hne:c≠120∧c≠10∧c≠92:=ne_of5 (Zjz hc h92);refine b2_ord (k:=2) hne hy hi hl ht ⟨z.length,by exact Ybg (Eq.symm (by assumption)),pre++[c],z,lv,ln,gd,_,_,rfl,snoc hy,Zei hi,rfl,?_,by exact Ybu (by assumption),by exact Ybu (by assumption)⟩;rw [← hr,Ze]
     by_cases hq:c=qc q
     ·obtain ⟨d,z',hz'⟩:=Zbg hlast hy hne.2.1;have hzl:z.getLast?=some 10:=Zbh hlast (show y=(pre++[c])++z by rw [hy]; simp) (by rw [hz']; simp);have e:d1 ⟨.T q,f,lv,ln,gd⟩ c=M1.to ⟨.T q,f,lv,ln,gd⟩ (.T1 q):=if_pos (cls_q.mpr hq);rw [e,t1_t hzl]
      ·rfl
      ·rintro a b r rfl ⟨ha,hb⟩;exact h3 ⟨r,by rw [hq,cls_q.mp ha,cls_q.mp hb]⟩
     ·exact t_ord (Zjz hc h92) hq
  ·rw [decide_eq_false_iff_not] at e; lia
end
end Mine
namespace Mine
open PySem.Builtin.Str PySem.StrLaws
theorem Zpk(s sub:Str)(hi lo:Nat)(r:List Nat):∀ (l:List Nat),(∀ i∈l,subAt s sub i=false)→forIn (l++r) ((#[]:Array Nat),lo) (occBody s sub hi 1)=forIn r ((#[]:Array Nat),lo) (occBody s sub hi 1)
 | [],_=>rfl
 | a :: l,h=>by
  rw [List.cons_append,List.forIn_cons];have e:occBody s sub hi 1 a (#[],lo)=pure (ForInStep.yield (#[],lo)):=by
   delta occBody;rw [if_neg (fun c=>by have:=h a (.head _); rw [this] at c; exact Yy c.2)]
  rw [e];exact Zpk s sub hi lo r l fun i hi'=>h i (.tail _ hi')
theorem Zpl(s sub:Str)(hi:Nat):∀ (l:List Nat) (st:Array Nat × Nat),st.1.size=1→(forIn l st (occBody s sub hi 1)).run.fst=st.1
 | [],st,h=>rfl
 | a :: l,st,h=>by
  rw [List.forIn_cons];have e:occBody s sub hi 1 a st=pure (ForInStep.yield st):=by
   delta occBody;rw [if_neg (fun c=>by have:=c.1.1.1; lia)]
  rw [e];exact Zpl s sub hi l st h
theorem Zfn(lo k n:Nat)(h:lo + k < lo + n):List.range' lo n=List.range' lo k++(lo + k) :: List.range' (lo + k + 1) (n - k - 1):=by
 have hk:k < n:=Nat.lt_of_add_lt_add_left h;have e:n=k + (1 + (n - k - 1)):=by rw [Nat.add_comm 1,Nat.sub_add_cancel (Nat.sub_pos_of_lt hk),Nat.add_sub_cancel' (Nat.le_of_lt hk)]
 conv=>lhs; rw [e,← List.range'_append_1]
 rw [← List.range'_append_1];rfl
theorem Zuq{s sub:Str}{lo hi k:Nat}(h1:lo≤k)(h2:k + sub.length≤hi)(h3:subAt s sub k=true)(h4:∀ j,lo≤j→j < k→subAt s sub j=false):occurrences s sub lo hi 1=[k]:=by
 rw [occ_eq,Zfn lo (k - lo) (hi + 1 - lo) (Nat.add_lt_add_left (Nat.sub_lt_sub_right h1 (Nat.lt_succ_of_le (Nat.le_trans (Nat.le_add_right _ _) h2))) lo),Zpk,List.forIn_cons]
 ·have e0:lo + (k - lo)=k:=by exact Ybo ‹_›
  rw [e0];have e:occBody s sub hi 1 k (#[],lo)=pure (ForInStep.yield (#[k],k + sub.length)):=by
   delta occBody;rw [if_pos ⟨⟨⟨by simp,h1⟩,h2⟩,h3⟩]; rfl
  rw [e];show (forIn _ (#[k],k + sub.length) (occBody s sub hi 1)).run.fst.toList=_;rw [Zpl _ _ _ _ _ rfl]
 ·intro i hi';rw [List.mem_range'_1] at hi';exact h4 i hi'.1 (Nat.lt_of_lt_of_eq hi'.2 (Ybo h1))
theorem Zcw(x:List Nat)(c k:Nat):subAt (txt x) (txt [c]) k=decide (x[k]?=some c):=by
 rw [subAt_eq];have e1:(txt x).cps.toList=x:=by simp [txt]
 have e2:(txt [c]).cps.toList=[c]:=by simp [txt]
 rw [e1,e2];show ((x.drop k).take 1 == [c])=_;rw [Bool.eq_iff_iff,take1_drop,decide_eq_true_iff]
theorem Zjr(c:Nat):(txt [c]).length=1:=rfl
theorem Zos{y pre a z:List Nat}{c lo hi:Nat}(hy:y=pre++a++c :: z)(hlo:lo=pre.length)(ha:c ∉ a)(hhi:pre.length + a.length + 1≤hi):Zfr y [c] lo hi=(pre.length + a.length:Nat):=by
 delta Zfr;rw [Zuq (k:=pre.length + a.length) (by lia) (by rw [Zjr]; exact hhi)]
 ·rw [Zcw,decide_eq_true_iff,hy,List.getElem?_append_right (by simp)]; simp
 ·intro j h1 h2;rw [Zcw,decide_eq_false_iff_not];intro e;subst hlo;rw [hy,List.append_assoc,List.getElem?_append_right h1,List.getElem?_append_left (by lia)] at e;exact ha (Yw e)
noncomputable def Zal(s sub:Str)(hi:Nat)(i:Nat)(st:Option Nat):Id (ForInStep (Option Nat)):=if i + sub.length≤hi∧subAt s sub i=true then pure (ForInStep.yield (some i)) else pure (ForInStep.yield st)
theorem Zuw(s sub:Str)(lo hi:Nat):lastOccurrence s sub lo hi=(forIn (List.range' lo (hi + 1 - lo)) none (Zal s sub hi)).run:=by
 delta lastOccurrence Zal;simp
theorem Zgq(s sub:Str)(hi:Nat):∀ (l:List Nat) (st:Option Nat),(∀ i∈l,¬ (i + sub.length≤hi∧subAt s sub i=true))→(forIn l st (Zal s sub hi)).run=st
 | [],_,_=>rfl
 | a :: l,st,h=>by
  rw [List.forIn_cons];have e:Zal s sub hi a st=pure (ForInStep.yield st):=by
   delta Zal;rw [if_neg (h a (.head _))]
  rw [e];exact Zgq s sub hi l st fun i hi'=>h i (.tail _ hi')
theorem Zjt(s sub:Str)(hi:Nat)(r:List Nat):∀ (l:List Nat) (st:Option Nat),(forIn (l++r) st (Zal s sub hi)).run=(forIn r (forIn l st (Zal s sub hi)).run (Zal s sub hi)).run
 | [],_=>rfl
 | a :: l,st=>by
  rw [List.cons_append,List.forIn_cons,List.forIn_cons];delta Zal
  split
  ·exact Zjt s sub hi r l _
  ·exact Zjt s sub hi r l _
theorem Zri{s sub:Str}{lo hi k:Nat}(h1:lo≤k)(h2:k + sub.length≤hi)(h3:subAt s sub k=true)(h4:∀ j,k < j→j + sub.length≤hi→subAt s sub j=false):lastOccurrence s sub lo hi=some k:=by
 rw [Zuw,Zfn lo (k - lo) (hi + 1 - lo) (by lia),Zjt,List.forIn_cons];have e0:lo + (k - lo)=k:=by exact Ybo ‹_›
 rw [e0];have e:∀ st,Zal s sub hi k st=pure (ForInStep.yield (some k)):=fun st=>by
  delta Zal;rw [if_pos ⟨h2,h3⟩]
 rw [e];refine Zgq s sub hi _ _ fun i hi' c=>?_;rw [List.mem_range'_1] at hi';have:=h4 i (by lia) c.1;rw [this] at c;exact Yy c.2
theorem Zuv{s sub:Str}{lo hi:Nat}(h4:∀ j,lo≤j→j + sub.length≤hi→subAt s sub j=false):lastOccurrence s sub lo hi=none:=by
 rw [Zuw];refine Zgq s sub hi _ _ fun i hi' c=>?_;rw [List.mem_range'_1] at hi';have:=h4 i (by lia) c.1;rw [this] at c;exact Yy c.2
theorem Zsu{y pre a z:List Nat}{c hi:Nat}(hy:y=pre++c :: a++z)(ha:c ∉ a)(hhi:hi=pre.length + 1 + a.length):Zdo y [c] 0 hi=(pre.length:Nat):=by
 delta Zdo;rw [Zri (k:=pre.length) (Nat.zero_le _) (by rw [Zjr]; lia)]
 ·rw [Zcw,decide_eq_true_iff,hy,List.append_assoc,List.getElem?_append_right (Nat.le_refl _)]; simp
 ·intro j h1 h2;rw [Zjr] at h2;rw [Zcw,decide_eq_false_iff_not];intro e;rw [hy,List.append_assoc,List.getElem?_append_right (Nat.le_of_lt ‹_›),List.cons_append,show j - pre.length=(j - pre.length - 1) + 1 from (Nat.sub_add_cancel (Nat.sub_pos_of_lt h1)).symm,List.getElem?_cons_succ,List.getElem?_append_left (by lia)] at e;exact ha (Yw e)
theorem Zmw{y a z:List Nat}{c hi:Nat}(hy:y=a++z)(ha:c ∉ a)(hhi:hi=a.length):Zdo y [c] 0 hi=-1:=by
 delta Zdo;rw [Zuv];intro j h1 h2;rw [Zjr] at h2;rw [Zcw,decide_eq_false_iff_not];intro e;rw [hy,List.getElem?_append_left (by lia)] at e;exact ha (Yw e)
end Mine
namespace Mine
section
variable{base:List Cell}{self:V}{y pre z:List Nat}{lv ln:Nat}{i:Int}{gd:List Nat}{ch qt fl w:Option V}{Q:Fl→St→Prop}
theorem b1_x(hy:y=pre++120 :: z)(hi:i=pre.length)(hl:y.length < 1048576)(h:Q .cont (st1 base self y 0 lv ln gd (i + 1) (some (.str (120 :: []))) qt fl w)):Zu Q (st1 base self y 0 lv ln gd i ch qt fl w):=by
 have e1:∀ cells,vidx cells (.str y) (.int i)=some (.str (120 :: [])):=fun cells=>Zh hy hi hl
 repeat (first
 | exact h
 | refine eI rfl ?_
 | refine eI (e1 _) ?_
 | refine Ybk rfl ?_
 | refine iN (by decide) ?_
 | refine iY (by decide) ?_)
theorem b1_nl(hy:y=pre++10 :: z)(hi:i=pre.length)(hl:y.length < 1048576)(hg:gd.length < 1048577)(h:Q .cont (st1 base self y 0 lv (ln + 1:Nat) (if lv=0 then gd++[ln + 1] else gd) (i + 1) (some (.str (10 :: []))) qt fl w)):Zu Q (st1 base self y 0 lv ln gd i ch qt fl w):=by
 have e1:∀ cells,vidx cells (.str y) (.int i)=some (.str (10 :: [])):=fun cells=>Zh hy hi hl
 by_cases h0:lv=0
 ·rw [if_pos h0] at h;have e5:(gl gd).length < Zc:=by rw [Zgt]; unfold Zc; exact ltd ‹_›
  have y1:((lv:Int) == 0)=true:=by simp [h0]
  have fin:∃ n vs,V.ref base.length=V.ref n∧(base++[Cell.list (gl gd)])[n]?=some (.list vs)∧vs.length < Zc∧Q .cont ⟨[some self,some (.str y),some (.int 0),some (.int lv),some (.int ((ln:Int) + 1)),some (.ref base.length),some (.app base.length),some (.int (i + 1)),some (.int y.length),some (.str (10 :: [])),qt,fl,w],(base++[Cell.list (gl gd)]).set n (.list (vs++[.int ((ln:Int) + 1)]))⟩:=by
   refine ⟨base.length,_,rfl,Zce _ _,e5,?_⟩;rw [Zjs,show ((ln:Int) + 1)=((ln + 1:Nat):Int) by exact rfl,Zvl];exact h
  repeat (first
 | exact fin
 | refine eI rfl ?_
 | refine eI (e1 _) ?_
 | refine Ybk rfl ?_
 | refine iN (by decide) ?_
 | refine iY (by decide) ?_
 | refine iY y1 ?_)
 ·rw [if_neg h0] at h;have e6:((lv:Int) == 0)=false:=by simp [h0]
  repeat (first
 | exact h
 | refine eI rfl ?_
 | refine eI (e1 _) ?_
 | refine Ybk rfl ?_
 | refine iN (by decide) ?_
 | refine iY (by decide) ?_
 | refine iN e6 ?_)
theorem b1_op(hy:y=pre++40 :: z)(hi:i=pre.length)(hl:y.length < 1048576)(h:Q .cont (st1 base self y 0 (lv + 1:Nat) ln gd (i + 1) (some (.str (40 :: []))) qt fl w)):Zu Q (st1 base self y 0 lv ln gd i ch qt fl w):=by
 have e1:∀ cells,vidx cells (.str y) (.int i)=some (.str (40 :: [])):=fun cells=>Zh hy hi hl
 repeat (first
 | exact h
 | refine eI rfl ?_
 | refine eI (e1 _) ?_
 | refine Ybk rfl ?_
 | refine iN (by decide) ?_
 | refine iY (by decide) ?_)
theorem b1_cl(hy:y=pre++41 :: z)(hi:i=pre.length)(hl:y.length < 1048576)(h:Q .cont (st1 base self y 0 (lv - 1:Nat) ln gd (i + 1) (some (.str (41 :: []))) qt fl w)):Zu Q (st1 base self y 0 lv ln gd i ch qt fl w):=by
 have e1:∀ cells,vidx cells (.str y) (.int i)=some (.str (41 :: [])):=fun cells=>Zh hy hi hl
 by_cases h0:lv=0
 ·have y1:((lv:Int) != 0)=false:=by simp [h0]
  rw [show ((lv - 1:Nat):Int)=(lv:Int) by lia] at h
  repeat (first
 | exact h
 | refine eI rfl ?_
 | refine eI (e1 _) ?_
 | refine Ybk rfl ?_
 | refine iN (by decide) ?_
 | refine iY (by decide) ?_
 | refine iN y1 ?_)
 ·have y1:((lv:Int) != 0)=true:=by simp [h0]
  rw [show ((lv - 1:Nat):Int)=(lv:Int) - 1 by lia] at h
  repeat (first
 | exact h
 | refine eI rfl ?_
 | refine eI (e1 _) ?_
 | refine Ybk rfl ?_
 | refine iN (by decide) ?_
 | refine iY (by decide) ?_
 | refine iY y1 ?_)
theorem b1_long{q:Bool}(hy:y=pre++qc q :: qc q :: qc q :: z)(hi:i=pre.length)(hl:y.length < 1048576)
  (h:∀ K:Fl→St→Prop,(∀ st,Q .cont st→K .next st)→Zaq (tE (pCmp .Lt (pVar 7) (pVar 8))) Zt Zba K (st1 base self y 0 lv ln gd (i + 1 + 2) (some (.str (qc q :: []))) (some (.str (qc q :: qc q :: qc q :: []))) (some (.int ln)) (some (.int 2)))) :
  Zu Q (st1 base self y 0 lv ln gd i ch qt fl w):=by
 have e1:∀ cells,vidx cells (.str y) (.int i)=some (.str (qc q :: [])):=fun cells=>Zh hy hi hl;have e2:∀ cells,Zbu cells (.str y) (some (i + 1 - 1)) (some (i + 1 + 2))=some (.str (qc q :: qc q :: qc q :: [])):=fun cells=>Zbc (k:=3) hl hy (by lia) (by lia);have y1:((qc q :: qc q :: qc q :: []) == Zfm (qc q :: []) 3)=true:=by simp [Zfm,List.replicate]
 cases q
 ·simp only [qc] at e1 e2 h y1
  repeat (first
 | exact h _ (fun _ q=>q)
 | refine eI rfl ?_
 | refine eI (e1 _) ?_
 | refine eI (e2 _) ?_
 | refine Ybk rfl ?_
 | refine iN (by decide) ?_
 | refine iY (by decide) ?_
 | refine iY y1 ?_)
 ·simp only [qc] at e1 e2 h y1
  repeat (first
 | exact h _ (fun _ q=>q)
 | refine eI rfl ?_
 | refine eI (e1 _) ?_
 | refine eI (e2 _) ?_
 | refine Ybk rfl ?_
 | refine iN (by decide) ?_
 | refine iY (by decide) ?_
 | refine iY y1 ?_)
theorem b1_short{q:Bool}(hy:y=pre++qc q :: z)(hz:∀ r,z≠qc q :: qc q :: r)(hi:i=pre.length)(hl:y.length < 1048576)
  (h:∀ K:Fl→St→Prop,(∀ st,Q .cont st→K .next st)→Zaq (tE (pCmp .Lt (pVar 7) (pVar 8))) Zt Zba K (st1 base self y 0 lv ln gd (i + 1 + 0) (some (.str (qc q :: []))) (some (.str (qc q :: []))) (some (.int ln)) (some (.int 0)))) :
  Zu Q (st1 base self y 0 lv ln gd i ch qt fl w):=by
 have e1:∀ cells,vidx cells (.str y) (.int i)=some (.str (qc q :: [])):=fun cells=>Zh hy hi hl;have e2:∀ cells,Zbu cells (.str y) (some (i + 1 - 1)) (some (i + 1 + 2))=some (.str ((qc q :: z).take 3)):=fun cells=>Zbc (k:=3) hl hy (by lia) (by lia);have y1:((qc q :: z).take 3 == Zfm (qc q :: []) 3)=false:=by
  rw [beq_eq_false_iff_ne,show Zfm (qc q :: []) 3=qc q :: qc q :: qc q :: [] by simp [Zfm,List.replicate]];intro e
  match z,hz,e with
  | [],_,e=>cases e
  | [_],_,e=>cases e
  | a :: b :: r,hz,e=>simp only [List.take_succ_cons,List.take_zero,List.cons.injEq] at e; exact hz r (by rw [e.2.1,e.2.2.1])
 cases q
 ·simp only [qc] at e1 e2 h y1
  repeat (first
 | exact h _ (fun _ q=>q)
 | refine eI rfl ?_
 | refine eI (e1 _) ?_
 | refine eI (e2 _) ?_
 | refine Ybk rfl ?_
 | refine iN (by decide) ?_
 | refine iY (by decide) ?_
 | refine iN y1 ?_)
 ·simp only [qc] at e1 e2 h y1
  repeat (first
 | exact h _ (fun _ q=>q)
 | refine eI rfl ?_
 | refine eI (e1 _) ?_
 | refine eI (e2 _) ?_
 | refine Ybk rfl ?_
 | refine iN (by decide) ?_
 | refine iY (by decide) ?_
 | refine iN y1 ?_)
theorem b1_hash(hy:y=pre++35 :: z)(hi:i=pre.length)(hl:y.length < 1048576){k:Nat}(hk:Zfr y (10 :: []) (idx0 y.length (i + 1)) y.length=(k:Int))(h:Q .cont (st1 base self y 0 lv ln gd k (some (.str (35 :: []))) qt fl w)):Zu Q (st1 base self y 0 lv ln gd i ch qt fl w):=by
 have e1:∀ cells,vidx cells (.str y) (.int i)=some (.str (35 :: [])):=fun cells=>Zh hy hi hl;rw [← hk] at h;have y1:decide (Zfr y (10 :: []) (idx0 y.length (i + 1)) y.length ≥ 0)=true:=by rw [hk]; simp
 repeat (first
 | exact h
 | refine eI rfl ?_
 | refine eI (e1 _) ?_
 | refine Ybk y1 ?_
 | refine Ybk rfl ?_
 | refine iN (by decide) ?_
 | refine iY (by decide) ?_)
theorem b1_bs{d:Nat}(hy:y=pre++92 :: d :: z)(hi:i=pre.length)(hl:y.length < 1048576)(h:Q .next (st1 base self y (if d=10∧z=[] then 1 else 0) lv (if d=10 then ln + 1 else ln:Nat) gd (i + 1 + 1) (some (.str (92 :: []))) qt fl w)):Zu Q (st1 base self y 0 lv ln gd i ch qt fl w):=by
 have e1:∀ cells,vidx cells (.str y) (.int i)=some (.str (92 :: [])):=fun cells=>Zh hy hi hl;have e0:∀ cells,vidx cells (.str y) (.int (i + 1))=some (.str (d :: [])):=fun cells=>Zh (pre:=pre++[92]) (z:=z) (by rw [hy]; simp) (by rw [hi]; simp) hl;have e5:decide (i + 1 < (y.length:Int))=true:=by rw [hy,hi]; simp; lia
 by_cases hd:d=10
 ·subst hd
  by_cases hz:z=[]
  ·subst hz;have y1:(i + 1 + 1 == (y.length:Int))=true:=by rw [hy,hi]; simp; exact rfl
   rw [if_pos ⟨rfl,rfl⟩,if_pos rfl] at h
   repeat (first
 | exact h
 | refine eI rfl ?_
 | refine eI (e1 _) ?_
 | refine eI (e0 _) ?_
 | refine Ybk e5 ?_
 | refine Ybk rfl ?_
 | refine iN (by decide) ?_
 | refine iY (by decide) ?_
 | refine iY y1 ?_)
  ·have y1:(i + 1 + 1 == (y.length:Int))=false:=by
    rw [hy,hi,beq_eq_false_iff_ne];have:z.length≠0:=fun e=>hz (Ycd e);simp; lia
   rw [if_neg (fun q=>hz q.2),if_pos rfl] at h
   repeat (first
 | exact h
 | refine eI rfl ?_
 | refine eI (e1 _) ?_
 | refine eI (e0 _) ?_
 | refine Ybk e5 ?_
 | refine Ybk rfl ?_
 | refine iN (by decide) ?_
 | refine iY (by decide) ?_
 | refine iN y1 ?_)
 ·have y1:((d :: []) == [10])=false:=by simp [hd]
  rw [if_neg (fun q=>hd q.1),if_neg hd] at h
  repeat (first
 | exact h
 | refine eI rfl ?_
 | refine eI (e1 _) ?_
 | refine eI (e0 _) ?_
 | refine Ybk e5 ?_
 | refine Ybk rfl ?_
 | refine iN (by decide) ?_
 | refine iY (by decide) ?_
 | refine iN y1 ?_)
noncomputable def Good1(y:List Nat)(fin:M1)(z:List Nat)(s:M1)(cont:Int):Prop:=run1 s z=fin∧s.gd.length + z.length≤y.length + 1∧(((s.lx=.N∨s.lx=.NB)∧cont=0∧z≠[])∨(z=[]∧cont=Zfx s))
theorem Zep{n:Nat}{i:Int}{k:Nat}(h:i=(k:Int)):idx0 n i=k:=by subst h; unfold idx0; rw [if_neg (Int.not_lt.mpr (Int.natCast_nonneg k)),Int.max_eq_right (Int.natCast_nonneg k),Int.toNat_natCast]
theorem run_C{f lv ln:Nat}{gd a r:List Nat}(ha:10 ∉ a):run1 ⟨.C,f,lv,ln,gd⟩ (a++10 :: r)=run1 ⟨.N,f,lv,ln,gd⟩ (10 :: r):=by
 induction a with
 | nil=>rfl
 | cons c a ih =>
  rw [List.cons_append,Ze];have e:d1 ⟨.C,f,lv,ln,gd⟩ c=⟨.C,f,lv,ln,gd⟩:=if_neg (fun e=>ha (by rw [← cls_nl.mp e]; exact .head _));rw [e];exact ih fun h=>ha (.tail _ h)
theorem Zoz{z:List Nat}(h:z.getLast?=some 10):∃ a r,z=a++10 :: r∧10 ∉ a:=by
 induction z with
 | nil=>cases h
 | cons c z ih =>
  by_cases hc:c=10
  ·exact ⟨[],z,by rw [hc]; rfl,by simp⟩
  ·cases z with
   | nil=>simp at h; exact absurd h hc
   | cons d z =>
    obtain ⟨a,r,e,ha⟩:=ih (by simpa using h);exact ⟨c :: a,r,by rw [e]; rfl,by simp [ha]; exact fun e=>hc e.symm⟩
inductive InvW(base:List Cell)(self:V)(y:List Nat)(fin:M1)(n:Nat)(st:St):Prop
 | mk (pre z:List Nat) (s:M1) (cont:Int) (ch qt fl w:Option V) (i:Int) (hst:st=st1 base self y cont s.lv s.ln s.gd i ch qt fl w) (hy:y=pre++z) (hi:i=pre.length) (hn:n=z.length) (hG:Good1 y fin z s cont)
theorem while1{fin:M1}(hal:∀ c∈y,Zmk c)(hlast:y.getLast?=some 10)(hl:y.length < 1048576)
  (hQ:∀ (s':M1) (ch qt fl w:Option V),s'=fin→Q .next (st1 base self y (Zfx s') s'.lv s'.ln s'.gd y.length ch qt fl w))
  {s:M1} {cont:Int} (hy:y=pre++z) (hi:i=pre.length) (hG:Good1 y fin z s cont):Zaq (tE (pCmp .Lt (pVar 7) (pVar 8))) Zu xNil Q (st1 base self y cont s.lv s.ln s.gd i ch qt fl w):=by
 refine ⟨InvW base self y fin,
  ⟨z.length,pre,z,s,cont,ch,qt,fl,w,i,rfl,hy,hi,rfl,hG⟩,?_⟩
 clear hy hi hG;intro n st z0';obtain ⟨pre,z,s,cont,ch,qt,fl,w,i,rfl,hy,hi,hn,hr,hgd,hG⟩:=z0';have hlen:y.length=pre.length + z.length:=by rw [hy]; simp
 refine Znr ?_
 rcases hG with ⟨hlx,rfl,hz⟩ | ⟨rfl,rfl⟩
 ·obtain ⟨c,z',rfl⟩:∃ c z',z=c :: z':=by cases z with | nil=>exact absurd rfl hz | cons c z=>exact ⟨c,z,rfl⟩
  obtain ⟨lx,f,lv,ln,gd⟩:=s;simp only [List.length_cons] at hlen hgd hn;dsimp only at hlx hgd;have hr':∀ c',c'=c→d1 ⟨lx,f,lv,ln,gd⟩ c'=nrm ⟨lx,f,lv,ln,gd⟩ (cls c'):=fun c' _=>by rcases hlx with rfl | rfl <;> rfl
  rw [Ze,hr' c rfl] at hr;refine ⟨fun _=>?_,fun e=>by rw [decide_eq_false_iff_not] at e; lia⟩;have again:∀ {pre' z'':List Nat} {s':M1} {cont':Int} {ch' qt' fl' w':Option V} {i':Int},y=pre'++z''→i'=pre'.length→z''.length < n→run1 s' z''=fin→s'.gd.length + z''.length≤y.length + 1→((s'.lx=.N∧cont'=0)∨(s'.lx=.NB∧cont'=0∧z''≠[])∨(z''=[]∧cont'=Zfx s')) →
    ∃ m,m < n∧InvW base self y fin m (st1 base self y cont' s'.lv s'.ln s'.gd i' ch' qt' fl' w'):=by
   intro pre' z'' s' cont' ch' qt' fl' w' i' h1 h2 h3 h4 h5 h6;refine ⟨z''.length,h3,pre',z'',s',cont',ch',qt',fl',w',i',rfl,h1,h2,rfl,h4,h5,?_⟩
   rcases h6 with ⟨h6,h7⟩ | ⟨h6,h7,h8⟩ | h6
   ·by_cases hz:z''=[]
    ·refine .inr ⟨hz,?_⟩;unfold Zfx;rw [h6,h7]; rfl
    ·exact .inl ⟨.inl h6,h7,hz⟩
   ·exact .inl ⟨.inr h6,h7,h8⟩
   ·exact .inr h6
  have quote:∀ q:Bool,c=qc q→Zu (fun fl st₂=>match fl with
    | .next=>∃ m,m < n∧InvW base self y fin m st₂
    | .cont=>∃ m,m < n∧InvW base self y fin m st₂
    | .brk=>Q .next st₂
    | .ret v=>Q (.ret v) st₂) (st1 base self y 0 lv ln gd i ch qt fl w):=by
   intro q hq;subst hq;have hne:=Zud q;obtain ⟨d,z2,hz2⟩:=Zbg hlast hy hne.2.1;have hzl:z'.getLast?=some 10:=Zbh hlast (show y=(pre++[qc q])++z' by rw [hy]; simp) (by rw [hz2]; simp);have hr2:run1 ⟨.Q1 q,ln,lv,ln,gd⟩ z'=fin:=by rw [← hr]; exact q.rec rfl rfl
   by_cases h3:∃ r,z'=qc q :: qc q :: r
   ·obtain ⟨r,e⟩:=h3;subst e;simp only [List.length_cons] at hlen hgd hn;refine b1_long hy hi hl fun K hK=>in_t (z0:=r.length) hal hlast hl ?_ (pre:=pre++[qc q,qc q,qc q]) (z:=r) (by rw [hy]; simp) (by rw [hi]; simp; exact rfl) (fin:=fin) ?_ (by lia) (Yaa _)
    ·intro pre' z'' s' ch' cont' i' h1 h2 h4 h5 h6 h7;refine hK _ (again h1 h2 (by lia) h4 h5 ?_)
     rcases h7 with h7 | h7
     ·exact .inl h7
     ·exact .inr (.inr h7)
    ·rw [← hr2,Ze,Ze]; exact q.rec rfl rfl
   ·refine b1_short hy (fun r e=>h3 ⟨r,e⟩) hi hl fun K hK=>in_s (z0:=z'.length) hal hlast hl ?_ (pre:=pre++[qc q]) (z:=z') (by rw [hy]; simp) (by rw [hi]; simp) (fin:=fin) ?_ (Yf ‹_›) (Yaa _)
    ·intro pre' z'' s' ch' cont' i' h1 h2 h4 h5 h6 h7;refine hK _ (again h1 h2 (by lia) h4 h5 ?_)
     rcases h7 with h7 | h7
     ·exact .inl h7
     ·exact .inr (.inr h7)
    ·rw [← hr2];refine (q1_s (s:=⟨.N,ln,lv,ln,gd⟩) hzl ?_).symm;rintro a b r rfl ⟨ha,hb⟩;exact h3 ⟨r,by rw [cls_q.mp ha,cls_q.mp hb]⟩
  have hc:=hal c (by rw [hy]; simp)
  rcases hc with hc | hc | hc | hc | hc | hc | hc | hc
  ·clear quote hr'; subst hc;obtain ⟨d,z2,hz2⟩:=Zbg hlast hy (by decide)
   rcases hlx with rfl | rfl
   ·exact b1_x hy hi hl (again (pre':=pre++[120]) (s':=⟨.N,f,lv,ln,gd⟩) (snoc hy) (Zei hi) (Ybg (Eq.symm ‹_›)) hr (by show gd.length + _≤_; exact Yf ‹_›) (.inl ⟨rfl,rfl⟩))
   ·exact b1_x hy hi hl (again (pre':=pre++[120]) (s':=⟨.NB,f,lv,ln,gd⟩) (snoc hy) (Zei hi) (Ybg (Eq.symm ‹_›)) hr (by show gd.length + _≤_; exact Yf ‹_›) (.inr (.inl ⟨rfl,rfl,by rw [hz2]; simp⟩)))
  ·clear quote hr'; subst hc;refine b1_nl hy hi hl (by show gd.length < _; lia) (again (pre':=pre++[10]) (s':=M1.nl ⟨lx,f,lv,ln,gd⟩) (snoc hy) (Zei hi) (Ybg (Eq.symm ‹_›)) hr ?_ (.inl ⟨rfl,rfl⟩));show (if lv=0 then gd++[ln + 1] else gd).length + _≤_
   split
   ·simp; lia
   ·exact Yf ‹_›
  ·clear quote hr'; subst hc;exact b1_op hy hi hl (again (pre':=pre++[40]) (s':=⟨.N,f,lv + 1,ln,gd⟩) (snoc hy) (Zei hi) (Ybg (Eq.symm ‹_›)) hr (by show gd.length + _≤_; exact Yf ‹_›) (.inl ⟨rfl,rfl⟩))
  ·clear quote hr'; subst hc;exact b1_cl hy hi hl (again (pre':=pre++[41]) (s':=⟨.N,f,lv - 1,ln,gd⟩) (snoc hy) (Zei hi) (Ybg (Eq.symm ‹_›)) hr (by show gd.length + _≤_; exact Yf ‹_›) (.inl ⟨rfl,rfl⟩))
  ·exact quote false hc
  ·exact quote true hc
  ·clear quote hr'; subst hc;obtain ⟨d,z2,hz2⟩:=Zbg hlast hy (by decide);have hzl:z'.getLast?=some 10:=Zbh hlast (show y=(pre++[35])++z' by rw [hy]; simp) (by rw [hz2]; simp);obtain ⟨a,r,e,ha⟩:=Zoz hzl;have hlen2:z'.length=a.length + (r.length + 1):=by rw [e]; simp
   have hk:=Zos (y:=y) (pre:=pre++[35]) (a:=a) (z:=r) (c:=10) (lo:=idx0 y.length (i + 1)) (hi:=y.length) (by rw [hy,e]; simp) (by rw [Zep (k:=pre.length + 1) (by lia)]; simp) ha (by simp; lia);have hr2:run1 ⟨.C,f,lv,ln,gd⟩ z'=fin:=hr;rw [e,run_C ha] at hr2;refine b1_hash hy hi hl hk (again (pre':=pre++[35]++a) (z'':=10 :: r) (s':=⟨.N,f,lv,ln,gd⟩) (by rw [hy,e]; simp) (by simp; lia) (by simp; lia) hr2 (by show gd.length + _≤_; simp; lia) (.inl ⟨rfl,rfl⟩))
  ·clear quote hr'; subst hc;obtain ⟨d,z2,hz2⟩:=Zbg hlast hy (by decide);subst hz2;simp only [List.length_cons] at hlen hgd hn;have hr2:run1 (dk ⟨.B,f,lv,ln,gd⟩ (cls d)) z2=fin:=hr;refine b1_bs hy hi hl ?_
   by_cases hd:d=10
   ·subst hd;rw [if_pos rfl];refine again (pre':=pre++[92,10]) (z'':=z2) (s':=⟨.NB,f,lv,ln + 1,gd⟩) (by rw [hy]; simp) (by rw [hi]; simp; exact rfl) (by lia) hr2 (by show gd.length + _≤_; lia) ?_
    by_cases hz:z2=[]
    ·rw [if_pos ⟨rfl,hz⟩]; exact .inr (.inr ⟨hz,rfl⟩)
    ·rw [if_neg (fun q=>hz q.2)]; exact .inr (.inl ⟨rfl,rfl,hz⟩)
   ·rw [if_neg hd,if_neg (fun q=>hd q.1)];have e:dk ⟨.B,f,lv,ln,gd⟩ (cls d)=⟨.N,f,lv,ln,gd⟩:=if_neg (fun e=>hd (cls_nl.mp e));rw [e] at hr2;exact again (pre':=pre++[92,d]) (z'':=z2) (s':=⟨.N,f,lv,ln,gd⟩) (by rw [hy]; simp) (by rw [hi]; simp; exact rfl) (by lia) hr2 (by show gd.length + _≤_; lia) (.inl ⟨rfl,rfl⟩)
 ·refine ⟨fun e=>by simp at hlen; rw [decide_eq_true_iff] at e; lia,fun _=>?_⟩;have e:i=(y.length:Int):=by simp at hlen; lia
  rw [e];exact hQ s ch qt fl w hr
end
end Mine
namespace Mine
theorem Zn{l:List Cell}{p:Nat}{c d:Cell}(h:l[p]?=some c):(l.set p d)[p]?=some d:=by
 rw [List.getElem?_set_self'];rw [h]; rfl
theorem Zah{l:List Cell}{p:Nat}{c:Cell}{r:List Cell}(h:l[p]?=some c):(l++r)[p]?=some c:=by
 rw [List.getElem?_append_left (List.getElem?_eq_some_iff.mp h).1]; exact h
theorem Zcj{l:List Cell}{p:Nat}{c d:Cell}{r:List Cell}(h:l[p]?=some c):(l++r).set p d=l.set p d++r:=by
 rw [List.set_append_left _ _ (List.getElem?_eq_some_iff.mp h).1]
section
variable{cells:List Cell}{p:Nat}{x:List Nat}{a0 a1 a4 a5 a6 a7 a8 a9 a10:Option V}{Q:Fl→St→Prop}
theorem s1_a(hp:cells[p]?=some (.inst [a0,a1,some (.str x),some (.int 0),a4,a5,a6,a7,a8,a9,a10]))(hx:∀ c∈x,c < 128)(hl:x.length < 1048576)
  (h:Zfk Q ⟨[some (.inst p),some (.str (small x)),none,none,none,none,none,none,none,none,none,none,none],cells.set p (.inst [a0,a1,some (.str x),some (.int 1),a4,a5,a6,a7,a8,a9,a10])⟩) :
  Zbk Q ⟨[some (.inst p),none,none,none,none,none,none,none,none,none,none,none,none],cells⟩:=by
 have hp1:=Zn (d:=.inst [a0,a1,some (.str x),some (.int 1),a4,a5,a6,a7,a8,a9,a10]) hp;have l0:(x.map trc).length≤1048576:=by rw [List.length_map]; exact Yf ‹_›
 have l1:=Yg (Zak (y:=[120,120,120,120,120,120,120,120]) (z:=[120]) (by simp) (by simp)) l0;have l2:=Yg (Zak (y:=[120,120,120,120]) (z:=[120]) (by simp) (by simp)) l1;have l3:=Yg (Zak (y:=[120,120]) (z:=[120]) (by simp) (by simp)) l2;have l4:=Yg (Zak (y:=[120,120]) (z:=[120]) (by simp) (by simp)) l3;refine Ybj _ (Ybk rfl (Ybj _ (Ybj _ (Ybj _ (Ybk rfl (Ybk hp (Ybk rfl ?_)))))));refine Ybj _ (Ybk rfl (Ybj _ (Ybk rfl ?_)));refine Ybk (fun q=>absurd q (by decide)) (fun _=>?_);refine Ybj _ (Ybk rfl (Ybj _ (Ybj _ (Ybj _ (Ybk rfl (Ybk hp (Ybk rfl (Ybk rfl ?_))))))));refine Ybj _ (Ybk rfl (Ybj _ (Ybj _ (Ybj _ (Ybk rfl (Ybk hp1 (Ybk rfl ?_)))))));refine Ybj _ (Ybk rfl (Ybj _ (Ybk rfl (Ybk hx (Ybk (Yf hl) ?_)))));refine Ybj _ (Ybk rfl (Ybj _ (Ybk rfl (Ybk l0 (Ybk (by decide) (Ybk (by decide) ?_))))));refine Ybj _ (Ybk rfl (Ybj _ (Ybk rfl (Ybk l1 (Ybk (by decide) (Ybk (by decide) ?_))))));refine Ybj _ (Ybk rfl (Ybj _ (Ybk rfl (Ybk l2 (Ybk (by decide) (Ybk (by decide) ?_))))));refine Ybj _ (Ybk rfl (Ybj _ (Ybk rfl (Ybk l3 (Ybk (by decide) (Ybk (by decide) ?_))))));refine Ybj _ (Ybk rfl (Ybj _ (Ybk rfl (Ybk l4 (Ybk (by decide) (Ybk (by decide) ?_))))));exact h
theorem s1_b{y:List Nat}{a3:Option V}(hp:cells[p]?=some (.inst [a0,a1,some (.str x),a3,a4,a5,a6,a7,a8,a9,a10]))(hl:y.length < 1048576)
  (h:Zcl Q (st1 (cells.set p (.inst [a0,a1,some (.str x),a3,some (.ref cells.length),a5,a6,a7,a8,a9,a10])) (.inst p) y 0 0 0 [0] 0 none none none none)) :
  Zfk Q ⟨[some (.inst p),some (.str y),none,none,none,none,none,none,none,none,none,none,none],cells⟩:=by
 have hs:(cells.set p (.inst [a0,a1,some (.str x),a3,some (.ref cells.length),a5,a6,a7,a8,a9,a10])).length=cells.length:=Yce;have hp1:(cells++[Cell.list [.int 0]])[p]?=some (.inst [a0,a1,some (.str x),a3,a4,a5,a6,a7,a8,a9,a10]):=Zah hp;have e:(cells++[Cell.list [.int 0]]).set p (.inst [a0,a1,some (.str x),a3,some (.ref cells.length),a5,a6,a7,a8,a9,a10])=cells.set p (.inst [a0,a1,some (.str x),a3,some (.ref cells.length),a5,a6,a7,a8,a9,a10])++[Cell.list [.int 0]]:=Zcj hp;have hn:vlen ((cells++[Cell.list [.int 0]]).set p (.inst [a0,a1,some (.str x),a3,some (.ref cells.length),a5,a6,a7,a8,a9,a10])) (.str y)=some (y.length:Int):=if_pos (by unfold Zc; exact lted ‹_›);have hg:((cells++[Cell.list [.int 0]]).set p (.inst [a0,a1,some (.str x),a3,some (.ref cells.length),a5,a6,a7,a8,a9,a10]))[cells.length]?=some (.list [.int 0]):=by
  have q:=Zce (cells.set p (.inst [a0,a1,some (.str x),a3,some (.ref cells.length),a5,a6,a7,a8,a9,a10])) (.list [.int 0]);rw [hs] at q;rw [e]; exact q
 -- two names,the new list
 refine Ybk (show (1:Nat)≤Zc by decide) (Ybj _ (Ybk rfl (Ybj _ (Ybj _ (Ybj _ (Ybk rfl (Ybk hp1 (Ybk rfl (Ybk rfl ?_)))))))))
 -- its append
 refine Ybj _ (Ybk rfl (Ybj _ (Ybj _ (Ybk rfl (Ybk hg ?_)))))
 -- i,n
 refine Ybj _ (Ybk rfl (Ybj _ (Ybk hn (Ybk (show (2:Nat)≤Zc by decide) (Ybj _ (Ybk rfl (Ybk rfl ?_)))))));have h':Zcl Q ⟨[some (.inst p),some (.str y),some (.int 0),some (.int 0),some (.int 0),some (.ref cells.length),some (.app cells.length),some (.int 0),some (.int y.length),none,none,none,none],(cells++[Cell.list [.int 0]]).set p (.inst [a0,a1,some (.str x),a3,some (.ref cells.length),a5,a6,a7,a8,a9,a10])⟩:=by
  rw [e];have h2:=h;unfold st1 at h2;rw [hs] at h2;exact h2
 exact h'
theorem gl_last{cs:List Cell}{n:Nat}{gd:List Nat}{g:Nat}(hc:cs[n]?=some (.list (gl gd)))(hg:gd.getLast?=some g)(hl:gd.length < 1048577):vidx cs (.ref n) (.int (-1))=some (.int g):=by
 show (match cs[n]? with | some (.list vs)=>if fits (-1) then (seqIndex? (-1) vs.length).bind (vs[·]?) else none | _=>none)=_;rw [hc];show (if fits (-1) then (seqIndex? (-1) (gl gd).length).bind ((gl gd)[·]?) else none)=_;rw [if_pos (by decide),Zgt];have hne:gd.length≠0:=fun e=>by rw [List.eq_nil_of_length_eq_zero e] at hg; exact nn hg
 have hs:=Zej hne;rw [hs];show (gl gd)[gd.length - 1]?=_;rw [List.getLast?_eq_getElem?] at hg;delta gl;rw [List.getElem?_map,hg]; rfl
noncomputable def Zm(s:M1):List Nat:=if s.gd.getLast?=some s.ln then s.gd else s.gd++[s.ln]
theorem s1_d{base:List Cell}{y:List Nat}{s:M1}{ch qt fl w:Option V}{a2 a3:Option V}(hp:base[p]?=some (.inst [a0,a1,a2,a3,a4,a5,a6,a7,a8,a9,a10]))(hlen:s.gd.length < 1048577)(hne:s.gd≠[])
  (hend:Zg s=0↔s.gd.getLast?=some s.ln)
  (h:∀ loc,Q .next ⟨loc,base.set p (.inst [a0,a1,a2,a3,a4,some (.int (Zg s)),a6,a7,a8,a9,a10])++[.list (gl (Zm s))]⟩) :
  Zck Q (st1 base (.inst p) y (Zfx s) s.lv s.ln s.gd y.length ch qt fl w):=by
 have hs:∀ c,(base.set p c).length=base.length:=fun c=>Yce
 -- the kind of continuation
 have key:Zhg Q (st1 base (.inst p) y (Zg s) s.lv s.ln s.gd y.length ch qt fl w):=by
  refine Ybj _ (Ybk rfl (Ybj _ (Ybk rfl (Ybj _ (Ybj _ (Ybj _ (Ybk rfl (Ybk (Zah hp) (Ybk rfl (Ybk rfl ?_))))))))));have e:(base++[Cell.list (gl s.gd)]).set p (.inst [a0,a1,a2,a3,a4,some (.int (Zg s)),a6,a7,a8,a9,a10])=base.set p (.inst [a0,a1,a2,a3,a4,some (.int (Zg s)),a6,a7,a8,a9,a10])++[Cell.list (gl s.gd)]:=Zcj hp;have key2:Zhf Q ⟨[some (.inst p),some (.str y),some (.int (Zg s)),some (.int s.lv),some (.int s.ln),some (.ref base.length),some (.app base.length),some (.int y.length),some (.int y.length),ch,qt,fl,w],(base++[Cell.list (gl s.gd)]).set p (.inst [a0,a1,a2,a3,a4,some (.int (Zg s)),a6,a7,a8,a9,a10])⟩:=by
   rw [e];generalize hb:base.set p (.inst [a0,a1,a2,a3,a4,some (.int (Zg s)),a6,a7,a8,a9,a10])=b at h;have hbl:b.length=base.length:=by rw [← hb]; exact hs _
   rw [← hbl];have hg0:=Zce b (.list (gl s.gd));obtain ⟨g,hg⟩:∃ g,s.gd.getLast?=some g:=by cases q:s.gd.getLast? with | none=>exact absurd (Ycf.mp q) hne | some g=>exact ⟨g,rfl⟩
   have hv:=gl_last hg0 hg hlen;have hveq:veq (.bool (Zg s == 0)) (.bool ((g:Int) == s.ln))=some true:=by
    have e1:(Zg s == 0)=((g:Int) == s.ln):=by
     rw [Bool.eq_iff_iff,beq_iff_eq,beq_iff_eq,hend,hg];constructor
     ·intro q; cases q; rfl
     ·intro q; congr 1; lia
    rw [e1];cases ((g:Int) == s.ln) <;> rfl
   have t18:Zhe Q ⟨[some (.inst p),some (.str y),some (.int (Zg s)),some (.int s.lv),some (.int s.ln),some (.ref b.length),some (.app b.length),some (.int y.length),some (.int y.length),ch,qt,fl,w],b++[Cell.list (gl s.gd)]⟩:=by
    by_cases hgl:g=s.ln
    ·have y1:((g:Int) != s.ln)=false:=by simp [hgl]
     have e2:Zm s=s.gd:=if_pos (by rw [hg,hgl]);have h':=h [some (.inst p),some (.str y),some (.int (Zg s)),some (.int s.lv),some (.int s.ln),some (.ref b.length),some (.app b.length),some (.int y.length),some (.int y.length),ch,qt,fl,w];rw [e2] at h'
     repeat (first
 | exact h'
 | refine eI rfl ?_
 | refine eI (hv) ?_
 | refine Ybk rfl ?_
 | refine iN (by decide) ?_
 | refine iY (by decide) ?_
 | refine iN y1 ?_)
    ·have y1:((g:Int) != s.ln)=true:=by simp; lia
     have e2:Zm s=s.gd++[s.ln]:=if_neg (by rw [hg]; intro q; cases q; exact hgl rfl);have h':=h [some (.inst p),some (.str y),some (.int (Zg s)),some (.int s.lv),some (.int s.ln),some (.ref b.length),some (.app b.length),some (.int y.length),some (.int y.length),ch,qt,fl,w];rw [e2,← Zvl] at h';have e3:(b++[Cell.list (gl s.gd)]).set b.length (.list (gl s.gd++[.int s.ln]))=b++[.list (gl s.gd++[.int s.ln])]:=Zjs _ _ _;rw [← e3] at h';have fin:∃ n vs,V.ref b.length=V.ref n∧(b++[Cell.list (gl s.gd)])[n]?=some (.list vs)∧vs.length < Zc∧Q .next ⟨[some (.inst p),some (.str y),some (.int (Zg s)),some (.int s.lv),some (.int s.ln),some (.ref b.length),some (.app b.length),some (.int y.length),some (.int y.length),ch,qt,fl,w],(b++[Cell.list (gl s.gd)]).set n (.list (vs++[.int s.ln]))⟩ :=
      ⟨b.length,_,rfl,hg0,by rw [Zgt]; delta Zc; exact ltd ‹_›,h'⟩
     repeat (first
 | exact fin
 | refine eI rfl ?_
 | refine eI (hv) ?_
 | refine Ybk rfl ?_
 | refine iN (by decide) ?_
 | refine iY (by decide) ?_
 | refine iY y1 ?_)
   have hv2:PyData.eqv (.bool (Zg s == 0)) (.bool ((g:Int) == s.ln))=true:=Yc hveq
   repeat (first
 | exact t18
 | refine eI rfl ?_
 | refine eI (hv) ?_
 | refine Ybk hv2 ?_
 | refine Ybk rfl ?_
 | refine iN (by decide) ?_
 | refine iY (by decide) ?_)
  exact key2
 by_cases hstr:Ztj s.lx=true
 ·have e1:Zg s=Zfx s:=by delta Zg Zfx; rw [if_pos hstr,if_pos hstr]
  rw [e1] at key;delta Zfx at key ⊢;rw [if_pos hstr] at key ⊢
  by_cases hf:(s.ln:Int) - 1=s.f
  ·rw [if_pos hf] at key ⊢
   repeat (first
 | exact key
 | refine eI rfl ?_
 | refine Ybk rfl ?_
 | refine iN (by decide) ?_
 | refine iY (by decide) ?_)
  ·rw [if_neg hf] at key ⊢
   repeat (first
 | exact key
 | refine eI rfl ?_
 | refine Ybk rfl ?_
 | refine iN (by decide) ?_
 | refine iY (by decide) ?_)
 ·have e2:Zfx s=if s.lx=.NB then 1 else 0:=if_neg hstr
  have e3:Zg s=if 0 < s.lv then 4 else if s.lx=.NB then 1 else 0:=if_neg hstr
  rw [e2];rw [e3] at key
  by_cases hlv:0 < s.lv
  ·rw [if_pos hlv] at key;have y1:decide ((s.lv:Int) > 0)=true:=by simp; exact ‹_›
   by_cases hb:s.lx=.NB
   ·rw [if_pos hb]
    repeat (first
 | exact key
 | refine eI rfl ?_
 | refine Ybk rfl ?_
 | refine iN (by decide) ?_
 | refine iY (by decide) ?_
 | refine iY y1 ?_)
   ·rw [if_neg hb]
    repeat (first
 | exact key
 | refine eI rfl ?_
 | refine Ybk rfl ?_
 | refine iN (by decide) ?_
 | refine iY (by decide) ?_
 | refine iY y1 ?_)
  ·rw [if_neg hlv] at key;have y1:decide ((s.lv:Int) > 0)=false:=by simp; lia
   by_cases hb:s.lx=.NB
   ·rw [if_pos hb] at key ⊢
    repeat (first
 | exact key
 | refine eI rfl ?_
 | refine Ybk rfl ?_
 | refine iN (by decide) ?_
 | refine iY (by decide) ?_
 | refine iN y1 ?_)
   ·rw [if_neg hb] at key ⊢
    repeat (first
 | exact key
 | refine eI rfl ?_
 | refine Ybk rfl ?_
 | refine iN (by decide) ?_
 | refine iY (by decide) ?_
 | refine iN y1 ?_)
theorem Zwn{s:M1}(he:endLx s.lx=true)(hg:s.gd.getLast?=some s.ln↔s.lx=.N∧s.lv=0):Zg s=0↔s.gd.getLast?=some s.ln:=by
 rw [hg];delta Zg;cases h:s.lx with
 | N =>
  show (if 0 < s.lv then (4:Int) else if Lx.N=Lx.NB then 1 else 0)=0↔_;rw [if_neg (fun e=>Lx.noConfusion e)]
  by_cases h:0 < s.lv
  ·rw [if_pos h]; exact ⟨fun e=>(by cases e),fun e=>absurd e.2 (Yaz h)⟩
  ·rw [if_neg h]; exact ⟨fun _=>⟨rfl,Nat.eq_zero_of_not_pos h⟩,fun _=>rfl⟩
 | NB =>
  refine ⟨fun e=>?_,fun e=>Lx.noConfusion e.1⟩;have e:(if 0 < s.lv then (4:Int) else 1)=0:=e
  split at e <;> cases e
 | S q | T q =>
  refine ⟨fun e=>?_,fun e=>Lx.noConfusion e.1⟩;have e:(if (s.ln:Int) - 1=s.f then (2:Int) else 3)=0:=e
  split at e <;> cases e
 | _=>rw [h] at he; exact absurd he Yy
theorem gd_len(s:M1)(l:List Nat):(run1 s l).gd.length≤s.gd.length + l.length:=by
 have step:∀ (s:M1) (k:Cl),(dk s k).gd.length≤s.gd.length + 1:=by
  intro s k
  rcases (dk_gd s k).2 with e | ⟨_,e⟩
  ·rw [e]; exact Yba _
  ·rw [e]; simp
 induction l generalizing s with
 | nil=>exact Yaa _
 | cons c l ih =>
  rw [Ze,List.length_cons];have h1:=ih (d1 s c);have h2:=step s (cls c);unfold d1 at h1 ⊢;lia
theorem Zlk(hp:cells[p]?=some (.inst [a0,a1,some (.str x),some (.int 0),a4,a5,a6,a7,a8,a9,a10]))(hx:∀ c∈x,c < 128)(hlast:x.getLast?=some 10)(hl:x.length < 1048576)
  (h:∀ loc,Q .next ⟨loc,cells.set p (.inst [a0,a1,some (.str x),some (.int 1),some (.ref cells.length),some (.int (Zg (run1 start1 x))),a6,a7,a8,a9,a10])++[.list (gl (Zm (run1 start1 x)))]⟩) :
  Zbk Q ⟨[some (.inst p),none,none,none,none,none,none,none,none,none,none,none,none],cells⟩:=by
 have hp1:=Zn (d:=.inst [a0,a1,some (.str x),some (.int 1),a4,a5,a6,a7,a8,a9,a10]) hp;have hp2:=Zn (d:=.inst [a0,a1,some (.str x),some (.int 1),some (.ref cells.length),a5,a6,a7,a8,a9,a10]) hp;have hfin:=Ztn start1 x;have hlen:=gd_len start1 x;have hlen2:(run1 start1 x).gd.length < 1048577:=by have:start1.gd.length=1:=rfl; lia
 have hinv:=Zjv Zen x;obtain ⟨x',hx',hr⟩:=Zpf hlast start1;have hen:=end_nl (Zjv Zen x');rw [← hr] at hen;have hsm:=Ztp x;have hne:small x≠[]:=by
  intro e;have:=Zii hlast;rw [e] at this; exact nn this
 have hd:∀ (s':M1) (ch qt fl w:Option V),s'=run1 start1 x→Zck Q (st1 (cells.set p (.inst [a0,a1,some (.str x),some (.int 1),some (.ref cells.length),a5,a6,a7,a8,a9,a10])) (.inst p) (small x) (Zfx s') s'.lv s'.ln s'.gd (small x).length ch qt fl w):=by
  intro s' ch qt fl w hs';rw [← hs'] at hen hlen2 hinv h;refine s1_d hp2 hlen2 hinv.ne (Zwn hen.1 hen.2) ?_;intro loc;rw [List.set_set];exact h loc
 have hc:Zcl Q (st1 (cells.set p (.inst [a0,a1,some (.str x),some (.int 1),some (.ref cells.length),a5,a6,a7,a8,a9,a10])) (.inst p) (small x) 0 0 0 [0] 0 none none none none) :=
  while1 (Q:=fun fl st=>match fl with | .next=>Zck Q st | fl=>Q fl st) (fin:=run1 start1 x) (Zne x) (Zii hlast) (Yh ‹_› ‹_›) hd (pre:=[]) (z:=small x) (s:=start1) (cont:=0) rfl rfl ⟨hfin,(by show 1 + _≤_; lia),.inl ⟨.inl rfl,rfl,hne⟩⟩
 refine s1_a hp hx hl (s1_b hp1 (Yh ‹_› ‹_›) ?_);rw [List.set_set,List.length_set];exact hc
end
end Mine
namespace Mine
structure M2 where
 lx:Lx
 pos:Nat
 stk:List Nat
 rows:List (Nat × Nat)
 last:List Nat
noncomputable def isWs(c:Nat):Bool:=c == 32 || c == 9 || c == 10
noncomputable def M2.row(s:M2)(p d:Nat):M2:={ s with rows:=s.rows++[(p,d)] }
noncomputable def M2.go(s:M2)(x:Lx):M2:={ s with lx:=x,pos:=s.pos + 1 }
noncomputable def nrm2(s:M2)(c:Nat):M2:=match cls c with
 | .op=>({ s with stk:=s.stk++[s.pos],rows:=s.rows++[(s.pos,s.stk.length + 1)],last:=[c] }:M2).go .N
 | .cl=>({ s with stk:=s.stk.dropLast,rows:=s.rows++[(s.pos + 1,s.stk.dropLast.length)],last:=[c] }:M2).go .N
 | .dq=>({ s with rows:=s.rows++[(s.pos,s.stk.length + 1)],last:=[c] }:M2).go (.Q1 false)
 | .sq=>({ s with rows:=s.rows++[(s.pos,s.stk.length + 1)],last:=[c] }:M2).go (.Q1 true)
 | .hash=>(s.row s.pos (s.stk.length + 1)).go .C
 | .bs=>s.go .B
 | _=>({ s with last:=if isWs c then s.last else [c] }:M2).go .N
noncomputable def M2.shut(s:M2)(p:Nat):M2:={ s with rows:=s.rows++[(p,s.stk.length)] }
noncomputable def inS2(q:Bool)(s:M2)(c:Nat):M2:=if cls c=qk q then (s.shut (s.pos + 1)).go .N else if c=10 then nrm2 (s.shut s.pos) c else if c=92 then s.go (.SB q) else s.go (.S q)
noncomputable def inT2(q:Bool)(s:M2)(c:Nat):M2:=if c=92 then s.go (.TB q) else s.go (.T q)
noncomputable def d2(s:M2)(c:Nat):M2:=match s.lx with
 | .N=>nrm2 s c
 | .NB=>nrm2 s c
 | .B=>({ s with last:=if c=10 then s.last else [92,c] }:M2).go .N
 | .C=>if c=10 then (s.row (s.pos + 1) s.stk.length).go .N else s.go .C
 | .Q1 q=>if cls c=qk q then s.go (.Q2 q) else inS2 q s c
 | .Q2 q=>if cls c=qk q then s.go (.T q) else nrm2 (s.shut s.pos) c
 | .S q=>inS2 q s c
 | .SB q=>s.go (.S q)
 | .T q=>if cls c=qk q then s.go (.T1 q) else inT2 q s c
 | .T1 q=>if cls c=qk q then s.go (.T2 q) else inT2 q s c
 | .T2 q=>if cls c=qk q then (s.shut (s.pos + 1)).go .N else inT2 q s c
 | .TB q=>s.go (.T q)
noncomputable def run2(s:M2)(l:List Nat):M2:=l.foldl d2 s
theorem Zd(s:M2)(c:Nat)(l:List Nat):run2 s (c :: l)=run2 (d2 s c) l:=rfl
theorem Zng(s:M2)(a b:List Nat):run2 s (a++b)=run2 (run2 s a) b:=Ybx
noncomputable def res2(s:M2):List Nat × List (Nat × Nat) × List Nat:=match s.lx with
 | .N | .NB | .B | .C=>(s.stk,s.rows,s.last)
 | _=>(s.stk,s.rows++[(s.pos,s.stk.length)],s.last)
theorem qc_cls(q:Bool):cls (qc q)=qk q:=by exact q.rec rfl rfl
theorem Zre{q:Bool}{c:Nat}(h:c≠qc q):cls c≠qk q:=fun e=>h (cls_q.mp e)
theorem Zcc{c:Nat}{l:List Nat}(h:(c :: l).getLast?=some 10)(hc:l≠[]):l.getLast?=some 10:=Zbh (y:=c :: l) (pre:=[c]) h rfl hc
theorem t2_to_t{q:Bool}{pos:Nat}{stk:List Nat}{rows:List (Nat × Nat)}{last:List Nat}{z:List Nat}(h:∀ r,z≠qc q :: r) :
  res2 (run2 ⟨.T2 q,pos,stk,rows,last⟩ z)=res2 (run2 ⟨.T q,pos,stk,rows,last⟩ z):=by
 cases z with
 | nil=>rfl
 | cons c z =>
  have hc:cls c≠qk q:=Zre fun e=>h z (by rw [e]);rw [Zd,Zd];have e1:d2 ⟨.T2 q,pos,stk,rows,last⟩ c=inT2 q ⟨.T2 q,pos,stk,rows,last⟩ c:=if_neg hc;have e2:d2 ⟨.T q,pos,stk,rows,last⟩ c=inT2 q ⟨.T q,pos,stk,rows,last⟩ c:=if_neg hc;rw [e1,e2]; rfl
theorem t1_to_t{q:Bool}{pos:Nat}{stk:List Nat}{rows:List (Nat × Nat)}{last:List Nat}{z:List Nat}(h:∀ r,z≠qc q :: qc q :: r) :
  res2 (run2 ⟨.T1 q,pos,stk,rows,last⟩ z)=res2 (run2 ⟨.T q,pos,stk,rows,last⟩ z):=by
 cases z with
 | nil=>rfl
 | cons c z =>
  by_cases hc:cls c=qk q
  ·rw [Zd,Zd];have e1:d2 ⟨.T1 q,pos,stk,rows,last⟩ c=⟨.T2 q,pos + 1,stk,rows,last⟩:=if_pos hc;have e2:d2 ⟨.T q,pos,stk,rows,last⟩ c=⟨.T1 q,pos + 1,stk,rows,last⟩:=if_pos hc;rw [e1,e2];have hz:∀ r,z≠qc q :: r:=fun r e=>h r (by rw [cls_q.mp hc,e]);rw [t2_to_t hz];cases z with
   | nil=>rfl
   | cons d z =>
    have hd:cls d≠qk q:=Zre fun e=>hz z (by rw [e]);rw [Zd,Zd];have e3:d2 ⟨.T q,pos + 1,stk,rows,last⟩ d=inT2 q ⟨.T q,pos + 1,stk,rows,last⟩ d:=if_neg hd;have e4:d2 ⟨.T1 q,pos + 1,stk,rows,last⟩ d=inT2 q ⟨.T1 q,pos + 1,stk,rows,last⟩ d:=if_neg hd;rw [e3,e4]; rfl
  ·rw [Zd,Zd];have e1:d2 ⟨.T1 q,pos,stk,rows,last⟩ c=inT2 q ⟨.T1 q,pos,stk,rows,last⟩ c:=if_neg hc;have e2:d2 ⟨.T q,pos,stk,rows,last⟩ c=inT2 q ⟨.T q,pos,stk,rows,last⟩ c:=if_neg hc;rw [e1,e2]; rfl
theorem Zzg{q:Bool}{stk:List Nat}{rows:List (Nat × Nat)}{last:List Nat}:∀ (n:Nat) {z:List Nat} {pos:Nat},z.length≤n→(z=[]∨z.getLast?=some 10) →
  res2 (run2 ⟨.T q,pos,stk,rows,last⟩ z)=res2 (run2 ⟨.N,pos + tEnd (qc q) z,stk,rows++[(pos + tEnd (qc q) z,stk.length)],last⟩ (z.drop (tEnd (qc q) z))):=by
 intro n
 induction n with
 | zero =>
  intro z pos hz _;have:z=[]:=Ycd (by lia);subst this; rfl
 | succ n ih =>
  intro z pos hz hl
  match z,hz,hl with
  | [],_,_=>rfl
  | [c],_,hl =>
   have hc:c=10:=by simpa using hl
   subst hc;have:tEnd (qc q) [10]=1:=by exact q.rec rfl rfl
   rw [this];have e1:d2 ⟨.T q,pos,stk,rows,last⟩ 10=⟨.T q,pos + 1,stk,rows,last⟩:=by exact q.rec rfl rfl
   rw [Zd,e1]; rfl
  | c :: d :: l,hz,hl =>
   simp only [List.length_cons] at hz;have hl':(c :: d :: l).getLast?=some 10:=by rcases hl with h | h; cases h; exact h
   have hl2:(d :: l).getLast?=some 10:=Zcc hl' (by simp)
   by_cases h92:c=92
   ·subst h92;have et:tEnd (qc q) (92 :: d :: l)=2 + tEnd (qc q) l:=by rw [tEnd,if_pos rfl]
    have e1:d2 ⟨.T q,pos,stk,rows,last⟩ 92=⟨.TB q,pos + 1,stk,rows,last⟩:=by exact q.rec rfl rfl
    rw [Zd,e1,Zd,et];show res2 (run2 ⟨.T q,pos + 1 + 1,stk,rows,last⟩ l)=_;rw [ih (by lia) (by by_cases hz:l=[]; exact .inl hz; exact .inr (Zcc hl2 hz))];rw [show pos + 1 + 1 + tEnd (qc q) l=pos + (2 + tEnd (qc q) l) by lia,show 2 + tEnd (qc q) l=tEnd (qc q) l + 1 + 1 by exact Nat.add_comm _ _];rfl
   ·by_cases h3:c=qc q∧d=qc q∧l.head?=some (qc q)
    ·have et:tEnd (qc q) (c :: d :: l)=3:=by rw [tEnd,if_neg h92,if_pos h3]
     obtain ⟨rfl,rfl,h3⟩:=h3;cases l with
     | nil=>cases h3
     | cons e l =>
      cases h3;rw [et,Zd,Zd,Zd];exact q.rec rfl rfl
    ·have et:tEnd (qc q) (c :: d :: l)=1 + tEnd (qc q) (d :: l):=by rw [tEnd,if_neg h92,if_neg h3]
     have key:res2 (run2 (d2 ⟨.T q,pos,stk,rows,last⟩ c) (d :: l))=res2 (run2 ⟨.T q,pos + 1,stk,rows,last⟩ (d :: l)):=by
      by_cases hc:c=qc q
      ·have e1:d2 ⟨.T q,pos,stk,rows,last⟩ c=⟨.T1 q,pos + 1,stk,rows,last⟩:=if_pos (cls_q.mpr hc);rw [e1];refine t1_to_t fun r e=>h3 ⟨hc,?_⟩;cases e; exact ⟨rfl,rfl⟩
      ·have e1:d2 ⟨.T q,pos,stk,rows,last⟩ c=inT2 q ⟨.T q,pos,stk,rows,last⟩ c:=if_neg (Zre hc);rw [e1];unfold inT2;rw [if_neg h92]; rfl
     rw [Zd,key,ih (by simp only [List.length_cons]; exact Ycg ‹_›) (.inr hl2),et];rw [show pos + 1 + tEnd (qc q) (d :: l)=pos + (1 + tEnd (qc q) (d :: l)) by exact Nat.add_assoc _ _ _,show 1 + tEnd (qc q) (d :: l)=tEnd (qc q) (d :: l) + 1 by exact Nat.add_comm _ _];rfl
theorem Ztr{q:Bool}{stk:List Nat}{rows:List (Nat × Nat)}{last:List Nat}:∀ (n:Nat) {z:List Nat} {pos:Nat},z.length≤n→(z=[]∨z.getLast?=some 10) →
  res2 (run2 ⟨.S q,pos,stk,rows,last⟩ z)=res2 (run2 ⟨.N,pos + sEnd (qc q) z,stk,rows++[(pos + sEnd (qc q) z,stk.length)],last⟩ (z.drop (sEnd (qc q) z))):=by
 intro n
 induction n with
 | zero =>
  intro z pos hz _;have:z=[]:=Ycd (by lia);subst this; rfl
 | succ n ih =>
  intro z pos hz hl
  match z,hz,hl with
  | [],_,_=>rfl
  | [c],_,hl =>
   have hc:c=10:=by simpa using hl
   subst hc;exact q.rec rfl rfl
  | c :: d :: l,hz,hl =>
   simp only [List.length_cons] at hz;have hl':(c :: d :: l).getLast?=some 10:=by rcases hl with h | h; cases h; exact h
   have hl2:(d :: l).getLast?=some 10:=Zcc hl' (by simp)
   by_cases hq:c=qc q
   ·have et:sEnd (qc q) (c :: d :: l)=1:=by rw [sEnd,if_pos hq]
    rw [et,Zd];have e1:d2 ⟨.S q,pos,stk,rows,last⟩ c=⟨.N,pos + 1,stk,rows++[(pos + 1,stk.length)],last⟩:=if_pos (cls_q.mpr hq);rw [e1]; rfl
   ·by_cases h10:c=10
    ·subst h10;have et:sEnd (qc q) (10 :: d :: l)=0:=by rw [sEnd,if_neg hq,if_pos rfl]
     rw [et,Zd];exact q.rec rfl rfl
    ·by_cases h92:c=92
     ·subst h92;have et:sEnd (qc q) (92 :: d :: l)=2 + sEnd (qc q) l:=by rw [sEnd,if_neg hq,if_neg h10,if_pos rfl]
      have e1:d2 ⟨.S q,pos,stk,rows,last⟩ 92=⟨.SB q,pos + 1,stk,rows,last⟩:=by exact q.rec rfl rfl
      rw [Zd,e1,Zd,et];show res2 (run2 ⟨.S q,pos + 1 + 1,stk,rows,last⟩ l)=_;rw [ih (by lia) (by by_cases hz:l=[]; exact .inl hz; exact .inr (Zcc hl2 hz))];rw [show pos + 1 + 1 + sEnd (qc q) l=pos + (2 + sEnd (qc q) l) by lia,show 2 + sEnd (qc q) l=sEnd (qc q) l + 1 + 1 by exact Nat.add_comm _ _];rfl
     ·have et:sEnd (qc q) (c :: d :: l)=1 + sEnd (qc q) (d :: l):=by rw [sEnd,if_neg hq,if_neg h10,if_neg h92]
      have e1:d2 ⟨.S q,pos,stk,rows,last⟩ c=⟨.S q,pos + 1,stk,rows,last⟩:=by
       show inS2 q _ c=_;unfold inS2;rw [if_neg (Zre hq),if_neg h10,if_neg h92]; rfl
      rw [Zd,e1,ih (by simp only [List.length_cons]; exact Ycg ‹_›) (.inr hl2),et];rw [show pos + 1 + sEnd (qc q) (d :: l)=pos + (1 + sEnd (qc q) (d :: l)) by exact Nat.add_assoc _ _ _,show 1 + sEnd (qc q) (d :: l)=sEnd (qc q) (d :: l) + 1 by exact Nat.add_comm _ _];rfl
theorem str_run{q:Bool}{pos:Nat}{stk:List Nat}{rows:List (Nat × Nat)}{last:List Nat}{z:List Nat}(hl:z.getLast?=some 10) :
  res2 (run2 ⟨.N,pos,stk,rows,last⟩ (qc q :: z))=res2 (run2 ⟨.N,pos + strL (qc q :: z),stk,rows++[(pos,stk.length + 1)]++[(pos + strL (qc q :: z),stk.length)],[qc q]⟩ ((qc q :: z).drop (strL (qc q :: z)))):=by
 have e0:d2 ⟨.N,pos,stk,rows,last⟩ (qc q)=⟨.Q1 q,pos + 1,stk,rows++[(pos,stk.length + 1)],[qc q]⟩:=by exact q.rec rfl rfl
 rw [Zd,e0]
 by_cases h:∃ m,z=qc q :: qc q :: m
 ·obtain ⟨m,rfl⟩:=h;rw [Zgh];have e1:run2 ⟨.Q1 q,pos + 1,stk,rows++[(pos,stk.length + 1)],[qc q]⟩ (qc q :: qc q :: m)=run2 ⟨.T q,pos + 1 + 1 + 1,stk,rows++[(pos,stk.length + 1)],[qc q]⟩ m:=by
   rw [Zd,Zd]; exact q.rec rfl rfl
  have hm:m=[]∨m.getLast?=some 10:=by
   by_cases hz:m=[]
   ·exact .inl hz
   ·exact .inr (Zcc (Zcc hl (by simp)) hz)
  rw [e1,Zzg m.length (Nat.le_refl _) hm,show pos + 1 + 1 + 1 + tEnd (qc q) m=pos + (3 + tEnd (qc q) m) by lia,show 3 + tEnd (qc q) m=tEnd (qc q) m + 1 + 1 + 1 by exact Nat.add_comm _ _];rfl
 ·have h':∀ m,z≠qc q :: qc q :: m:=fun m e=>h ⟨m,e⟩;rw [Zex h'];have key:res2 (run2 ⟨.Q1 q,pos + 1,stk,rows++[(pos,stk.length + 1)],[qc q]⟩ z)=res2 (run2 ⟨.S q,pos + 1,stk,rows++[(pos,stk.length + 1)],[qc q]⟩ z):=by
   cases z with
   | nil=>rfl
   | cons c z =>
    by_cases hc:c=qc q
    ·subst hc;rw [Zd,Zd];have e1:d2 ⟨.Q1 q,pos + 1,stk,rows++[(pos,stk.length + 1)],[qc q]⟩ (qc q)=⟨.Q2 q,pos + 1 + 1,stk,rows++[(pos,stk.length + 1)],[qc q]⟩:=if_pos (qc_cls q);have e2:d2 ⟨.S q,pos + 1,stk,rows++[(pos,stk.length + 1)],[qc q]⟩ (qc q)=⟨.N,pos + 1 + 1,stk,rows++[(pos,stk.length + 1)]++[(pos + 1 + 1,stk.length)],[qc q]⟩:=if_pos (qc_cls q);rw [e1,e2];cases z with
     | nil=>simp at hl; exact absurd hl (Zud q).2.1
     | cons d z =>
      have hd:d≠qc q:=fun e=>h' z (by rw [e]);rw [Zd,Zd];have e3:d2 ⟨.Q2 q,pos + 1 + 1,stk,rows++[(pos,stk.length + 1)],[qc q]⟩ d=nrm2 ⟨.Q2 q,pos + 1 + 1,stk,rows++[(pos,stk.length + 1)]++[(pos + 1 + 1,stk.length)],[qc q]⟩ d:=if_neg (Zre hd);have e4:d2 ⟨.N,pos + 1 + 1,stk,rows++[(pos,stk.length + 1)]++[(pos + 1 + 1,stk.length)],[qc q]⟩ d=nrm2 ⟨.N,pos + 1 + 1,stk,rows++[(pos,stk.length + 1)]++[(pos + 1 + 1,stk.length)],[qc q]⟩ d:=rfl;rw [e3,e4]
      congr 2
    ·rw [Zd,Zd];have e1:d2 ⟨.Q1 q,pos + 1,stk,rows++[(pos,stk.length + 1)],[qc q]⟩ c=inS2 q ⟨.Q1 q,pos + 1,stk,rows++[(pos,stk.length + 1)],[qc q]⟩ c:=if_neg (Zre hc);rw [e1]
     congr 2
  rw [key,Ztr z.length (Nat.le_refl _) (.inr hl),show pos + 1 + sEnd (qc q) z=pos + (1 + sEnd (qc q) z) by exact Nat.add_assoc _ _ _,show 1 + sEnd (qc q) z=sEnd (qc q) z + 1 by exact Nat.add_comm _ _];rfl
end Mine
namespace Mine
open PySem.StrLaws
noncomputable def rowV(r:Nat × Nat):V:=.tup [.int r.1,.int r.2]
noncomputable def sv(stk:List Nat):List V:=stk.map fun n:Nat=>.int n
noncomputable def rv(rows:List (Nat × Nat)):List V:=rows.map rowV
theorem Zau(l:List Nat):(sv l).length=l.length:=by simp [sv]
theorem Zgj(l:List (Nat × Nat)):(rv l).length=l.length:=by simp [rv]
theorem sv_app(l:List Nat)(n:Nat):sv l++[.int n]=sv (l++[n]):=by simp [sv]
theorem Zpe(l:List (Nat × Nat))(a b:Nat):rv l++[.tup [.int a,.int b]]=rv (l++[(a,b)]):=by simp [rv,rowV]
noncomputable def c2(base:List Cell)(stk:List Nat)(rows:List (Nat × Nat)):List Cell:=base++[.list (sv stk),.list (rv rows)]
theorem Zci{base:List Cell}{a b:Cell}:(base++[a,b])[base.length]?=some a:=by rw [List.getElem?_append_right (Nat.le_refl _),Nat.sub_self]; rfl
theorem Zde{base:List Cell}{a b:Cell}:(base++[a,b])[base.length + 1]?=some b:=by rw [List.getElem?_append_right (Nat.le_succ _),show base.length + 1 - base.length=1 by lia]; rfl
theorem Zxb{base:List Cell}{a b c:Cell}:(base++[a,b]).set base.length c=base++[c,b]:=by rw [List.set_append_right _ _ (Nat.le_refl _),Nat.sub_self]; rfl
theorem Zke{base:List Cell}{a b c:Cell}:(base++[a,b]).set (base.length + 1) c=base++[a,c]:=by rw [List.set_append_right _ _ (Nat.le_succ _),show base.length + 1 - base.length=1 by lia]; rfl
noncomputable def st2(cells:List Cell)(nb:Nat)(self gdv:V)(x:List Nat)(iv:Option V)(p q:Int)(nth:Option V)(last:List Nat)(m newp ch:Option V):St :=
 ⟨[some self,some (.str x),some gdv,iv,some (.int p),some (.int q),nth,some (.str last),some (.ref nb),some (.app nb),some (.ref (nb + 1)),m,newp,ch],cells⟩
theorem Zac(c:Nat)(y:List Nat):Zdn [c] y=decide (c∈y):=by
 unfold Zdn;have:=found_one ⟨y.toArray⟩ c;rw [Zo] at this;rw [this]
theorem Zlh{cells:List Cell}{n:Nat}{vs:List V}{k:Nat}{i:Int}{v:V}(hc:cells[n]?=some (.list vs))(hs:seqIndex? i vs.length=some k)(hf:fits i)(hv:vs[k]?=some v):vidx cells (.ref n) (.int i)=some v:=by
 show (match cells[n]? with | some (.list vs)=>if fits i then (seqIndex? i vs.length).bind (vs[·]?) else none | _=>none)=_;rw [hc];show (if fits i then (seqIndex? i vs.length).bind (vs[·]?) else none)=_;rw [if_pos hf,hs]; exact hv
theorem Zar{cells:List Cell}{n:Nat}{vs:List V}(hc:cells[n]?=some (.list vs))(hl:vs.length≤Zc):vlen cells (.ref n)=some (vs.length:Int):=by
 show (match cells[n]? with | some (.list vs)=>if vs.length≤Zc then some (vs.length:Int) else none | _=>none)=_;rw [hc];exact if_pos hl
theorem Zib{cells:List Cell}{n:Nat}{vs:List V}(hc:cells[n]?=some (.list vs))(hl:vs.length≤Zc):Zmy cells (.ref n)=some (decide (vs≠[])):=by
 show (match cells[n]? with | some (.list vs)=>if vs.length≤Zc then some (decide (vs≠[])) else none | _=>none)=_;rw [hc];exact if_pos hl
section
variable{base:List Cell}{self gdv:V}{x pre z:List Nat}{stk:List Nat}{rows:List (Nat × Nat)}{iv nth m newp ch:Option V}{p q:Int}{last:List Nat}{Q:Fl→St→Prop}
theorem t_op{c pn:Nat}(hx:x=pre++c :: z)(hp:p=pn)(hpn:pn=pre.length)(hl:x.length < 1048576)(hc:c=40∨c=91∨c=123)(hs:stk.length < 1048577)(hr:rows.length < 8000000)
  (h:Q .cont (st2 (c2 base (stk++[pn]) (rows++[(pn,stk.length + 1)])) base.length self gdv x iv (p + 1) q nth [c] m newp (some (.str [c])))) :
  Zj Q (st2 (c2 base stk rows) base.length self gdv x iv p q nth last m newp ch):=by
 have e1:∀ cells,vidx cells (.str x) (.int p)=some (.str [c]):=fun cells=>Zh hx (by lia) hl;have g0:(c2 base stk rows)[base.length]?=some (.list (sv stk)):=Zci;have s0:(c2 base stk rows).set base.length (.list (sv stk++[.int p]))=base++[.list (sv stk++[.int p]),.list (rv rows)]:=Zxb;have g1:((c2 base stk rows).set base.length (.list (sv stk++[.int p])))[base.length + 1]?=some (.list (rv rows)):=by rw [s0]; exact Zde
 have g2:((c2 base stk rows).set base.length (.list (sv stk++[.int p])))[base.length]?=some (.list (sv stk++[.int p])):=by rw [s0]; exact Zci
 have n0:(sv stk).length < Zc:=by rw [Zau]; unfold Zc; exact ltd ‹_›
 have n1:(rv rows).length < Zc:=by rw [Zgj]; unfold Zc; exact ltd ‹_›
 have v1:=Zar g2 (by rw [List.length_append,Zau]; unfold Zc; simp; exact lted ‹_›);have two:(2:Nat)≤Zc:=by decide
 have fin:Q .cont (st2 (((c2 base stk rows).set base.length (.list (sv stk++[.int p]))).set (base.length + 1) (.list (rv rows++[.tup [.int p,.int ((sv stk++[V.int p]).length:Int)]]))) base.length self gdv x iv (p + 1) q nth [c] m newp (some (.str [c]))):=by
  rw [s0,Zke,List.length_append,Zau];have h2:=h;unfold c2 at h2;rw [← Zpe,← sv_app,← hp] at h2;exact h2
 have y1:Zdn [c] [40,91,123]=true:=by rw [Zac,decide_eq_true_iff]; rcases hc with rfl | rfl | rfl <;> simp
 repeat (first
 | exact fin
 | refine Ybj _ (Ybj _ (Ybk rfl (Ybk g0 (Ybk n0 ?_))))
 | refine Ybj _ (Ybj _ (Ybk rfl (Ybk g1 (Ybk n1 ?_))))
 | refine Ybk (Ybj _ (Ybj _ (Ybk rfl g1))) ?_
 | refine eI rfl ?_
 | refine eI (e1 _) ?_
 | refine eI (v1) ?_
 | refine Ybk two ?_
 | refine Ybk rfl ?_
 | refine iN (by decide) ?_
 | refine iY (by decide) ?_
 | refine iY y1 ?_)
theorem t_cl{c pn:Nat}(hx:x=pre++c :: z)(hp:p=pn)(hpn:pn=pre.length)(hl:x.length < 1048576)(hc:c=41∨c=93∨c=125)(hs:stk.length < 1048577)(hr:rows.length < 8000000)
  (h:Q .cont (st2 (c2 base stk.dropLast (rows++[(pn + 1,stk.dropLast.length)])) base.length self gdv x iv (p + 1) q nth [c] m newp (some (.str [c])))) :
  Zj Q (st2 (c2 base stk rows) base.length self gdv x iv p q nth last m newp ch):=by
 have e1:∀ cells,vidx cells (.str x) (.int p)=some (.str [c]):=fun cells=>Zh hx (by lia) hl;have g0:(c2 base stk rows)[base.length]?=some (.list (sv stk)):=Zci;have n0:(sv stk).length≤Zc:=by rw [Zau]; unfold Zc; exact lted ‹_›
 have n1:(rv rows).length < Zc:=by rw [Zgj]; unfold Zc; exact ltd ‹_›
 have tr:=Zib g0 n0;have y0:Zdn [c] [40,91,123]=false:=by rw [Zac,decide_eq_false_iff_not]; rcases hc with rfl | rfl | rfl <;> simp
 have y1:Zdn [c] [41,93,125]=true:=by rw [Zac,decide_eq_true_iff]; rcases hc with rfl | rfl | rfl <;> simp
 have two:(2:Nat)≤Zc:=by decide
 have f1:fits (-1):=by decide
 by_cases he:stk=[]
 ·subst he;have y2:decide (sv []≠[])=false:=by decide
  have g1:(c2 base [] rows)[base.length + 1]?=some (.list (rv rows)):=Zde;have v1:=Zar g0 n0;have fin:Q .cont (st2 ((c2 base [] rows).set (base.length + 1) (.list (rv rows++[.tup [.int (p + 1),.int ((sv []).length:Int)]]))) base.length self gdv x iv (p + 1) q nth [c] m newp (some (.str [c]))):=by
   have e:(c2 base [] rows).set (base.length + 1) (.list (rv rows++[.tup [.int (p + 1),.int ((sv []).length:Int)]]))=c2 base [] (rows++[(pn + 1,0)]):=by
    unfold c2;rw [Zke,Zau,show (p + 1)=((pn + 1:Nat):Int) by lia,Zpe]; rfl
   rw [e]; exact h
  repeat (first
 | exact fin
 | refine Ybj _ (Ybj _ (Ybk rfl (Ybk g1 (Ybk n1 ?_))))
 | refine Ybk (Ybj _ (Ybj _ (Ybk rfl g1))) ?_
 | refine eI rfl ?_
 | refine eI (e1 _) ?_
 | refine eI (tr) ?_
 | refine eI (v1) ?_
 | refine Ybk two ?_
 | refine Ybk rfl ?_
 | refine iN (by decide) ?_
 | refine iY (by decide) ?_
 | refine iN y0 ?_
 | refine iN y2 ?_
 | refine iY y1 ?_)
 ·have hne:(sv stk).length≠0:=by rw [Zau]; exact fun e=>he (Ycd e)
  have y2:decide (sv stk≠[])=true:=by rw [decide_eq_true_iff]; intro e; rw [e] at hne; exact hne rfl
  have sl:=Zej hne;have er:(sv stk).eraseIdx ((sv stk).length - 1)=sv stk.dropLast:=by
   rw [List.eraseIdx_length_sub_one];unfold sv;rw [List.map_dropLast]
  have s0:(c2 base stk rows).set base.length (.list ((sv stk).eraseIdx ((sv stk).length - 1)))=c2 base stk.dropLast rows:=by
   rw [er]; exact Zxb
  have g1:((c2 base stk rows).set base.length (.list ((sv stk).eraseIdx ((sv stk).length - 1))))[base.length + 1]?=some (.list (rv rows)):=by rw [s0]; exact Zde
  have g2:((c2 base stk rows).set base.length (.list ((sv stk).eraseIdx ((sv stk).length - 1))))[base.length]?=some (.list (sv stk.dropLast)):=by rw [s0]; exact Zci
  have v1:=Zar g2 (by rw [Zau,List.length_dropLast]; unfold Zc; lia);have fin:Q .cont (st2 (((c2 base stk rows).set base.length (.list ((sv stk).eraseIdx ((sv stk).length - 1)))).set (base.length + 1) (.list (rv rows++[.tup [.int (p + 1),.int ((sv stk.dropLast).length:Int)]]))) base.length self gdv x iv (p + 1) q nth [c] m newp (some (.str [c]))):=by
   have e:(c2 base stk.dropLast rows).set (base.length + 1) (.list (rv rows++[.tup [.int (p + 1),.int ((sv stk.dropLast).length:Int)]]))=c2 base stk.dropLast (rows++[(pn + 1,stk.dropLast.length)]):=by
    unfold c2;rw [Zke,Zau,show (p + 1)=((pn + 1:Nat):Int) by lia,Zpe]
   rw [s0,e]; exact h
  repeat (first
 | exact fin
 | refine Ybj _ (Ybj _ (Ybk rfl (Ybk g1 (Ybk n1 ?_))))
 | refine Ybk (Ybj _ (Ybj _ (Ybk rfl g1))) ?_
 | refine Ybj _ (Ybj _ (Ybj _ (Ybj _ (Ybk rfl (Ybk rfl (Ybk g0 (Ybk f1 (Ybk n0 (Ybk sl ?_)))))))))
 | refine eI rfl ?_
 | refine eI (e1 _) ?_
 | refine eI (tr) ?_
 | refine eI (v1) ?_
 | refine Ybk two ?_
 | refine Ybk rfl ?_
 | refine iN (by decide) ?_
 | refine iY (by decide) ?_
 | refine iN y0 ?_
 | refine iY y1 ?_
 | refine iY y2 ?_)
theorem Zkf{a b:Nat}:(c2 base stk rows).set (base.length + 1) (.list (rv rows++[.tup [.int a,.int b]]))=c2 base stk (rows++[(a,b)]):=by
 unfold c2;rw [Zke,Zpe]
theorem t_str{k:Bool}{pn qn n:Nat}(hx:x=pre++qc k :: z)(hp:p=pn)(hq:q=qn)(hpn:pn=pre.length)(hl:x.length < 1048576)(hs:stk.length < 1048576)(hr:rows.length < 8000000)
  (hpq:pn≤qn) (hqn:qn≤x.length) {l:List Nat} (hz:(x.take qn).drop pn=qc k :: l) (hn:strL (qc k :: l)=n)
  (h:Q .cont (st2 (c2 base stk (rows++[(pn,stk.length + 1)]++[(pn + n,stk.length)])) base.length self gdv x iv (pn + n:Nat) q nth [qc k] m newp (some (.str [qc k])))) :
  Zj Q (st2 (c2 base stk rows) base.length self gdv x iv p q nth last m newp ch):=by
 subst hn;have e1:∀ cells,vidx cells (.str x) (.int p)=some (.str [qc k]):=fun cells=>Zh hx (by lia) hl;have g0:(c2 base stk rows)[base.length]?=some (.list (sv stk)):=Zci;have g1:(c2 base stk rows)[base.length + 1]?=some (.list (rv rows)):=Zde;have n0:(sv stk).length≤Zc:=by rw [Zau]; unfold Zc; exact lted ‹_›
 have n1:(rv rows).length < Zc:=by rw [Zgj]; unfold Zc; exact ltd ‹_›
 have v1:=Zar g0 n0;have two:(2:Nat)≤Zc:=by decide
 have s1:(c2 base stk rows).set (base.length + 1) (.list (rv rows++[.tup [.int p,.int (((sv stk).length:Int) + 1)]]))=c2 base stk (rows++[(pn,stk.length + 1)]):=by
  rw [Zau,hp,show ((stk.length:Int) + 1)=((stk.length + 1:Nat):Int) by exact rfl]; exact Zkf
 have g3:((c2 base stk rows).set (base.length + 1) (.list (rv rows++[.tup [.int p,.int (((sv stk).length:Int) + 1)]])))[base.length + 1]?=some (.list (rv (rows++[(pn,stk.length + 1)]))):=by rw [s1]; exact Zde
 have g2:((c2 base stk rows).set (base.length + 1) (.list (rv rows++[.tup [.int p,.int (((sv stk).length:Int) + 1)]])))[base.length]?=some (.list (sv stk)):=by rw [s1]; exact Zci
 have v2:=Zar g2 n0;have n3:(rv (rows++[(pn,stk.length + 1)])).length < Zc:=by rw [Zgj,List.length_append]; unfold Zc; simp; exact letd ‹_›
 have fin:Q .cont (st2 (((c2 base stk rows).set (base.length + 1) (.list (rv rows++[.tup [.int p,.int (((sv stk).length:Int) + 1)]]))).set (base.length + 1) (.list (rv (rows++[(pn,stk.length + 1)])++[.tup [.int ((pn + strL (qc k :: l):Nat):Int),.int ((sv stk).length:Int)]]))) base.length self gdv x iv ((pn + strL (qc k :: l):Nat):Int) q nth [qc k] m newp (some (.str [qc k]))):=by
  rw [s1,Zau,Zkf]; exact h
 have rx:∀ K:V→Prop,K (.mat (pn + strL (qc k :: l)))→rexAns .str [.str x,.int p,.int q] K:=fun K hK=>.str pn qn (qc k) l hp hq hpq hqn hl hz (by cases k; exact .inl rfl; exact .inr rfl) hK;have y0:Zdn [qc k] [40,91,123]=false:=by rw [Zac]; exact k.rec rfl rfl
 have y1:Zdn [qc k] [41,93,125]=false:=by rw [Zac]; exact k.rec rfl rfl
 cases k
 ·simp only [qc] at *
  repeat (first
 | exact fin
 | refine Ybj _ (Ybj _ (Ybk rfl (Ybk g1 (Ybk n1 ?_))))
 | refine Ybj _ (Ybj _ (Ybk rfl (Ybk g3 (Ybk n3 ?_))))
 | refine Ybk (Ybj _ (Ybj _ (Ybk rfl g1))) ?_
 | refine Ybk (Ybj _ (Ybj _ (Ybk rfl g3))) ?_
 | (unfold pNil; dsimp only; refine rx _ ?_)
 | refine eI rfl ?_
 | refine eI (e1 _) ?_
 | refine eI (v1) ?_
 | refine eI (v2) ?_
 | refine Ybk two ?_
 | refine Ybk rfl ?_
 | refine iN (by decide) ?_
 | refine iY (by decide) ?_
 | refine iN y0 ?_
 | refine iN y1 ?_)
 ·simp only [qc] at *
  repeat (first
 | exact fin
 | refine Ybj _ (Ybj _ (Ybk rfl (Ybk g1 (Ybk n1 ?_))))
 | refine Ybj _ (Ybj _ (Ybk rfl (Ybk g3 (Ybk n3 ?_))))
 | refine Ybk (Ybj _ (Ybj _ (Ybk rfl g1))) ?_
 | refine Ybk (Ybj _ (Ybj _ (Ybk rfl g3))) ?_
 | (unfold pNil; dsimp only; refine rx _ ?_)
 | refine eI rfl ?_
 | refine eI (e1 _) ?_
 | refine eI (v1) ?_
 | refine eI (v2) ?_
 | refine Ybk two ?_
 | refine Ybk rfl ?_
 | refine iN (by decide) ?_
 | refine iY (by decide) ?_
 | refine iN y0 ?_
 | refine iN y1 ?_)
theorem t_hash{pn qn n:Nat}(hx:x=pre++35 :: z)(hp:p=pn)(hpn:pn=pre.length)(hl:x.length < 1048576)(hs:stk.length < 1048576)(hr:rows.length < 8000000)
  (hf:Zfr x [10] (idx0 x.length p) (min (idx0 x.length q) x.length)=(n:Int))
  (h:Q .cont (st2 (c2 base stk (rows++[(pn,stk.length + 1)]++[(n + 1,stk.length)])) base.length self gdv x iv (n + 1:Nat) q nth last m newp (some (.str [35])))) :
  Zj Q (st2 (c2 base stk rows) base.length self gdv x iv p q nth last m newp ch):=by
 have e1:∀ cells,vidx cells (.str x) (.int p)=some (.str [35]):=fun cells=>Zh hx (by lia) hl;have g0:(c2 base stk rows)[base.length]?=some (.list (sv stk)):=Zci;have g1:(c2 base stk rows)[base.length + 1]?=some (.list (rv rows)):=Zde;have n0:(sv stk).length≤Zc:=by rw [Zau]; unfold Zc; exact lted ‹_›
 have n1:(rv rows).length < Zc:=by rw [Zgj]; unfold Zc; exact ltd ‹_›
 have v1:=Zar g0 n0;have two:(2:Nat)≤Zc:=by decide
 have s1:(c2 base stk rows).set (base.length + 1) (.list (rv rows++[.tup [.int p,.int (((sv stk).length:Int) + 1)]]))=c2 base stk (rows++[(pn,stk.length + 1)]):=by
  rw [Zau,hp,show ((stk.length:Int) + 1)=((stk.length + 1:Nat):Int) by exact rfl]; exact Zkf
 have g3:((c2 base stk rows).set (base.length + 1) (.list (rv rows++[.tup [.int p,.int (((sv stk).length:Int) + 1)]])))[base.length + 1]?=some (.list (rv (rows++[(pn,stk.length + 1)]))):=by rw [s1]; exact Zde
 have g2:((c2 base stk rows).set (base.length + 1) (.list (rv rows++[.tup [.int p,.int (((sv stk).length:Int) + 1)]])))[base.length]?=some (.list (sv stk)):=by rw [s1]; exact Zci
 have v2:=Zar g2 n0;have n3:(rv (rows++[(pn,stk.length + 1)])).length < Zc:=by rw [Zgj,List.length_append]; unfold Zc; simp; exact letd ‹_›
 have fin:Q .cont (st2 (((c2 base stk rows).set (base.length + 1) (.list (rv rows++[.tup [.int p,.int (((sv stk).length:Int) + 1)]]))).set (base.length + 1) (.list (rv (rows++[(pn,stk.length + 1)])++[.tup [.int (Zfr x [10] (idx0 x.length p) (min (idx0 x.length q) x.length) + 1),.int ((sv stk).length:Int)]]))) base.length self gdv x iv (Zfr x [10] (idx0 x.length p) (min (idx0 x.length q) x.length) + 1) q nth last m newp (some (.str [35]))):=by
  rw [s1,Zau,hf,show ((n:Int) + 1)=((n + 1:Nat):Int) by exact rfl,Zkf]; exact h
 have y0:Zdn [35] [40,91,123]=false:=by rw [Zac]; rfl
 have y1:Zdn [35] [41,93,125]=false:=by rw [Zac]; rfl
 have y2:decide (Zfr x [10] (idx0 x.length p) (min (idx0 x.length q) x.length) + 1 > 0)=true:=by rw [hf]; simp
 repeat (first
 | exact fin
 | refine Ybj _ (Ybj _ (Ybk rfl (Ybk g1 (Ybk n1 ?_))))
 | refine Ybj _ (Ybj _ (Ybk rfl (Ybk g3 (Ybk n3 ?_))))
 | refine Ybk (Ybj _ (Ybj _ (Ybk rfl g1))) ?_
 | refine Ybk (Ybj _ (Ybj _ (Ybk rfl g3))) ?_
 | refine eI rfl ?_
 | refine eI (e1 _) ?_
 | refine eI (v1) ?_
 | refine eI (v2) ?_
 | refine Ybk two ?_
 | refine Ybk y2 ?_
 | refine Ybk rfl ?_
 | refine iN (by decide) ?_
 | refine iY (by decide) ?_
 | refine iN y0 ?_
 | refine iN y1 ?_)
theorem t_bs{d pn qn:Nat}(hx:x=pre++92 :: d :: z)(hp:p=pn)(hq:q=qn)(hpn:pn=pre.length)(hl:x.length < 1048576)(hlt:pn + 1 < qn)
  (h:Q .next (st2 (c2 base stk rows) base.length self gdv x iv (p + 1 + 1) q nth (if d=10 then last else [92,d]) m newp (some (.str [92])))) :
  Zj Q (st2 (c2 base stk rows) base.length self gdv x iv p q nth last m newp ch):=by
 have e1:∀ cells,vidx cells (.str x) (.int p)=some (.str [92]):=fun cells=>Zh hx (by lia) hl;have e0:∀ cells,vidx cells (.str x) (.int (p + 1))=some (.str [d]):=fun cells=>Zh (pre:=pre++[92]) (z:=z) (by rw [hx]; simp) (by simp; lia) hl;have y0:Zdn [92] [40,91,123]=false:=by rw [Zac]; rfl
 have y1:Zdn [92] [41,93,125]=false:=by rw [Zac]; rfl
 have y2:decide (p + 1 < q)=true:=by simp; lia
 by_cases hd:d=10
 ·subst hd;rw [if_pos rfl] at h
  repeat (first
 | exact h
 | refine eI rfl ?_
 | refine eI (e1 _) ?_
 | refine eI (e0 _) ?_
 | refine Ybk y2 ?_
 | refine Ybk rfl ?_
 | refine iN (by decide) ?_
 | refine iY (by decide) ?_
 | refine iN y0 ?_
 | refine iN y1 ?_)
 ·rw [if_neg hd] at h;have y3:([d] != [10])=true:=by simp [hd]
  repeat (first
 | exact h
 | refine eI rfl ?_
 | refine eI (e1 _) ?_
 | refine eI (e0 _) ?_
 | refine Ybk y2 ?_
 | refine Ybk rfl ?_
 | refine iN (by decide) ?_
 | refine iY (by decide) ?_
 | refine iN y0 ?_
 | refine iN y1 ?_
 | refine iY y3 ?_)
end
end Mine
namespace Mine
open PySem.StrLaws
noncomputable def lnb(l:List Nat)(w:List Nat):List Nat:=w.foldl (fun l c=>if isWs c then l else [c]) l
theorem ws_in(c:Nat):Zdn [c] [32,9,10]=isWs c:=by
 rw [Zac];delta isWs;rw [Bool.eq_iff_iff,decide_eq_true_iff];simp [or_assoc]
theorem Zxy:∀ w:List Nat,∃ a b,w=a++b∧(∀ c∈b,isWs c=true)∧(∀ a' c,a=a'++[c]→isWs c=false):=by
 intro w;generalize hn:w.length=n
 induction n generalizing w with
 | zero=>exact ⟨[],[],by rw [List.eq_nil_of_length_eq_zero hn]; rfl,by simp,by intro a' c h; simp at h⟩
 | succ n ih =>
  rcases Ych w with rfl | ⟨w',c,rfl⟩
  ·cases hn
  ·have hn':w'.length=n:=by simpa using hn
   cases hc:isWs c with
   | false =>
    refine ⟨w'++[c],[],by simp,by simp,fun a' d h=>?_⟩;have:=(List.append_inj' h rfl).2;cases this; exact hc
   | true =>
    obtain ⟨a,b,e,hb,ha⟩:=ih w' hn';refine ⟨a,b++[c],by rw [e]; simp,?_,ha⟩;intro d hd
    rcases Ybw.mp hd with h | h
    ·exact hb d h
    ·cases Yx.mp h; exact hc
theorem lnb_ws{l b:List Nat}(hb:∀ c∈b,isWs c=true):lnb l b=l:=by
 induction b generalizing l with
 | nil=>rfl
 | cons c b ih =>
  show lnb (if isWs c then l else [c]) b=l;rw [if_pos (hb c (.head _)),ih fun d hd=>hb d (.tail _ hd)]
theorem Zuu{l a b:List Nat}:lnb l (a++b)=lnb (lnb l a) b:=Ybx
theorem lnb_end{l a:List Nat}{c:Nat}(hc:isWs c=false):lnb l (a++[c])=[c]:=by
 rw [Zuu];show (if isWs c then _ else [c])=[c];rw [if_neg (by rw [hc]; exact Yy)]
theorem Zwp{c:Nat}(h:special c=false):cls c=.nl∨cls c=.ord:=by
 delta special at h;simp at h;delta cls isO isC
 by_cases h1:c=10
 ·exact .inl (if_pos h1)
 ·right;rw [if_neg h1,if_neg (by simp; lia),if_neg (by simp; lia),if_neg (by lia),if_neg (by lia),if_neg (by lia),if_neg (by lia)]
theorem Ztx{pos:Nat}{stk:List Nat}{rows:List (Nat × Nat)}{last w:List Nat}(hw:∀ c∈w,special c=false):run2 ⟨.N,pos,stk,rows,last⟩ w=⟨.N,pos + w.length,stk,rows,lnb last w⟩:=by
 induction w generalizing pos last with
 | nil=>rfl
 | cons c w ih =>
  rw [Zd];have e:d2 ⟨.N,pos,stk,rows,last⟩ c=⟨.N,pos + 1,stk,rows,if isWs c then last else [c]⟩:=by
   show nrm2 _ c=_;delta nrm2
   rcases Zwp (hw c (.head _)) with e | e <;> rw [e] <;> rfl
  rw [e,ih fun d hd=>hw d (.tail _ hd)];show M2.mk _ _ _ _ _=_
  congr 1
  rw [List.length_cons]; exact Ybe _ _ _
section
variable{cells:List Cell}{nb:Nat}{self gdv:V}{x pre z:List Nat}{iv nth m newp ch:Option V}{p q:Int}{last:List Nat}{Q:Fl→St→Prop}
theorem back_ws{a b rest:List Nat}{i:Int}(hx:x=pre++a++b++rest)(hp:p=pre.length)(hl:x.length < 1048576)(hb:∀ c∈b,isWs c=true)(ha:∀ a' c,a=a'++[c]→isWs c=false)
  (hi:i=pre.length + a.length + b.length - 1) (h:∀ i':Int,i'=pre.length + a.length - 1→Q .next (st2 cells nb self gdv x (some (.int i')) p q nth last m newp ch)) :
  Zaq (tAnd (tE (pCmp .GtE (pVar 3) (pVar 4))) (tE (pCmp .In (pIdx (pVar 1) (pVar 3)) (pC (.str [32,9,10]))))) Zfh xNil Q (st2 cells nb self gdv x (some (.int i)) p q nth last m newp ch):=by
 refine ⟨fun n st=>∃ (b1 b2:List Nat) (i:Int),b=b1++b2∧n=b1.length∧i=pre.length + a.length + b1.length - 1∧st=st2 cells nb self gdv x (some (.int i)) p q nth last m newp ch,⟨b.length,b,[],i,by simp,rfl,hi,rfl⟩,?_⟩;clear hi;rintro n st ⟨b1,b2,i,hbb,hn,hi,rfl⟩
 rcases Ych b1 with rfl | ⟨b1',c,rfl⟩
 ·have hi2:i=pre.length + a.length - 1:=by simpa using hi
  have fin:=h i hi2
  rcases Ych a with rfl | ⟨a',c,rfl⟩
  ·have y1:decide (i ≥ p)=false:=by rw [decide_eq_false_iff_not]; simp at hi2; lia
   repeat (first
 | exact fin
 | refine eI rfl ?_
 | refine Ybk rfl ?_
 | refine iN (by decide) ?_
 | refine iY (by decide) ?_
 | refine iN y1 ?_)
  ·have y1:decide (i ≥ p)=true:=by rw [decide_eq_true_iff]; simp at hi2; lia
   have e1:∀ cells,vidx cells (.str x) (.int i)=some (.str [c]):=fun cells=>Zh (pre:=pre++a') (z:=b++rest) (by rw [hx]; simp) (by simp at hi2 ⊢; lia) hl;have y2:Zdn [c] [32,9,10]=false:=by rw [ws_in]; exact ha a' c (by simp)
   repeat (first
 | exact fin
 | refine eI rfl ?_
 | refine eI (e1 _) ?_
 | refine Ybk rfl ?_
 | refine iN (by decide) ?_
 | refine iY (by decide) ?_
 | refine iN y2 ?_
 | refine iY y1 ?_)
 ·have y1:decide (i ≥ p)=true:=by rw [decide_eq_true_iff]; simp at hi; lia
  have e1:∀ cells,vidx cells (.str x) (.int i)=some (.str [c]):=fun cells=>Zh (pre:=pre++a++b1') (z:=b2++rest) (by rw [hx,hbb]; simp) (by simp at hi ⊢; lia) hl;have y2:Zdn [c] [32,9,10]=true:=by rw [ws_in]; exact hb c (by rw [hbb]; simp)
  have fin:∃ m',m' < n∧∃ (b1 b2:List Nat) (i':Int),b=b1++b2∧m'=b1.length∧i'=pre.length + a.length + b1.length - 1∧st2 cells nb self gdv x (some (.int (i - 1))) p q nth last m newp ch=st2 cells nb self gdv x (some (.int i')) p q nth last m newp ch :=
   ⟨b1'.length,by rw [hn]; simp,b1',c :: b2,i - 1,by rw [hbb]; simp,rfl,by simp at hi; lia,rfl⟩
  repeat (first
 | exact fin
 | refine eI rfl ?_
 | refine eI (e1 _) ?_
 | refine Ybk rfl ?_
 | refine iN (by decide) ?_
 | refine iY (by decide) ?_
 | refine iY y1 ?_
 | refine iY y2 ?_)
theorem chew0{pn qn:Nat}(hp:p=pn)(hq:q=qn)(hpq:pn≤qn)(hqn:qn≤x.length)(hl:x.length < 1048576)(hw:(((x.take qn).drop pn).takeWhile (!special ·)).length=0)
  (h:Zj Q (st2 cells nb self gdv x iv p q nth last (some .none) newp ch)):Zdm Q (st2 cells nb self gdv x iv p q nth last m newp ch):=by
 have rx:∀ K:V→Prop,K .none→rexAns .chew [.str x,.int p,.int q] K:=fun K hK=>.chew pn qn hp hq hpq hqn hl (by delta Zfb; rw [if_pos hw]; exact hK)
 repeat (first
 | exact h
 | (delta pNil; dsimp only; refine rx _ ?_)
 | refine eI rfl ?_
 | refine Ybk rfl ?_
 | refine iN (by decide) ?_
 | refine iY (by decide) ?_)
theorem chew1{pn qn:Nat}{w rest:List Nat}(hp:p=pn)(hq:q=qn)(hpq:pn≤qn)(hqn:qn≤x.length)(hl:x.length < 1048576)(hpn:pn=pre.length)(hx:x=pre++w++rest)(hw:((x.take qn).drop pn).takeWhile (!special ·)=w)(hw0:w≠[])
  (hle:pn + w.length≤qn)
  (h1:pn + w.length=qn→∀ (iv':Option V) (np:Int),np=(pn + w.length:Nat)→Q .brk (st2 cells nb self gdv x iv' np q nth (lnb last w) (some (.mat (pn + w.length))) (some (.int np)) ch))
  (h2:pn + w.length < qn→∀ (iv':Option V) (np:Int),np=(pn + w.length:Nat)→Zj Q (st2 cells nb self gdv x iv' np q nth (lnb last w) (some (.mat (pn + w.length))) (some (.int np)) ch)) :
  Zdm Q (st2 cells nb self gdv x iv p q nth last m newp ch):=by
 have hwl:w.length≠0:=fun e=>hw0 (Ycd e);have rx:∀ K:V→Prop,K (.mat (pn + w.length))→rexAns .chew [.str x,.int p,.int q] K:=fun K hK=>.chew pn qn hp hq hpq hqn hl (by delta Zfb; rw [hw,if_neg hwl]; exact hK);obtain ⟨np,hnp⟩:∃ np:Int,np=(pn + w.length:Nat):=⟨_,rfl⟩;obtain ⟨a,b,hab,hb,ha⟩:=Zxy w;have hlast:lnb last w=lnb last a:=by rw [hab,Zuu,lnb_ws hb]
 -- behind the loop
 have tail:∀ (K:Fl→St→Prop),(∀ st,Q .brk st→K .brk st)→(∀ st,Zj Q st→K .next st)→∀ iv':Option V,
   Zb (xSet 4 (pVar 12)) (Zb (xIf (tE (pCmp .GtE (pVar 4) (pVar 5))) (Zb xBrk xNil) xNil) xNil) K (st2 cells nb self gdv x iv' p q nth (lnb last w) (some (.mat (pn + w.length))) (some (.int np)) ch):=by
  intro K k1 k2 iv'
  by_cases hend:pn + w.length=qn
  ·have y1:decide (np ≥ q)=true:=by rw [decide_eq_true_iff]; lia
   have fin:=k1 _ (h1 hend iv' np hnp)
   repeat (first
 | exact fin
 | refine eI rfl ?_
 | refine Ybk rfl ?_
 | refine iN (by decide) ?_
 | refine iY (by decide) ?_
 | refine iY y1 ?_)
  ·have y1:decide (np ≥ q)=false:=by rw [decide_eq_false_iff_not]; lia
   have fin:=k2 _ (h2 (Nat.lt_of_le_of_ne ‹_› ‹_›) iv' np hnp)
   repeat (first
 | exact fin
 | refine eI rfl ?_
 | refine Ybk rfl ?_
 | refine iN (by decide) ?_
 | refine iY (by decide) ?_
 | refine iN y1 ?_)
 -- the loop over the blanks
 have mid:∀ (K:Fl→St→Prop),(∀ st,Q .brk st→K .brk st)→(∀ st,Zj Q st→K .next st) →
   Zb (Zaq (tAnd (tE (pCmp .GtE (pVar 3) (pVar 4))) (tE (pCmp .In (pIdx (pVar 1) (pVar 3)) (pC (.str [32,9,10]))))) Zfh xNil) (Zb (xIf (tE (pCmp .GtE (pVar 3) (pVar 4))) (Zb (xSet 7 (pIdx (pVar 1) (pVar 3))) xNil) xNil) (Zb (xSet 4 (pVar 12)) (Zb (xIf (tE (pCmp .GtE (pVar 4) (pVar 5))) (Zb xBrk xNil) xNil) xNil))) K
    (st2 cells nb self gdv x (some (.int (np - 1))) p q nth last (some (.mat (pn + w.length))) (some (.int np)) ch):=by
  intro K k1 k2;refine back_ws (Q:=fun fl st=>match fl with | .next=>Zb (xIf (tE (pCmp .GtE (pVar 3) (pVar 4))) (Zb (xSet 7 (pIdx (pVar 1) (pVar 3))) xNil) xNil) (Zb (xSet 4 (pVar 12)) (Zb (xIf (tE (pCmp .GtE (pVar 4) (pVar 5))) (Zb xBrk xNil) xNil) xNil)) K st | fl=>K fl st)
   (pre:=pre) (a:=a) (b:=b) (rest:=rest) (by rw [hx,hab]; simp) (by lia) hl hb ha (by rw [hnp,hab,hpn]; simp; lia) fun i' hi'=>?_
  have tl:=tail K k1 k2 (some (.int i'))
  rcases Ych a with e | ⟨a',c,e⟩
  ·have y1:decide (i' ≥ p)=false:=by rw [decide_eq_false_iff_not,hi',e]; simp; lia
   rw [hlast,e] at tl
   repeat (first
 | exact tl
 | refine eI rfl ?_
 | refine Ybk rfl ?_
 | refine iN (by decide) ?_
 | refine iY (by decide) ?_
 | refine iN y1 ?_)
  ·rw [List.concat_eq_append] at e;have y1:decide (i' ≥ p)=true:=by rw [decide_eq_true_iff,hi',e]; simp; lia
   have e1:∀ cells,vidx cells (.str x) (.int i')=some (.str [c]):=fun cells=>Zh (pre:=pre++a') (z:=b++rest) (by rw [hx,hab,e]; simp) (by rw [hi',e]; simp; lia) hl;rw [hlast,e,lnb_end (ha a' c (by rw [e]))] at tl
   repeat (first
 | exact tl
 | refine eI rfl ?_
 | refine eI (e1 _) ?_
 | refine Ybk rfl ?_
 | refine iN (by decide) ?_
 | refine iY (by decide) ?_
 | refine iY y1 ?_)
 have e12:(V.int ((pn + w.length:Nat):Int))=V.int np:=by rw [hnp]
 have fin:=mid (fun fl st=>match fl with | .next=>Zj Q st | fl=>Q fl st) (fun _ h=>h) (fun _ h=>h);rw [hnp] at fin
 repeat (first
 | exact fin
 | (delta pNil; dsimp only; refine rx _ ?_)
 | refine eI rfl ?_
 | refine Ybk rfl ?_
 | refine iN (by decide) ?_
 | refine iY (by decide) ?_)
end
end Mine
namespace Mine
theorem Znc(q:Nat):∀ (n:Nat) {l:List Nat},l.length≤n→tEnd q l≤l.length
 | 0,l,h=>by rw [List.eq_nil_of_length_eq_zero (by lia:l.length=0)]; exact Yaa _
 | n + 1,[],_=>Yaa _
 | n + 1,[c],_=>by unfold tEnd; split <;> simp
 | n + 1,c :: d :: l,h=>by
  simp only [List.length_cons] at h ⊢;have h1:=Znc q n (l:=l) (by lia);have h2:=Znc q n (l:=d :: l) (by simp only [List.length_cons]; exact Ycg ‹_›);simp only [List.length_cons] at h2;unfold tEnd
  split
  ·lia
  ·split
   ·rename_i h3
    cases l with
    | nil=>exact absurd h3.2.2 (by simp)
    | cons e l=>simp only [List.length_cons]; exact Ybl _ _
   ·lia
theorem Znf(q:Nat):∀ (n:Nat) {l:List Nat},l.length≤n→sEnd q l≤l.length
 | 0,l,h=>by rw [List.eq_nil_of_length_eq_zero (by lia:l.length=0)]; exact Yaa _
 | n + 1,[],_=>Yaa _
 | n + 1,[c],_=>by unfold sEnd; split; simp; split <;> simp
 | n + 1,c :: d :: l,h=>by
  simp only [List.length_cons] at h ⊢;have h1:=Znf q n (l:=l) (by lia);have h2:=Znf q n (l:=d :: l) (by simp only [List.length_cons]; exact Ycg ‹_›);simp only [List.length_cons] at h2;unfold sEnd
  split
  ·exact Ybm _
  ·split
   ·exact Yas _
   ·split <;> lia
theorem strL_le(q:Nat)(l:List Nat):strL (q :: l)≤(q :: l).length∧1≤strL (q :: l):=by
 by_cases h:∃ m,l=q :: q :: m
 ·obtain ⟨m,rfl⟩:=h;rw [Zgh];have:=Znc q _ (Yaa m.length);simp only [List.length_cons]; lia
 ·rw [Zex fun m e=>h ⟨m,e⟩];have:=Znf q _ (Yaa l.length);simp only [List.length_cons]; lia
theorem run2_C{pos:Nat}{stk:List Nat}{rows:List (Nat × Nat)}{last a r:List Nat}(ha:10 ∉ a):run2 ⟨.C,pos,stk,rows,last⟩ (a++10 :: r)=run2 ⟨.N,pos + a.length + 1,stk,rows++[(pos + a.length + 1,stk.length)],last⟩ r:=by
 induction a generalizing pos with
 | nil=>rfl
 | cons c a ih =>
  rw [List.cons_append,Zd];have e:d2 ⟨.C,pos,stk,rows,last⟩ c=⟨.C,pos + 1,stk,rows,last⟩:=if_neg (fun e=>ha (by rw [← e]; exact .head _));rw [e,ih fun h=>ha (.tail _ h)];rw [show pos + 1 + a.length + 1=pos + (c :: a).length + 1 by simp only [List.length_cons]; lia]
theorem Zly{z:List Nat}(h:z=[]∨z.getLast?=some 10)(n:Nat):z.drop n=[]∨(z.drop n).getLast?=some 10:=by
 by_cases hz:z.drop n=[]
 ·exact .inl hz
 ·right
  rcases h with rfl | h
  ·simp at hz
  ·exact Zbh (pre:=z.take n) h (Yci n z).symm hz
theorem Zjf{c:Nat}(h:special c=true):(c=40∨c=91∨c=123)∨(c=41∨c=93∨c=125)∨(∃ k,c=qc k)∨c=35∨c=92:=by
 simp only [special,Bool.or_eq_true,beq_iff_eq] at h
 rcases h with ((((((((h | h) | h) | h) | h) | h) | h) | h) | h) | h
 ·exact .inr (.inr (.inl ⟨false,h⟩))
 ·exact .inr (.inr (.inr (.inl h)))
 ·exact .inr (.inr (.inl ⟨true,h⟩))
 ·exact .inl (.inl h)
 ·exact .inr (.inl (.inl h))
 ·exact .inl (.inr (.inl h))
 ·exact .inr (.inr (.inr (.inr h)))
 ·exact .inr (.inl (.inr (.inl h)))
 ·exact .inl (.inr (.inr h))
 ·exact .inr (.inl (.inr (.inr h)))
theorem Zmh{z:List Nat}{c:Nat}{r:List Nat}(h:z.dropWhile (!special ·)=c :: r):special c=true:=by
 induction z with
 | nil=>cases h
 | cons a z ih =>
  rw [List.dropWhile_cons] at h
  split at h
  ·exact ih h
  ·rename_i ha; cases h; simpa using ha
section
variable{base:List Cell}{self gdv:V}{x:List Nat}{nth:Option V}{q:Int}{qn:Nat}{Q:Fl→St→Prop}{R:List Nat × List (Nat × Nat) × List Nat}
inductive Inv2(base:List Cell)(self gdv:V)(x:List Nat)(nth:Option V)(q:Int)(qn:Nat)(R:List Nat × List (Nat × Nat) × List Nat)(n:Nat)(st:St):Prop
 | mk (pre z stk:List Nat) (rows:List (Nat × Nat)) (last:List Nat) (iv m newp ch:Option V) (p:Int) (hst:st=st2 (c2 base stk rows) base.length self gdv x iv p q nth last m newp ch) (hp:p=pre.length) (hx:x.take qn=pre++z) (hn:n=z.length)
  (hr:res2 (run2 ⟨.N,pre.length,stk,rows,last⟩ z)=R) (hl:z=[]∨z.getLast?=some 10) (hs:stk.length + z.length≤x.length) (hrw:rows.length + 2 * z.length≤2 * x.length + 1)
theorem op_step{c pos:Nat}{stk last:List Nat}{rows:List (Nat × Nat)}(hc:c=40∨c=91∨c=123):d2 ⟨.N,pos,stk,rows,last⟩ c=⟨.N,pos + 1,stk++[pos],rows++[(pos,stk.length + 1)],[c]⟩:=by
 rcases hc with rfl | rfl | rfl <;> rfl
theorem cl_step{c pos:Nat}{stk last:List Nat}{rows:List (Nat × Nat)}(hc:c=41∨c=93∨c=125):d2 ⟨.N,pos,stk,rows,last⟩ c=⟨.N,pos + 1,stk.dropLast,rows++[(pos + 1,stk.dropLast.length)],[c]⟩:=by
 rcases hc with rfl | rfl | rfl <;> rfl
theorem snocN{pre:List Nat}{c:Nat}:(pre++[c]).length=pre.length + 1:=by simp
theorem Zit{n:Nat}{pre z stk:List Nat}{rows:List (Nat × Nat)}{last:List Nat}{iv m newp ch:Option V}{p:Int}{c:Nat}{K:Fl→St→Prop}(hK:∀ (m':Nat) (st:St),m' < n→Inv2 base self gdv x nth q qn R m' st→K .next st∧K .cont st)
  (hq:q=qn) (hqn:qn≤x.length) (hl:x.length < 1048576) (hp:p=pre.length) (hx:x.take qn=pre++c :: z) (hn:z.length < n) (hc:special c=true) (hr:res2 (run2 ⟨.N,pre.length,stk,rows,last⟩ (c :: z))=R)
  (hlast:(c :: z).getLast?=some 10) (hs:stk.length + (z.length + 1)≤x.length) (hrw:rows.length + 2 * (z.length + 1)≤2 * x.length + 1) :
  Zj K (st2 (c2 base stk rows) base.length self gdv x iv p q nth last m newp ch):=by
 have hx':x=pre++c :: (z++x.drop qn):=by
  conv=>lhs; rw [← List.take_append_drop qn x,hx]
  simp
 have hlen:qn=pre.length + (z.length + 1):=by
  have:=congrArg List.length hx;rw [List.length_take,List.length_append,List.length_cons] at this; lia
 have hz:c≠10→z.getLast?=some 10:=fun h=>Zcc hlast (fun e=>by rw [e] at hlast; simp at hlast; exact h hlast);have hz0:z=[]∨z.getLast?=some 10:=by by_cases e:z=[]; exact .inl e; exact .inr (Zcc hlast e)
 have b0:stk.length < 1048576:=by lia
 have b1:stk.length < 1048577:=Nat.lt_succ_of_lt b0;have b2:rows.length < 8000000:=by lia
 have b3:pre.length≤qn:=by rw [hlen]; exact Yam _ _
 rw [Zd] at hr
 rcases Zjf hc with hc | hc | ⟨k,rfl⟩ | rfl | rfl
 ·refine t_op (pn:=pre.length) hx' hp rfl hl hc ‹_› ‹_› (hK z.length _ hn ⟨pre++[c],z,_,_,_,_,_,_,_,_,rfl,Zei hp,snoc hx,rfl,?_,hz0,by simp; lia,by simp; lia⟩).2;rw [← hr,op_step hc,snocN]
 ·refine t_cl (pn:=pre.length) hx' hp rfl hl hc ‹_› ‹_› (hK z.length _ hn ⟨pre++[c],z,_,_,_,_,_,_,_,_,rfl,Zei hp,snoc hx,rfl,?_,hz0,by rw [List.length_dropLast]; lia,by simp; lia⟩).2;rw [← hr,cl_step hc,snocN]
 ·have hzl:=hz (Zud k).2.1;obtain ⟨h1,h2⟩:=strL_le (qc k) z;have hd:(x.take qn).drop pre.length=qc k :: z:=by rw [hx,List.drop_left]
  rw [← Zd,str_run hzl] at hr;simp only [List.length_cons] at h1;refine t_str (pn:=pre.length) (qn:=qn) hx' hp hq rfl hl ‹_› ‹_› ‹_› hqn hd rfl (hK ((qc k :: z).drop (strL (qc k :: z))).length _ ?_ ⟨pre++(qc k :: z).take (strL (qc k :: z)),(qc k :: z).drop (strL (qc k :: z)),_,_,_,_,_,_,_,_,rfl,?_,?_,rfl,?_,Zly (.inr hlast) _,?_,?_⟩).2
  ·rw [List.length_drop,List.length_cons]; lia
  ·rw [List.length_append,List.length_take,List.length_cons]; lia
  ·rw [hx,List.append_assoc,List.take_append_drop]
  ·rw [← hr,List.length_append,List.length_take,List.length_cons,show min (strL (qc k :: z)) (z.length + 1)=strL (qc k :: z) by lia]
  ·rw [List.length_drop,List.length_cons]; lia
  ·rw [List.length_drop,List.length_cons]; simp; lia
 ·have hzl:=hz (by decide);obtain ⟨a,r,e,ha⟩:=Zoz hzl;have hlz:z.length=a.length + (r.length + 1):=by rw [e]; simp
  have hxe:x=pre++(35 :: a)++10 :: (r++x.drop qn):=by
   refine hx'.trans ?_;rw [e]; simp
  have hf:=Zos (y:=x) (pre:=pre) (a:=35 :: a) (z:=r++x.drop qn) (c:=10) (lo:=idx0 x.length p) (hi:=min (idx0 x.length q) x.length) hxe (Zep hp) (by simp [ha]) (by rw [Zep hq]; simp only [List.length_cons]; lia);have hr2:res2 (run2 ⟨.C,pre.length + 1,stk,rows++[(pre.length,stk.length + 1)],last⟩ z)=R:=hr;rw [e,run2_C ha] at hr2;refine t_hash (pn:=pre.length) (qn:=qn) hx' hp rfl hl ‹_› ‹_› hf (hK r.length _ (by lia) ⟨pre++35 :: (a++[10]),r,_,_,_,_,_,_,_,_,rfl,by simp; exact rfl,by rw [hx,e]; simp,rfl,?_,?_,by lia,by simp; lia⟩).2
  ·rw [← hr2];have e1:(pre++35 :: (a++[10])).length=pre.length + 1 + a.length + 1:=by simp; lia
   have e2:pre.length + (35 :: a).length + 1=pre.length + 1 + a.length + 1:=by simp only [List.length_cons]; exact Ybe _ _ _
   rw [e1,e2]
  ·by_cases hr0:r=[]
   ·exact .inl hr0
   ·exact .inr (Zbh (pre:=a++[10]) hzl (by rw [e]; simp) hr0)
 ·have hzl:=hz (by decide);obtain ⟨d,z',rfl⟩:∃ d z',z=d :: z':=by cases z with | nil=>exact nn hzl | cons d z'=>exact ⟨d,z',rfl⟩
  simp only [List.length_cons] at hlen hs hrw hn;refine t_bs (pn:=pre.length) (qn:=qn) hx' hp hq rfl hl (by lia) (hK z'.length _ (Yf ‹_›) ⟨pre++[92,d],z',_,_,_,_,_,_,_,_,rfl,by rw [hp]; simp; exact rfl,by rw [hx]; simp,rfl,?_,?_,by lia,by lia⟩).1
  ·rw [← hr,Zd,show (pre++[92,d]).length=pre.length + 1 + 1 by simp]; rfl
  ·by_cases hr0:z'=[]
   ·exact .inl hr0
   ·exact .inr (Zcc hzl hr0)
theorem while2(hq:q=qn)(hqn:qn≤x.length)(hl:x.length < 1048576)
  (hQ:∀ (stk:List Nat) (rows:List (Nat × Nat)) (last:List Nat) (iv m newp ch:Option V) (p:Int),(stk,rows,last)=R→stk.length≤x.length→rows.length≤2 * x.length + 1→Q .next (st2 (c2 base stk rows) base.length self gdv x iv p q nth last m newp ch))
  {n:Nat} {st:St} (h0:Inv2 base self gdv x nth q qn R n st):Zaq (tE (pCmp .Lt (pVar 4) (pVar 5))) Zdm xNil Q st:=by
 refine ⟨Inv2 base self gdv x nth q qn R,⟨n,h0⟩,?_⟩;clear h0;rintro n st ⟨pre,z,stk,rows,last,iv,m,newp,ch,p,rfl,hp,hx,hn,hr,hlast,hs,hrw⟩;have hlen:qn=pre.length + z.length:=by
  have:=congrArg List.length hx;rw [List.length_take,List.length_append] at this; lia
 refine Ybj _ (Ybk rfl (Ybj _ (Ybk rfl (Ybj _ (Ybk rfl (Ybj _ (Ybk rfl ?_)))))));cases z with
 | nil =>
  refine Ybk (fun e=>by rw [decide_eq_true_iff] at e; simp at hlen; lia) (fun _=>?_);exact hQ stk rows last iv m newp ch p hr (by simp at hs; lia) (by simp at hrw; lia)
 | cons c z =>
  simp only [List.length_cons] at hlen hn hs hrw;have hlast':(c :: z).getLast?=some 10:=by rcases hlast with h | h; cases h; exact h
  refine Ybk (fun _=>?_) (fun e=>by rw [decide_eq_false_iff_not] at e; lia);have hd:(x.take qn).drop pre.length=c :: z:=by rw [hx,List.drop_left]
  have hK:∀ (m':Nat) (st:St),m' < n→Inv2 base self gdv x nth q qn R m' st→(∃ m,m < n∧Inv2 base self gdv x nth q qn R m st)∧(∃ m,m < n∧Inv2 base self gdv x nth q qn R m st):=fun m' st h1 h2=>⟨⟨m',h1,h2⟩,⟨m',h1,h2⟩⟩;have hwd:=Zer (!special ·) (c :: z);simp only [List.length_cons] at hwd
  by_cases hw:((c :: z).takeWhile (!special ·)).length=0
  ·refine chew0 (pn:=pre.length) (qn:=qn) hp hq (by lia) hqn hl (by rw [hd]; exact hw) (Zit hK hq hqn hl hp hx (Ybg (Eq.symm ‹_›)) ?_ hr hlast' (by lia) (by lia));rw [List.takeWhile_cons] at hw
   split at hw
   ·simp at hw
   ·rename_i h; simpa using h
  ·have hsp:=List.takeWhile_append_dropWhile (p:=(!special ·)) (l:=c :: z);have hx2:x=pre++(c :: z).takeWhile (!special ·)++((c :: z).dropWhile (!special ·)++x.drop qn):=by
    rw [List.append_assoc,← List.append_assoc (List.takeWhile _ _),hsp,← List.append_assoc,← hx,List.take_append_drop]
   have hrun:run2 ⟨.N,pre.length,stk,rows,last⟩ (c :: z)=run2 ⟨.N,pre.length + ((c :: z).takeWhile (!special ·)).length,stk,rows,lnb last ((c :: z).takeWhile (!special ·))⟩ ((c :: z).dropWhile (!special ·)):=by
    conv=>lhs; rw [← hsp,Zng]
    rw [Ztx];intro d hd';have:=Zem hd';simpa using this
   refine chew1 (pn:=pre.length) (qn:=qn) (w:=(c :: z).takeWhile (!special ·)) hp hq (by lia) hqn hl rfl hx2 (by rw [hd]) (fun e=>hw (by rw [e]; rfl)) (by lia) (fun hend iv' np hnp=>?_) (fun hlt iv' np hnp=>?_)
   ·have he:(c :: z).dropWhile (!special ·)=[]:=Ycd (by lia);refine hQ stk rows _ iv' _ _ _ np ?_ (by lia) (by lia);rw [← hr,hrun,he]; rfl
   ·cases hdw:(c :: z).dropWhile (!special ·) with
    | nil=>rw [hdw] at hwd; simp at hwd; lia
    | cons d r =>
     rw [hdw] at hwd hrun;simp only [List.length_cons] at hwd;have hpl:(pre++(c :: z).takeWhile (!special ·)).length=pre.length + ((c :: z).takeWhile (!special ·)).length:=by simp
     refine Zit (pre:=pre++(c :: z).takeWhile (!special ·)) (z:=r) (c:=d) hK hq hqn hl (by rw [hnp,hpl]) ?_ (by lia) (Zmh hdw) ?_ ?_ (by lia) (by lia)
     ·rw [hx,← hdw,List.append_assoc,hsp]
     ·rw [hpl,← hrun]; exact hr
     ·exact Zbh hlast' (show c :: z=(c :: z).takeWhile (!special ·)++(d :: r) by rw [← hdw,hsp]) (by simp)
end
end Mine
namespace Mine
noncomputable def LS(x:List Nat)(n p:Nat):Prop:=∃ a b,x=a++b∧a.length=p∧a.count 10=n∧(a=[]∨a.getLast?=some 10)
theorem LS.le{x:List Nat}{n p:Nat}(h:LS x n p):p≤x.length:=by obtain ⟨a,b,rfl,rfl,_⟩:=h; simp
theorem LS.lt{x:List Nat}{n m p q:Nat}(h:LS x n p)(h':LS x m q)(hn:n < m):p < q:=by
 obtain ⟨a,b,e,rfl,rfl,_⟩:=h;obtain ⟨c,d,e',rfl,rfl,_⟩:=h';refine Nat.lt_of_not_le fun hle=>?_;have:c <+: a:=Ycj ⟨d,e'.symm⟩ ⟨b,e.symm⟩ hle;have:=this.sublist.count_le 10;exact absurd ‹_ < _› (Ybd.mpr ‹_›)
theorem LS.zero(x:List Nat):LS x 0 0:=⟨[],x,rfl,rfl,rfl,.inl rfl⟩
theorem LS.zero_pos{x:List Nat}{p:Nat}(h:LS x 0 p):p=0:=by
 obtain ⟨a,b,e,rfl,h,ha⟩:=h
 rcases ha with rfl | ha
 ·rfl
 ·have:=Yck.mpr (Ybz ha); lia
theorem Zqy:∀ a:List Nat,∃ a' m,a=a'++m∧10 ∉ m∧(a'=[]∨a'.getLast?=some 10):=by
 intro a;generalize hn:a.length=n
 induction n generalizing a with
 | zero=>exact ⟨[],[],by rw [List.eq_nil_of_length_eq_zero hn]; rfl,by simp,.inl rfl⟩
 | succ n ih =>
  rcases Ych a with rfl | ⟨a0,c,rfl⟩
  ·cases hn
  ·rw [List.concat_eq_append] at hn ⊢
   by_cases hc:c=10
   ·subst hc; exact ⟨a0++[10],[],by simp,by simp,.inr (by simp)⟩
   ·obtain ⟨a',m,rfl,h1,h2⟩:=ih a0 (by simpa using hn);exact ⟨a',m++[c],by simp,by simp [h1]; exact fun e=>hc e.symm,h2⟩
theorem LS.back{x:List Nat}{n p:Nat}(h:LS x (n + 1) p):∃ p':Nat,LS x n p'∧Zdo x [10] 0 (p - 1) + 1=p'∧1≤p:=by
 obtain ⟨a,b,rfl,rfl,hc,ha⟩:=h
 rcases ha with rfl | ha
 ·cases hc
 ·obtain ⟨a0,rfl⟩:=Yca.mp ha;obtain ⟨a',m,rfl,h1,h2⟩:=Zqy a0;have hm:m.count 10=0:=List.count_eq_zero.mpr h1;have hcnt:a'.count 10=n:=by
   simp only [List.count_append,List.count_singleton] at hc;simp at hc; lia
  refine ⟨a'.length,⟨a',m++[10]++b,by simp,rfl,hcnt,h2⟩,?_,by simp; exact Ybm _⟩;have hlen:(a'++m++[10]).length - 1=a'.length + m.length:=by simp
  rw [hlen]
  rcases h2 with rfl | h2
  ·rw [Zmw (a:=m) (z:=[10]++b) (by simp) h1 (by simp)]; rfl
  ·obtain ⟨a2,rfl⟩:=Yca.mp h2;rw [Zsu (pre:=a2) (a:=m) (z:=[10]++b) (by simp) h1 (by simp)];simp
theorem LS.end{x:List Nat}(h:x.getLast?=some 10):LS x (x.count 10) x.length:=⟨x,[],by simp,rfl,rfl,.inr h⟩
noncomputable def gps(s:M1)(pos:Nat):List Nat→List Nat
 | []=>[]
 | c :: l=>(if s.gd.length < (d1 s c).gd.length then [pos + 1] else [])++gps (d1 s c) (pos + 1) l
inductive Pairs(x:List Nat):List Nat→List Nat→Prop
 | nil:Pairs x [] []
 | cons {g p:Nat} {gs ps:List Nat}:LS x g p→Pairs x gs ps→Pairs x (g :: gs) (p :: ps)
theorem Pairs.app{x g p g' p':List Nat}(h:Pairs x g p)(h':Pairs x g' p'):Pairs x (g++g') (p++p'):=by
 induction h with
 | nil=>exact h'
 | cons a _ ih=>exact .cons a ih
theorem Pairs.len{x g p:List Nat}(h:Pairs x g p):g.length=p.length:=by induction h with | nil=>rfl | cons _ _ ih=>exact congrArg Nat.succ ih
theorem Pairs.get{x g p:List Nat}(h:Pairs x g p){i:Nat}(hi:i < g.length):LS x g[i] (p[i]'(h.len ▸ hi)):=by
 induction h generalizing i with
 | nil=>exact absurd hi (Yr _)
 | cons a _ ih=>cases i with
  | zero=>exact a
  | succ i=>exact ih (Ys hi)
theorem Ztz{x:List Nat}:∀ (l a:List Nat) (s:M1),x=a++l→s.ln=a.count 10→(∀ g∈s.gd,g≤s.ln)→∃ G,(run1 s l).gd=s.gd++G∧Pairs x G (gps s a.length l)∧(∀ g∈G,s.ln < g)∧G.Pairwise (· < ·)∧(run1 s l).ln=x.count 10
 | [],a,s,hx,hl,hg=>⟨[],by simp [run1],.nil,by simp,.nil,by rw [hx]; simpa [run1] using hl⟩
 | c :: l,a,s,hx,hl,hg=>by
  obtain ⟨h1,h2⟩:=dk_gd s (cls c);have hln:(d1 s c).ln=(a++[c]).count 10:=by
   show (dk s (cls c)).ln=_;rw [h1,List.count_append,hl,List.count_singleton]
   by_cases h:c=10
   ·subst h; rfl
   ·rw [if_neg (fun e=>h (cls_nl.mp e))]; simp [h]
  have hinv:∀ g∈(d1 s c).gd,g≤(d1 s c).ln:=by
   intro g hg';show g≤(dk s (cls c)).ln;rw [h1]
   rcases h2 with e | ⟨e1,e⟩
   ·have hg'':g∈s.gd:=e ▸ hg';have:=hg g hg''
    split <;> lia
   ·have hg'':g∈s.gd++[s.ln + 1]:=e ▸ hg';rw [if_pos e1]
    rcases Ybw.mp hg'' with h | h
    ·have:=hg g h; exact Yby ‹_›
    ·simp at h; exact Ybg ‹_›
  obtain ⟨G,i1,i2,i3,i4,i5⟩:=Ztz (x:=x) l (a++[c]) (d1 s c) (by rw [hx]; simp) hln hinv;have hle:s.ln≤(d1 s c).ln:=by show s.ln≤(dk s (cls c)).ln; rw [h1]; split <;> lia
  have hgps:gps (d1 s c) (a++[c]).length l=gps (d1 s c) (a.length + 1) l:=by simp
  rw [hgps] at i2
  rcases h2 with e | ⟨e1,e⟩
  ·have e':(d1 s c).gd=s.gd:=e;refine ⟨G,by rw [Ze,i1,e'],?_,fun g hg'=>Yh hle (i3 g hg'),i4,i5⟩;show Pairs x G ((if s.gd.length < (d1 s c).gd.length then [a.length + 1] else [])++_);rw [e',if_neg (Nat.lt_irrefl _)]; exact i2
  ·have e':(d1 s c).gd=s.gd++[s.ln + 1]:=e;have hc:c=10:=cls_nl.mp e1;have hl1:(d1 s c).ln=s.ln + 1:=by show (dk s (cls c)).ln=_; rw [h1,if_pos e1]
   refine ⟨(s.ln + 1) :: G,by rw [Ze,i1,e']; simp,?_,?_,?_,i5⟩
   ·show Pairs x _ ((if s.gd.length < (d1 s c).gd.length then [a.length + 1] else [])++_);rw [e',if_pos (by simp)];refine .cons ⟨a++[c],l,by rw [hx]; simp,by simp,by rw [← hln,hl1],.inr (by rw [hc]; simp)⟩ i2
   ·intro g hg'
    rcases Ym.mp hg' with rfl | hg'
    ·exact Yau _
    ·exact Yh hle (i3 g hg')
   ·exact Ycl.mpr ⟨fun g hg'=>by have:=i3 g hg'; lia,i4⟩
noncomputable def places(x:List Nat):List Nat:=0 :: gps start1 0 x++(if (run1 start1 x).gd.getLast?=some (run1 start1 x).ln then [] else [x.length])
theorem Zio{x:List Nat}(h:x.getLast?=some 10):Pairs x (Zm (run1 start1 x)) (places x)∧(Zm (run1 start1 x)).Pairwise (· < ·)∧(∃ r,Zm (run1 start1 x)=0 :: r)∧(places x).getLast?=some x.length:=by
 obtain ⟨G,i1,i2,i3,i4,i5⟩:=Ztz (x:=x) x [] start1 rfl rfl (by decide);have i1':(run1 start1 x).gd=0 :: G:=i1;have i2':Pairs x G (gps start1 0 x):=i2;have p0:Pairs x (0 :: G) (0 :: gps start1 0 x):=.cons (.zero x) i2';have hpw:(0 :: G).Pairwise (· < ·):=Ycl.mpr ⟨fun g hg=>i3 g hg,i4⟩;delta Zm places;rw [i1',i5]
 by_cases hq:(0 :: G).getLast?=some (x.count 10)
 ·rw [if_pos hq,if_pos hq,List.append_nil];refine ⟨p0,hpw,⟨G,rfl⟩,?_⟩;have hlen:=p0.len;rw [List.getLast?_eq_getElem?] at hq ⊢;have hi:(0 :: G).length - 1 < (0 :: G).length:=by simp
  have hl:=p0.get hi;rw [List.getElem?_eq_getElem hi] at hq;cases hq':(0 :: G)[(0 :: G).length - 1] with
  | _ =>
  have e1:(0 :: G)[(0 :: G).length - 1]=x.count 10:=Yc hq;rw [e1] at hl;have hi2:(0 :: gps start1 0 x).length - 1 < (0 :: gps start1 0 x).length:=by simp
  rw [List.getElem?_eq_getElem hi2]
  congr 1
  have hE:=LS.end h;have e2:(0 :: gps start1 0 x)[(0 :: gps start1 0 x).length - 1]=(0 :: gps start1 0 x)[(0 :: G).length - 1]'(by rw [← hlen]; exact hi):=by congr 1; rw [hlen]
  rw [e2];obtain ⟨a,b,ea,la,ca,_⟩:=hl;rw [← la];have hab:b=[]∨b≠[]:=Classical.em _
  rcases hab with hb | hb
  ·rw [ea,hb]; simp
  ·exfalso
   have:b.getLast?=some 10:=Zbh h ea hb;have:=Yck.mpr (Ybz this);rw [ea,List.count_append] at ca;lia
 ·rw [if_neg hq,if_neg hq];refine ⟨p0.app (.cons (LS.end h) .nil),?_,⟨G++[x.count 10],rfl⟩,by rw [List.getLast?_append]; rfl⟩;rw [List.pairwise_append];refine ⟨hpw,List.pairwise_singleton _ _,fun g hg m hm=>?_⟩;simp at hm;subst hm;have hle:∀ g∈(run1 start1 x).gd,g≤(run1 start1 x).ln:=(Zjv Zen x).le;rw [i1',i5] at hle;have hg1:=hle g hg;refine Nat.lt_of_le_of_ne hg1 fun e=>hq ?_
  -- the greatest stands last
  subst e;have hmax:∀ {l:List Nat} {m:Nat},l.Pairwise (· < ·)→m∈l→(∀ y∈l,y≤m)→l.getLast?=some m:=by
   intro l m hp hm hmx
   induction l with
   | nil=>cases hm
   | cons a l ih =>
    cases l with
    | nil=>cases Yx.mp hm; rfl
    | cons b l =>
     have hm2:m∈b :: l:=by
      rcases Ym.mp hm with rfl | h
      ·have h1:=(Ycl.mp hp).1 b (.head _);have h2:=hmx b (.tail _ (.head _));exact absurd ‹_ < _› (Ybd.mpr ‹_›)
      ·exact h
     rw [List.getLast?_cons_cons];exact ih (Ycl.mp hp).2 hm2 fun y hy=>hmx y (.tail _ hy)
  exact hmax hpw hg hle
end Mine
namespace Mine
noncomputable def st3(cells:List Cell)(self gdv:V)(x:List Nat)(i p:Int)(q nth:Option V):St:=⟨[some self,some (.str x),some gdv,some (.int i),some (.int p),q,nth,none,none,none,none,none,none,none],cells⟩
noncomputable def bk(J:Nat→Bool)(P:List Nat):Nat→Nat × Nat
 | 0=>(0,0)
 | i + 1=>if J (P.getD i 0) then bk J P i else (P.getD i 0,P.getD (i + 1) 0)
noncomputable def jk(x:List Nat)(p:Nat):Bool:=Zrk (x.drop p)
section
variable{cells:List Cell}{self gdv:V}{x:List Nat}{Q:Fl→St→Prop}
theorem Zpw(hl:x.length < 1048576){i:Int}{q:Option V}{g:Nat}:∀ (cnt pn:Nat) (p a:Int) (nth:Option V),LS x (g + cnt) pn→p=pn→(∀ (pn':Nat) (p':Int) (nth':Option V),LS x g pn'→p'=pn'→Q .next (st3 cells self gdv x i p' q nth')) →
  forL (Zw 6) Zfi xNil Q (numl a cnt 1) (st3 cells self gdv x i p q nth)
 | 0,pn,p,a,nth,h,hp,hQ=>hQ pn p nth h hp
 | cnt + 1,pn,p,a,nth,h,hp,hQ=>by
  rw [Zlu];obtain ⟨p',h1,h2,h3⟩:=LS.back (n:=g + cnt) (by rw [show g + cnt + 1=g + (cnt + 1) by exact rfl]; exact h);have hle:=h.le;have e1:Zdo x [10] (idx0 x.length 0) (min (idx0 x.length (p - 1)) x.length) + 1=(p':Int):=by
   rw [show idx0 x.length 0=0 from Zep (i:=0) (k:=0) rfl,Zep (k:=pn - 1) (by lia),show min (pn - 1) x.length=pn - 1 by lia];exact h2
  obtain ⟨r,hr⟩:∃ r,r=Zdo x [10] (idx0 x.length 0) (min (idx0 x.length (p - 1)) x.length) + 1:=⟨_,rfl⟩;have ih:=Zpw hl cnt p' r (a + 1) (some (.int a)) h1 (hr.trans e1) hQ;rw [hr] at ih;have es:smop .rfind x [.str [10],.int 0,.int (p - 1)]=some (.int (Zdo x [10] (idx0 x.length 0) (min (idx0 x.length (p - 1)) x.length))):=rfl;refine Ybj _ (Ybk rfl (Ybj _ (Ybk rfl ?_)));refine Ybj _ (Ybk rfl (Ybj _ (Ybk rfl (Ybj _ (Ybk es (Ybj _ (Ybk rfl ?_)))))));exact ih
theorem gl_at{G:List Nat}{n g:Nat}{j:Int}(hc:cells[n]?=some (.list (gl G))){k:Nat}(hj:j=k)(hk:k < G.length)(hl:G.length < 1048578)(hg:G[k]?=some g):vidx cells (.ref n) (.int j)=some (.int g):=by
 refine Zlh hc (k:=k) (by rw [Zgt]; exact Zjg hj hk) (Zcg hj (Ycb hk (Ycb hl (by decide)))) ?_
 ·unfold gl;rw [List.getElem?_map,hg]; rfl
theorem b1_turn{g:Nat}{G:List Nat}(hc:cells[g]?=some (.list (gl G)))(hgd:gdv=.ref g)(hl:x.length < 1048576)(hlast:x.getLast?=some 10){i p:Int}{q nth:Option V}{k pn pn' g0 g1:Nat}(hi:i=(k + 1:Nat))(hG:G.length < 1048578)
  (h0:G[k]?=some g0) (h1:G[k + 1]?=some g1) (hlt:g0 < g1) (l1:LS x g1 pn) (l0:LS x g0 pn') (hp:p=pn)
  (hj:∀ (p':Int) (nth':Option V),p'=pn'→(jk x pn'=true→Q .next (st3 cells self gdv x (i - 1) p' (some (.int p)) nth'))∧(jk x pn'=false→Q .brk (st3 cells self gdv x i p' (some (.int p)) nth'))) :
  Zfj Q (st3 cells self gdv x i p q nth):=by
 subst hgd;have hk1:k + 1 < G.length:=(Yi.mp h1).1;have v0:=gl_at (j:=i - 1) (k:=k) hc (by lia) (Yf ‹_›) hG h0;have v1:=gl_at (j:=i) (k:=k + 1) hc (by lia) hk1 hG h1;have hpp:=l0.lt l1 hlt;have hle:=l1.le;have y1:(p != 0)=true:=by simp; lia
 have hg1:g1≤x.length:=by
  obtain ⟨a,b,e,_,c,_⟩:=l1;have:=List.count_le_length (a:=10) (l:=a);rw [e,List.length_append]; lia
 have f1:fits (g1:Int):=Zcg rfl (Zlm hg1 hl);have f0:fits (g0:Int):=Zcg rfl (Zlm (Yg (Yf hlt) hg1) hl);have h10:10∈x.drop pn':=by
  have hne:x.drop pn'≠[]:=by intro e; have:=congrArg List.length e; rw [List.length_drop] at this; simp at this; lia
  exact Ybz (Zbh hlast (Yci pn' x).symm hne)
 have fin:forL (Zw 6) Zfi xNil (fun fl st=>match fl with | .next=>Zeu Q st | fl=>Q fl st) (rng2 g0 g1) (st3 cells self (.ref g) x i p (some (.int p)) nth):=by
  unfold rng2;refine Zpw hl (g:=g0) _ pn p _ nth (by rw [show g0 + ((g1:Int) - g0).toNat=g1 by lia]; exact l1) hp ?_;intro pn2 p' nth' hl' hp';have:pn2=pn':=by
   rcases Nat.lt_trichotomy pn2 pn' with h | h | h
   ·obtain ⟨a,b,e,rfl,c,ha⟩:=hl';obtain ⟨a',b',e',rfl,c',ha'⟩:=l0
    exfalso
    have hpre:a <+: a':=Ycj ⟨b,e.symm⟩ ⟨b',e'.symm⟩ (Yf h);obtain ⟨t,rfl⟩:=hpre;have ht:t≠[]:=by intro e0; subst e0; simp at h
    rcases ha' with h0 | h0
    ·simp at h0; exact ht h0.2
    ·have:=Yck.mpr (Ybz (Zbh h0 rfl ht));rw [List.count_append] at c'; lia
   ·exact h
   ·obtain ⟨a,b,e,rfl,c,ha⟩:=l0;obtain ⟨a',b',e',rfl,c',ha'⟩:=hl'
    exfalso
    have hpre:a <+: a':=Ycj ⟨b,e.symm⟩ ⟨b',e'.symm⟩ (Yf h);obtain ⟨t,rfl⟩:=hpre;have ht:t≠[]:=by intro e0; subst e0; simp at h
    rcases ha' with h0 | h0
    ·simp at h0; exact ht h0.2
    ·have:=Yck.mpr (Ybz (Zbh h0 rfl ht));rw [List.count_append] at c'; lia
  subst this;obtain ⟨k1,k2⟩:=hj p' nth' hp';have rx:∀ K:V→Prop,(∀ e,K (if jk x pn2 then .mat e else .none))→rexAns .junk [.str x,.int p'] K:=fun K hK=>.junk pn2 hp' (by have:=hl'.le; exact ‹_›) hl h10 hK;refine Ybj _ (Ybk rfl (Ybj _ (Ybk rfl ?_)));refine rx (fun r=>∃ b,Zmy cells r=some b∧((b=true→_)∧(b=false→_))) fun e=>?_;cases hjv:jk x pn2 with
  | true =>
   refine Ybj true (Ybk rfl (Ybk (fun _=>?_) (fun q=>Bool.noConfusion q)));have k1':=k1 hjv;exact Ybj _ (Ybk rfl (Ybj _ (Ybk rfl k1')))
  | false =>
   refine Ybj false (Ybk rfl (Ybk (fun q=>Bool.noConfusion q) (fun _=>?_)));exact k2 hjv
 repeat (first
 | exact fin
 | refine Ybj _ (Ybj _ (Ybk rfl (Ybk rfl (Ybk f0 (Ybk f1 ?_)))))
 | refine eI rfl ?_
 | refine eI (v0) ?_
 | refine eI (v1) ?_
 | refine Ybk y1 ?_
 | refine Ybk rfl ?_
 | refine iN (by decide) ?_
 | refine iY (by decide) ?_)
theorem Zxk{g:Nat}{G P:List Nat}(hc:cells[g]?=some (.list (gl G)))(hgd:gdv=.ref g)(hl:x.length < 1048576)(hlast:x.getLast?=some 10)(hP:Pairs x G P)(hG:G.Pairwise (· < ·))(hGl:G.length < 1048578)(hz:∃ r,G=0 :: r)
  {k:Nat} (hk:k < G.length) {R:Nat × Nat} (hR:bk (jk x) P k=R) {i p:Int} {q nth:Option V} (hi:i=k) (hp:p=P.getD k 0)
  (hQ:∀ (i p:Int) (q nth:Option V),p=R.1→((i=0∧R=(0,0))∨(i≠0∧∃ q':Int,q=some (.int q')∧q'=R.2))→Q .next (st3 cells self gdv x i p q nth)) :
  Zaq (tE (pVar 3)) Zfj xNil Q (st3 cells self gdv x i p q nth):=by
 refine ⟨fun n st=>∃ (i p:Int) (q nth:Option V),st=st3 cells self gdv x i p q nth∧i=n∧n < G.length∧p=P.getD n 0∧bk (jk x) P n=R,⟨k,i,p,q,nth,rfl,hi,hk,hp,hR⟩,?_⟩;clear hi hp hR hk;rintro n st ⟨i,p,q,nth,rfl,hi,hn,hp,hR⟩;refine Ybj _ (Ybk rfl (Ybj _ (Ybk rfl ?_)));cases n with
 | zero =>
  have y1:(i != 0)=false:=by rw [hi]; rfl
  refine Ybk (fun q=>Bool.noConfusion (y1.symm.trans q)) (fun _=>?_);have hR':R=(0,0):=hR.symm;refine hQ i p q nth ?_ (.inl ⟨by rw [hi]; rfl,hR'⟩);rw [hp,hR'];obtain ⟨r,rfl⟩:=hz;cases hP with
  | cons a b=>rw [a.zero_pos]; rfl
 | succ n =>
  have y1:(i != 0)=true:=by rw [hi]; simp; lia
  refine Ybk (fun _=>?_) (fun q=>Bool.noConfusion (y1.symm.trans q));have hn0:n < G.length:=by exact Yf ‹_›
  have hlenP:=hP.len;have e0:P.getD n 0=P[n]'(by lia):=by rw [List.getD_eq_getElem?_getD,List.getElem?_eq_getElem (by lia)]; rfl
  have e1:P.getD (n + 1) 0=P[n + 1]'(by lia):=by rw [List.getD_eq_getElem?_getD,List.getElem?_eq_getElem (by lia)]; rfl
  have l0:LS x (G[n]'hn0) (P.getD n 0):=by rw [e0]; exact hP.get hn0
  have l1:LS x (G[n + 1]'hn) (P.getD (n + 1) 0):=by rw [e1]; exact hP.get hn
  have hlt:G[n]'hn0 < G[n + 1]'hn:=Ycm.mp hG n (n + 1) hn0 hn (Yau _);refine b1_turn hc hgd hl hlast hi hGl (Yo hn0) (Yo hn) hlt l1 l0 hp fun p' nth' hp'=>⟨fun hj=>?_,fun hj=>?_⟩
  ·refine ⟨n,Yau _,i - 1,p',_,nth',rfl,by lia,hn0,hp',?_⟩;rw [← hR];show _=if jk x (P.getD n 0) then _ else _
   rw [if_pos hj]
  ·have hR2:R=(P.getD n 0,P.getD (n + 1) 0):=by
    rw [← hR];show (if jk x (P.getD n 0) then _ else _)=_;rw [if_neg (by rw [hj]; exact Yy)]
   refine hQ i p' _ nth' (by rw [hR2,hp']) (.inr ⟨by lia,p,rfl,by rw [hR2,hp]⟩)
end
end Mine
namespace Mine
theorem Zmu{cells:List Cell}{n:Nat}{vs:List V}(hc:cells[n]?=some (.list vs))(hl:vs.length≤Zc):Zlg cells (.ref n)=some vs:=by
 show (match cells[n]? with | some (.list vs)=>if vs.length≤Zc then some vs else none | _=>none)=_;rw [hc];exact if_pos hl
noncomputable def lobV(stk:List Nat):V:=match stk.getLast? with
 | some n=>.int n
 | none=>.none
section
variable{base:List Cell}{p0:Nat}{gdv:V}{x:List Nat}{b0 b1 b2 b3 b4 b5 b6 b7 b8 b9 b10:Option V}{Q:Fl→St→Prop}
theorem s2_end{stk:List Nat}{rows:List (Nat × Nat)}{last:List Nat}{iv m newp ch nth:Option V}{p q:Int}(hp:base[p0]?=some (.inst [b0,b1,b2,b3,b4,b5,b6,b7,b8,b9,b10]))(hs:stk.length < 1048577)(hr:rows.length < 8000000)
  (h:∀ loc,Q .next ⟨loc,c2 (base.set p0 (.inst [b0,b1,b2,b3,b4,b5,b6,b7,some (.str last),some (lobV stk),some (.tup (rv rows))])) stk rows⟩) :
  Zdz Q (st2 (c2 base stk rows) base.length (.inst p0) gdv x iv p q nth last m newp ch):=by
 have e1:∀ c,(c2 base stk rows).set p0 c=c2 (base.set p0 c) stk rows:=fun c=>Zcj hp;have g1:(c2 base stk rows)[p0]?=some (.inst [b0,b1,b2,b3,b4,b5,b6,b7,b8,b9,b10]):=Zah hp;have hbl:∀ c,(base.set p0 c).length=base.length:=fun c=>Yce
 -- lastch
 refine Ybj _ (Ybk rfl (Ybj _ (Ybk rfl (Ybj _ (Ybj _ (Ybj _ (Ybk rfl (Ybk g1 (Ybk rfl (Ybk rfl ?_))))))))));have k15:Zhc Q (st2 ((c2 base stk rows).set p0 (.inst [b0,b1,b2,b3,b4,b5,b6,b7,some (.str last),b9,b10])) base.length (.inst p0) gdv x iv p q nth last m newp ch):=by
  rw [e1];have hp1:=Zn (d:=.inst [b0,b1,b2,b3,b4,b5,b6,b7,some (.str last),b9,b10]) hp;have g2:(c2 (base.set p0 (.inst [b0,b1,b2,b3,b4,b5,b6,b7,some (.str last),b9,b10])) stk rows)[p0]?=some (.inst [b0,b1,b2,b3,b4,b5,b6,b7,some (.str last),b9,b10]):=Zah hp1;have g3:(c2 (base.set p0 (.inst [b0,b1,b2,b3,b4,b5,b6,b7,some (.str last),b9,b10])) stk rows)[base.length]?=some (.list (sv stk)):=by rw [← hbl (.inst [b0,b1,b2,b3,b4,b5,b6,b7,some (.str last),b9,b10])]; exact Zci
  have n0:(sv stk).length≤Zc:=by rw [Zau]; unfold Zc; exact lted ‹_›
  have tr:=Zib g3 n0;have fin:Zhb Q (st2 ((c2 (base.set p0 (.inst [b0,b1,b2,b3,b4,b5,b6,b7,some (.str last),b9,b10])) stk rows).set p0 (.inst [b0,b1,b2,b3,b4,b5,b6,b7,some (.str last),some (lobV stk),b10])) base.length (.inst p0) gdv x iv p q nth last m newp ch):=by
   have e2:(c2 (base.set p0 (.inst [b0,b1,b2,b3,b4,b5,b6,b7,some (.str last),b9,b10])) stk rows).set p0 (.inst [b0,b1,b2,b3,b4,b5,b6,b7,some (.str last),some (lobV stk),b10])=c2 (base.set p0 (.inst [b0,b1,b2,b3,b4,b5,b6,b7,some (.str last),some (lobV stk),b10])) stk rows:=by
    refine (Zcj hp1).trans ?_;rw [List.set_set]; rfl
   rw [e2];have hp2:=Zn (d:=.inst [b0,b1,b2,b3,b4,b5,b6,b7,some (.str last),some (lobV stk),b10]) hp;have g4:(c2 (base.set p0 (.inst [b0,b1,b2,b3,b4,b5,b6,b7,some (.str last),some (lobV stk),b10])) stk rows)[p0]?=some (.inst [b0,b1,b2,b3,b4,b5,b6,b7,some (.str last),some (lobV stk),b10]):=Zah hp2;have g5:(c2 (base.set p0 (.inst [b0,b1,b2,b3,b4,b5,b6,b7,some (.str last),some (lobV stk),b10])) stk rows)[base.length + 1]?=some (.list (rv rows)):=by rw [← hbl (.inst [b0,b1,b2,b3,b4,b5,b6,b7,some (.str last),some (lobV stk),b10])]; exact Zde
   have n1:(rv rows).length≤Zc:=by rw [Zgj]; unfold Zc; exact lted ‹_›
   have vt:=Zmu g5 n1;refine Ybj _ (Ybk rfl (Ybj _ (Ybk vt (Ybj _ (Ybk rfl (Ybj _ (Ybj _ (Ybj _ (Ybk rfl (Ybk g4 (Ybk rfl (Ybk rfl ?_))))))))))));have e3:(c2 (base.set p0 (.inst [b0,b1,b2,b3,b4,b5,b6,b7,some (.str last),some (lobV stk),b10])) stk rows).set p0 (.inst [b0,b1,b2,b3,b4,b5,b6,b7,some (.str last),some (lobV stk),some (.tup (rv rows))])=c2 (base.set p0 (.inst [b0,b1,b2,b3,b4,b5,b6,b7,some (.str last),some (lobV stk),some (.tup (rv rows))])) stk rows:=by
    refine (Zcj hp2).trans ?_;rw [List.set_set]; rfl
   have h':=h [some (.inst p0),some (.str x),some gdv,iv,some (.int p),some (.int q),nth,some (.str last),some (.ref base.length),some (.app base.length),some (.ref (base.length + 1)),m,newp,ch];rw [← e3] at h';exact h'
  cases hst:stk.getLast? with
  | none =>
   have he:stk=[]:=Ycf.mp hst;have y1:decide (sv stk≠[])=false:=by rw [he]; decide
   have el:lobV stk=.none:=by unfold lobV; rw [hst]
   rw [el] at fin
   repeat (first
 | exact fin
 | refine Ybj _ (Ybj _ (Ybj _ (Ybk rfl (Ybk g2 (Ybk rfl (Ybk rfl ?_))))))
 | refine eI rfl ?_
 | refine eI (tr) ?_
 | refine Ybk rfl ?_
 | refine iN (by decide) ?_
 | refine iY (by decide) ?_
 | refine iN y1 ?_)
  | some n =>
   have hne:(sv stk).length≠0:=by rw [Zau]; intro e; rw [List.eq_nil_of_length_eq_zero e] at hst; exact nn hst
   have y1:decide (sv stk≠[])=true:=by rw [decide_eq_true_iff]; intro e; rw [e] at hne; exact hne rfl
   have el:lobV stk=.int n:=by unfold lobV; rw [hst]
   have vi:=Zlh (i:=-1) (v:=.int n) g3 (Zej hne) (by decide) (by
    rw [List.getLast?_eq_getElem?] at hst;unfold sv
    rw [List.length_map,List.getElem?_map,hst]; rfl)
   rw [el] at fin
   repeat (first
 | exact fin
 | refine Ybj _ (Ybj _ (Ybj _ (Ybk rfl (Ybk g2 (Ybk rfl (Ybk rfl ?_))))))
 | refine eI rfl ?_
 | refine eI (tr) ?_
 | refine eI (vi) ?_
 | refine Ybk rfl ?_
 | refine iN (by decide) ?_
 | refine iY (by decide) ?_
 | refine iY y1 ?_)
 exact k15
theorem Ztv{cells:List Cell}{p q:Int}{pn qn:Nat}{i:Int}{nth:Option V}{R:List Nat × List (Nat × Nat) × List Nat}(hc:cells[p0]?=some (.inst [b0,b1,b2,b3,b4,b5,b6,b7,b8,b9,b10]))(hp:p=pn)(hq:q=qn)(hpq:pn≤qn)(hqn:qn≤x.length)(hl:x.length < 1048576)
  (hlast:(x.take qn).drop pn=[]∨((x.take qn).drop pn).getLast?=some 10) (hR:res2 (run2 ⟨.N,pn,[],[(pn,0)],[]⟩ ((x.take qn).drop pn))=R)
  (h:∀ loc,Q .next ⟨loc,c2 (cells.set p0 (.inst [b0,b1,b2,b3,b4,b5,some (.int pn),some (.int qn),some (.str R.2.2),some (lobV R.1),some (.tup (rv R.2.1))])) R.1 R.2.1⟩) :
  Zfe Q (st3 cells (.inst p0) gdv x i p (some (.int q)) nth):=by
 have hs1:=Zn (d:=.inst [b0,b1,b2,b3,b4,b5,some (.int p),b7,b8,b9,b10]) hc;have hs2:=Zn (d:=.inst [b0,b1,b2,b3,b4,b5,some (.int p),some (.int q),b8,b9,b10]) hs1;rw [List.set_set] at hs2;have hbl:(cells.set p0 (.inst [b0,b1,b2,b3,b4,b5,some (.int p),some (.int q),b8,b9,b10])).length=cells.length:=Yce;refine Ybj _ (Ybk rfl (Ybj _ (Ybk rfl (Ybk (show (2:Nat)≤Zc by decide) (Ybj _ (Ybk rfl (Ybk rfl ?_)))))));refine Ybj _ (Ybk rfl (Ybj _ (Ybj _ (Ybj _ (Ybk rfl (Ybk hc (Ybk rfl (Ybk rfl ?_))))))));refine Ybj _ (Ybk rfl (Ybj _ (Ybj _ (Ybj _ (Ybk rfl (Ybk hs1 (Ybk rfl (Ybk rfl ?_))))))));have k9:Ziu Q (st3 ((cells.set p0 (.inst [b0,b1,b2,b3,b4,b5,some (.int p),b7,b8,b9,b10])).set p0 (.inst [b0,b1,b2,b3,b4,b5,some (.int p),some (.int q),b8,b9,b10])) (.inst p0) gdv x i p (some (.int q)) nth):=by
  rw [List.set_set];generalize hb:cells.set p0 (.inst [b0,b1,b2,b3,b4,b5,some (.int p),some (.int q),b8,b9,b10])=b at hs2 hbl;have g0:(b++[Cell.list []])[b.length]?=some (.list []):=Zce _ _;have two:(2:Nat)≤Zc:=by decide
  have one:(1:Nat)≤Zc:=by decide
  have zer:(0:Nat)≤Zc:=by decide
  have k13:Zhd Q (st2 ((b++[Cell.list []])++[Cell.list [.tup [.int p,.int 0]]]) b.length (.inst p0) gdv x (some (.int i)) p q nth [] none none none):=by
   have e1:(b++[Cell.list []])++[Cell.list [.tup [.int p,.int 0]]]=c2 b [] [(pn,0)]:=by
    unfold c2 rv sv rowV;rw [hp]; simp
   rw [e1];refine while2 (Q:=fun fl st=>match fl with | .next=>Zdz Q st | fl=>Q fl st) (R:=R) (qn:=qn) hq hqn hl ?_ (n:=((x.take qn).drop pn).length) ⟨(x.take qn).take pn,(x.take qn).drop pn,[],[(pn,0)],[],_,_,_,_,p,rfl,?_,(Yci _ _).symm,rfl,?_,hlast,?_,?_⟩
   ·intro stk rows last iv m newp ch p' hRR hs hr;refine s2_end (base:=b) hs2 (ltd (Yh ‹_› ‹_›)) (by lia) fun loc=>?_;subst hRR;have:=h loc;rw [← hb,List.set_set,hp,hq];exact this
   ·rw [List.length_take,List.length_take]; lia
   ·rw [List.length_take,List.length_take,show min pn (min qn x.length)=pn by lia]; exact hR
   ·rw [List.length_drop,List.length_take]; simp; lia
   ·rw [List.length_drop,List.length_take]; simp; lia
  have hbl2:(b++[Cell.list []]).length=b.length + 1:=by simp
  refine Ybk zer ?_;refine Ybj _ (Ybk rfl (Ybj _ (Ybj _ (Ybk rfl (Ybk g0 ?_)))));refine Ybj _ (Ybk rfl (Ybk two (Ybk one ?_)));have k13':=k13;unfold st2 at k13';rw [← hbl2] at k13';exact k13'
 exact k9
end
end Mine
namespace Mine
noncomputable def span(x:List Nat):Nat × Nat:=bk (jk x) (places x) ((places x).length - 1)
noncomputable def told(x:List Nat):List Nat × List (Nat × Nat) × List Nat:=res2 (run2 ⟨.N,(span x).1,[],[((span x).1,0)],[]⟩ ((x.take (span x).2).drop (span x).1))
theorem Zxi(J:Nat→Bool)(P:List Nat):∀ k,bk J P k=(0,0)∨∃ n,n < k∧bk J P k=(P.getD n 0,P.getD (n + 1) 0)
 | 0=>.inl rfl
 | k + 1=>by
  unfold bk
  split
  ·rcases Zxi J P k with h | ⟨n,h1,h2⟩
   ·exact .inl h
   ·exact .inr ⟨n,by exact Yby ‹_›,h2⟩
  ·exact .inr ⟨k,Yau _,rfl⟩
theorem LS.take{x:List Nat}{g p:Nat}(h:LS x g p):x.take p=[]∨(x.take p).getLast?=some 10:=by
 obtain ⟨a,b,rfl,rfl,_,h⟩:=h;rw [List.take_left]; exact h
theorem Ztm{x:List Nat}(h:x.getLast?=some 10):(span x).1≤(span x).2∧(span x).2≤x.length∧(x.take (span x).2=[]∨(x.take (span x).2).getLast?=some 10):=by
 obtain ⟨h1,h2,_,_⟩:=Zio h;have hlen:=h1.len;unfold span
 rcases Zxi (jk x) (places x) ((places x).length - 1) with e | ⟨n,hn,e⟩
 ·rw [e]; exact ⟨Yaa _,Yas _,.inl (by simp)⟩
 ·rw [e];have hn0:n < (Zm (run1 start1 x)).length:=by lia
  have hn1:n + 1 < (Zm (run1 start1 x)).length:=by lia
  have e0:(places x).getD n 0=(places x)[n]'(Yby ‹_›):=by rw [List.getD_eq_getElem?_getD,List.getElem?_eq_getElem (Nat.le_succ_of_le ‹_›)]; rfl
  have e1:(places x).getD (n + 1) 0=(places x)[n + 1]'(Yag ‹_›):=by rw [List.getD_eq_getElem?_getD,List.getElem?_eq_getElem (Nat.succ_le_succ ‹_›)]; rfl
  have l0:=h1.get hn0;have l1:=h1.get hn1;have hlt:=Ycm.mp h2 n (n + 1) hn0 hn1 (Yau _);rw [e0,e1];exact ⟨Yf (l0.lt l1 hlt),l1.le,l1.take⟩
theorem Zpu(x:List Nat):(Zm (run1 start1 x)).length≤x.length + 2:=by
 have h:=gd_len start1 x;have e:start1.gd.length=1:=rfl;unfold Zm
 split
 ·lia
 ·simp; lia
section
variable{cells:List Cell}{p0:Nat}{x:List Nat}{a0 a1 a4 a5 a6 a7 a8 a9 a10:Option V}{Q:Fl→St→Prop}
noncomputable def aft(cells:List Cell)(p0:Nat)(a0 a1:Option V)(g:Nat)(x:List Nat):List Cell :=
 c2 (cells.set p0 (.inst [a0,a1,some (.str x),some (.int 2),some (.ref g),some (.int (Zg (run1 start1 x))),some (.int (span x).1),some (.int (span x).2),some (.str (told x).2.2),some (lobV (told x).1),some (.tup (rv (told x).2.1))])) (told x).1 (told x).2.1
noncomputable def Zha(cells:List Cell)(p0:Nat)(a0 a1:Option V)(x:List Nat):List Cell:=aft (cells++[.list (gl (Zm (run1 start1 x)))]) p0 a0 a1 cells.length x
theorem Zjj{g:Nat}(hp:cells[p0]?=some (.inst [a0,a1,some (.str x),some (.int 1),some (.ref g),some (.int (Zg (run1 start1 x))),a6,a7,a8,a9,a10]))(hg:cells[g]?=some (.list (gl (Zm (run1 start1 x)))))(hl:x.length < 1048576)
  (fin:Zff Q (st3 (cells.set p0 (.inst [a0,a1,some (.str x),some (.int 2),some (.ref g),some (.int (Zg (run1 start1 x))),a6,a7,a8,a9,a10])) (.inst p0) (.ref g) x (((gl (Zm (run1 start1 x))).length:Int) - 1) x.length none none)) :
  Zfg Q ⟨[some (.inst p0),none,none,none,none,none,none,none,none,none,none,none,none,none],cells⟩:=by
 have hGl:=Zpu x;have hne:p0≠g:=by rintro rfl; rw [hp] at hg; cases hg
 have hc0:=Zn (d:=.inst [a0,a1,some (.str x),some (.int 2),some (.ref g),some (.int (Zg (run1 start1 x))),a6,a7,a8,a9,a10]) hp;have hcg:(cells.set p0 (.inst [a0,a1,some (.str x),some (.int 2),some (.ref g),some (.int (Zg (run1 start1 x))),a6,a7,a8,a9,a10]))[g]?=some (.list (gl (Zm (run1 start1 x)))):=by rw [List.getElem?_set_ne hne]; exact hg
 have v1:=Zar hcg (by rw [Zgt]; unfold Zc; lia);have v2:∀ cs,vlen cs (.str x)=some (x.length:Int):=fun cs=>if_pos (by unfold Zc; exact lted ‹_›);have two:(2:Nat)≤Zc:=by decide
 refine Ybj _ (Ybk rfl (Ybj _ (Ybj _ (Ybj _ (Ybk rfl (Ybk hp (Ybk rfl (Ybk rfl ?_))))))));refine Ybj _ (Ybk rfl (Ybj _ (Ybj _ (Ybj _ (Ybk rfl (Ybk hc0 (Ybk rfl ?_)))))));refine Ybj _ (Ybk rfl (Ybj _ (Ybj _ (Ybj _ (Ybk rfl (Ybk hc0 (Ybk rfl ?_)))))));refine Ybk two (Ybj _ (Ybk rfl (Ybk rfl ?_)));refine Ybj _ (Ybk rfl (Ybj _ (Ybk v1 (Ybj _ (Ybk rfl ?_)))));refine Ybj _ (Ybk rfl (Ybj _ (Ybk (v2 _) ?_)));exact fin
theorem Ztw{g:Nat}(hp:cells[p0]?=some (.inst [a0,a1,some (.str x),some (.int 1),some (.ref g),some (.int (Zg (run1 start1 x))),a6,a7,a8,a9,a10]))(hg:cells[g]?=some (.list (gl (Zm (run1 start1 x)))))(hlast:x.getLast?=some 10)(hl:x.length < 1048576)
  (h:∀ loc,Q .next ⟨loc,aft cells p0 a0 a1 g x⟩) :
  Zfg Q ⟨[some (.inst p0),none,none,none,none,none,none,none,none,none,none,none,none,none],cells⟩:=by
 obtain ⟨hP,hG,hz,hPl⟩:=Zio hlast;have hlenP:=hP.len;obtain ⟨s1,s2,s3⟩:=Ztm hlast;have hGl:=Zpu x;have hne:p0≠g:=by rintro rfl; rw [hp] at hg; cases hg
 have hc0:=Zn (d:=.inst [a0,a1,some (.str x),some (.int 2),some (.ref g),some (.int (Zg (run1 start1 x))),a6,a7,a8,a9,a10]) hp;have hcg:(cells.set p0 (.inst [a0,a1,some (.str x),some (.int 2),some (.ref g),some (.int (Zg (run1 start1 x))),a6,a7,a8,a9,a10]))[g]?=some (.list (gl (Zm (run1 start1 x)))):=by rw [List.getElem?_set_ne hne]; exact hg
 -- from the two lengths on
 have k6:∀ (i p:Int),i=((places x).length - 1:Nat)→p=x.length→Zff Q (st3 (cells.set p0 (.inst [a0,a1,some (.str x),some (.int 2),some (.ref g),some (.int (Zg (run1 start1 x))),a6,a7,a8,a9,a10])) (.inst p0) (.ref g) x i p none none):=by
  intro i p hi hpx;have hne:(places x).length≠0:=by intro e; rw [List.eq_nil_of_length_eq_zero e] at hPl; exact nn hPl
  refine Zxk (Q:=fun fl st=>match fl with | .next=>Ziv Q st | fl=>Q fl st) hcg rfl hl hlast hP hG (by lia) hz (k:=(places x).length - 1) (Ybg (Eq.symm ‹_›)) (R:=span x) rfl hi ?_ ?_
  ·rw [hpx,List.getD_eq_getElem?_getD,← List.getLast?_eq_getElem?,hPl]; rfl
  ·intro i p q nth hp' hcase;have mid:∀ (q':Int),q'=(span x).2→Zfe Q (st3 (cells.set p0 (.inst [a0,a1,some (.str x),some (.int 2),some (.ref g),some (.int (Zg (run1 start1 x))),a6,a7,a8,a9,a10])) (.inst p0) (.ref g) x i p (some (.int q')) nth):=by
    intro q' hq';refine Ztv hc0 hp' hq' s1 s2 hl (Zly s3 _) (R:=told x) rfl fun loc=>?_;rw [List.set_set];exact h loc
   rcases hcase with ⟨hi0,hR⟩ | ⟨hi0,q',hq,hq'⟩
   ·have y1:(i == 0)=true:=by simpa using hi0
    have y2:(p == 0)=true:=by rw [hp',hR]; rfl
    have fin:=mid p (by rw [hp',hR])
    repeat (first
 | exact fin
 | refine eI rfl ?_
 | refine Ybk y2 ?_
 | refine Ybk rfl ?_
 | refine iN (by decide) ?_
 | refine iY (by decide) ?_
 | refine iY y1 ?_)
   ·have y1:(i == 0)=false:=by simpa using hi0
    subst hq;have fin:=mid q' hq'
    repeat (first
 | exact fin
 | refine eI rfl ?_
 | refine Ybk rfl ?_
 | refine iN (by decide) ?_
 | refine iY (by decide) ?_
 | refine iN y1 ?_)
 have hge:(((gl (Zm (run1 start1 x))).length:Int) - 1)=((places x).length - 1:Nat):=by
  obtain ⟨r,e⟩:=hz;have hr:(Zm (run1 start1 x)).length=r.length + 1:=by rw [e]; rfl
  rw [Zgt]; lia
 exact Zjj hp hg hl (k6 (((gl (Zm (run1 start1 x))).length:Int) - 1) x.length hge rfl)
theorem Zth(hp:cells[p0]?=some (.inst [a0,a1,some (.str x),some (.int 0),a4,a5,a6,a7,a8,a9,a10]))(hx:∀ c∈x,c < 128)(hlast:x.getLast?=some 10)(hl:x.length < 1048576)
  (h:∀ loc,Q .next ⟨loc,Zha cells p0 a0 a1 x⟩) :
  Zaa Q ⟨[some (.inst p0),none,none,none,none,none,none,none,none,none,none,none,none,none],cells⟩:=by
 refine Ybj _ (Ybk rfl (Ybj _ (Ybj _ (Ybj _ (Ybk rfl (Ybk hp (Ybk rfl ?_)))))));refine Ybj _ (Ybk rfl (Ybj _ (Ybk rfl ?_)));refine Ybk (fun q=>absurd q (by decide)) (fun _=>?_);refine Ybj _ (Ybk rfl (Ybk (Ybj _ (Ybj _ (Ybk rfl hp))) (Ybk rfl ?_)));have hp1:=Zn (d:=.inst [a0,a1,some (.str x),some (.int 1),some (.ref cells.length),some (.int (Zg (run1 start1 x))),a6,a7,a8,a9,a10]) hp;have hbl:(cells.set p0 (.inst [a0,a1,some (.str x),some (.int 1),some (.ref cells.length),some (.int (Zg (run1 start1 x))),a6,a7,a8,a9,a10])).length=cells.length:=Yce;have e:∀ c,(cells.set p0 (.inst [a0,a1,some (.str x),some (.int 1),some (.ref cells.length),some (.int (Zg (run1 start1 x))),a6,a7,a8,a9,a10])++[Cell.list (gl (Zm (run1 start1 x)))]).set p0 c=(cells++[Cell.list (gl (Zm (run1 start1 x)))]).set p0 c:=fun c=>by rw [Zcj hp1,List.set_set,Zcj hp]
 refine Zlk hp hx hlast hl fun loc=>?_;refine Ztw (Zah hp1) ?_ hlast hl fun loc=>?_
 ·have:=Zce (cells.set p0 (.inst [a0,a1,some (.str x),some (.int 1),some (.ref cells.length),some (.int (Zg (run1 start1 x))),a6,a7,a8,a9,a10])) (.list (gl (Zm (run1 start1 x))));rwa [hbl] at this
 ·have h':=h loc;unfold Zha aft at h';unfold aft;rw [e]; exact h'
theorem Zqr{g:Nat}(hp:cells[p0]?=some (.inst [a0,a1,some (.str x),some (.int 1),some (.ref g),some (.int (Zg (run1 start1 x))),a6,a7,a8,a9,a10]))(hg:cells[g]?=some (.list (gl (Zm (run1 start1 x)))))(hlast:x.getLast?=some 10)(hl:x.length < 1048576)
  (h:∀ loc,Q .next ⟨loc,aft cells p0 a0 a1 g x⟩) :
  Zaa Q ⟨[some (.inst p0),none,none,none,none,none,none,none,none,none,none,none,none,none],cells⟩:=by
 refine Ybj _ (Ybk rfl (Ybj _ (Ybj _ (Ybj _ (Ybk rfl (Ybk hp (Ybk rfl ?_)))))));refine Ybj _ (Ybk rfl (Ybj _ (Ybk rfl ?_)));refine Ybk (fun q=>absurd q (by decide)) (fun _=>?_);refine Ybj _ (Ybk rfl (Ybk (Ybj _ (Ybj _ (Ybk rfl hp))) (Ybk rfl ?_)));refine Ybj _ (Ybk rfl (Ybj _ (Ybj _ (Ybj _ (Ybk rfl (Ybk hp (Ybk rfl ?_)))))));refine Ybj _ (Ybk rfl (Ybj _ (Ybk rfl ?_)));exact Ybk (fun _=>Ztw hp hg hlast hl h) (fun q=>absurd q (by decide))
end
end Mine
namespace Mine
theorem Zja{v:V}{d:PyData}(h:toPy v=some d)(hc:d.canLay0=true)(hd:d.depth≤64):veq v v=some true:=by
 unfold veq;rw [h];show (if _ then _ else _)=_;rw [if_pos ⟨hc,hc,by lia⟩,PySem.SeqAt.eqv_refl d hc]
theorem Zgg{x:List Nat}(h:∀ c∈x,c < 128):PyData.canLay0 (.str ⟨x.toArray⟩)=true:=by
 simp only [PyData.canLay0,PyData.strOk];rw [List.all_toArray,List.all_eq_true];intro c hc;have:=h c hc;simp; exact ltd ‹_›
noncomputable def Zni(rows:List (Nat × Nat)):List PyData:=rows.map fun r=>.tuple [.int r.1,.int r.2]
theorem Zic(rows:List (Nat × Nat)):Zav (rv rows)=some (Zni rows):=by
 induction rows with
 | nil=>rfl
 | cons r rows ih =>
  show Zav (rowV r :: rv rows)=_;simp only [Zav,ih];rfl
theorem Zpg(rows:List (Nat × Nat)):PyData.canLayAll0 (Zni rows)=true:=by
 induction rows with
 | nil=>rfl
 | cons r rows ih=>show (PyData.canLay0 _ && PyData.canLayAll0 (Zni rows))=true; rw [ih]; rfl
theorem Zil(rows:List (Nat × Nat)):PyData.depthAll (Zni rows)≤1:=by
 induction rows with
 | nil=>exact Yas _
 | cons r rows ih =>
  show max (PyData.depth _) (PyData.depthAll (Zni rows))≤1;refine Nat.max_le.mpr ⟨by simp [PyData.depth,PyData.depthAll],ih⟩
theorem Zyb(rows:List (Nat × Nat)):veq (.tup (rv rows)) (.tup (rv rows))=some true:=by
 refine Zja (d:=.tuple (Zni rows)) (by simp only [toPy,Zic]; rfl) (by simp only [PyData.canLay0]; exact Zpg rows) ?_;have:=Zil rows;simp only [PyData.depth]; exact letd ‹_›
theorem Zid(l:List Nat):Zav (sv l)=some (l.map fun n:Nat=>PyData.int n):=by
 induction l with
 | nil=>rfl
 | cons n l ih =>
  show Zav (.int n :: sv l)=_;simp only [Zav,ih,toPy];rfl
theorem veq_nil(l:List Nat):veq (.lst (sv l)) (.lst [])=some (decide (l=[])):=by
 have h1:toPy (.lst (sv l))=some (.list (l.map fun n:Nat=>PyData.int n)):=by simp only [toPy,Zid]; rfl
 have h2:toPy (.lst [])=some (.list []):=rfl;have hl:∀ l:List Nat,PyData.canLayAll0 (l.map fun n:Nat=>PyData.int n)=true:=by
  intro l
  induction l with
  | nil=>rfl
  | cons n l ih=>show (PyData.canLay0 _ && PyData.canLayAll0 _)=true; rw [ih]; rfl
 unfold veq;rw [h1,h2];show (if _ then _ else _)=_;rw [if_pos ⟨by simp only [PyData.canLay0]; exact hl l,rfl,by simp [PyData.depth,PyData.depthAll]⟩];cases l with
 | nil=>rfl
 | cons n l=>simp [PyData.eqv,PyData.eqvAll]
section
variable{cells:List Cell}{p0:Nat}{x:List Nat}{a0 a1 a2 a3 a4 a5 a6 a7 a8 a9 a10:Option V}{Q:Fl→St→Prop}
theorem Zrc(hp:cells[p0]?=some (.inst [a0,a1,a2,a3,a4,a5,a6,a7,a8,a9,a10]))(hlast:x.getLast?=some 10)(hl:x.length < 1048576)
  (h:∀ loc,Q .next ⟨loc,cells.set p0 (.inst [a0,a1,some (.str x),some (.int 0),a4,a5,a6,a7,a8,a9,a10])⟩):Zap Q ⟨[some (.inst p0),some (.str x)],cells⟩:=by
 obtain ⟨x',hx'⟩:=Yca.mp hlast;have v1:∀ cs,vlen cs (.str x)=some (x.length:Int):=fun cs=>if_pos (by unfold Zc; exact lted ‹_›);have hne:x.length≠0:=by rw [hx']; simp
 have y1:((x.length:Int) == 0)=false:=by rw [beq_eq_false_iff_ne]; lia
 have v2:∀ cs,vidx cs (.str x) (.int (-1))=some (.str [10]):=by
  intro cs;show (if fits (-1) then ((seqIndex? (-1) x.length).bind (x[·]?)).map fun c=>V.str [c] else none)=_;rw [if_pos (by decide),Zej hne];show Option.map _ (x[x.length - 1]?)=_;rw [← List.getLast?_eq_getElem?,hlast]; rfl
 have hp1:=Zn (d:=.inst [a0,a1,some (.str x),a3,a4,a5,a6,a7,a8,a9,a10]) hp;have fin:=h [some (.inst p0),some (.str x)];have e:(cells.set p0 (.inst [a0,a1,some (.str x),a3,a4,a5,a6,a7,a8,a9,a10])).set p0 (.inst [a0,a1,some (.str x),some (.int 0),a4,a5,a6,a7,a8,a9,a10])=cells.set p0 (.inst [a0,a1,some (.str x),some (.int 0),a4,a5,a6,a7,a8,a9,a10]):=List.set_set ..;rw [← e] at fin
 repeat (first
 | exact fin
 | refine Ybj _ (Ybj _ (Ybj _ (Ybk rfl (Ybk hp (Ybk rfl (Ybk rfl ?_))))))
 | refine Ybj _ (Ybj _ (Ybj _ (Ybk rfl (Ybk hp1 (Ybk rfl (Ybk rfl ?_))))))
 | refine eI rfl ?_
 | refine eI (v1 _) ?_
 | refine eI (v2 _) ?_
 | refine Ybk rfl ?_
 | refine iN (by decide) ?_
 | refine iY (by decide) ?_
 | refine iN y1 ?_)
theorem Zxo{b:Cell}{g:Nat}(hp:cells[p0]?=some b):(aft cells p0 a0 a1 g x)[p0]?=some (.inst [a0,a1,some (.str x),some (.int 2),some (.ref g),some (.int (Zg (run1 start1 x))),some (.int (span x).1),some (.int (span x).2),some (.str (told x).2.2),some (lobV (told x).1),some (.tup (rv (told x).2.1))]):=Zah (Zn hp)
theorem Zqj{c:Cell}{g i:Nat}(hi:i≠p0)(h:cells[i]?=some c):(aft cells p0 a0 a1 g x)[i]?=some c:=Zah (by rw [List.getElem?_set_ne hi.symm]; exact h)
theorem Zrx{b:Cell}(hp:cells[p0]?=some b):(Zha cells p0 a0 a1 x)[p0]?=some (.inst [a0,a1,some (.str x),some (.int 2),some (.ref cells.length),some (.int (Zg (run1 start1 x))),some (.int (span x).1),some (.int (span x).2),some (.str (told x).2.2),some (lobV (told x).1),some (.tup (rv (told x).2.1))]):=Zxo (Zah hp)
end
end Mine
end
section
open PySem
set_option maxRecDepth 2000
namespace Mine
inductive Eff where
 | str | op | cl | no
 deriving DecidableEq
noncomputable def Eff.lv:Eff→Nat→Nat
 | .op,n=>n + 1
 | .cl,n=>n - 1
 | _,n=>n
noncomputable def Eff.stk:Eff→Nat→List Nat→List Nat
 | .op,p,s=>s++[p]
 | .cl,_,s=>s.dropLast
 | _,_,s=>s
noncomputable def Eff.rows:Eff→Nat→Nat→List Nat→List (Nat × Nat)→List (Nat × Nat)
 | .str,p,n,s,r=>r++[(p,s.length + 1)]++[(p + n,s.length)]
 | .op,p,_,s,r=>r++[(p,s.length + 1)]
 | .cl,p,_,s,r=>r++[(p + 1,s.dropLast.length)]
 | .no,_,_,_,r=>r
theorem Zed{cells:List Cell}{vs:List V}{i:Int}{j:Nat}{v:V}(hi:i=j)(hv:vs[j]?=some v)(hl:vs.length < 1000):vidx cells (.lst vs) (.int i)=some v:=by
 have hj:=(Yi.mp hv).1;show (if fits i then (seqIndex? i vs.length).bind (vs[·]?) else none)=_;rw [if_pos (Zcg hi (Nat.lt_trans hj (Nat.lt_trans hl (by decide))))];have hs:=Zjg hi hj;rw [hs]; exact hv
theorem Zoq{cells:List Cell}{y:List Nat}{i:Int}{j c:Nat}(hi:i=j)(hv:y[j]?=some c)(hl:y.length < 1000):vidx cells (.str y) (.int i)=some (.str [c]):=by
 have hj:=(Yi.mp hv).1;have e:y=y.take j++c :: y.drop (j + 1):=by
  conv=>lhs; rw [← List.take_append_drop j y,List.drop_eq_getElem_cons hj]
  rw [(List.getElem?_eq_some_iff.mp hv).2]
 exact Zh (pre:=y.take j) e (by rw [hi,List.length_take]; lia) (ltd ‹_›)
theorem Zel(x:Int)(n:Nat)(hn:0 < n):∃ j:Nat,j < n∧x.fmod n=j:=by
 have h1:=Int.fmod_nonneg_of_pos x (b:=n) (by lia);have h2:=Int.fmod_lt_of_pos x (b:=n) (by lia);exact ⟨(x.fmod n).toNat,(Int.toNat_lt h1).mpr h2,(Int.toNat_of_nonneg h1).symm⟩
theorem Zxp{a b:List Nat}(h:a.length + b.length≤Zc):Zmj .Add (.str a) (.str b)=some (.str (a++b)):=if_pos h
theorem Zxq{a b:List V}(h:a.length + b.length≤Zc):Zmj .Add (.lst a) (.lst b)=some (.lst (a++b)):=if_pos h
theorem len_str{cs:List Cell}{a:List Nat}(h:a.length≤Zc):vlen cs (.str a)=some (a.length:Int):=if_pos h
theorem len_lst{cs:List Cell}{a:List V}(h:a.length≤Zc):vlen cs (.lst a)=some (a.length:Int):=if_pos h
end Mine
end
section
set_option tactic.hygienic true
open PySem
namespace Mine
noncomputable def at0(s:M1):Prop:=s.lx=.N∧s.lv=0
theorem nl_push(s:M1):s.gd.length < (dk s .nl).gd.length↔at0 (dk s .nl):=by
 have h1:s.gd.length < s.nl.gd.length↔at0 s.nl:=by
  show s.gd.length < (if s.lv=0 then s.gd++[s.ln + 1] else s.gd).length↔Lx.N=Lx.N∧s.lv=0
  by_cases h0:s.lv=0
  ·rw [if_pos h0]; simp [h0]
  ·rw [if_neg h0]; simp [h0]
 rcases dk_nl s with e | ⟨x,⟨hx,_⟩,e⟩
 ·rw [e]; exact h1
 ·rw [e]; exact ⟨fun e=>absurd e (Yl _),fun e=>absurd e.1 hx⟩
theorem Zwm(s:M1)(c:Nat):s.gd.length < (d1 s c).gd.length↔c=10∧at0 (d1 s c):=by
 by_cases h:c=10
 ·subst h; exact (nl_push s).trans ⟨fun e=>⟨rfl,e⟩,fun e=>e.2⟩
 ·have e:(d1 s c).gd=s.gd:=(dk_gd s (cls c)).2.elim id fun q=>absurd (cls_nl.mp q.1) h;rw [e];exact ⟨fun q=>absurd q (Yl _),fun q=>absurd q.1 h⟩
noncomputable def junk(m:List Nat):Bool:=match m.dropWhile Zao with
 | []=>true
 | 35 :: c :: _=>Zgn c
 | _=>false
theorem Pairs.lt{x:List Nat}:∀ {g p:List Nat},Pairs x g p→g.Pairwise (· < ·)→p.Pairwise (· < ·)
 | _,_,.nil,_=>.nil
 | _,_,.cons (gs:=gs) (ps:=ps) a h,hp=>by
  obtain ⟨h1,h2⟩:=Ycl.mp hp;refine Ycl.mpr ⟨fun q hq=>?_,h.lt h2⟩;obtain ⟨i,hi,rfl⟩:=Yn.mp hq;have hi':i < gs.length:=h.len ▸ hi;exact a.lt (h.get hi') (h1 _ (Yt hi'))
end Mine
namespace Mine
noncomputable def inq:Lx→Bool
 | .N | .NB | .B | .C=>false
 | _=>true
noncomputable def Sf(P:Prop)(n:Nat)(s s':M1):Prop:=s.lx=s'.lx∧s.lv=s'.lv∧(P→s.ln=s'.ln + n)∧(P→inq s.lx=true→s.f=s'.f + n)
theorem Sf.to{P:Prop}{n:Nat}{s s':M1}(h:Sf P n s s'){x:Lx}(hx:inq x=true→inq s.lx=true):Sf P n (s.to x) (s'.to x):=⟨rfl,h.2.1,h.2.2.1,fun p z=>h.2.2.2 p (hx z)⟩
theorem Sf.line{P:Prop}{n:Nat}{s s':M1}(h:Sf P n s s'):Sf P n s.line s'.line:=⟨h.1,h.2.1,fun p=>(congrArg (· + 1) (h.2.2.1 p)).trans (Ybe _ _ _),h.2.2.2⟩
theorem Sf.ite{P:Prop}{n:Nat}{p:Prop}[Decidable p]{a a' b b':M1}(h:Sf P n a a')(h':Sf P n b b'):Sf P n (if p then a else b) (if p then a' else b'):=by
 by_cases k:p
 ·rw [if_pos k,if_pos k]; exact h
 ·rw [if_neg k,if_neg k]; exact h'
theorem Sf.nl{P:Prop}{n:Nat}{s s':M1}(h:Sf P n s s'):Sf P n s.nl s'.nl:=⟨rfl,h.2.1,h.line.2.2.1,fun _ z=>absurd (show false=true from z) Yy⟩
theorem Sf.nrm{P:Prop}{n:Nat}{s s':M1}(h:Sf P n s s')(k:Cl):Sf P n (Mine.nrm s k) (Mine.nrm s' k):=by
 cases k with
 | nl=>exact h.nl
 | op=>exact ⟨rfl,congrArg (· + 1) h.2.1,h.2.2.1,fun _ z=>absurd (show false=true from z) Yy⟩
 | cl=>exact ⟨rfl,congrArg (· - 1) h.2.1,h.2.2.1,fun _ z=>absurd (show false=true from z) Yy⟩
 | dq=>exact ⟨rfl,h.2.1,h.2.2.1,fun p _=>h.2.2.1 p⟩
 | sq=>exact ⟨rfl,h.2.1,h.2.2.1,fun p _=>h.2.2.1 p⟩
 | hash=>exact h.to fun z=>absurd (show false=true from z) Yy
 | bs=>exact h.to fun z=>absurd (show false=true from z) Yy
 | ord =>
  show Sf P n (if s.lx=.NB then s else s.to .N) (if s'.lx=.NB then s' else s'.to .N);rw [← h.1];exact Sf.ite h (h.to fun z=>absurd (show false=true from z) Yy)
theorem Sf.inS{P:Prop}{n:Nat}{s s':M1}(h:Sf P n s s')(hq:inq s.lx=true)(q:Bool)(k:Cl):Sf P n (Mine.inS q s k) (Mine.inS q s' k):=Sf.ite (h.to fun _=>hq) (Sf.ite h.nl (Sf.ite (h.to fun _=>hq) (h.to fun _=>hq)))
theorem Sf.inT{P:Prop}{n:Nat}{s s':M1}(h:Sf P n s s')(hq:inq s.lx=true)(q:Bool)(k:Cl):Sf P n (Mine.inT q s k) (Mine.inT q s' k):=Sf.ite (h.to fun _=>hq) (Sf.ite (h.line.to fun _=>hq) (h.to fun _=>hq))
theorem Sf.d1{P:Prop}{n:Nat}{s s':M1}(h:Sf P n s s')(c:Nat):Sf P n (Mine.d1 s c) (Mine.d1 s' c):=by
 show Sf P n (dk s (cls c)) (dk s' (cls c));generalize cls c=k;have no:∀ {x:Lx},inq x=false→inq x=true→inq s.lx=true:=fun e z=>absurd (e.symm.trans z) Yy;unfold dk;rw [← h.1];cases e:s.lx with
 | N=>exact h.nrm k
 | NB=>exact h.nrm k
 | B=>exact Sf.ite (h.line.to (no rfl)) (h.to (no rfl))
 | C=>exact Sf.ite h.nl h
 | Q1 q=>exact Sf.ite (h.to fun _=>e ▸ rfl) (h.inS (e ▸ rfl) q k)
 | Q2 q=>exact Sf.ite (h.to fun _=>e ▸ rfl) ((h.to (no rfl)).nrm k)
 | S q=>exact h.inS (e ▸ rfl) q k
 | SB q=>exact Sf.ite (h.line.to fun _=>e ▸ rfl) (h.to fun _=>e ▸ rfl)
 | T q=>exact Sf.ite (h.to fun _=>e ▸ rfl) (h.inT (e ▸ rfl) q k)
 | T1 q=>exact Sf.ite (h.to fun _=>e ▸ rfl) (h.inT (e ▸ rfl) q k)
 | T2 q=>exact Sf.ite (h.to (no rfl)) (h.inT (e ▸ rfl) q k)
 | TB q=>exact Sf.ite (h.line.to fun _=>e ▸ rfl) (h.to fun _=>e ▸ rfl)
noncomputable def Sim(s s':M1):Prop:=s.lx=s'.lx∧s.lv=s'.lv
theorem Sim.d1{s s':M1}(h:Sim s s')(c:Nat):Sim (d1 s c) (Mine.d1 s' c)∧(s.gd.length < (Mine.d1 s c).gd.length↔s'.gd.length < (Mine.d1 s' c).gd.length):=by
 have h0:=Sf.d1 (P:=False) (n:=0) ⟨h.1,h.2,False.elim,False.elim⟩ c;have h1:Sim (Mine.d1 s c) (Mine.d1 s' c):=⟨h0.1,h0.2.1⟩;refine ⟨h1,?_⟩;rw [Zwm,Zwm];unfold at0;rw [h1.1,h1.2]
theorem Sim.run{s s':M1}(h:Sim s s'):∀ l,Sim (run1 s l) (run1 s' l):=by
 intro l
 induction l generalizing s s' with
 | nil=>exact h
 | cons c l ih=>exact ih (h.d1 c).1
theorem Sim.gps{s s':M1}(h:Sim s s')(d:Nat):∀ (l:List Nat) (pos:Nat),gps s (pos + d) l=(gps s' pos l).map (· + d):=by
 intro l
 induction l generalizing s s' with
 | nil=>intro pos; rfl
 | cons c l ih =>
  intro pos;obtain ⟨h1,h2⟩:=h.d1 c;show (if _ then _ else _)++_=List.map _ ((if _ then _ else _)++_);rw [List.map_append,show pos + d + 1=pos + 1 + d by exact Nat.add_right_comm _ _ _,ih h1]
  congr 1
  by_cases q:s.gd.length < (Mine.d1 s c).gd.length
  ·rw [if_pos q,if_pos (h2.mp q)]; rfl
  ·rw [if_neg q,if_neg (fun z=>q (h2.mpr z))]; rfl
structure Whole(a:List Nat):Prop where
 z:at0 (run1 start1 a)
 l:a.getLast?=some 10
theorem Zzi{x:List Nat}(h:x.getLast?=some 10):(run1 start1 x).gd.getLast?=some (run1 start1 x).ln↔at0 (run1 start1 x):=by
 obtain ⟨x',_,e⟩:=Zpf h start1;rw [e];exact (end_nl (Zjv Zen x')).2
theorem Whole.places{a:List Nat}(h:Whole a):places a=0 :: gps start1 0 a:=by
 unfold Mine.places;rw [if_pos ((Zzi h.l).mpr h.z),List.append_nil]
end Mine
end
section
open PySem
namespace Mine
noncomputable def mvR(n:Nat)(rs:List (Nat × Nat)):List (Nat × Nat):=rs.map fun r=>(r.1 + n,r.2)
noncomputable def M2.mv(n:Nat)(s:M2):M2:=⟨s.lx,s.pos + n,s.stk.map (· + n),mvR n s.rows,s.last⟩
theorem mvR_app(n:Nat)(a:List (Nat × Nat))(p d:Nat):mvR n (a++[(p,d)])=mvR n a++[(p + n,d)]:=by simp [mvR]
noncomputable def Mv(n:Nat)(s t:M2):Prop:=s.lx=t.lx∧s.pos=t.pos + n∧s.stk=t.stk.map (· + n)∧s.rows=mvR n t.rows∧s.last=t.last
theorem Mv.eq{n:Nat}{s t:M2}(h:Mv n s t):s=t.mv n:=by
 obtain ⟨lx,pos,stk,rows,last⟩:=s;obtain ⟨e1,e2,e3,e4,e5⟩:=h;cases e1; cases e2; cases e3; cases e4; cases e5; rfl
theorem Mv.len{n:Nat}{s t:M2}(h:Mv n s t):s.stk.length=t.stk.length:=by rw [h.2.2.1,List.length_map]
theorem Mv.go{n:Nat}{s t:M2}(h:Mv n s t)(x:Lx):Mv n (s.go x) (t.go x):=⟨rfl,(congrArg (· + 1) h.2.1).trans (Ybe _ _ _),h.2.2.1,h.2.2.2.1,h.2.2.2.2⟩
theorem Mv.row{n:Nat}{s t:M2}(h:Mv n s t){p p' d d':Nat}(hp:p=p' + n)(hd:d=d'):Mv n (s.row p d) (t.row p' d'):=by
 refine ⟨h.1,h.2.1,h.2.2.1,?_,h.2.2.2.2⟩;show s.rows++[(p,d)]=mvR n (t.rows++[(p',d')]);rw [mvR_app,h.2.2.2.1,hp,hd]
theorem Mv.pl{n:Nat}{s t:M2}(h:Mv n s t):s.pos + 1=t.pos + 1 + n:=(congrArg (· + 1) h.2.1).trans (Ybe _ _ _)
theorem Mv.lst{n:Nat}{s t:M2}(h:Mv n s t){l l':List Nat}(e:l=l'):Mv n ⟨s.lx,s.pos,s.stk,s.rows,l⟩ ⟨t.lx,t.pos,t.stk,t.rows,l'⟩:=⟨h.1,h.2.1,h.2.2.1,h.2.2.2.1,e⟩
theorem Mv.stk'{n:Nat}{s t:M2}(h:Mv n s t){a b:List Nat}(e:a=b.map (· + n)):Mv n ⟨s.lx,s.pos,a,s.rows,s.last⟩ ⟨t.lx,t.pos,b,t.rows,t.last⟩:=⟨h.1,h.2.1,e,h.2.2.2.1,h.2.2.2.2⟩
theorem Mv.ite{n:Nat}{p:Prop}[Decidable p]{a a' b b':M2}(h:Mv n a a')(h':Mv n b b'):Mv n (if p then a else b) (if p then a' else b'):=by
 by_cases k:p
 ·rw [if_pos k,if_pos k]; exact h
 ·rw [if_neg k,if_neg k]; exact h'
theorem Mv.nrm{n:Nat}{s t:M2}(h:Mv n s t)(c:Nat):Mv n (nrm2 s c) (nrm2 t c):=by
 have up:=congrArg (· + 1) h.len;have ow:Mv n (M2.go ⟨s.lx,s.pos,s.stk,s.rows,if isWs c then s.last else [c]⟩ .N) (M2.go ⟨t.lx,t.pos,t.stk,t.rows,if isWs c then t.last else [c]⟩ .N):=(h.lst (by rw [h.2.2.2.2])).go .N;unfold nrm2;cases cls c with
 | op=>exact (((h.row h.2.1 up).stk' (a:=s.stk++[s.pos]) (b:=t.stk++[t.pos]) (by rw [h.2.2.1,h.2.1,List.map_append]; rfl)).lst (l:=[c]) rfl).go .N
 | cl =>
  have e:s.stk.dropLast=t.stk.dropLast.map (· + n):=by rw [h.2.2.1,List.map_dropLast]
  exact (((h.row h.pl ((congrArg List.length e).trans (List.length_map _))).stk' e).lst (l:=[c]) rfl).go .N
 | dq=>exact ((h.row h.2.1 up).lst (l:=[c]) rfl).go _
 | sq=>exact ((h.row h.2.1 up).lst (l:=[c]) rfl).go _
 | hash=>exact (h.row h.2.1 up).go .C
 | bs=>exact h.go .B
 | ord=>exact ow
 | nl=>exact ow
theorem Mv.shut{n:Nat}{s t:M2}(h:Mv n s t){p p':Nat}(hp:p=p' + n):Mv n (s.shut p) (t.shut p'):=h.row hp h.len
theorem Mv.inS{n:Nat}{s t:M2}(h:Mv n s t)(q:Bool)(c:Nat):Mv n (inS2 q s c) (inS2 q t c):=Mv.ite ((h.shut h.pl).go _) (Mv.ite ((h.shut h.2.1).nrm c) (Mv.ite (h.go _) (h.go _)))
theorem Mv.inT{n:Nat}{s t:M2}(h:Mv n s t)(q:Bool)(c:Nat):Mv n (inT2 q s c) (inT2 q t c):=Mv.ite (h.go _) (h.go _)
theorem Mv.d2{n:Nat}{s t:M2}(h:Mv n s t)(c:Nat):Mv n (Mine.d2 s c) (Mine.d2 t c):=by
 have bw:Mv n (M2.go ⟨s.lx,s.pos,s.stk,s.rows,if c=10 then s.last else [92,c]⟩ .N) (M2.go ⟨t.lx,t.pos,t.stk,t.rows,if c=10 then t.last else [92,c]⟩ .N):=(h.lst (by rw [h.2.2.2.2])).go .N;unfold Mine.d2;rw [← h.1];cases s.lx with
 | N=>exact h.nrm c
 | NB=>exact h.nrm c
 | B=>exact bw
 | C=>exact Mv.ite ((h.row h.pl h.len).go _) (h.go _)
 | Q1 q=>exact Mv.ite (h.go _) (h.inS q c)
 | Q2 q=>exact Mv.ite (h.go _) ((h.shut h.2.1).nrm c)
 | S q=>exact h.inS q c
 | SB q=>exact h.go _
 | T q=>exact Mv.ite (h.go _) (h.inT q c)
 | T1 q=>exact Mv.ite (h.go _) (h.inT q c)
 | T2 q=>exact Mv.ite ((h.shut h.pl).go _) (h.inT q c)
 | TB q=>exact h.go _
theorem Mv.run{n:Nat}:∀ (l:List Nat) {s t:M2},Mv n s t→Mv n (run2 s l) (run2 t l)
 | [],_,_,h=>h
 | c :: l,_,_,h=>Mv.run l (h.d2 c)
end Mine
namespace Mine
noncomputable def Ev(P:PE)(st:St)(v:V)(st':St):Prop:=∀ Q:V→St→Prop,Q v st'→P Q st
noncomputable def Eb(T:PB)(st:St)(b:Bool)(st':St):Prop:=∀ Q:Bool→St→Prop,Q b st'→T Q st
noncomputable def Es(Ps:PL)(st:St)(vs:List V)(st':St):Prop:=∀ Q:List V→St→Prop,Q vs st'→Ps Q st
section
variable{P P':PE}{Ps:PL}{T U:PB}{st st₁ st₂ st₃:St}{v a b r:V}{vs:List V}{us:List V}{i:Nat}{t:Bool}
theorem Ev.k:Ev (pC v) st v st:=fun _ h=>h
theorem Ev.var(e:st.loc[i]?=some (some v)):Ev (pVar i) st v st:=fun _ h=>⟨v,e,h⟩
theorem Ev.bin{op:Operator}(h₁:Ev P st a st₁)(h₂:Ev P' st₁ b st₂)(e:Zmj op a b=some r):Ev (pBin op P P') st r st₂:=fun _ h=>h₁ _ (h₂ _ ⟨r,e,h⟩)
theorem Ev.cmp{op:CmpOp}(h₁:Ev P st a st₁)(h₂:Ev P' st₁ b st₂)(e:Zes op a b=some r):Ev (pCmp op P P') st r st₂:=fun _ h=>h₁ _ (h₂ _ ⟨r,e,h⟩)
theorem Ev.idx(h₁:Ev P st a st₁)(h₂:Ev P' st₁ b st₂)(e:vidx st₂.cells a b=some r):Ev (pIdx P P') st r st₂:=fun _ h=>h₁ _ (h₂ _ ⟨r,e,h⟩)
theorem Ev.len{n:Int}(h₁:Ev P st a st₁)(e:vlen st₁.cells a=some n):Ev (pLen P) st (.int n) st₁:=fun _ h=>h₁ _ ⟨n,e,h⟩
theorem Ev.tuple(h₁:Ev P st a st₁)(e:Zlg st₁.cells a=some vs):Ev (Zpi P) st (.tup vs) st₁:=fun _ h=>h₁ _ ⟨vs,e,h⟩
theorem Ev.ifT(h₁:Eb T st true st₁)(h₂:Ev P st₁ v st₂):Ev (pIte T P P') st v st₂:=fun _ h=>h₁ _ ⟨fun _=>h₂ _ h,fun z=>nomatch z⟩
theorem Ev.ifF(h₁:Eb T st false st₁)(h₂:Ev P' st₁ v st₂):Ev (pIte T P P') st v st₂:=fun _ h=>h₁ _ ⟨fun z=>(nomatch z),fun _=>h₂ _ h⟩
theorem Ev.tup(h:Es Ps st vs st₁)(e:vs.length≤100):Ev (pTup Ps) st (.tup vs) st₁:=fun _ q=>h _ ⟨Yg e (by decide),q⟩
theorem Ev.lst(h:Es Ps st vs st₁)(e:vs.length≤100):Ev (pLst Ps) st (.lst vs) st₁:=fun _ q=>h _ ⟨Yg e (by decide),q⟩
theorem Ev.new(h:Es Ps st vs st₁)(e:vs.length≤100):Ev (pNew Ps) st (.ref st₁.cells.length) { st₁ with cells:=st₁.cells++[.list vs] }:=fun _ q=>h _ ⟨Yg e (by decide),q⟩
theorem Ev.attr{n:Nat}{as:List (Option V)}(h₁:Ev P st (.inst n) st₁)(e:st₁.cells[n]?=some (.inst as))(e':as[i]?=some (some v)):Ev (Zax P i) st v st₁:=fun _ h=>h₁ _ ⟨n,as,v,rfl,e,e',h⟩
theorem Ev.mm{mx:Bool}{m n k:Int}(h₁:Ev P st (.int m) st₁)(h₂:Ev P' st₁ (.int n) st₂)(e:(if mx then max m n else min m n)=k):Ev (pMM mx P P') st (.int k) st₂:=fun _ h=>h₁ _ (h₂ _ ⟨m,n,rfl,rfl,e ▸ h⟩)
theorem Ev.strip{l:Bool}{x y z:List Nat}(h₁:Ev P st (.str x) st₁)(hx:x.length≤Zc)(e:Zop l x y=z):Ev (Zuk l P y) st (.str z) st₁:=fun _ h=>h₁ _ ⟨x,rfl,hx,e ▸ h⟩
theorem Ev.slice{lo hi:Option PE}{m n:Option Int}(h₁:Ev P st a st₁)(h₂:∀ Q:Option Int→St→Prop,Q m st₂→pOpt lo Q st₁)(h₃:∀ Q:Option Int→St→Prop,Q n st₃→pOpt hi Q st₂)(e:Zbu st₃.cells a m n=some r):Ev (Zcx P lo hi) st r st₃:=fun _ h=>h₁ _ (h₂ _ (h₃ _ ⟨r,e,h⟩))
theorem Eo.no:∀ Q:Option Int→St→Prop,Q none st→pOpt none Q st:=fun _ h=>h
theorem Eo.yes{n:Int}(h₁:Ev P st (.int n) st₁):∀ Q:Option Int→St→Prop,Q (some n) st₁→pOpt (some P) Q st:=fun _ h=>h₁ _ ⟨n,rfl,h⟩
theorem Es.nil:Es pNil st [] st:=fun _ h=>h
theorem Es.cons(h₁:Ev P st v st₁)(h₂:Es Ps st₁ vs st₂):Es (Za P Ps) st (v :: vs) st₂:=fun _ h=>h₁ _ (h₂ _ h)
theorem Eb.e(h:Ev P st v st₁)(e:Zmy st₁.cells v=some t):Eb (tE P) st t st₁:=fun _ q=>h _ ⟨t,e,q⟩
theorem Eb.cmp{op:CmpOp}(h₁:Ev P st a st₁)(h₂:Ev P' st₁ b st₂)(e:Zes op a b=some (.bool t)):Eb (tE (pCmp op P P')) st t st₂:=(Ev.cmp h₁ h₂ e:Ev _ _ _ _) |> fun h=>Eb.e h rfl
theorem Eb.not(h:Eb T st t st₁):Eb (tNot T) st (!t) st₁:=fun _ q=>h _ q
theorem Eb.andT(h:Eb T st true st₁)(h':Eb U st₁ t st₂):Eb (tAnd T U) st t st₂:=fun _ q=>h _ ⟨fun _=>h' _ q,fun z=>nomatch z⟩
theorem Eb.andF(h:Eb T st false st₁):Eb (tAnd T U) st false st₁:=fun _ q=>h _ ⟨fun z=>(nomatch z),fun _=>q⟩
theorem Eb.orT(h:Eb T st true st₁):Eb (tOr T U) st true st₁:=fun _ q=>h _ ⟨fun _=>q,fun z=>nomatch z⟩
theorem Eb.orF(h:Eb T st false st₁)(h':Eb U st₁ t st₂):Eb (tOr T U) st t st₂:=fun _ q=>h _ ⟨fun z=>(nomatch z),fun _=>h' _ q⟩
theorem Ev.call{np nl:Nat}{X:PX}{fl:Fl}{cells:List Cell}(h:Es Ps st vs st₁)(e:vs.length=np)(k:∀ Q:Fl→St→Prop,(∀ loc,Q fl ⟨loc,cells⟩)→X Q ⟨vs.map some++List.replicate (nl - np) none,st₁.cells⟩)(ef:flV fl=v):Ev (pDef np nl X Ps) st v ⟨st₁.loc,cells⟩:=fun _ q=>h _ ⟨e,k _ fun _=>ef ▸ q⟩
theorem Ev.meth{np nl n:Nat}{as:List (Option V)}{X:PX}{fl:Fl}{cells:List Cell}(h₁:Ev P st (.inst n) st₁)(ec:st₁.cells[n]?=some (.inst as))(h:Es Ps st₁ vs st₂)(e:vs.length + 1=np)(k:∀ Q:Fl→St→Prop,(∀ loc,Q fl ⟨loc,cells⟩)→X Q ⟨(V.inst n :: vs).map some++List.replicate (nl - np) none,st₂.cells⟩)(ef:flV fl=v):Ev (Zbf np nl X P Ps) st v ⟨st₂.loc,cells⟩:=fun _ q=>h₁ _ ⟨⟨n,as,rfl,ec⟩,h _ ⟨e,k _ fun _=>ef ▸ q⟩⟩
theorem Zgc(l:List Cell)(a b:Cell):(l++[a]).set l.length b=l++[b]:=by simp
theorem Zdl(l:List Cell)(a:Cell):(l++[a])[l.length]?=some a:=by simp
noncomputable def Zey(a2 a3 a4 a5 a6 a7 a8 a9 a10:Option V):Cell:=.inst [some (.int 4),some (.int 8),a2,a3,a4,a5,a6,a7,a8,a9,a10]
noncomputable abbrev Zjm:Cell:=Zey none none none none none none none none none
theorem Ev.make(st:St):Ev (Zul 11 3 3 Zon (Za (pC (.int 4)) (Za (pC (.int 8)) pNil))) st (.inst st.cells.length) ⟨st.loc,st.cells++[Zjm]⟩:=by
 intro Q h;refine ⟨rfl,?_⟩;refine ⟨_,rfl,_,rfl,st.cells.length,_,_,rfl,Zdl _ _,rfl,rfl,?_⟩;refine ⟨_,rfl,_,rfl,st.cells.length,[some (.int 4),none,none,none,none,none,none,none,none,none,none],_,rfl,?_,rfl,rfl,?_⟩
 ·show ((st.cells++[_]).set st.cells.length _)[st.cells.length]?=_;rw [Zgc,Zdl]; rfl
 ·refine ⟨rfl,?_⟩;show Q _ ⟨st.loc,((st.cells++[_]).set st.cells.length _).set st.cells.length _⟩;rw [Zgc,Zgc];exact h
variable{X Y Z:PX}{Q:Fl→St→Prop}
abbrev nx(Z:PX)(Q:Fl→St→Prop):Fl→St→Prop:=fun fl st=>match fl with
 | .next=>Z Q st
 | fl=>Q fl st
theorem Zdt(h:Ev P st v st₁)(k:Z Q (st₁.set i v)):Zb (xSet i P) Z Q st:=h _ k
theorem Zij(h:Ev P st v st₁)(k:Z Q st₁):Zb (Zbt P) Z Q st:=h _ k
theorem Zlo(h:Ev P st v st₁)(k:Q (.ret v) st₁):Zb (xRet P) Z Q st:=h _ k
theorem Zft(h:Eb T st true st₁)(k:X (nx Z Q) st₁):Zb (xIf T X Y) Z Q st:=h _ ⟨fun _=>k,fun z=>nomatch z⟩
theorem Zgi(h:Eb T st false st₁)(k:Y (nx Z Q) st₁):Zb (xIf T X Y) Z Q st:=h _ ⟨fun z=>(nomatch z),fun _=>k⟩
theorem Zbn(h:Eb T st false st₁)(k:Z Q st₁):Zb (xIf T X xNil) Z Q st:=h _ ⟨fun z=>(nomatch z),fun _=>k⟩
theorem Zts{i j:Nat}(h:Ev P st (.tup [a,b]) st₁)(k:Z Q ((st₁.set j b).set i a)):Zb (Zmt [Zw j,Zw i] P) Z Q st:=h _ ⟨_,rfl,rfl,k⟩
theorem s_for{S:PS}(h:Ev P st (.lst vs) st₁)(k:forL S X Y (nx Z Q) vs st₁):Zb (xFor S (itV P) X Y) Z Q st:=h _ ⟨vs,rfl,k⟩
end
end Mine
end
section
open PySem
set_option maxRecDepth 2000
namespace Mine
open PySem.Builtin.Str PySem.StrLaws
section
variable{P P':PE}{T U:PB}{st st₁ st₂:St}{a b:Bool}{v w:V}
theorem Ev.box{n:Nat}(h:st.cells[n]?=some (.box (some v))):Ev (pBox n) st v st:=fun _ q=>⟨v,h,q⟩
end
theorem eq_str(a b:List Nat):Zes .Eq (.str a) (.str b)=some (.bool (a == b)):=rfl
theorem eq_int(a b:Int):Zes .Eq (.int a) (.int b)=some (.bool (a == b)):=rfl
theorem Zur{us vs:List V}(h:veq (.tup us) (.tup vs)=some true):Zes .NotEq (.tup us) (.tup vs)=some (.bool false):=by
 show (veq (.tup us) (.tup vs)).map _=_; rw [h]; rfl
theorem lob_lay(l:List Nat):∃ d,toPy (lobV l)=some d∧d.canLay0=true∧d.depth=0:=by
 unfold lobV;cases l.getLast? with
 | none=>exact ⟨_,rfl,rfl,rfl⟩
 | some n=>exact ⟨_,rfl,rfl,rfl⟩
theorem Zwr{n j:Nat}{d i:Int}(h:i=j):(Zbr n d (some i)).toNat=min j n:=by
 subst h;show (max 0 (min (if (j:Int) < 0 then (j:Int) + (n:Int) else j) (n:Int))).toNat=_;rw [if_neg (Int.not_lt.mpr (Int.natCast_nonneg j))]
 rcases Ycc j n with h | h
 ·rw [Int.min_eq_left (Int.ofNat_le.mpr h),Nat.min_eq_left h,Int.max_eq_right (Int.natCast_nonneg _),Int.toNat_natCast]
 ·rw [Int.min_eq_right (Int.ofNat_le.mpr h),Nat.min_eq_right h,Int.max_eq_right (Int.natCast_nonneg _),Int.toNat_natCast]
theorem Zov{cs:List Cell}{xs:List Int}{n:Nat}(h:xs.length≤1000000):Zbu cs (.lst (xs.map .int)) none (some n)=some (.lst ((xs.take n).map .int)):=by
 show (if (xs.map V.int).length≤Zc then some (V.lst (vsl (xs.map .int) none (some n))) else none)=_;rw [if_pos (by rw [List.length_map]; unfold Zc; exact led ‹_›)];unfold vsl;rw [List.map_take,List.length_map,Zwr (j:=n) rfl];show some (V.lst ((List.drop 0 _).take (min n xs.length - 0)))=_;rw [List.drop_zero,Nat.sub_zero]
 rcases Ycc xs.length n with h | h
 ·rw [Nat.min_eq_right h,List.take_of_length_le (by simp),List.take_of_length_le (by simpa using h)]
 ·rw [Nat.min_eq_left h]
theorem Zdg{cells:List Cell}{vs:List V}{i:Int}{j:Nat}{v:V}(hi:i=j)(hv:vs[j]?=some v)(hl:vs.length < 1000000):vidx cells (.tup vs) (.int i)=some v:=by
 have hj:=(Yi.mp hv).1;show (if fits i then (seqIndex? i vs.length).bind (vs[·]?) else none)=_;rw [if_pos (Zcg hi (Nat.lt_trans hj (Nat.lt_trans hl (by decide))))];have hs:=Zjg hi hj;rw [hs]; exact hv
theorem Zox{cs:List Cell}{x:List Nat}{i:Int}{j:Nat}(hi:i=j)(hj:j≤x.length)(hl:x.length < 1000000):Zbu cs (.str x) (some i) none=some (.str (x.drop j)):=by
 show (if x.length≤Zc then some (V.str (vsl x (some i) none)) else none)=_;rw [if_pos (by unfold Zc; exact lted ‹_›)];unfold vsl;rw [Zwr hi,Nat.min_eq_left hj];show some (V.str ((x.drop j).take ((x.length:Int).toNat - j)))=_;rw [List.take_of_length_le (by simp)]
noncomputable def pcs(ps:List (List Nat))(x:Int):List Nat:=ps.getD (x.fmod ps.length).toNat []
theorem Zui{ps:List (List Nat)}(hp:ps.length=16)(x:Int):∃ j:Nat,x.fmod 16=j∧ps[j]?=some (pcs ps x):=by
 obtain ⟨j,hj,e⟩:=Zel x 16 (by decide);have e:x.fmod 16=j:=e;refine ⟨j,e,?_⟩;unfold pcs;rw [hp];show _=some (ps.getD (x.fmod 16).toNat []);rw [e,Int.toNat_natCast,List.getD_eq_getElem?_getD,List.getElem?_eq_getElem (by lia)]; rfl
theorem Zuh{ps:List (List Nat)}(hp:ps.length=16)(x:Int):pcs ps x∈ps:=by
 obtain ⟨j,_,e⟩:=Zui hp x;exact Yw e
theorem Zqe{cells:List Cell}{K:List V→St→Prop}{n:Nat}{ps:List (List Nat)}(hp:ps.length=16)(hc:cells[n]?=some (.box (some (.lst (ps.map .str))))):∀ (xs:List Int) (acc:List V) (l:Option V),acc.length + xs.length < 100→(∀ l',K (acc++xs.map fun x=>.str (pcs ps x)) ⟨[l'],cells⟩) →
  Zob (Zw 0) tYes (pIdx (pBox n) (pBin .Mod (pVar 0) (pC (.int 16)))) K (xs.map .int) acc ⟨[l],cells⟩
 | [],acc,l,_,h=>by have:=h l; rw [List.map_nil,List.append_nil] at this; exact this
 | x :: xs,acc,l,hn,h=>by
  obtain ⟨j,e1,e2⟩:=Zui hp x;rw [List.length_cons] at hn;refine ⟨fun _=>?_,fun z=>nomatch z⟩;refine Ev.idx (st:=⟨[some (.int x)],cells⟩) (Ev.box hc) (Ev.bin (Ev.var rfl) Ev.k (r:=.int (x.fmod 16)) rfl) (Zed e1 (by rw [List.getElem?_map,e2]; rfl) (by rw [List.length_map,hp]; decide)) _ ⟨by unfold Zc; lia,?_⟩;refine Zqe hp hc xs _ _ (by simp; lia) fun l'=>?_;have:=h l';rw [List.append_assoc]; exact this
theorem Zow(ts:List (List Nat)):Zqv (ts.map .str)=some ts:=by
 induction ts with
 | nil=>rfl
 | cons t ts ih=>show (Zqv (ts.map .str)).map (t :: ·)=_; rw [ih]; rfl
noncomputable def Zjb(ps:List (List Nat))(xs:List Int):List Nat:=(xs.map (pcs ps)).flatten
theorem Zsy{ps:List (List Nat)}(hp:ps.length=16){k:Nat}(hk:∀ t∈ps,t.length≤k):∀ xs:List Int,(Zjb ps xs).length≤k * xs.length
 | []=>Yas _
 | x :: xs=>by
  show (pcs ps x++Zjb ps xs).length≤_;have h1:=hk _ (Zuh hp x);have h2:=Zsy hp hk xs;rw [List.length_append,List.length_cons,Nat.mul_succ]; lia
theorem Zsx{ps:List (List Nat)}(hp:ps.length=16)(hs:∀ t∈ps,∀ c∈t,c < 128){xs:List Int}:∀ c∈Zjb ps xs,c < 128:=by
 intro c hc;obtain ⟨t,ht,hc⟩:=List.mem_flatten.mp hc;obtain ⟨x,_,rfl⟩:=Ybr.mp ht;exact hs _ (Zuh hp x) c hc
theorem Ev.pieces{P:PE}{st st₁:St}{xs:List Int}{n:Nat}{ps:List (List Nat)}(hp:ps.length=16)(h:Ev P st (.lst (xs.map .int)) st₁)(hc:st₁.cells[n]?=some (.box (some (.lst (ps.map .str)))))(hn:xs.length < 100)(hl:(Zjb ps xs).length≤1000) :
  Ev (pSM .join (pC (.str [])) (Za (Zjn 1 (itV P) (Zw 0) tYes (pIdx (pBox n) (pBin .Mod (pVar 0) (pC (.int 16))))) pNil)) st (.str (Zjb ps xs)) st₁:=by
 intro Q q;refine ⟨[],rfl,h _ ⟨_,rfl,Zqe hp hc xs [] none (by simpa using hn) fun l'=>⟨.str (Zjb ps xs),?_,q⟩⟩⟩;show Zmx [] ([]++xs.map fun x=>V.str (pcs ps x))=_;have e:(xs.map fun x=>V.str (pcs ps x))=(xs.map (pcs ps)).map .str:=by rw [List.map_map]; rfl
 unfold Zmx;rw [if_pos rfl,List.nil_append,e,Zow,Option.bind_some,if_pos (show ((xs.map (pcs ps)).flatten).length≤Zc from Nat.le_trans hl (by decide))]; rfl
end Mine
end
section
open PySem
set_option maxRecDepth 4000
namespace Mine
section
variable{cells:List Cell}{p:Nat}{x:List Nat}{a0 a1 a2 a3 a4 a5 a6 a7 a8 a9 a10:Option V}{Q:Fl→St→Prop}
theorem Zto:small []=[]:=by decide +kernel
theorem Zjh{T:PB}{X O Z:PX}{st:St}(h:Eb T st false st)(k:O (nx Z Q) st):Zb (Zaq T X O) Z Q st :=
 ⟨fun n s=>n=0∧s=st,⟨0,rfl,rfl⟩,fun n s hs=>by obtain ⟨rfl,rfl⟩:=hs; exact h _ ⟨fun z=>(nomatch z),fun _=>k⟩⟩
theorem Zih(hp:cells[p]?=some (.inst [a0,a1,some (.str []),some (.int 0),a4,a5,a6,a7,a8,a9,a10]))
  (h:∀ loc,Q .next ⟨loc,cells.set p (.inst [a0,a1,some (.str []),some (.int 1),some (.ref cells.length),some (.int (Zg (run1 start1 []))),a6,a7,a8,a9,a10])++[.list (gl (Zm (run1 start1 [])))]⟩) :
  Zbk Q ⟨[some (.inst p),none,none,none,none,none,none,none,none,none,none,none,none],cells⟩:=by
 have hp1:=Zn (d:=.inst [a0,a1,some (.str []),some (.int 1),a4,a5,a6,a7,a8,a9,a10]) hp;have hp2:=Zn (d:=.inst [a0,a1,some (.str []),some (.int 1),some (.ref cells.length),a5,a6,a7,a8,a9,a10]) hp;refine s1_a hp (fun c hc=>nomatch hc) (by decide) ?_;rw [Zto];refine s1_b hp1 (by decide) ?_;rw [List.set_set,List.length_set];refine Zjh (Eb.cmp (Ev.var rfl) (Ev.var rfl) rfl) ?_;refine s1_d (s:=start1) hp2 (by decide) (by decide) (by decide) fun loc=>?_;rw [List.set_set];exact h loc
theorem Zqs(hp:cells[p]?=some (.inst [a0,a1,some (.str []),some (.int 0),a4,a5,a6,a7,a8,a9,a10]))
  (h:∀ loc,Q .next ⟨loc,Zha cells p a0 a1 []⟩) :
  Zaa Q ⟨[some (.inst p),none,none,none,none,none,none,none,none,none,none,none,none,none],cells⟩:=by
 refine Ybj _ (Ybk rfl (Ybj _ (Ybj _ (Ybj _ (Ybk rfl (Ybk hp (Ybk rfl ?_)))))));refine Ybj _ (Ybk rfl (Ybj _ (Ybk rfl ?_)));refine Ybk (fun q=>absurd q (by decide)) (fun _=>?_);refine Ybj _ (Ybk rfl (Ybk (Ybj _ (Ybj _ (Ybk rfl hp))) (Ybk rfl ?_)));have hp1:=Zn (d:=.inst [a0,a1,some (.str []),some (.int 1),some (.ref cells.length),some (.int (Zg (run1 start1 []))),a6,a7,a8,a9,a10]) hp;have hbl:(cells.set p (.inst [a0,a1,some (.str []),some (.int 1),some (.ref cells.length),some (.int (Zg (run1 start1 []))),a6,a7,a8,a9,a10])).length=cells.length:=Yce;have e:∀ c,(cells.set p (.inst [a0,a1,some (.str []),some (.int 1),some (.ref cells.length),some (.int (Zg (run1 start1 []))),a6,a7,a8,a9,a10])++[Cell.list (gl (Zm (run1 start1 [])))]).set p c=(cells++[Cell.list (gl (Zm (run1 start1 [])))]).set p c:=fun c=>by rw [Zcj hp1,List.set_set,Zcj hp]
 refine Zih hp fun loc=>?_;have hg:=Zce (cells.set p (.inst [a0,a1,some (.str []),some (.int 1),some (.ref cells.length),some (.int (Zg (run1 start1 []))),a6,a7,a8,a9,a10])) (.list (gl (Zm (run1 start1 []))));rw [hbl] at hg;refine Zjj (Zah hp1) hg (by decide) ?_;have hc0:=Zn (d:=.inst [a0,a1,some (.str []),some (.int 2),some (.ref cells.length),some (.int (Zg (run1 start1 []))),a6,a7,a8,a9,a10]) (Zah hp1 (r:=[.list (gl (Zm (run1 start1 [])))]));refine Zjh (st:=st3 _ _ _ _ _ _ _ _) (Eb.e (v:=.int 0) (Ev.var rfl) rfl) ?_;refine Zft (st:=st3 _ _ _ _ _ _ _ _) (Eb.cmp (a:=.int 0) (Ev.var rfl) Ev.k rfl) ?_;refine (Eb.cmp (a:=.int 0) (Ev.var rfl) Ev.k rfl:Eb _ _ true _) _ ⟨rfl,?_⟩;refine Zdt (Ev.var rfl) ?_;refine Ztv (x:=[]) (pn:=0) (qn:=0) hc0 rfl rfl (Yaa _) (Yaa _) (by decide) (.inl rfl) (R:=told []) (by decide) fun loc=>?_;have h':=h loc;unfold Zha aft at h';exact (congrArg (fun c=>Q .next ⟨loc,c2 c (told []).1 (told []).2.1⟩) ((List.set_set ..).trans (e _))).mpr h'
theorem Zqu(hp:cells[p]?=some (.inst [a0,a1,some (.str x),some (.int 0),a4,a5,a6,a7,a8,a9,a10]))(hx:∀ c∈x,c < 128)(hlast:x=[]∨x.getLast?=some 10)(hl:x.length < 1048576)
  (h:∀ loc,Q .next ⟨loc,cells.set p (.inst [a0,a1,some (.str x),some (.int 1),some (.ref cells.length),some (.int (Zg (run1 start1 x))),a6,a7,a8,a9,a10])++[.list (gl (Zm (run1 start1 x)))]⟩) :
  Zbk Q ⟨[some (.inst p),none,none,none,none,none,none,none,none,none,none,none,none],cells⟩:=by
 rcases hlast with rfl | hlast
 ·exact Zih hp h
 ·exact Zlk hp hx hlast hl h
theorem Zqt(hp:cells[p]?=some (.inst [a0,a1,some (.str x),some (.int 0),a4,a5,a6,a7,a8,a9,a10]))(hx:∀ c∈x,c < 128)(hlast:x=[]∨x.getLast?=some 10)(hl:x.length < 1048576)
  (h:∀ loc,Q .next ⟨loc,Zha cells p a0 a1 x⟩) :
  Zaa Q ⟨[some (.inst p),none,none,none,none,none,none,none,none,none,none,none,none,none],cells⟩:=by
 rcases hlast with rfl | hlast
 ·exact Zqs hp h
 ·exact Zth hp hx hlast hl h
theorem Zds(hp:cells[p]?=some (.inst [a0,a1,a2,a3,a4,a5,a6,a7,a8,a9,a10]))(hlast:x=[]∨x.getLast?=some 10)(hl:x.length < 1048576)
  (h:∀ loc,Q .next ⟨loc,cells.set p (.inst [a0,a1,some (.str x),some (.int 0),a4,a5,a6,a7,a8,a9,a10])⟩):Zap Q ⟨[some (.inst p),some (.str x)],cells⟩:=by
 rcases hlast with rfl | hlast
 ·have hp1:=Zn (d:=.inst [a0,a1,some (.str []),a3,a4,a5,a6,a7,a8,a9,a10]) hp;have fin:=h [some (.inst p),some (.str [])];have e:(cells.set p (.inst [a0,a1,some (.str []),a3,a4,a5,a6,a7,a8,a9,a10])).set p (.inst [a0,a1,some (.str []),some (.int 0),a4,a5,a6,a7,a8,a9,a10])=cells.set p (.inst [a0,a1,some (.str []),some (.int 0),a4,a5,a6,a7,a8,a9,a10]):=List.set_set ..;rw [← e] at fin
  repeat (first
 | exact fin
 | refine Ybj _ (Ybj _ (Ybj _ (Ybk rfl (Ybk hp (Ybk rfl (Ybk rfl ?_))))))
 | refine Ybj _ (Ybj _ (Ybj _ (Ybk rfl (Ybk hp1 (Ybk rfl (Ybk rfl ?_))))))
 | refine eI rfl ?_
 | refine Ybk rfl ?_
 | refine iN (by decide) ?_
 | refine iY (by decide) ?_)
 ·exact Zrc hp hlast hl h
end
end Mine
end
section
set_option tactic.hygienic true
open PySem
set_option maxRecDepth 2000
namespace Mine
section
variable{P P':PE}{st st₁ st₂:St}{w:V}
end
theorem Zpd{T:PB}{Z:PX}{Q:Fl→St→Prop}{st st₁:St}(h:Eb T st true st₁)(k:Z Q st₁):Zb (Zaf T) Z Q st:=h _ ⟨rfl,k⟩
theorem s_attr{P O:PE}{Z:PX}{Q:Fl→St→Prop}{st st₁ st₂:St}{v:V}{n i:Nat}{as:List (Option V)}{o:Option V}(h:Ev P st v st₁)(h':Ev O st₁ (.inst n) st₂)(e:st₂.cells[n]?=some (.inst as))(e':as[i]?=some o)(g:Zlw v=true)(k:Z Q (st₂.setAttr n as i v)):Zb (Zea P O i) Z Q st:=h _ (h' _ ⟨n,as,o,rfl,e,e',g,k⟩)
end Mine
end
section
open PySem
set_option maxRecDepth 4000
namespace Mine
section
variable{cells:List Cell}
end
noncomputable def LsOk(s:M2):Prop:=∀ c∈s.last,c < 128
theorem nrm2_ls{s:M2}{c:Nat}(h:LsOk s)(hc:c < 128):LsOk (nrm2 s c):=by
 have one:∀ d∈[c],d < 128:=fun d hd=>by rw [List.mem_singleton.mp hd]; exact hc
 unfold nrm2
 split
 all_goals first | exact one | exact h | skip
 show ∀ d∈(if isWs c then s.last else [c]),d < 128
 split
 ·exact h
 ·exact one
theorem d2_ls{s:M2}{c:Nat}(h:LsOk s)(hc:c < 128):LsOk (d2 s c):=by
 have n:∀ s,LsOk s→LsOk (nrm2 s c):=fun s h=>nrm2_ls h hc;have a:∀ q s,LsOk s→LsOk (inS2 q s c):=by
  intro q s h;unfold inS2
  split
  ·exact h
  ·split
   ·exact n _ h
   ·split <;> exact h
 have b:∀ q s,LsOk s→LsOk (inT2 q s c):=fun q s h=>by unfold inT2; split <;> exact h
 unfold d2
 split
 ·exact n _ h
 ·exact n _ h
 ·show ∀ d∈(if c=10 then s.last else [92,c]),d < 128
  split
  ·exact h
  ·intro d hd; simp at hd; rcases hd with rfl | rfl
   ·decide
   ·exact hc
 ·split <;> exact h
 all_goals first | exact a _ _ h | exact h | (split <;> first | exact h | exact a _ _ h | exact b _ _ h | exact n _ h)
theorem Zub:∀ {l:List Nat} {s:M2},LsOk s→(∀ c∈l,c < 128)→LsOk (run2 s l)
 | [],_,h,_=>h
 | c :: l,s,h,hl=>by rw [Zd]; exact Zub (d2_ls h (hl c (.head _))) fun d hd=>hl d (.tail _ hd)
theorem told_ls{x:List Nat}(h:∀ c∈x,c < 128):∀ c∈(told x).2.2,c < 128:=by
 have k:=Zub (l:=(x.take (span x).2).drop (span x).1) (s:=⟨.N,(span x).1,[],[((span x).1,0)],[]⟩) (fun c hc=>nomatch hc) fun c hc=>h c (List.mem_of_mem_take (List.mem_of_mem_drop hc));have e:∀ s:M2,(res2 s).2.2=s.last:=fun s=>by unfold res2; split <;> rfl
 unfold told;rw [e]; exact k
theorem Zyc{a b:Int}{s l:List Nat}{rows:List (Nat × Nat)}(hs:∀ c∈s,c < 128):veq (.tup [.int a,.int b,.str s,lobV l,.tup (rv rows)]) (.tup [.int a,.int b,.str s,lobV l,.tup (rv rows)])=some true:=by
 obtain ⟨e,h1,h2,h3⟩:=lob_lay l;refine Zja (d:=.tuple [.int a,.int b,.str ⟨s.toArray⟩,e,.tuple (Zni rows)]) ?_ ?_ ?_
 ·simp only [toPy,Zav,h1,Zic]; rfl
 ·simp only [PyData.canLay0,PyData.canLayAll0,h2,Zpg,Bool.and_true,Bool.true_and];simpa [PyData.canLay0] using Zgg hs
 ·have:=Zil rows;simp only [PyData.depth,PyData.depthAll,h3]; lia
end Mine
end
section
open PySem PySem.W PySem.Calls PyProof.Rows
namespace Mine
noncomputable def Zbz:PB:=(tOr (tE (pCmp .Eq (pLen (pVar 1)) (pC (.int 0)))) (tE (pCmp .Eq (pIdx (pVar 1) (pC (.int (-1)))) (pC (.str [10])))))
noncomputable def Zxr:PX:=Zb (xIf (tE (pCmp .Gt (pVar 1) (pC (.int 0)))) (Zb (Zea (Zcx (Zax (pVar 0) 2) (some (pVar 1)) none) (pVar 0) 2)
 xNil) xNil) xNil
noncomputable def Zmp:PX:=Zb (Zaf (tOr (tE (pCmp .Eq (pVar 1) (pC (.int 0)))) (tE (pCmp .Eq (pIdx (Zax (pVar 0) 2) (pBin .Sub (pVar 1) (pC (.int 1)))) (pC (.str [10])))))) Zxr
noncomputable def Zev:PB:=(tOr (tE (pCmp .Eq (pVar 1) (pC (.int 0)))) (tE (pCmp .Eq (pIdx (Zax (pVar 0) 2) (pBin .Sub (pVar 1) (pC (.int 1)))) (pC (.str [10])))))
noncomputable def Zqk:List Str:=["self","lo"]
noncomputable def Zcn:PX:=Zb (xRet (Zax (pVar 0) 5)) xNil
noncomputable def Zi:PX:=Zb (Zbt (Zbf 1 13 Zbk (pVar 0) pNil)) Zcn
noncomputable def Zan:List Str:=["self"]
noncomputable def Zfl:PX:=Zb (xRet (pCmp .Eq (Zax (pVar 0) 8) (pC (.str [58])))) xNil
noncomputable def Zae:PX:=Zb (Zbt (Zbf 1 14 Zaa (pVar 0) pNil)) Zfl
noncomputable def Zcq:List Str:=["self"]
noncomputable def Zbs:PX:=Zb (xRet (Zax (pVar 0) 10)) xNil
noncomputable def Zl:PX:=Zb (Zbt (Zbf 1 14 Zaa (pVar 0) pNil)) Zbs
noncomputable def Zai:List Str:=["self"]
noncomputable def Zdf:PX:=Zb (xRet (pDct [[],[10],[105,102,32,97,58,10,32,32,102,40,98,44,10],[32,32,102,40,98,44,10],[120,32,61,32,39,39,39,10,121,10],[121,10],[99,41,93,32,92,98,32,92,10],[35,32,100,10,10],[40,101,41,10,103,58,32,35,41,10],[103,58,32,35,41,10],[107,40,34,92,10]] (Za (pTup (Za (pC (.int 0)) (Za (pLst (Za (pC (.int 0)) pNil)) (Za (pTup (Za (pC (.int 0)) (Za (pC (.int 0)) (Za (pC (.str [])) (Za (pC .none) (Za (pTup (Za (pTup (Za (pC (.int 0)) (Za (pC (.int 0)) pNil))) pNil)) pNil)))))) pNil)))) (Za (pTup (Za (pC (.int 0)) (Za (pLst (Za (pC (.int 0)) (Za (pC (.int 1)) pNil))) (Za (pTup (Za (pC (.int 0)) (Za (pC (.int 0)) (Za (pC (.str [])) (Za (pC .none) (Za (pTup (Za (pTup (Za (pC (.int 0)) (Za (pC (.int 0)) pNil))) pNil)) pNil)))))) pNil)))) (Za (pTup (Za (pC (.int 4)) (Za (pLst (Za (pC (.int 0)) (Za (pC (.int 1)) (Za (pC (.int 2)) pNil)))) (Za (pTup (Za (pC (.int 6)) (Za (pC (.int 13)) (Za (pC (.str [44])) (Za (pC (.int 9)) (Za (pTup (Za (pTup (Za (pC (.int 6)) (Za (pC (.int 0)) pNil))) (Za (pTup (Za (pC (.int 9)) (Za (pC (.int 1)) pNil))) pNil))) pNil)))))) pNil)))) (Za (pTup (Za (pC (.int 4)) (Za (pLst (Za (pC (.int 0)) (Za (pC (.int 1)) pNil))) (Za (pTup (Za (pC (.int 0)) (Za (pC (.int 7)) (Za (pC (.str [44])) (Za (pC (.int 3)) (Za (pTup (Za (pTup (Za (pC (.int 0)) (Za (pC (.int 0)) pNil))) (Za (pTup (Za (pC (.int 3)) (Za (pC (.int 1)) pNil))) pNil))) pNil)))))) pNil)))) (Za (pTup (Za (pC (.int 3)) (Za (pLst (Za (pC (.int 0)) (Za (pC (.int 2)) pNil))) (Za (pTup (Za (pC (.int 0)) (Za (pC (.int 10)) (Za (pC (.str [39])) (Za (pC .none) (Za (pTup (Za (pTup (Za (pC (.int 0)) (Za (pC (.int 0)) pNil))) (Za (pTup (Za (pC (.int 4)) (Za (pC (.int 1)) pNil))) (Za (pTup (Za (pC (.int 10)) (Za (pC (.int 0)) pNil))) pNil)))) pNil)))))) pNil)))) (Za (pTup (Za (pC (.int 0)) (Za (pLst (Za (pC (.int 0)) (Za (pC (.int 1)) pNil))) (Za (pTup (Za (pC (.int 0)) (Za (pC (.int 2)) (Za (pC (.str [121])) (Za (pC .none) (Za (pTup (Za (pTup (Za (pC (.int 0)) (Za (pC (.int 0)) pNil))) pNil)) pNil)))))) pNil)))) (Za (pTup (Za (pC (.int 1)) (Za (pLst (Za (pC (.int 0)) (Za (pC (.int 1)) pNil))) (Za (pTup (Za (pC (.int 0)) (Za (pC (.int 9)) (Za (pC (.str [92,98])) (Za (pC .none) (Za (pTup (Za (pTup (Za (pC (.int 0)) (Za (pC (.int 0)) pNil))) (Za (pTup (Za (pC (.int 2)) (Za (pC (.int 0)) pNil))) (Za (pTup (Za (pC (.int 3)) (Za (pC (.int 0)) pNil))) pNil)))) pNil)))))) pNil)))) (Za (pTup (Za (pC (.int 0)) (Za (pLst (Za (pC (.int 0)) (Za (pC (.int 1)) (Za (pC (.int 2)) pNil)))) (Za (pTup (Za (pC (.int 0)) (Za (pC (.int 4)) (Za (pC (.str [])) (Za (pC .none) (Za (pTup (Za (pTup (Za (pC (.int 0)) (Za (pC (.int 0)) pNil))) (Za (pTup (Za (pC (.int 0)) (Za (pC (.int 1)) pNil))) (Za (pTup (Za (pC (.int 4)) (Za (pC (.int 0)) pNil))) pNil)))) pNil)))))) pNil)))) (Za (pTup (Za (pC (.int 0)) (Za (pLst (Za (pC (.int 0)) (Za (pC (.int 1)) (Za (pC (.int 2)) pNil)))) (Za (pTup (Za (pC (.int 4)) (Za (pC (.int 10)) (Za (pC (.str [58])) (Za (pC .none) (Za (pTup (Za (pTup (Za (pC (.int 4)) (Za (pC (.int 0)) pNil))) (Za (pTup (Za (pC (.int 7)) (Za (pC (.int 1)) pNil))) (Za (pTup (Za (pC (.int 10)) (Za (pC (.int 0)) pNil))) pNil)))) pNil)))))) pNil)))) (Za (pTup (Za (pC (.int 0)) (Za (pLst (Za (pC (.int 0)) (Za (pC (.int 1)) pNil))) (Za (pTup (Za (pC (.int 0)) (Za (pC (.int 6)) (Za (pC (.str [58])) (Za (pC .none) (Za (pTup (Za (pTup (Za (pC (.int 0)) (Za (pC (.int 0)) pNil))) (Za (pTup (Za (pC (.int 3)) (Za (pC (.int 1)) pNil))) (Za (pTup (Za (pC (.int 6)) (Za (pC (.int 0)) pNil))) pNil)))) pNil)))))) pNil)))) (Za (pTup (Za (pC (.int 2)) (Za (pLst (Za (pC (.int 0)) (Za (pC (.int 1)) pNil))) (Za (pTup (Za (pC (.int 0)) (Za (pC (.int 5)) (Za (pC (.str [34])) (Za (pC (.int 1)) (Za (pTup (Za (pTup (Za (pC (.int 0)) (Za (pC (.int 0)) pNil))) (Za (pTup (Za (pC (.int 1)) (Za (pC (.int 1)) pNil))) (Za (pTup (Za (pC (.int 2)) (Za (pC (.int 2)) pNil))) (Za (pTup (Za (pC (.int 5)) (Za (pC (.int 1)) pNil))) pNil))))) pNil)))))) pNil)))) pNil))))))))))))) xNil
noncomputable def Zhh:List Str:=[]
noncomputable def Zcm:PX:=Zb (xRet (pTup (Za (Zax (pVar 0) 6) (Za (Zax (pVar 0) 7) (Za (Zax (pVar 0) 8) (Za (Zax (pVar 0) 9) (Za (Zax (pVar 0) 10) pNil))))))) xNil
noncomputable def Zix:List Str:=["parser"]
noncomputable def Zmq:PX:=Zb (xRet (pTup (Za (pVar 2) (Za (Zax (pVar 1) 4) (Za (pDef 1 1 Zcm (Za (pVar 1) pNil)) pNil))))) xNil
noncomputable def Zmr:PX:=Zb (Zbt (Zbf 1 14 Zaa (pVar 1) pNil)) Zmq
noncomputable def Zfq:PX:=Zb (xSet 2 (Zbf 1 1 Zi (pVar 1) pNil)) Zmr
noncomputable def Zms:PX:=Zb (Zbt (Zbf 2 2 Zap (pVar 1) (Za (pVar 0) pNil))) Zfq
noncomputable def Zca:PX:=Zb (xSet 1 (Zul 11 3 3 Zon (Za (pC (.int 4)) (Za (pC (.int 8)) pNil)))) Zms
noncomputable def Zhi:List Str:=["code","parser","kind"]
noncomputable def Zsk:PX:=Zb (xIf (tAnd (tE (pCmp .Gt (pVar 5) (pC (.int 1)))) (tE (pCmp .NotEq (pDef 1 1 Zcm (Za (pVar 4) pNil)) (pIdx (pVar 6) (pC (.int 2)))))) (Zb (xRet (pC (.bool false)))
 xNil) xNil) xNil
noncomputable def Zsl:PX:=Zb (xIf (tAnd (tE (pCmp .Gt (pVar 5) (pC (.int 0)))) (tE (pNeC (pTup (Za (Zax (pVar 4) 5) (Za (Zax (pVar 4) 4) pNil))) (Zcx (pVar 6) none (some (pC (.int 2))))))) (Zb (xRet (pC (.bool false)))
 xNil) xNil) Zsk
noncomputable def Zv:PX:=Zb (xIf (tE (pCmp .NotEq (pTup (Za (Zax (pVar 4) 2) (Za (Zax (pVar 4) 3) pNil))) (pTup (Za (pBox 1) (Za (pVar 5) pNil))))) (Zb (xRet (pC (.bool false)))
 xNil) xNil) Zsl
noncomputable def Zz:PX:=Zb (xIf (tE (pCmp .Eq (pVar 8) (pC (.int 0)))) (Zb (Zdq [(sBox 1),(Zw 5)] (pTup (Za (pIdx (pVar 2) (pBin .Mod (pVar 9) (pC (.int 8)))) (Za (pC (.int 0)) pNil))))
 (Zb (xIf (tE (pCmp .IsNot (Zbf 2 2 Zap (pVar 4) (Za (pBox 1) pNil)) (pC .none))) (Zb (xRet (pC (.bool false)))
 xNil) xNil)
 xNil)) (Zb (xIf (tE (pCmp .Eq (pVar 8) (pC (.int 1)))) (Zb (xTry (Zuc 2 2 Zbz (pVar 4) (Za (pBin .Add (pIdx (pVar 2) (pBin .Mod (pVar 9) (pC (.int 8)))) (pC (.str [104]))) pNil)))
 xNil) (Zb (xIf (tE (pCmp .Eq (pVar 8) (pC (.int 2)))) (Zb (xSet 10 (pBin .Add (pLst (Za (pC (.int 0)) pNil)) (Zjn 1 (itR1 (pLen (pBox 1))) (Zw 0) (tE (pCmp .Eq (pIdx (pBox 1) (pVar 0)) (pC (.str [10])))) (pBin .Add (pVar 0) (pC (.int 1))))))
 (Zb (xSet 11 (pIte (tE (pCmp .Eq (pVar 5) (pC (.int 1)))) (pC (.int 0)) (pIdx (pVar 10) (pBin .Mod (pVar 9) (pLen (pVar 10))))))
 (Zb (xIf (tE (pCmp .IsNot (Zbf 2 2 Zmp (pVar 4) (Za (pVar 11) pNil)) (pC .none))) (Zb (xRet (pC (.bool false)))
 xNil) xNil)
 (Zb (xTo (sBox 1) (Zcx (pBox 1) (some (pVar 11)) none))
 xNil)))) (Zb (xIf (tE (pCmp .Eq (pVar 8) (pC (.int 3)))) (Zb (xSet 10 (Zjn 1 (itR1 (pLen (pBox 1))) (Zw 0) (tE (pCmp .NotEq (pIdx (pBox 1) (pVar 0)) (pC (.str [10])))) (pBin .Add (pVar 0) (pC (.int 1)))))
 (Zb (xIf (tE (pCmp .NotEq (pVar 10) (pLst pNil))) (Zb (xTry (Zuc 2 2 Zev (pVar 4) (Za (pIdx (pVar 10) (pBin .Mod (pVar 9) (pLen (pVar 10)))) pNil)))
 xNil) xNil)
 xNil)) (Zb (xIf (tE (pCmp .Eq (pVar 5) (pC (.int 0)))) (Zb (xSet 6 (pIte (tE (pHas (pBox 1) (pVar 3))) (pGet (pVar 3) (pBox 1)) (pDef 1 3 Zca (Za (pBox 1) pNil))))
 xNil) xNil)
 (Zb (xSet 5 (pMM true (pVar 5) (pIte (tE (pCmp .Eq (pVar 8) (pC (.int 4)))) (pC (.int 1)) (pC (.int 2)))))
 (Zb (xIf (tAnd (tE (pCmp .Eq (pVar 8) (pC (.int 4)))) (tE (pCmp .NotEq (Zbf 1 1 Zi (pVar 4) pNil) (pIdx (pVar 6) (pC (.int 0)))))) (Zb (xRet (pC (.bool false)))
 xNil) xNil)
 (Zb (xIf (tAnd (tE (pCmp .Eq (pVar 8) (pC (.int 5)))) (tE (pCmp .IsNot (Zbf 1 14 Zaa (pVar 4) pNil) (pC .none)))) (Zb (xRet (pC (.bool false)))
 xNil) xNil)
 (Zb (xIf (tAnd (tE (pCmp .Eq (pVar 8) (pC (.int 6)))) (tE (pCmp .NotEq (Zbf 1 1 Zl (pVar 4) pNil) (pIdx (pIdx (pVar 6) (pC (.int 2))) (pC (.int 4)))))) (Zb (xRet (pC (.bool false)))
 xNil) xNil)
 (Zb (xIf (tAnd (tE (pCmp .Eq (pVar 8) (pC (.int 7)))) (tE (pCmp .NotEq (Zbf 1 1 Zae (pVar 4) pNil) (pCmp .Eq (pIdx (pIdx (pVar 6) (pC (.int 2))) (pC (.int 2))) (pC (.str [58])))))) (Zb (xRet (pC (.bool false)))
 xNil) xNil)
 xNil)))))))
 xNil))
 xNil))
 xNil)) Zv
noncomputable def Zom:PX:=Zb (Zmt [(Zw 9),(Zw 8)] (pTup (Za (pBin .Mod (pVar 7) (pC (.int 8))) (Za (pBin .FloorDiv (pVar 7) (pC (.int 8))) pNil)))) Zz
noncomputable def Zxs:PX:=Zb (xRet (pC (.bool true))) xNil
noncomputable def Xlaw_t6:PX:=Zb (xFor (Zw 7) (itV (pBin .Add (Zcx (pVar 0) none (some (pC (.int 16)))) (pLst (Za (pC (.int 5)) (Za (pC (.int 10)) (Za (pC (.int 6)) (Za (pC (.int 1)) (Za (pC (.int 3)) (Za (pC (.int 4)) (Za (pC (.int 0)) (Za (pC (.int 7)) (Za (pC (.int 8)) (Za (pC (.int 6)) (Za (pC (.int 16)) (Za (pC (.int 5)) (Za (pC (.int 40)) (Za (pC (.int 7)) (Za (pC (.int 48)) (Za (pC (.int 4)) (Za (pC (.int 6)) pNil)))))))))))))))))))) Zom xNil) Zxs
noncomputable def Zxt:PX:=Zb (Zbt (Zbf 2 2 Zap (pVar 4) (Za (pBox 1) pNil))) Xlaw_t6
noncomputable def Zxu:PX:=Zb (Zdq [(sBox 1),(Zw 5),(Zw 6)] (pTup (Za (pIdx (pVar 2) (pC (.int 0))) (Za (pC (.int 0)) (Za (pC .none) pNil))))) Zxt
noncomputable def Xlaw_t3:PX:=Zb (Zmt [(Zw 4),(Zw 3)] (pTup (Za (pDef 0 0 Zdf pNil) (Za (Zul 11 3 3 Zon (Za (pC (.int 4)) (Za (pC (.int 8)) pNil))) pNil)))) Zxu
noncomputable def Zxv:PX:=Zb (xSet 2 (pLst (Za (pC (.str [105,102,32,97,58,10,32,32,102,40,98,44,10])) (Za (pC (.str [120,32,61,32,39,39,39,10,121,10])) (Za (pC (.str [99,41,93,32,92,98,32,92,10])) (Za (pC (.str [35,32,100,10,10])) (Za (pC (.str [])) (Za (pC (.str [40,101,41,10,103,58,32,35,41,10])) (Za (pC (.str [107,40,34,92,10])) (Za (pVar 1) pNil)))))))))) Xlaw_t3
noncomputable def Xlaw_t1:PX:=Zb (xSet 1 (pBin .Add (pSM .join (pC (.str [])) (Za (Zjn 1 (itV (Zcx (pVar 0) none (some (pC (.int 8))))) (Zw 0) tYes (pIdx (pBox 0) (pBin .Mod (pBin .Add (pVar 0) (pBin .FloorDiv (pVar 0) (pC (.int 64)))) (pC (.int 16))))) pNil)) (pC (.str [10])))) Zxv
noncomputable def Xlaw:PX:=Zb (xTo (sBox 0) (pLst (Za (pC (.str [97])) (Za (pC (.str [40])) (Za (pC (.str [41])) (Za (pC (.str [10])) (Za (pC (.str [34])) (Za (pC (.str [39])) (Za (pC (.str [35])) (Za (pC (.str [92])) (Za (pC (.str [32])) (Za (pC (.str [91])) (Za (pC (.str [93])) (Za (pC (.str [39,39,39])) (Za (pC (.str [34,34,34])) (Za (pC (.str [92,10])) (Za (pC (.str [35,32,98,10])) (Za (pC (.str [35,98,10])) pNil)))))))))))))))))) Xlaw_t1
noncomputable def Xlaw_n:List Str:=["script","drawn","texts","known","parser","level","due","x","call","y","places","lo"]
noncomputable def mG:List (Str × Nat × Nat × PX):=[("_study1",1,13,Zbk)]
noncomputable def mB:List (Str × Nat × Nat × PX):=[("_study2",1,14,Zaa)]
noncomputable def gF:List (Str × G):=gS++([("Parser",.cls 11 3 3 Zon),("_law_told",.fn 1 1 Zcm)]:List (Str × G))
noncomputable def mF:List (Str × Nat × Nat × PX):=[("set_code",2,2,Zap),("_study2",1,14,Zaa),("get_continuation_type",1,1,Zi)]
noncomputable def gL:List (Str × G):=gS++([("_law_known",.fn 0 0 Zdf),("_law_told",.fn 1 1 Zcm),("_law_fresh",.fn 1 3 Zca),("Parser",.cls 11 3 3 Zon),("max",.mm true),("AssertionError",.exc),("set_code",.rz 2 2 Zbz),("set_lo",.rz 2 2 Zev)]:List (Str × G))
noncomputable def mL:List (Str × Nat × Nat × PX):=[("set_code",2,2,Zap),("set_lo",2,2,Zmp),("_study2",1,14,Zaa),("get_continuation_type",1,1,Zi),("is_block_opener",1,1,Zae),("get_last_stmt_bracketing",1,1,Zl)]
noncomputable def cxLo(sc:Scope):Ctx:=⟨Zqk,sc,attrsP,gS,[],fun _=>true,[]⟩
noncomputable def cxG(sc:Scope):Ctx:=⟨Zan,sc,attrsP,gS,mG,fun _=>true,[]⟩
noncomputable def cxBO(sc:Scope):Ctx:=⟨Zcq,sc,attrsP,gS,mB,fun _=>true,[]⟩
noncomputable def cxGL(sc:Scope):Ctx:=⟨Zai,sc,attrsP,gS,mB,fun _=>true,[]⟩
noncomputable def cxK(sc:Scope):Ctx:=⟨Zhh,sc,attrsP,gS,[],fun _=>false,[]⟩
noncomputable def cxT(sc:Scope):Ctx:=⟨Zix,sc,attrsP,gS,[],fun _=>false,[]⟩
noncomputable def cxF(sc:Scope):Ctx:=⟨Zhi,sc,attrsP,gF,mF,fun _=>false,[]⟩
noncomputable def cxL(sc:Scope):Ctx:=⟨Xlaw_n,sc,attrsP,gL,mL,fun p=>p.line == 294 || (p.line == 306 && p.col == 25),[("pieces",0),("code",1)]⟩
end Mine
end
section
open PySem
set_option maxRecDepth 4000
namespace Mine
structure Fit(x:List Nat):Prop where
 s:∀ c∈x,c < 128
 l:x=[]∨x.getLast?=some 10
 n:x.length < 500
noncomputable abbrev cO(x:List Nat):Int:=Zg (run1 start1 x)
noncomputable abbrev gO(x:List Nat):List V:=gl (Zm (run1 start1 x))
noncomputable def ans5(x:List Nat):V:=.tup [.int (span x).1,.int (span x).2,.str (told x).2.2,lobV (told x).1,.tup (rv (told x).2.1)]
inductive Pz(cells:List Cell)(p:Nat)(code base:List Nat):Nat→Prop
 | z (a4 a5 a6 a7 a8 a9 a10:Option V) (h:cells[p]?=some (Zey (some (.str code)) (some (.int 0)) a4 a5 a6 a7 a8 a9 a10)):Pz cells p code base 0
 | one (g:Nat) (a6 a7 a8 a9 a10:Option V) (h:cells[p]?=some (Zey (some (.str code)) (some (.int 1)) (some (.ref g)) (some (.int (cO base))) a6 a7 a8 a9 a10)) (hg:cells[g]?=some (.list (gO base))) (e:code=base):Pz cells p code base 1
 | two (g:Nat) (h:cells[p]?=some (Zey (some (.str code)) (some (.int 2)) (some (.ref g)) (some (.int (cO base))) (some (.int (span base).1)) (some (.int (span base).2)) (some (.str (told base).2.2)) (some (lobV (told base).1)) (some (.tup (rv (told base).2.1))))) (hg:cells[g]?=some (.list (gO base))):Pz cells p code base 2
noncomputable def Kp(p:Nat)(a b:List Cell):Prop:=∀ i c,i≠p→a[i]?=some c→b[i]?=some c
theorem Kp.refl(p:Nat)(a:List Cell):Kp p a a:=fun _ _ _ h=>h
theorem Kp.trans{p:Nat}{a b c:List Cell}(h:Kp p a b)(h':Kp p b c):Kp p a c:=fun i d hi e=>h' i d hi (h i d hi e)
section
variable{cells:List Cell}{p:Nat}{code base:List Nat}{lv:Nat}
theorem Pz.inst(h:Pz cells p code base lv):∃ a4 a5 a6 a7 a8 a9 a10,cells[p]?=some (Zey (some (.str code)) (some (.int lv)) a4 a5 a6 a7 a8 a9 a10):=by
 cases h with
 | z a4 a5 a6 a7 a8 a9 a10 h=>exact ⟨_,_,_,_,_,_,_,h⟩
 | one g a6 a7 a8 a9 a10 h hg e=>exact ⟨_,_,_,_,_,_,_,h⟩
 | two g h hg=>exact ⟨_,_,_,_,_,_,_,h⟩
theorem Zdv{cells:List Cell}{p g:Nat}{as:List (Option V)}{us:List V}(h:cells[p]?=some (.inst as))(hg:cells[g]?=some (.list us)):g≠p:=by rintro rfl; rw [h] at hg; cases hg
theorem Zhk{a0 a1 a6 a7 a8 a9 a10:Option V}{g:Nat}{Q:Fl→St→Prop}(hp:cells[p]?=some (.inst [a0,a1,some (.str []),some (.int 1),some (.ref g),some (.int (cO [])),a6,a7,a8,a9,a10]))(hg:cells[g]?=some (.list (gO [])))
  (h:∀ loc,Q .next ⟨loc,aft cells p a0 a1 g []⟩):Zaa Q ⟨[some (.inst p),none,none,none,none,none,none,none,none,none,none,none,none,none],cells⟩:=by
 refine Ybj _ (Ybk rfl (Ybj _ (Ybj _ (Ybj _ (Ybk rfl (Ybk hp (Ybk rfl ?_)))))));refine Ybj _ (Ybk rfl (Ybj _ (Ybk rfl ?_)));refine Ybk (fun q=>absurd q (by decide)) (fun _=>?_);refine Ybj _ (Ybk rfl (Ybk (Ybj _ (Ybj _ (Ybk rfl hp))) (Ybk rfl ?_)));refine Ybj _ (Ybk rfl (Ybj _ (Ybj _ (Ybj _ (Ybk rfl (Ybk hp (Ybk rfl ?_)))))));refine Ybj _ (Ybk rfl (Ybj _ (Ybk rfl ?_)));refine Ybk (fun _=>?_) (fun q=>absurd q (by decide));refine Zjj hp hg (by decide) ?_;have hc0:=Zn (d:=.inst [a0,a1,some (.str []),some (.int 2),some (.ref g),some (.int (cO [])),a6,a7,a8,a9,a10]) hp;refine Zjh (st:=st3 _ _ _ _ _ _ _ _) (Eb.e (v:=.int 0) (Ev.var rfl) rfl) ?_;refine Zft (st:=st3 _ _ _ _ _ _ _ _) (Eb.cmp (a:=.int 0) (Ev.var rfl) Ev.k rfl) ?_;refine (Eb.cmp (a:=.int 0) (Ev.var rfl) Ev.k rfl:Eb _ _ true _) _ ⟨rfl,?_⟩;refine Zdt (Ev.var rfl) ?_;refine Ztv (x:=[]) (pn:=0) (qn:=0) hc0 rfl rfl (Yaa _) (Yaa _) (by decide) (.inl rfl) (R:=told []) (by decide) fun loc=>?_;have h':=h loc;unfold aft at h';exact (congrArg (fun c=>Q .next ⟨loc,c2 c (told []).1 (told []).2.1⟩) (List.set_set ..)).mpr h'
theorem go1(h:Pz cells p code base lv)(F:Fit code)(e:lv=0→base=code):∃ cells' fl,flV fl=.none∧Kp p cells cells'∧Pz cells' p code base (max lv 1)∧∀ Q:Fl→St→Prop,(∀ loc,Q fl ⟨loc,cells'⟩)→Zbk Q ⟨[some (.inst p),none,none,none,none,none,none,none,none,none,none,none,none],cells⟩:=by
 cases h with
 | z a4 a5 a6 a7 a8 a9 a10 h =>
  have e:=e rfl;subst e;have hp:=(Yi.mp h).1;refine ⟨cells.set p (Zey (some (.str base)) (some (.int 1)) (some (.ref cells.length)) (some (.int (cO base))) a6 a7 a8 a9 a10)++[Cell.list (gO base)],.next,rfl,fun i c hi hc=>Zah (by rw [List.getElem?_set_ne hi.symm]; exact hc),.one cells.length a6 a7 a8 a9 a10 (Zah (Zn h)) (by rw [List.getElem?_append_right (by rw [List.length_set]; exact Yaa _),Yce,Nat.sub_self]; rfl) rfl,fun Q k=>Zqu h F.s F.l (Ycb F.n (by decide)) k⟩
 | one g a6 a7 a8 a9 a10 h hg e'=>exact ⟨cells,.ret .none,rfl,.refl _ _,.one g a6 a7 a8 a9 a10 h hg e',fun Q k=>Zft (Eb.cmp (Ev.attr (Ev.var rfl) h rfl) Ev.k rfl) (k _)⟩
 | two g h hg=>exact ⟨cells,.ret .none,rfl,.refl _ _,.two g h hg,fun Q k=>Zft (Eb.cmp (Ev.attr (Ev.var rfl) h rfl) Ev.k rfl) (k _)⟩
theorem go2(h:Pz cells p code base lv)(F:Fit code)(e:lv=0→base=code):∃ cells' fl,flV fl=.none∧Kp p cells cells'∧Pz cells' p code base 2∧∀ Q:Fl→St→Prop,(∀ loc,Q fl ⟨loc,cells'⟩)→Zaa Q ⟨[some (.inst p),none,none,none,none,none,none,none,none,none,none,none,none,none],cells⟩:=by
 have hn:code.length < 1048576:=Ycb F.n (by decide);cases h with
 | z a4 a5 a6 a7 a8 a9 a10 h =>
  have e:=e rfl;subst e;have hp:=(Yi.mp h).1;refine ⟨Zha cells p (some (.int 4)) (some (.int 8)) base,.next,rfl,fun i c hi hc=>Zqj hi (Zah hc),.two cells.length (Zrx h) (Zqj (Yaz hp) (Zdl _ _)),fun Q k=>Zqt h F.s F.l hn k⟩
 | one g a6 a7 a8 a9 a10 h hg e' =>
  subst e';have k:∀ Q:Fl→St→Prop,(∀ loc,Q .next ⟨loc,aft cells p (some (.int 4)) (some (.int 8)) g code⟩)→Zaa Q ⟨[some (.inst p),none,none,none,none,none,none,none,none,none,none,none,none,none],cells⟩:=fun Q k=>by
   rcases F.l with hl | hl
   ·subst hl; exact Zhk h hg k
   ·exact Zqr h hg hl hn k
  exact ⟨_,.next,rfl,fun i c hi hc=>Zqj hi hc,.two g (Zxo h) (Zqj (Zdv h hg) hg),k⟩
 | two g h hg=>exact ⟨cells,.ret .none,rfl,.refl _ _,.two g h hg,fun Q k=>Zft (Eb.cmp (Ev.attr (Ev.var rfl) h rfl) Ev.k rfl) (k _)⟩
end
section
variable{st:St}{p:Nat}{code base:List Nat}{lv:Nat}{P:PE}
theorem Ev.gct(hP:Ev P st (.inst p) st)(h:Pz st.cells p code base lv)(F:Fit code)(e:lv=0→base=code):∃ cells',Kp p st.cells cells'∧Pz cells' p code base (max lv 1)∧Ev (Zbf 1 1 Zi P pNil) st (.int (cO base)) ⟨st.loc,cells'⟩:=by
 obtain ⟨cells',fl,hf,k,h',run⟩:=go1 h F e;obtain ⟨a4,a5,a6,a7,a8,a9,a10,hi⟩:=h.inst;refine ⟨cells',k,h',Ev.meth hP hi Es.nil rfl (fun Q k=>?_) (fl:=.ret (.int (cO base))) rfl⟩;refine Zij (Ev.meth (Ev.var rfl) hi Es.nil rfl run hf) ?_;have hl:1≤max lv 1:=Nat.le_max_right _ _;generalize max lv 1=l at h' hl;cases h' with
 | z=>exact absurd hl (by decide)
 | one g a6 a7 a8 a9 a10 h hg e'=>exact Zlo (Ev.attr (Ev.var rfl) h rfl) (k _)
 | two g h hg=>exact Zlo (Ev.attr (Ev.var rfl) h rfl) (k _)
theorem Ev.st2(hP:Ev P st (.inst p) st)(h:Pz st.cells p code base lv)(F:Fit code)(e:lv=0→base=code):∃ cells',Kp p st.cells cells'∧Pz cells' p code base 2∧Ev (Zbf 1 14 Zaa P pNil) st .none ⟨st.loc,cells'⟩:=by
 obtain ⟨cells',fl,hf,k,h',run⟩:=go2 h F e;obtain ⟨a4,a5,a6,a7,a8,a9,a10,hi⟩:=h.inst;exact ⟨cells',k,h',Ev.meth hP hi Es.nil rfl run hf⟩
theorem Ev.gls(hP:Ev P st (.inst p) st)(h:Pz st.cells p code base lv)(F:Fit code)(e:lv=0→base=code):∃ cells',Kp p st.cells cells'∧Pz cells' p code base 2∧Ev (Zbf 1 1 Zl P pNil) st (.tup (rv (told base).2.1)) ⟨st.loc,cells'⟩:=by
 obtain ⟨cells',fl,hf,k,h',run⟩:=go2 h F e;obtain ⟨a4,a5,a6,a7,a8,a9,a10,hi⟩:=h.inst;refine ⟨cells',k,h',Ev.meth hP hi Es.nil rfl (fun Q k=>?_) (fl:=.ret _) rfl⟩;refine Zij (Ev.meth (Ev.var rfl) hi Es.nil rfl run hf) ?_;cases h' with
 | two g h hg=>exact Zlo (Ev.attr (Ev.var rfl) h rfl) (k _)
theorem Ev.ibo(hP:Ev P st (.inst p) st)(h:Pz st.cells p code base lv)(F:Fit code)(e:lv=0→base=code):∃ cells',Kp p st.cells cells'∧Pz cells' p code base 2∧Ev (Zbf 1 1 Zae P pNil) st (.bool ((told base).2.2 == [58])) ⟨st.loc,cells'⟩:=by
 obtain ⟨cells',fl,hf,k,h',run⟩:=go2 h F e;obtain ⟨a4,a5,a6,a7,a8,a9,a10,hi⟩:=h.inst;refine ⟨cells',k,h',Ev.meth hP hi Es.nil rfl (fun Q k=>?_) (fl:=.ret _) rfl⟩;refine Zij (Ev.meth (Ev.var rfl) hi Es.nil rfl run hf) ?_;cases h' with
 | two g h hg=>exact Zlo (Ev.cmp (Ev.attr (Ev.var rfl) h rfl) Ev.k (eq_str _ _)) (k _)
theorem Ev.told(hP:Ev P st (.inst p) st)(h:Pz st.cells p code base 2):Ev (pDef 1 1 Zcm (Za P pNil)) st (ans5 base) st:=by
 cases h with
 | two g h hg=>exact Ev.call (cells:=st.cells) (Es.cons hP Es.nil) rfl (fun Q k=>Zlo (Ev.tup (Es.cons (Ev.attr (Ev.var rfl) h rfl) (Es.cons (Ev.attr (Ev.var rfl) h rfl) (Es.cons (Ev.attr (Ev.var rfl) h rfl) (Es.cons (Ev.attr (Ev.var rfl) h rfl) (Es.cons (Ev.attr (Ev.var rfl) h rfl) Es.nil))))) (Ye rfl)) (k _)) (fl:=.ret _) rfl
theorem Ev.setc{P':PE}{x:List Nat}(hP:Ev P st (.inst p) st)(hx:Ev P' st (.str x) st)(h:Pz st.cells p code base lv)(F:Fit x):∃ cells',Kp p st.cells cells'∧(∀ b,Pz cells' p x b 0)∧Ev (Zbf 2 2 Zap P (Za P' pNil)) st .none ⟨st.loc,cells'⟩:=by
 obtain ⟨a4,a5,a6,a7,a8,a9,a10,hi⟩:=h.inst;exact ⟨_,fun i c hn hc=>(by rw [List.getElem?_set_ne hn.symm]; exact hc),fun b=>.z a4 a5 a6 a7 a8 a9 a10 (Zn hi),Ev.meth hP hi (Es.cons hx Es.nil) rfl (fun Q k=>Zds hi F.l (Ycb F.n (by decide)) k) (fl:=.next) rfl⟩
theorem Ev.fresh(hP:Ev P st (.str code) st)(F:Fit code):∃ (cells':List Cell) (g:Nat),(∀ (i:Nat) (c:Cell),st.cells[i]?=some c→cells'[i]?=some c)∧cells'[g]?=some (.list (gO code))∧Ev (pDef 1 3 Zca (Za P pNil)) st (.tup [.int (cO code),.ref g,ans5 code]) ⟨st.loc,cells'⟩:=by
 have p0:∀ b,Pz (st.cells++[Zey (some (.str code)) (some (.int 0)) none none none none none none none]) st.cells.length code b 0:=fun b=>.z _ _ _ _ _ _ _ (Zdl _ _);obtain ⟨c1,k1,z1,e1⟩:=Ev.gct (P:=pVar 1) (st:=⟨[some (.str code),some (.inst st.cells.length),none],st.cells++[Zey (some (.str code)) (some (.int 0)) none none none none none none none]⟩) (Ev.var rfl) (p0 code) F fun _=>rfl;obtain ⟨c2,k2,z2,e2⟩:=Ev.st2 (P:=pVar 1) (st:=⟨[some (.str code),some (.inst st.cells.length),some (.int (cO code))],c1⟩) (Ev.var rfl) z1 F fun h=>absurd h (by decide);have e3:=Ev.told (P:=pVar 1) (st:=⟨[some (.str code),some (.inst st.cells.length),some (.int (cO code))],c2⟩) (Ev.var rfl) z2;cases z2 with
 | two g h hg =>
  refine ⟨c2,g,fun i c hc=>k2 i c (Yao (Yi.mp hc).1) (k1 i c (Yao (Yi.mp hc).1) (Zah hc)),hg,Ev.call (Es.cons hP Es.nil) rfl (fun Q k=>?_) (fl:=.ret _) rfl⟩;refine Zdt (Ev.make _) ?_;refine Zij (Ev.meth (Ev.var rfl) (Zdl st.cells Zjm) (Es.cons (Ev.var rfl) Es.nil) rfl (fun Q k=>Zds (Zdl st.cells Zjm) F.l (Ycb F.n (by decide)) k) (fl:=.next) rfl) ?_;have e0:(st.cells++[Zjm]).set st.cells.length (Zey (some (.str code)) (some (.int 0)) none none none none none none none)=st.cells++[Zey (some (.str code)) (some (.int 0)) none none none none none none none]:=Zgc _ _ _;show Zfq Q ⟨[some (.str code),some (.inst st.cells.length),none],(st.cells++[Zjm]).set st.cells.length (Zey (some (.str code)) (some (.int 0)) none none none none none none none)⟩;rw [e0];refine Zdt e1 (Zij e2 ?_);exact Zlo (Ev.tup (Es.cons (Ev.var rfl) (Es.cons (Ev.attr (Ev.var rfl) h rfl) (Es.cons e3 Es.nil))) (Ye rfl)) (k _)
end
end Mine
namespace Mine
theorem Fit.drop{x:List Nat}(F:Fit x)(n:Nat):Fit (x.drop n):=by
 refine ⟨fun c hc=>F.s c (List.mem_of_mem_drop hc),?_,by rw [List.length_drop]; exact Yh (Nat.sub_le _ _) F.n⟩
 by_cases h:x.drop n=[]
 ·exact .inl h
 ·refine .inr ?_
  rcases F.l with e | e
  ·subst e; exact absurd (List.drop_nil ..) h
  ·have h2:=e;rw [← List.take_append_drop n x,List.getLast?_append] at h2;cases q:(x.drop n).getLast? with
   | none=>exact absurd (Ycf.mp q) h
   | some c=>rw [q] at h2; exact h2
noncomputable def pz(f:Nat→Bool):List Nat→Nat→List Nat
 | [],_=>[]
 | c :: x,k=>if f c=true then (k + 1) :: pz f x (k + 1) else pz f x (k + 1)
theorem Zue{f:Nat→Bool}:∀ {x:List Nat} {k p:Nat},p∈pz f x k→∃ j c,x[j]?=some c∧f c=true∧p=k + j + 1
 | c :: x,k,p,h=>by
  have up:p∈pz f x (k + 1)→∃ j c',(c :: x)[j]?=some c'∧f c'=true∧p=k + j + 1:=fun h=>by
   obtain ⟨j,c',h1,h2,h3⟩:=Zue h;exact ⟨j + 1,c',h1,h2,by rw [h3,Nat.add_right_comm k 1 j]; rfl⟩
  unfold pz at h
  by_cases q:f c=true
  ·rw [if_pos q] at h
   rcases Ym.mp h with rfl | h
   ·exact ⟨0,c,rfl,q,rfl⟩
   ·exact up h
  ·rw [if_neg q] at h; exact up h
theorem Zuf(f:Nat→Bool):∀ (x:List Nat) (k:Nat),(pz f x k).length≤x.length
 | [],_=>Yaa _
 | c :: x,k=>by
  have:=Zuf f x (k + 1);unfold pz
  split
  ·exact Yag this
  ·exact Yby this
section
variable{cells:List Cell}{code:List Nat}
theorem Zug{op:CmpOp}{f:Nat→Bool}(hop:∀ c,Zes op (.str [c]) (.str [10])=some (.bool (f c)))(h1:cells[1]?=some (.box (some (.str code))))(hl:code.length < 500){K:List V→St→Prop}:∀ (x pre:List Nat) (acc:List V) (l:Option V),code=pre++x→acc.length + x.length < 10000 →
  (∀ l',K (acc++sv (pz f x pre.length)) ⟨[l'],cells⟩)→Zob (Zw 0) (tE (pCmp op (pIdx (pBox 1) (pVar 0)) (pC (.str [10])))) (pBin .Add (pVar 0) (pC (.int 1))) K (numl pre.length x.length 1) acc ⟨[l],cells⟩
 | [],pre,acc,l,_,_,h=>by
  have:=h l;rw [show sv (pz f [] pre.length)=[] from rfl,List.append_nil] at this;exact this
 | c :: x,pre,acc,l,hc,hn,h=>by
  rw [List.length_cons,Zlu];rw [List.length_cons] at hn;have tst:Eb (tE (pCmp op (pIdx (pBox 1) (pVar 0)) (pC (.str [10])))) ⟨[some (.int pre.length)],cells⟩ (f c) ⟨[some (.int pre.length)],cells⟩:=Eb.cmp (Ev.idx (Ev.box h1) (Ev.var rfl) (Zh (pre:=pre) hc rfl (by lia))) Ev.k (hop c);have ih:=fun acc l (hn:acc.length + x.length < 10000) (h:∀ l',K (acc++sv (pz f x (pre.length + 1))) ⟨[l'],cells⟩)=>Zug hop h1 hl x (pre++[c]) acc l (by rw [hc]; simp) hn (by rw [List.length_append]; exact h);rw [List.length_append] at ih;refine tst _ ⟨fun hb=>?_,fun hb=>?_⟩
  ·refine Ev.bin (st:=⟨[some (.int pre.length)],cells⟩) (Ev.var rfl) Ev.k (r:=.int ((pre.length:Int) + 1)) rfl _ ⟨by unfold Zc; lia,?_⟩;refine ih _ _ (by simp; lia) fun l'=>?_;have:=h l';rw [show pz f (c :: x) pre.length=(pre.length + 1) :: pz f x (pre.length + 1) from if_pos hb] at this;rw [List.append_assoc]; exact this
  ·refine ih _ _ (by lia) fun l'=>?_;have:=h l';rw [show pz f (c :: x) pre.length=pz f x (pre.length + 1) from if_neg (by rw [hb]; decide)] at this;exact this
theorem Ev.places{op:CmpOp}{f:Nat→Bool}{st:St}(hop:∀ c,Zes op (.str [c]) (.str [10])=some (.bool (f c)))(h1:st.cells[1]?=some (.box (some (.str code))))(hl:code.length < 500) :
  Ev (Zjn 1 (itR1 (pLen (pBox 1))) (Zw 0) (tE (pCmp op (pIdx (pBox 1) (pVar 0)) (pC (.str [10])))) (pBin .Add (pVar 0) (pC (.int 1)))) st (.lst (sv (pz f code 0))) st:=by
 intro Q q;unfold Zjn itR1;refine (Ev.len (Ev.box h1) (len_str (by unfold Zc; exact lted hl)):Ev (pLen (pBox 1)) st (.int code.length) st) _ ⟨_,rfl,Zcg rfl (ltd hl),?_⟩;have hr:rng2 0 (code.length:Int)=numl (([]:List Nat).length:Int) code.length 1:=by unfold rng2; rw [show ((code.length:Int) - 0).toNat=code.length by lia]; rfl
 rw [hr];exact Zug hop h1 hl code [] [] none rfl (by simp; exact ltd hl) fun l'=>q
end
theorem op_eq(c:Nat):Zes .Eq (.str [c]) (.str [10])=some (.bool ([c] == [10])):=rfl
theorem op_ne(c:Nat):Zes .NotEq (.str [c]) (.str [10])=some (.bool ([c] != [10])):=rfl
section
variable{st:St}{p:Nat}{code base:List Nat}{lv lo:Nat}{P P':PE}
theorem Pz.recode{cells:List Cell}(h:Pz cells p code base lv)(h1:lv≠1)(x:List Nat):∃ a4 a5 a6 a7 a8 a9 a10,cells[p]?=some (Zey (some (.str code)) (some (.int lv)) a4 a5 a6 a7 a8 a9 a10)∧Pz (cells.set p (Zey (some (.str x)) (some (.int lv)) a4 a5 a6 a7 a8 a9 a10)) p x base lv:=by
 cases h with
 | z a4 a5 a6 a7 a8 a9 a10 h=>exact ⟨_,_,_,_,_,_,_,h,.z _ _ _ _ _ _ _ (Zn h)⟩
 | one=>exact absurd rfl h1
 | two g h hg=>exact ⟨_,_,_,_,_,_,_,h,.two g (Zn h) (by rw [List.getElem?_set_ne (Zdv h hg).symm]; exact hg)⟩
theorem Ev.slo(hP:Ev P st (.inst p) st)(hl:Ev P' st (.int lo) st)(h:Pz st.cells p code base lv)(F:Fit code)(hlo:lo=0∨∃ j,lo=j + 1∧code[j]?=some 10)(h1:lv=1→lo=0) :
  ∃ cells',Kp p st.cells cells'∧Pz cells' p (code.drop lo) base lv∧Ev (Zbf 2 2 Zmp P (Za P' pNil)) st .none ⟨st.loc,cells'⟩:=by
 rcases hlo with rfl | ⟨j,rfl,hj⟩
 ·obtain ⟨a4,a5,a6,a7,a8,a9,a10,hi⟩:=h.inst;refine ⟨st.cells,.refl _ _,by rw [List.drop_zero]; exact h,Ev.meth hP hi (Es.cons hl Es.nil) rfl (fun Q k=>?_) (fl:=.next) rfl⟩;refine Zpd (Eb.orT (Eb.cmp (a:=.int 0) (Ev.var rfl) Ev.k rfl)) ?_;exact Zbn (Eb.cmp (a:=.int 0) (Ev.var rfl) Ev.k rfl) (k _)
 ·have hn1:lv≠1:=fun z=>nomatch h1 z
  obtain ⟨a4,a5,a6,a7,a8,a9,a10,hi,hz⟩:=h.recode hn1 (code.drop (j + 1));have hjl:=(Yi.mp hj).1;have hn:=F.n;refine ⟨_,fun i c hi hc=>by rw [List.getElem?_set_ne hi.symm]; exact hc,hz,Ev.meth hP hi (Es.cons hl Es.nil) rfl (fun Q k=>?_) (fl:=.next) rfl⟩;have e0:Zmj .Sub (.int ((j + 1:Nat):Int)) (.int 1)=some (.int (j:Int)):=by show some (V.int (((j + 1:Nat):Int) - 1))=_; congr 2; lia
  refine Zpd (Eb.orF (Eb.cmp (a:=.int ((j + 1:Nat):Int)) (Ev.var rfl) Ev.k rfl) (Eb.cmp (Ev.idx (Ev.attr (Ev.var rfl) hi rfl) (Ev.bin (Ev.var rfl) Ev.k e0) (Zoq rfl hj (by lia))) Ev.k (eq_str [10] [10]))) ?_;refine Zft (Eb.cmp (a:=.int ((j + 1:Nat):Int)) (Ev.var rfl) Ev.k (by show some (V.bool (decide _))=_; rw [decide_eq_true (by lia)])) ?_;refine s_attr (Ev.slice (Ev.attr (Ev.var rfl) hi rfl) (Eo.yes (Ev.var rfl)) Eo.no (Zox rfl (Ycg (Nat.succ_lt_succ hjl)) (by lia))) (Ev.var rfl) hi rfl rfl ?_;exact k _
theorem s_try{np nl n:Nat}{T:PB}{Ps:PL}{as:List (Option V)}{vs:List V}{loc:List (Option V)}{Z:PX}{Q:Fl→St→Prop}(hP:Ev P st (.inst n) st)(ec:st.cells[n]?=some (.inst as))(h:Es Ps st vs st)(e:vs.length + 1=np)
  (t:Eb T ⟨(V.inst n :: vs).map some++List.replicate (nl - np) none,st.cells⟩ false ⟨loc,st.cells⟩) (k:Z Q st):Zb (xTry (Zuc np nl T P Ps)) Z Q st:=hP _ ⟨⟨n,as,rfl,ec⟩,h _ ⟨e,t _ ⟨rfl,k⟩⟩⟩
theorem Eb.set_r{cells:List Cell}{t:List Nat}(hn:t.length < 500):Eb Zbz ⟨[some (.inst p),some (.str (t++[104]))],cells⟩ false ⟨[some (.inst p),some (.str (t++[104]))],cells⟩:=by
 refine Eb.orF (Eb.cmp (Ev.len (Ev.var rfl) (len_str (by unfold Zc; simp; lia))) Ev.k (by rw [eq_int]; congr 2; rw [beq_eq_false_iff_ne]; simp; lia)) (Eb.cmp (Ev.idx (Ev.var rfl) Ev.k ?_) Ev.k (eq_str [104] [10]));show (if fits (-1) then ((seqIndex? (-1) (t++[104]).length).bind ((t++[104])[·]?)).map fun c=>V.str [c] else none)=_;rw [if_pos ⟨by decide,by decide⟩,Zej (by simp),Option.bind_some];simp
theorem Eb.lo_r{cells:List Cell}{j c:Nat}{as:List (Option V)}(hi:cells[p]?=some (.inst as))(ha:as[2]?=some (some (.str code)))(hj:code[j]?=some c)(hc:([c] != [10])=true)(hn:code.length < 500):Eb Zev ⟨[some (.inst p),some (.int ((j + 1:Nat):Int))],cells⟩ false ⟨[some (.inst p),some (.int ((j + 1:Nat):Int))],cells⟩:=by
 have e0:Zmj .Sub (.int ((j + 1:Nat):Int)) (.int 1)=some (.int (j:Int)):=by show some (V.int (((j + 1:Nat):Int) - 1))=_; congr 2; lia
 refine Eb.orF (Eb.cmp (a:=.int ((j + 1:Nat):Int)) (Ev.var rfl) Ev.k rfl) (Eb.cmp (Ev.idx (Ev.attr (Ev.var rfl) hi ha) (Ev.bin (Ev.var rfl) Ev.k e0) (Zoq rfl hj (by lia))) Ev.k ?_);rw [eq_str]
 congr 2
 rw [← Bool.not_eq_true'];exact hc
end
end Mine
namespace Mine
noncomputable def Own(cells:List Cell)(v:V)(x:List Nat):Prop:=v=.lst (gO x)∨∃ g,v=.ref g∧cells[g]?=some (.list (gO x))
noncomputable def Due(cells:List Cell)(v:V)(x:List Nat):Prop:=∃ gv,v=.tup [.int (cO x),gv,ans5 x]∧Own cells gv x
section
variable{cells cells':List Cell}{v:V}{x code base:List Nat}{p lv n:Nat}
theorem Due.up(h:Due cells v x)(k:∀ (i:Nat) (vs:List V),cells[i]?=some (.list vs)→cells'[i]?=some (.list vs)):Due cells' v x:=by
 obtain ⟨gv,rfl,h⟩:=h;refine ⟨gv,rfl,?_⟩
 rcases h with h | ⟨g,e,hg⟩
 ·exact .inl h
 ·exact .inr ⟨g,e,k g _ hg⟩
theorem Pz.kept(h:Pz cells p code base lv)(hk:Kp p cells cells'):∀ (i:Nat) (vs:List V),cells[i]?=some (.list vs)→cells'[i]?=some (.list vs):=fun i vs hi=>by
 obtain ⟨a4,a5,a6,a7,a8,a9,a10,hp⟩:=h.inst;exact hk i _ (Zdv hp hi) hi
theorem Pz.up(h:Pz cells p code base lv)(k:∀ (i:Nat) (c:Cell),(∀ u,c≠.box u)→cells[i]?=some c→cells'[i]?=some c):Pz cells' p code base lv:=by
 cases h with
 | z a4 a5 a6 a7 a8 a9 a10 h=>exact .z _ _ _ _ _ _ _ (k _ _ (fun _ q=>nomatch q) h)
 | one g a6 a7 a8 a9 a10 h hg e=>exact .one g _ _ _ _ _ (k _ _ (fun _ q=>nomatch q) h) (k _ _ (fun _ q=>nomatch q) hg) e
 | two g h hg=>exact .two g (k _ _ (fun _ q=>nomatch q) h) (k _ _ (fun _ q=>nomatch q) hg)
theorem Zqi{u w:Option V}(hb:cells[n]?=some (.box u))(i:Nat)(c:Cell)(hc:∀ u,c≠.box u)(h:cells[i]?=some c):(cells.set n (.box w))[i]?=some c:=by
 have:n≠i:=by rintro rfl; rw [hb] at h; exact hc u (Yc h).symm
 rw [List.getElem?_set_ne this]; exact h
theorem Zvd{l:List Nat}:Zav (gl l)=some (l.map fun n:Nat=>PyData.int n):=Zid l
theorem Zzm(l:List Nat):PyData.canLayAll0 (l.map fun n:Nat=>PyData.int n)=true:=by
 induction l with
 | nil=>rfl
 | cons n l ih=>show (PyData.canLay0 _ && PyData.canLayAll0 _)=true; rw [ih]; rfl
theorem Zve(l:List Nat):PyData.depthAll (l.map fun n:Nat=>PyData.int n)=0:=by
 induction l with
 | nil=>rfl
 | cons n l ih=>show max (PyData.depth _) (PyData.depthAll _)=0; rw [ih]; simp [PyData.depth]
theorem own_py{a:Int}(h:Own cells v x):Zfs cells (.tup [.int a,v])=some (.tuple [.int a,.list ((Zm (run1 start1 x)).map fun n:Nat=>PyData.int n)]):=by
 have e:Zfs cells v=some (.list ((Zm (run1 start1 x)).map fun n:Nat=>PyData.int n)):=by
  rcases h with rfl | ⟨g,rfl,hg⟩
  ·simp only [Zfs,gO,Zvd]; rfl
  ·simp only [Zfs,hg,gO,Zvd]; rfl
 simp only [Zfs,Zgd,e]; rfl
theorem Eb.neC{P P':PE}{st:St}{a:Int}{w:V}(h:Ev P st (.tup [.int a,v]) st)(h':Ev P' st (.tup [.int a,w]) st)(hv:Own st.cells v x)(hw:Own st.cells w x):Eb (tE (pNeC P P')) st false st:=fun Q q=>by
 have hl:PyData.canLay0 (.tuple [.int a,.list ((Zm (run1 start1 x)).map fun n:Nat=>PyData.int n)])=true:=by simp only [PyData.canLay0,PyData.canLayAll0,Zzm]; rfl
 refine h _ (h' _ ⟨_,_,own_py hv,own_py hw,hl,hl,?_,false,?_,q⟩)
 ·simp only [PyData.depth,PyData.depthAll,Zve]; decide
 ·rw [PySem.SeqAt.eqv_refl _ hl]; rfl
noncomputable def knK:List (List Nat):=[[],[10],[105,102,32,97,58,10,32,32,102,40,98,44,10],[32,32,102,40,98,44,10],[120,32,61,32,39,39,39,10,121,10],[121,10],[99,41,93,32,92,98,32,92,10],[35,32,100,10,10],[40,101,41,10,103,58,32,35,41,10],[103,58,32,35,41,10],[107,40,34,92,10]]
noncomputable def knV:List V:=[.tup [.int 0,.lst [.int 0],.tup [.int 0,.int 0,.str [],.none,.tup [.tup [.int 0,.int 0]]]],.tup [.int 0,.lst [.int 0,.int 1],.tup [.int 0,.int 0,.str [],.none,.tup [.tup [.int 0,.int 0]]]],.tup [.int 4,.lst [.int 0,.int 1,.int 2],.tup [.int 6,.int 13,.str [44],.int 9,.tup [.tup [.int 6,.int 0],.tup [.int 9,.int 1]]]],.tup [.int 4,.lst [.int 0,.int 1],.tup [.int 0,.int 7,.str [44],.int 3,.tup [.tup [.int 0,.int 0],.tup [.int 3,.int 1]]]],.tup [.int 3,.lst [.int 0,.int 2],.tup [.int 0,.int 10,.str [39],.none,.tup [.tup [.int 0,.int 0],.tup [.int 4,.int 1],.tup [.int 10,.int 0]]]],.tup [.int 0,.lst [.int 0,.int 1],.tup [.int 0,.int 2,.str [121],.none,.tup [.tup [.int 0,.int 0]]]],.tup [.int 1,.lst [.int 0,.int 1],.tup [.int 0,.int 9,.str [92,98],.none,.tup [.tup [.int 0,.int 0],.tup [.int 2,.int 0],.tup [.int 3,.int 0]]]],.tup [.int 0,.lst [.int 0,.int 1,.int 2],.tup [.int 0,.int 4,.str [],.none,.tup [.tup [.int 0,.int 0],.tup [.int 0,.int 1],.tup [.int 4,.int 0]]]],.tup [.int 0,.lst [.int 0,.int 1,.int 2],.tup [.int 4,.int 10,.str [58],.none,.tup [.tup [.int 4,.int 0],.tup [.int 7,.int 1],.tup [.int 10,.int 0]]]],.tup [.int 0,.lst [.int 0,.int 1],.tup [.int 0,.int 6,.str [58],.none,.tup [.tup [.int 0,.int 0],.tup [.int 3,.int 1],.tup [.int 6,.int 0]]]],.tup [.int 2,.lst [.int 0,.int 1],.tup [.int 0,.int 5,.str [34],.int 1,.tup [.tup [.int 0,.int 0],.tup [.int 1,.int 1],.tup [.int 2,.int 2],.tup [.int 5,.int 1]]]]]
theorem Zpn{f:List Nat→V}:∀ {ks:List (List Nat)} {x:List Nat} {v:V},Zbq ks (ks.map f) ⟨x.toArray⟩=some v→v=f x
 | [],x,v,h=>nn h
 | k :: ks,x,v,h=>by
  rw [List.map_cons,Zdk] at h
  by_cases e:(⟨x.toArray⟩:Str)=⟨k.toArray⟩
  ·rw [if_pos e] at h; rw [Zsz e]; exact (Yc h).symm
  ·rw [if_neg e] at h; exact Zpn h
theorem knV_eq:knV=knK.map fun x=>.tup [.int (cO x),.lst (gO x),ans5 x]:=by kernel_rfl
theorem Zux(h:Zbq knK knV ⟨x.toArray⟩=some v):Due cells v x:=by
 rw [knV_eq] at h;exact ⟨_,Zpn (f:=fun x=>.tup [.int (cO x),.lst (gO x),ans5 x]) h,.inl rfl⟩
theorem Ev.known(st:St):Ev (pDef 0 0 Zdf pNil) st (.ref st.cells.length) ⟨st.loc,st.cells++[.dct knK knV]⟩:=by
 refine Ev.call (cells:=st.cells++[.dct knK knV]) Es.nil rfl (fun Q k=>?_) (fl:=.ret (.ref st.cells.length)) rfl;refine Zlo (st₁:=⟨[],st.cells++[.dct knK knV]⟩) (fun Q q=>?_) (k _);have es:Es _ ⟨[],st.cells⟩ knV ⟨[],st.cells⟩:=(by unfold knV; exact (Es.cons (Ev.tup (Es.cons Ev.k (Es.cons (Ev.lst (Es.cons Ev.k Es.nil) (Ye rfl)) (Es.cons (Ev.tup (Es.cons Ev.k (Es.cons Ev.k (Es.cons Ev.k (Es.cons Ev.k (Es.cons (Ev.tup (Es.cons (Ev.tup (Es.cons Ev.k (Es.cons Ev.k Es.nil)) (Ye rfl)) Es.nil) (Ye rfl)) Es.nil))))) (Ye rfl)) Es.nil))) (Ye rfl)) (Es.cons (Ev.tup (Es.cons Ev.k (Es.cons (Ev.lst (Es.cons Ev.k (Es.cons Ev.k Es.nil)) (Ye rfl)) (Es.cons (Ev.tup (Es.cons Ev.k (Es.cons Ev.k (Es.cons Ev.k (Es.cons Ev.k (Es.cons (Ev.tup (Es.cons (Ev.tup (Es.cons Ev.k (Es.cons Ev.k Es.nil)) (Ye rfl)) Es.nil) (Ye rfl)) Es.nil))))) (Ye rfl)) Es.nil))) (Ye rfl)) (Es.cons (Ev.tup (Es.cons Ev.k (Es.cons (Ev.lst (Es.cons Ev.k (Es.cons Ev.k (Es.cons Ev.k Es.nil))) (Ye rfl)) (Es.cons (Ev.tup (Es.cons Ev.k (Es.cons Ev.k (Es.cons Ev.k (Es.cons Ev.k (Es.cons (Ev.tup (Es.cons (Ev.tup (Es.cons Ev.k (Es.cons Ev.k Es.nil)) (Ye rfl)) (Es.cons (Ev.tup (Es.cons Ev.k (Es.cons Ev.k Es.nil)) (Ye rfl)) Es.nil)) (Ye rfl)) Es.nil))))) (Ye rfl)) Es.nil))) (Ye rfl)) (Es.cons (Ev.tup (Es.cons Ev.k (Es.cons (Ev.lst (Es.cons Ev.k (Es.cons Ev.k Es.nil)) (Ye rfl)) (Es.cons (Ev.tup (Es.cons Ev.k (Es.cons Ev.k (Es.cons Ev.k (Es.cons Ev.k (Es.cons (Ev.tup (Es.cons (Ev.tup (Es.cons Ev.k (Es.cons Ev.k Es.nil)) (Ye rfl)) (Es.cons (Ev.tup (Es.cons Ev.k (Es.cons Ev.k Es.nil)) (Ye rfl)) Es.nil)) (Ye rfl)) Es.nil))))) (Ye rfl)) Es.nil))) (Ye rfl)) (Es.cons (Ev.tup (Es.cons Ev.k (Es.cons (Ev.lst (Es.cons Ev.k (Es.cons Ev.k Es.nil)) (Ye rfl)) (Es.cons (Ev.tup (Es.cons Ev.k (Es.cons Ev.k (Es.cons Ev.k (Es.cons Ev.k (Es.cons (Ev.tup (Es.cons (Ev.tup (Es.cons Ev.k (Es.cons Ev.k Es.nil)) (Ye rfl)) (Es.cons (Ev.tup (Es.cons Ev.k (Es.cons Ev.k Es.nil)) (Ye rfl)) (Es.cons (Ev.tup (Es.cons Ev.k (Es.cons Ev.k Es.nil)) (Ye rfl)) Es.nil))) (Ye rfl)) Es.nil))))) (Ye rfl)) Es.nil))) (Ye rfl)) (Es.cons (Ev.tup (Es.cons Ev.k (Es.cons (Ev.lst (Es.cons Ev.k (Es.cons Ev.k Es.nil)) (Ye rfl)) (Es.cons (Ev.tup (Es.cons Ev.k (Es.cons Ev.k (Es.cons Ev.k (Es.cons Ev.k (Es.cons (Ev.tup (Es.cons (Ev.tup (Es.cons Ev.k (Es.cons Ev.k Es.nil)) (Ye rfl)) Es.nil) (Ye rfl)) Es.nil))))) (Ye rfl)) Es.nil))) (Ye rfl)) (Es.cons (Ev.tup (Es.cons Ev.k (Es.cons (Ev.lst (Es.cons Ev.k (Es.cons Ev.k Es.nil)) (Ye rfl)) (Es.cons (Ev.tup (Es.cons Ev.k (Es.cons Ev.k (Es.cons Ev.k (Es.cons Ev.k (Es.cons (Ev.tup (Es.cons (Ev.tup (Es.cons Ev.k (Es.cons Ev.k Es.nil)) (Ye rfl)) (Es.cons (Ev.tup (Es.cons Ev.k (Es.cons Ev.k Es.nil)) (Ye rfl)) (Es.cons (Ev.tup (Es.cons Ev.k (Es.cons Ev.k Es.nil)) (Ye rfl)) Es.nil))) (Ye rfl)) Es.nil))))) (Ye rfl)) Es.nil))) (Ye rfl)) (Es.cons (Ev.tup (Es.cons Ev.k (Es.cons (Ev.lst (Es.cons Ev.k (Es.cons Ev.k (Es.cons Ev.k Es.nil))) (Ye rfl)) (Es.cons (Ev.tup (Es.cons Ev.k (Es.cons Ev.k (Es.cons Ev.k (Es.cons Ev.k (Es.cons (Ev.tup (Es.cons (Ev.tup (Es.cons Ev.k (Es.cons Ev.k Es.nil)) (Ye rfl)) (Es.cons (Ev.tup (Es.cons Ev.k (Es.cons Ev.k Es.nil)) (Ye rfl)) (Es.cons (Ev.tup (Es.cons Ev.k (Es.cons Ev.k Es.nil)) (Ye rfl)) Es.nil))) (Ye rfl)) Es.nil))))) (Ye rfl)) Es.nil))) (Ye rfl)) (Es.cons (Ev.tup (Es.cons Ev.k (Es.cons (Ev.lst (Es.cons Ev.k (Es.cons Ev.k (Es.cons Ev.k Es.nil))) (Ye rfl)) (Es.cons (Ev.tup (Es.cons Ev.k (Es.cons Ev.k (Es.cons Ev.k (Es.cons Ev.k (Es.cons (Ev.tup (Es.cons (Ev.tup (Es.cons Ev.k (Es.cons Ev.k Es.nil)) (Ye rfl)) (Es.cons (Ev.tup (Es.cons Ev.k (Es.cons Ev.k Es.nil)) (Ye rfl)) (Es.cons (Ev.tup (Es.cons Ev.k (Es.cons Ev.k Es.nil)) (Ye rfl)) Es.nil))) (Ye rfl)) Es.nil))))) (Ye rfl)) Es.nil))) (Ye rfl)) (Es.cons (Ev.tup (Es.cons Ev.k (Es.cons (Ev.lst (Es.cons Ev.k (Es.cons Ev.k Es.nil)) (Ye rfl)) (Es.cons (Ev.tup (Es.cons Ev.k (Es.cons Ev.k (Es.cons Ev.k (Es.cons Ev.k (Es.cons (Ev.tup (Es.cons (Ev.tup (Es.cons Ev.k (Es.cons Ev.k Es.nil)) (Ye rfl)) (Es.cons (Ev.tup (Es.cons Ev.k (Es.cons Ev.k Es.nil)) (Ye rfl)) (Es.cons (Ev.tup (Es.cons Ev.k (Es.cons Ev.k Es.nil)) (Ye rfl)) Es.nil))) (Ye rfl)) Es.nil))))) (Ye rfl)) Es.nil))) (Ye rfl)) (Es.cons (Ev.tup (Es.cons Ev.k (Es.cons (Ev.lst (Es.cons Ev.k (Es.cons Ev.k Es.nil)) (Ye rfl)) (Es.cons (Ev.tup (Es.cons Ev.k (Es.cons Ev.k (Es.cons Ev.k (Es.cons Ev.k (Es.cons (Ev.tup (Es.cons (Ev.tup (Es.cons Ev.k (Es.cons Ev.k Es.nil)) (Ye rfl)) (Es.cons (Ev.tup (Es.cons Ev.k (Es.cons Ev.k Es.nil)) (Ye rfl)) (Es.cons (Ev.tup (Es.cons Ev.k (Es.cons Ev.k Es.nil)) (Ye rfl)) (Es.cons (Ev.tup (Es.cons Ev.k (Es.cons Ev.k Es.nil)) (Ye rfl)) Es.nil)))) (Ye rfl)) Es.nil))))) (Ye rfl)) Es.nil))) (Ye rfl)) Es.nil))))))))))));exact es _ ⟨rfl,q⟩
section
variable{st:St}{P P':PE}
theorem Eb.has{ks:List (List Nat)}{vs:List V}(h:Ev P st (.str x) st)(h':Ev P' st (.ref n) st)(e:st.cells[n]?=some (.dct ks vs)):Eb (tE (pHas P P')) st (Zbq ks vs ⟨x.toArray⟩).isSome st:=fun Q q=>h _ (h' _ ⟨_,_,_,_,rfl,rfl,e,_,rfl,q⟩)
theorem Ev.at{ks:List (List Nat)}{vs:List V}(h:Ev P st (.ref n) st)(h':Ev P' st (.str x) st)(e:st.cells[n]?=some (.dct ks vs))(e':Zbq ks vs ⟨x.toArray⟩=some v):Ev (pGet P P') st v st:=fun Q q=>h _ (h' _ ⟨_,_,_,_,_,rfl,rfl,e,e',q⟩)
end
noncomputable def pc4:List (List Nat):=[[97],[40],[41],[10],[34],[39],[35],[92],[32],[91],[93],[39,39,39],[34,34,34],[92,10],[35,32,98,10],[35,98,10]]
theorem comp4{K:List V→St→Prop}(hc:cells[0]?=some (.box (some (.lst (pc4.map .str))))):∀ (xs:List Int) (acc:List V) (l:Option V),acc.length + xs.length < 100→(∀ l',K (acc++xs.map fun x=>.str (pcs pc4 (x + x.fdiv 64))) ⟨[l'],cells⟩) →
  Zob (Zw 0) tYes (pIdx (pBox 0) (pBin .Mod (pBin .Add (pVar 0) (pBin .FloorDiv (pVar 0) (pC (.int 64)))) (pC (.int 16)))) K (xs.map .int) acc ⟨[l],cells⟩
 | [],acc,l,_,h=>by have:=h l; rw [List.map_nil,List.append_nil] at this; exact this
 | x :: xs,acc,l,hn,h=>by
  obtain ⟨j,e1,e2⟩:=Zui (ps:=pc4) rfl (x + x.fdiv 64);rw [List.length_cons] at hn;refine ⟨fun _=>?_,fun z=>nomatch z⟩;refine Ev.idx (st:=⟨[some (.int x)],cells⟩) (Ev.box hc) (Ev.bin (Ev.bin (Ev.var rfl) (Ev.bin (Ev.var rfl) Ev.k (r:=.int (x.fdiv 64)) rfl) (r:=.int (x + x.fdiv 64)) rfl) Ev.k (r:=.int ((x + x.fdiv 64).fmod 16)) rfl) (Zed e1 (by rw [List.getElem?_map,e2]; rfl) (Ye rfl)) _ ⟨by unfold Zc; lia,?_⟩;refine comp4 hc xs _ _ (by simp; lia) fun l'=>?_;have:=h l';rw [List.append_assoc]; exact this
theorem Ev.drawn{P:PE}{st st₁:St}{xs:List Int}(h:Ev P st (.lst (xs.map .int)) st₁)(hc:st₁.cells[0]?=some (.box (some (.lst (pc4.map .str)))))(hn:xs.length≤8) :
  ∃ x,Fit x∧Ev (pBin .Add (pSM .join (pC (.str [])) (Za (Zjn 1 (itV P) (Zw 0) tYes (pIdx (pBox 0) (pBin .Mod (pBin .Add (pVar 0) (pBin .FloorDiv (pVar 0) (pC (.int 64)))) (pC (.int 16))))) pNil)) (pC (.str [10]))) st (.str x) st₁:=by
 have hl:=Zsy (ps:=pc4) rfl (k:=4) (by decide) (xs.map fun x=>x + x.fdiv 64);rw [List.length_map] at hl;have hs:=Zsx (ps:=pc4) rfl (by decide) (xs:=xs.map fun x=>x + x.fdiv 64);have e0:((xs.map fun x=>x + x.fdiv 64).map (pcs pc4)).map V.str=xs.map fun x=>.str (pcs pc4 (x + x.fdiv 64)):=by rw [List.map_map,List.map_map]; rfl
 have e1:Zmx [] (xs.map fun x=>.str (pcs pc4 (x + x.fdiv 64)))=some (.str (Zjb pc4 (xs.map fun x=>x + x.fdiv 64))):=by
  unfold Zmx;rw [if_pos rfl,← e0,Zow,Option.bind_some];exact if_pos (show (Zjb pc4 (xs.map fun x=>x + x.fdiv 64)).length≤Zc by unfold Zc; lia)
 generalize Zjb pc4 (xs.map fun x=>x + x.fdiv 64)=t at hl hs e1;refine ⟨t++[10],⟨fun c hc=>?_,.inr (by simp),by simp; lia⟩,Ev.bin (a:=.str t) (fun Q q=>?_) Ev.k (Zxp (by unfold Zc; simp; lia))⟩
 ·rcases Ybw.mp hc with hc | hc
  ·exact hs c hc
  ·rw [List.mem_singleton.mp hc]; decide
 ·exact ⟨[],rfl,h _ ⟨_,rfl,comp4 hc xs [] none (by simp; lia) fun l'=>⟨.str t,e1,q⟩⟩⟩
end
end Mine
namespace Mine
theorem s_to{S:PS}{P:PE}{Z:PX}{Q:Fl→St→Prop}{st st₁:St}{v:V}(h:Ev P st v st₁)(k:S v (Z Q) st₁):Zb (xTo S P) Z Q st:=h _ k
theorem s_unpBN{P:PE}{Z:PX}{Q:Fl→St→Prop}{i j:Nat}{a b:V}{u:Option V}{st st₁:St}(h:Ev P st (.tup [a,b]) st₁)(h1:st₁.cells[i]?=some (.box u))(k:Z Q ((st₁.setBox i a).set j b)):Zb (Zdq [sBox i,Zw j] P) Z Q st:=h _ ⟨_,rfl,rfl,_,h1,k⟩
theorem veq_cl{a:Int}{s:List Nat}(hs:∀ c∈s,c < 128):veq (.tup [.str s,.int a]) (.tup [.str s,.int a])=some true:=by
 refine Zja (d:=.tuple [.str ⟨s.toArray⟩,.int a]) rfl ?_ (by simp [PyData.depth,PyData.depthAll]);have:=Zgg hs;simp only [PyData.canLay0,PyData.canLayAll0] at this ⊢;simpa using this
theorem ne_self(a:Int):Zes .NotEq (.int a) (.int a)=some (.bool false):=congrArg (some ∘ V.bool) (bne_self_eq_false a)
noncomputable def l4(sc dr:V)(ts:List (List Nat))(lv:Nat)(due:V)(x c y pl lo:Option V)(cells:List Cell):St:=⟨[some sc,some dr,some (.lst (ts.map .str)),some (.ref 2),some (.inst 3),some (.int lv),some due,x,c,y,pl,lo],cells⟩
structure I4(cells:List Cell)(code base:List Nat)(lv:Nat):Prop where
 c1:cells[1]?=some (.box (some (.str code)))
 c2:cells[2]?=some (.dct knK knV)
 pz:Pz cells 3 code base lv
 f:Fit code
 fb:Fit base
 b:lv=0→base=code
section
variable{sc dr due:V}{ts:List (List Nat)}{Q:Fl→St→Prop}{x c y pl lo:Option V}{cells cells':List Cell}{code base:List Nat}{lv lv':Nat}
theorem I4.keep(I:I4 cells code base lv)(hk:Kp 3 cells cells')(hz:Pz cells' 3 code base lv')(h:lv'=0→lv=0):I4 cells' code base lv':=⟨hk 1 _ (by decide) I.c1,hk 2 _ (by decide) I.c2,hz,I.f,I.fb,fun z=>I.b (h z)⟩
theorem I4.le2(I:I4 cells code base lv):lv≤2:=by
 cases I.pz with
 | z=>exact Yas _
 | one=>decide
 | two=>exact Yaa _
theorem Pz.rebase{p:Nat}{b:List Nat}(h:Pz cells p code base 0):Pz cells p code b 0:=by
 cases h with
 | z a4 a5 a6 a7 a8 a9 a10 h=>exact .z _ _ _ _ _ _ _ h
theorem t2_ok(I:I4 cells code base lv)(D:0 < lv→Due cells due base)(h:Q .next (l4 sc dr ts lv due x c y pl lo cells)):Zv Q (l4 sc dr ts lv due x c y pl lo cells):=by
 obtain ⟨c1,c2,pz,f,fb,b⟩:=I;obtain ⟨a4,a5,a6,a7,a8,a9,a10,hi⟩:=pz.inst;refine Zbn (Eb.cmp (Ev.tup (Es.cons (Ev.attr (Ev.var rfl) hi rfl) (Es.cons (Ev.attr (Ev.var rfl) hi rfl) Es.nil)) (Ye rfl)) (Ev.tup (Es.cons (Ev.box c1) (Es.cons (Ev.var rfl) Es.nil)) (Ye rfl)) (Zur (veq_cl f.s))) ?_;clear hi;cases pz with
 | z=>exact Zbn (Eb.andF (Eb.cmp (a:=.int 0) (Ev.var rfl) Ev.k rfl)) (Zbn (Eb.andF (Eb.cmp (a:=.int 0) (Ev.var rfl) Ev.k rfl)) h)
 | one g a6 a7 a8 a9 a10 hi hg e =>
  obtain ⟨gv,rfl,ho⟩:=D (by decide);refine Zbn (Eb.andT (Eb.cmp (a:=.int 1) (Ev.var rfl) Ev.k rfl) (Eb.neC (x:=base) (Ev.tup (Es.cons (Ev.attr (Ev.var rfl) hi rfl) (Es.cons (Ev.attr (Ev.var rfl) hi rfl) Es.nil)) (Ye rfl)) (Ev.slice (Ev.var rfl) Eo.no (Eo.yes Ev.k) rfl) (.inr ⟨g,rfl,hg⟩) ho)) ?_;exact Zbn (Eb.andF (Eb.cmp (a:=.int 1) (Ev.var rfl) Ev.k rfl)) h
 | two g hi hg =>
  obtain ⟨gv,rfl,ho⟩:=D (by decide);refine Zbn (Eb.andT (Eb.cmp (a:=.int 2) (Ev.var rfl) Ev.k rfl) (Eb.neC (x:=base) (Ev.tup (Es.cons (Ev.attr (Ev.var rfl) hi rfl) (Es.cons (Ev.attr (Ev.var rfl) hi rfl) Es.nil)) (Ye rfl)) (Ev.slice (Ev.var rfl) Eo.no (Eo.yes Ev.k) rfl) (.inr ⟨g,rfl,hg⟩) ho)) ?_;exact Zbn (Eb.andT (Eb.cmp (a:=.int 2) (Ev.var rfl) Ev.k rfl) (Eb.cmp (Ev.told (P:=pVar 4) (Ev.var rfl) (.two (code:=code) g hi hg)) (Ev.idx (Ev.var rfl) Ev.k (Zdg (j:=2) rfl rfl (Ye rfl))) (Zur (Zyc (told_ls fb.s))))) h
theorem Ev.text{st:St}{y:Int}(hl:ts.length=8)(h2:st.loc[2]?=some (some (.lst (ts.map .str))))(h9:st.loc[9]?=some (some (.int y))):∃ t,t∈ts∧Ev (pIdx (pVar 2) (pBin .Mod (pVar 9) (pC (.int 8)))) st (.str t) st:=by
 obtain ⟨j,hj,e⟩:=Zel y 8 (by decide);have hj:j < ts.length:=hl ▸ hj;exact ⟨ts[j],Yt hj,Ev.idx (Ev.var h2) (Ev.bin (Ev.var h9) Ev.k (r:=.int (y.fmod 8)) rfl) (Zed e (by rw [List.getElem?_map,List.getElem?_eq_getElem hj]; rfl) (by rw [List.length_map,hl]; decide))⟩
theorem Ev.one{st:St}{y:Int}{l:List Nat}(h0:l≠[])(hl:l.length < 1000)(h10:st.loc[10]?=some (some (.lst (sv l))))(h9:st.loc[9]?=some (some (.int y))):∃ n,n∈l∧Ev (pIdx (pVar 10) (pBin .Mod (pVar 9) (pLen (pVar 10)))) st (.int (n:Nat)) st:=by
 have hp:=List.length_pos_iff.mpr h0;obtain ⟨j,hj,e⟩:=Zel y l.length hp;have hs:(sv l).length=l.length:=List.length_map ..;have he:Zmj .Mod (.int y) (.int (l.length:Int))=some (.int (y.fmod l.length)):=if_neg (by lia);exact ⟨l[j],Yt hj,Ev.idx (Ev.var h10) (Ev.bin (Ev.var h9) (Ev.len (Ev.var h10) ((len_lst (by rw [hs]; unfold Zc; exact lted hl)).trans (congrArg (fun n:Nat=>some (n:Int)) hs))) he) (Zed e (by unfold sv; rw [List.getElem?_map,List.getElem?_eq_getElem hj]; rfl) (by rw [hs]; exact hl))⟩
noncomputable def K4(Q:Fl→St→Prop)(sc dr:V)(ts:List (List Nat))(x:Option V):Prop:=∀ cells code base lv due c y pl lo,I4 cells code base lv→(0 < lv→Due cells due base)→Q .next (l4 sc dr ts lv due x c y pl lo cells)
theorem c0_ok{y:Int}(hl:ts.length=8)(hf:∀ t∈ts,Fit t)(I:I4 cells code base lv)(K:K4 (nx Zv Q) sc dr ts x):Zz Q (l4 sc dr ts lv due x (some (.int 0)) (some (.int y)) pl lo cells):=by
 refine Zft (Eb.cmp (a:=.int 0) (Ev.var rfl) Ev.k rfl) ?_;obtain ⟨t,ht,et⟩:=Ev.text (ts:=ts) (y:=y) (st:=l4 sc dr ts lv due x (some (.int 0)) (some (.int y)) pl lo cells) hl rfl rfl;refine s_unpBN (Ev.tup (Es.cons et (Es.cons Ev.k Es.nil)) (Ye rfl)) I.c1 ?_;have hc:(cells.set 1 (.box (some (.str t))))[1]?=some (.box (some (.str t))):=Zn I.c1;obtain ⟨cells',hk,hz,e⟩:=Ev.setc (P:=pVar 4) (P':=pBox 1) (x:=t) (st:=l4 sc dr ts 0 due x (some (.int 0)) (some (.int y)) pl lo (cells.set 1 (.box (some (.str t))))) (Ev.var rfl) (Ev.box hc) (I.pz.up (Zqi I.c1)) (hf t ht);refine Zbn (Eb.cmp e Ev.k rfl) ?_;exact K cells' t t 0 _ _ _ _ _ ⟨hk 1 _ (by decide) hc,hk 2 _ (by decide) ((Ycp (by decide)).trans I.c2),hz t,hf t ht,hf t ht,fun _=>rfl⟩ fun z=>absurd z (by decide)
theorem c1_ok{y:Int}(hl:ts.length=8)(hf:∀ t∈ts,Fit t)(I:I4 cells code base lv)(D:0 < lv→Due cells due base)(K:K4 (nx Zv Q) sc dr ts x):Zz Q (l4 sc dr ts lv due x (some (.int 1)) (some (.int y)) pl lo cells):=by
 refine Zgi (Eb.cmp (a:=.int 1) (Ev.var rfl) Ev.k rfl) (Zft (Eb.cmp (a:=.int 1) (Ev.var rfl) Ev.k rfl) ?_);obtain ⟨t,ht,et⟩:=Ev.text (ts:=ts) (y:=y) (st:=l4 sc dr ts lv due x (some (.int 1)) (some (.int y)) pl lo cells) hl rfl rfl;obtain ⟨a4,a5,a6,a7,a8,a9,a10,hi⟩:=I.pz.inst;have hn:=(hf t ht).n;exact s_try (Ev.var rfl) hi (Es.cons (Ev.bin et Ev.k (Zxp (by unfold Zc; simp; lia))) Es.nil) rfl (Eb.set_r hn) (K _ _ _ _ _ _ _ _ _ I D)
theorem c2_ok{y:Int}(I:I4 cells code base lv)(D:0 < lv→Due cells due base)(K:K4 (nx Zv Q) sc dr ts x):Zz Q (l4 sc dr ts lv due x (some (.int 2)) (some (.int y)) pl lo cells):=by
 refine Zgi (Eb.cmp (a:=.int 2) (Ev.var rfl) Ev.k rfl) (Zgi (Eb.cmp (a:=.int 2) (Ev.var rfl) Ev.k rfl) (Zft (Eb.cmp (a:=.int 2) (Ev.var rfl) Ev.k rfl) ?_));have hn:=I.f.n;have hp:=Zuf (fun c=>[c] == [10]) code 0;have hm:∀ n∈0 :: pz (fun c=>[c] == [10]) code 0,n=0∨∃ j,n=j + 1∧code[j]?=some 10:=fun n h=>by
  rcases Ym.mp h with h | h
  ·exact .inl h
  ·obtain ⟨j,c,h1,h2,h3⟩:=Zue h;have:c=10:=by simpa using h2
   exact .inr ⟨j,by rw [h3,Nat.zero_add],this ▸ h1⟩
 have hpn:(0 :: pz (fun c=>[c] == [10]) code 0).length < 1000:=by rw [List.length_cons]; lia
 have hl0:0 :: pz (fun c=>[c] == [10]) code 0≠[]:=nofun;refine Zdt (v:=.lst (sv (0 :: pz (fun c=>[c] == [10]) code 0))) (Ev.bin (a:=.lst [.int 0]) (Ev.lst (Es.cons Ev.k Es.nil) (Ye rfl)) (Ev.places op_eq I.c1 hn) (Zxq (by show 1 + (sv _).length≤_; rw [show (sv (pz (fun c=>[c] == [10]) code 0)).length=_ from List.length_map ..]; unfold Zc; lia))) ?_;generalize 0 :: pz (fun c=>[c] == [10]) code 0=l at hm hpn hl0;refine (show Zb _ _ _ (l4 sc dr ts lv due x (some (.int 2)) (some (.int y)) (some (.lst (sv l))) lo cells) from ?_);obtain ⟨n,hn0,hn1,en⟩:∃ n:Nat,(n=0∨∃ j,n=j + 1∧code[j]?=some 10)∧(lv=1→n=0)∧Ev (pIte (tE (pCmp .Eq (pVar 5) (pC (.int 1)))) (pC (.int 0)) (pIdx (pVar 10) (pBin .Mod (pVar 9) (pLen (pVar 10))))) (l4 sc dr ts lv due x (some (.int 2)) (some (.int y)) (some (.lst (sv l))) lo cells) (.int (n:Nat)) (l4 sc dr ts lv due x (some (.int 2)) (some (.int y)) (some (.lst (sv l))) lo cells):=by
  by_cases h1:lv=1
  ·subst h1;exact ⟨0,.inl rfl,fun _=>rfl,Ev.ifT (Eb.cmp (a:=.int 1) (Ev.var rfl) Ev.k rfl) Ev.k⟩
  ·obtain ⟨n,hm',en⟩:=Ev.one (l:=l) (y:=y) (st:=l4 sc dr ts lv due x (some (.int 2)) (some (.int y)) (some (.lst (sv l))) lo cells) hl0 hpn rfl rfl;exact ⟨n,hm n hm',fun z=>absurd z h1,Ev.ifF (Eb.cmp (Ev.var rfl) Ev.k (by rw [eq_int]; congr 2; rw [beq_eq_false_iff_ne]; lia)) en⟩
 refine Zdt en ?_;refine (show Zb _ _ _ (l4 sc dr ts lv due x (some (.int 2)) (some (.int y)) (some (.lst (sv l))) (some (.int (n:Nat))) cells) from ?_);obtain ⟨cells',hk,hz,e⟩:=Ev.slo (P:=pVar 4) (P':=pVar 11) (lo:=n) (st:=l4 sc dr ts lv due x (some (.int 2)) (some (.int y)) (some (.lst (sv l))) (some (.int (n:Nat))) cells) (Ev.var rfl) (Ev.var rfl) I.pz I.f hn0 hn1;refine Zbn (Eb.cmp e Ev.k rfl) ?_;have hc:=hk 1 _ (by decide) I.c1;have hnl:n≤code.length:=by
  rcases hn0 with rfl | ⟨j,rfl,hj⟩
  ·exact Yas _
  ·exact (Yi.mp hj).1
 refine s_to (v:=.str (code.drop n)) (Ev.slice (Ev.box hc) (Eo.yes (Ev.var rfl)) Eo.no (Zox rfl hnl (ltd hn))) ⟨_,hc,?_⟩;have ke:=Zqi (w:=some (.str (code.drop n))) hc
 by_cases h0:lv=0
 ·subst h0;exact K _ (code.drop n) (code.drop n) 0 _ _ _ _ _ ⟨Zn hc,ke 2 _ (fun _ q=>nomatch q) (hk 2 _ (by decide) I.c2),(hz.up ke).rebase,I.f.drop n,I.f.drop n,fun _=>rfl⟩ fun z=>absurd z (by decide)
 ·exact K _ (code.drop n) base lv _ _ _ _ _ ⟨Zn hc,ke 2 _ (fun _ q=>nomatch q) (hk 2 _ (by decide) I.c2),hz.up ke,I.f.drop n,I.fb,fun z=>absurd z h0⟩ fun z=>(D z).up fun i vs hi=>ke i _ (fun _ q=>nomatch q) (I.pz.kept hk i vs hi)
theorem c3_ok{y:Int}(I:I4 cells code base lv)(D:0 < lv→Due cells due base)(K:K4 (nx Zv Q) sc dr ts x):Zz Q (l4 sc dr ts lv due x (some (.int 3)) (some (.int y)) pl lo cells):=by
 refine Zgi (Eb.cmp (a:=.int 3) (Ev.var rfl) Ev.k rfl) (Zgi (Eb.cmp (a:=.int 3) (Ev.var rfl) Ev.k rfl) (Zgi (Eb.cmp (a:=.int 3) (Ev.var rfl) Ev.k rfl) (Zft (Eb.cmp (a:=.int 3) (Ev.var rfl) Ev.k rfl) ?_)));have hn:=I.f.n;have hp:=Zuf (fun c=>[c] != [10]) code 0;have hm:∀ n∈pz (fun c=>[c] != [10]) code 0,∃ j c,n=j + 1∧code[j]?=some c∧([c] != [10])=true:=fun n h=>by
  obtain ⟨j,c,h1,h2,h3⟩:=Zue h;exact ⟨j,c,by rw [h3,Nat.zero_add],h1,h2⟩
 refine Zdt (Ev.places op_ne I.c1 hn) ?_;have hpn:(pz (fun c=>[c] != [10]) code 0).length < 1000:=by lia
 generalize pz (fun c=>[c] != [10]) code 0=l at hm hpn;refine (show Zb _ _ _ (l4 sc dr ts lv due x (some (.int 3)) (some (.int y)) (some (.lst (sv l))) lo cells) from ?_);have hne:Zes .NotEq (.lst (sv l)) (.lst [])=some (.bool (!decide (l=[]))):=by show (veq _ _).map _=_; rw [veq_nil]; rfl
 by_cases h0:l=[]
 ·exact Zbn (Eb.cmp (Ev.var rfl) (Ev.lst Es.nil (Yas _)) (by rw [hne,decide_eq_true h0]; rfl)) (K _ _ _ _ _ _ _ _ _ I D)
 ·refine Zft (Eb.cmp (Ev.var rfl) (Ev.lst Es.nil (Yas _)) (by rw [hne,decide_eq_false h0]; rfl)) ?_;obtain ⟨n,hm',en⟩:=Ev.one (l:=l) (y:=y) (st:=l4 sc dr ts lv due x (some (.int 3)) (some (.int y)) (some (.lst (sv l))) lo cells) h0 hpn rfl rfl;obtain ⟨j,c,rfl,hj,hc⟩:=hm n hm';obtain ⟨a4,a5,a6,a7,a8,a9,a10,hi⟩:=I.pz.inst;exact s_try (Ev.var rfl) hi (Es.cons en Es.nil) rfl (Eb.lo_r hi rfl hj hc hn) (K _ _ _ _ _ _ _ _ _ I D)
end
end Mine
namespace Mine
section
variable{sc dr due:V}{ts:List (List Nat)}{Q:Fl→St→Prop}{x c y pl lo:Option V}{cells cells':List Cell}{code base:List Nat}{lv lv':Nat}
theorem Zqa{Z:PX}(I:I4 cells code base lv)(D:0 < lv→Due cells due base)(k:∀ cells' due',I4 cells' code base lv→Due cells' due' base→Z Q (l4 sc dr ts lv due' x c y pl lo cells')) :
  Zb (xIf (tE (pCmp .Eq (pVar 5) (pC (.int 0)))) (Zb (xSet 6 (pIte (tE (pHas (pBox 1) (pVar 3))) (pGet (pVar 3) (pBox 1)) (pDef 1 3 Zca (Za (pBox 1) pNil)))) xNil) xNil) Z Q (l4 sc dr ts lv due x c y pl lo cells):=by
 cases lv with
 | succ lv=>exact Zbn (Eb.cmp (a:=.int ((lv + 1:Nat):Int)) (Ev.var rfl) Ev.k (by rw [eq_int]; congr 2)) (k _ _ I (D (Ybm _)))
 | zero =>
  refine Zft (Eb.cmp (a:=.int 0) (Ev.var rfl) Ev.k rfl) ?_;have hb:=I.b rfl;subst hb;have hh:Eb (tE (pHas (pBox 1) (pVar 3))) (l4 sc dr ts 0 due x c y pl lo cells) (Zbq knK knV ⟨base.toArray⟩).isSome (l4 sc dr ts 0 due x c y pl lo cells):=Eb.has (Ev.box I.c1) (Ev.var rfl) I.c2;cases q:Zbq knK knV ⟨base.toArray⟩ with
  | some v =>
   rw [q] at hh;exact Zdt (Ev.ifT hh (Ev.at (Ev.var rfl) (Ev.box I.c1) I.c2 q)) (k cells v I (Zux q))
  | none =>
   rw [q] at hh;obtain ⟨cells',g,hk,hg,e⟩:=Ev.fresh (P:=pBox 1) (st:=l4 sc dr ts 0 due x c y pl lo cells) (Ev.box I.c1) I.f;exact Zdt (Ev.ifF hh e) (k cells' _ ⟨hk _ _ I.c1,hk _ _ I.c2,I.pz.up fun i c _ h=>hk i c h,I.f,I.fb,fun _=>rfl⟩ ⟨.ref g,rfl,.inr ⟨g,rfl,hg⟩⟩)
theorem I4.up2(I:I4 cells code base lv)(hk:Kp 3 cells cells')(hz:Pz cells' 3 code base 2):I4 cells' code base 2:=I.keep hk hz fun z=>nomatch z
theorem mx2(I:I4 cells code base lv):(if true=true then max (lv:Int) 2 else min (lv:Int) 2)=((2:Nat):Int):=by
 have:=I.le2;rw [if_pos rfl]; lia
theorem Zco{Z:PX}{n:Int}{U:PB}{m:Int}{st:St}(h:st.loc[8]?=some (some (.int m)))(hm:(m == n)=false)(k:Z Q st):Zb (xIf (tAnd (tE (pCmp .Eq (pVar 8) (pC (.int n)))) U) (Zb (xRet (pC (.bool false))) xNil) xNil) Z Q st:=Zbn (Eb.andF (Eb.cmp (Ev.var h) Ev.k (by rw [eq_int,hm]))) k
theorem Zpc{Z:PX}{n:Int}{U:PB}{st st₁:St}(h:st.loc[8]?=some (some (.int n)))(hu:Eb U st false st₁)(k:Z Q st₁):Zb (xIf (tAnd (tE (pCmp .Eq (pVar 8) (pC (.int n)))) U) (Zb (xRet (pC (.bool false))) xNil) xNil) Z Q st:=Zbn (Eb.andT (Eb.cmp (Ev.var h) Ev.k (by rw [eq_int,beq_self_eq_true])) hu) k
theorem Zcp{X Y:PX}{n m:Int}{st:St}(h:st.loc[8]?=some (some (.int m)))(hm:(m == n)=false)(k:Y (nx xNil Q) st):Zb (xIf (tE (pCmp .Eq (pVar 8) (pC (.int n)))) X Y) xNil Q st:=Zgi (Eb.cmp (Ev.var h) Ev.k (by rw [eq_int,hm])) k
theorem c4_ok(I:I4 cells code base lv)(D:0 < lv→Due cells due base)(K:K4 (nx Zv Q) sc dr ts x):Zz Q (l4 sc dr ts lv due x (some (.int 4)) y pl lo cells):=by
 refine Zgi (Eb.cmp (a:=.int 4) (Ev.var rfl) Ev.k rfl) (Zcp (m:=4) rfl rfl (Zcp (m:=4) rfl rfl (Zcp (m:=4) rfl rfl ?_)));refine Zqa I D fun cells due I D=>?_;refine Zdt (Ev.mm (k:=((max lv 1:Nat):Int)) (Ev.var rfl) (Ev.ifT (Eb.cmp (a:=.int 4) (Ev.var rfl) Ev.k rfl) Ev.k) (by rw [if_pos rfl]; lia)) ?_;refine (show Zb _ _ _ (l4 sc dr ts (max lv 1) due x (some (.int 4)) y pl lo cells) from ?_);obtain ⟨cells',hk,hz,e⟩:=Ev.gct (P:=pVar 4) (st:=l4 sc dr ts (max lv 1) due x (some (.int 4)) y pl lo cells) (Ev.var rfl) I.pz I.f I.b;have D':=D;obtain ⟨gv,rfl,ho⟩:=D;refine Zpc rfl (Eb.cmp e (Ev.idx (Ev.var rfl) Ev.k (Zdg (j:=0) rfl rfl (Ye rfl))) (ne_self _)) ?_;exact Zco (m:=4) rfl rfl (Zco (m:=4) rfl rfl (Zco (m:=4) rfl rfl (K cells' code base (max lv 1) _ _ _ _ _ (I.keep hk hz fun z=>by lia) fun _=>D'.up (I.pz.kept hk))))
theorem c5_ok(I:I4 cells code base lv)(D:0 < lv→Due cells due base)(K:K4 (nx Zv Q) sc dr ts x):Zz Q (l4 sc dr ts lv due x (some (.int 5)) y pl lo cells):=by
 refine Zgi (Eb.cmp (a:=.int 5) (Ev.var rfl) Ev.k rfl) (Zcp (m:=5) rfl rfl (Zcp (m:=5) rfl rfl (Zcp (m:=5) rfl rfl ?_)));refine Zqa I D fun cells due I D=>?_;refine Zdt (Ev.mm (Ev.var rfl) (Ev.ifF (Eb.cmp (a:=.int 5) (Ev.var rfl) Ev.k rfl) Ev.k) (mx2 I)) ?_;refine (show Zb _ _ _ (l4 sc dr ts 2 due x (some (.int 5)) y pl lo cells) from ?_);obtain ⟨cells',hk,hz,e⟩:=Ev.st2 (P:=pVar 4) (st:=l4 sc dr ts 2 due x (some (.int 5)) y pl lo cells) (Ev.var rfl) I.pz I.f I.b;exact Zco (m:=5) rfl rfl (Zpc rfl (Eb.cmp e Ev.k rfl) (Zco (m:=5) rfl rfl (Zco (m:=5) rfl rfl (K cells' code base 2 _ _ _ _ _ (I.up2 hk hz) fun _=>D.up (I.pz.kept hk)))))
theorem c6_ok(I:I4 cells code base lv)(D:0 < lv→Due cells due base)(K:K4 (nx Zv Q) sc dr ts x):Zz Q (l4 sc dr ts lv due x (some (.int 6)) y pl lo cells):=by
 refine Zgi (Eb.cmp (a:=.int 6) (Ev.var rfl) Ev.k rfl) (Zcp (m:=6) rfl rfl (Zcp (m:=6) rfl rfl (Zcp (m:=6) rfl rfl ?_)));refine Zqa I D fun cells due I D=>?_;refine Zdt (Ev.mm (Ev.var rfl) (Ev.ifF (Eb.cmp (a:=.int 6) (Ev.var rfl) Ev.k rfl) Ev.k) (mx2 I)) ?_;refine (show Zb _ _ _ (l4 sc dr ts 2 due x (some (.int 6)) y pl lo cells) from ?_);obtain ⟨cells',hk,hz,e⟩:=Ev.gls (P:=pVar 4) (st:=l4 sc dr ts 2 due x (some (.int 6)) y pl lo cells) (Ev.var rfl) I.pz I.f I.b;have D':=D;obtain ⟨gv,rfl,ho⟩:=D;refine Zco (m:=6) rfl rfl (Zco (m:=6) rfl rfl (Zpc rfl (Eb.cmp e (Ev.idx (Ev.idx (Ev.var rfl) Ev.k (Zdg (j:=2) rfl rfl (Ye rfl))) Ev.k (Zdg (j:=4) rfl rfl (Ye rfl))) (Zur (Zyb _))) ?_));exact Zco (m:=6) rfl rfl (K cells' code base 2 _ _ _ _ _ (I.up2 hk hz) fun _=>D'.up (I.pz.kept hk))
theorem ne_bool(b:Bool):Zes .NotEq (.bool b) (.bool b)=some (.bool false):=by cases b <;> rfl
theorem c7_ok(I:I4 cells code base lv)(D:0 < lv→Due cells due base)(K:K4 (nx Zv Q) sc dr ts x):Zz Q (l4 sc dr ts lv due x (some (.int 7)) y pl lo cells):=by
 refine Zgi (Eb.cmp (a:=.int 7) (Ev.var rfl) Ev.k rfl) (Zcp (m:=7) rfl rfl (Zcp (m:=7) rfl rfl (Zcp (m:=7) rfl rfl ?_)));refine Zqa I D fun cells due I D=>?_;refine Zdt (Ev.mm (Ev.var rfl) (Ev.ifF (Eb.cmp (a:=.int 7) (Ev.var rfl) Ev.k rfl) Ev.k) (mx2 I)) ?_;refine (show Zb _ _ _ (l4 sc dr ts 2 due x (some (.int 7)) y pl lo cells) from ?_);obtain ⟨cells',hk,hz,e⟩:=Ev.ibo (P:=pVar 4) (st:=l4 sc dr ts 2 due x (some (.int 7)) y pl lo cells) (Ev.var rfl) I.pz I.f I.b;have D':=D;obtain ⟨gv,rfl,ho⟩:=D;refine Zco (m:=7) rfl rfl (Zco (m:=7) rfl rfl (Zco (m:=7) rfl rfl (Zpc rfl (Eb.cmp e (Ev.cmp (Ev.idx (Ev.idx (Ev.var rfl) Ev.k (Zdg (j:=2) rfl rfl (Ye rfl))) Ev.k (Zdg (j:=2) rfl rfl (Ye rfl))) Ev.k (eq_str _ [58])) (ne_bool _)) ?_)));exact K cells' code base 2 _ _ _ _ _ (I.up2 hk hz) fun _=>D'.up (I.pz.kept hk)
theorem b1_ok{x:Int}(hl:ts.length=8)(hf:∀ t∈ts,Fit t)(I:I4 cells code base lv)(D:0 < lv→Due cells due base)(K:K4 Q sc dr ts (some (.int x))):Zom Q (l4 sc dr ts lv due (some (.int x)) c y pl lo cells):=by
 have K':K4 (nx Zv Q) sc dr ts (some (.int x)):=fun cells code base lv due c y pl lo I D=>t2_ok I D (K cells code base lv due c y pl lo I D);obtain ⟨m,hm,em⟩:=Zel x 8 (by decide);refine Zts (a:=.int m) (b:=.int (x.fdiv 8)) (Ev.tup (Es.cons (Ev.bin (Ev.var rfl) Ev.k (congrArg (some ∘ V.int) em)) (Es.cons (Ev.bin (Ev.var rfl) Ev.k rfl) Es.nil)) (Ye rfl)) ?_;refine (show Zz Q (l4 sc dr ts lv due (some (.int x)) (some (.int m)) (some (.int (x.fdiv 8))) pl lo cells) from ?_)
 match m,hm with
 | 0,_=>exact c0_ok hl hf I K'
 | 1,_=>exact c1_ok hl hf I D K'
 | 2,_=>exact c2_ok I D K'
 | 3,_=>exact c3_ok I D K'
 | 4,_=>exact c4_ok I D K'
 | 5,_=>exact c5_ok I D K'
 | 6,_=>exact c6_ok I D K'
 | 7,_=>exact c7_ok I D K'
 | m + 8,h=>exact absurd h (Ybd.mpr (Ybl _ _))
theorem loop4(hl:ts.length=8)(hf:∀ t∈ts,Fit t)(h:∀ st,Q (.ret (.bool true)) st):∀ (xs:List Int) (x:Option V) (cells:List Cell) (code base:List Nat) (lv:Nat) (due:V) (c y pl lo:Option V),I4 cells code base lv→(0 < lv→Due cells due base)→forL (Zw 7) Zom xNil (nx Zxs Q) (xs.map .int) (l4 sc dr ts lv due x c y pl lo cells)
 | [],x,cells,code,base,lv,due,c,y,pl,lo,I,D=>Zlo (Z:=xNil) Ev.k (h _)
 | x :: xs,_,cells,code,base,lv,due,c,y,pl,lo,I,D=>b1_ok (x:=x) (c:=c) (y:=y) (pl:=pl) (lo:=lo) hl hf I D fun cells code base lv due c y pl lo I D=>loop4 hl hf h xs (some (.int x)) cells code base lv due c y pl lo I D
end
end Mine
namespace Mine
noncomputable def tx4(d:List Nat):List (List Nat):=[[105,102,32,97,58,10,32,32,102,40,98,44,10],[120,32,61,32,39,39,39,10,121,10],[99,41,93,32,92,98,32,92,10],[35,32,100,10,10],[],[40,101,41,10,103,58,32,35,41,10],[107,40,34,92,10],d]
noncomputable def fx4(l:List Nat):Bool:=l.all (fun c=>decide (c < 128)) && (l.isEmpty || l.getLast? == some 10) && decide (l.length < 500)
theorem Zdb{l:List Nat}(h:fx4 l=true):Fit l:=by
 unfold fx4 at h;simp only [Bool.and_eq_true,List.all_eq_true,decide_eq_true_eq,Bool.or_eq_true,List.isEmpty_iff,beq_iff_eq] at h;exact ⟨h.1.1,h.1.2,h.2⟩
theorem tx4_fit{d:List Nat}(h:Fit d):∀ t∈tx4 d,Fit t:=by
 unfold tx4;simp only [List.forall_mem_cons];exact ⟨Zdb rfl,Zdb rfl,Zdb rfl,Zdb rfl,Zdb rfl,Zdb rfl,Zdb rfl,h,fun _ q=>nomatch q⟩
theorem s_unpB3{P:PE}{Z:PX}{Q:Fl→St→Prop}{i j l:Nat}{a b d:V}{u:Option V}{st st₁:St}(h:Ev P st (.tup [a,b,d]) st₁)(h1:st₁.cells[i]?=some (.box u))(k:Z Q (((st₁.setBox i a).set j b).set l d)):Zb (Zdq [sBox i,Zw j,Zw l] P) Z Q st:=h _ ⟨_,rfl,rfl,_,h1,k⟩
noncomputable def run4:List Int:=[5,10,6,1,3,4,0,7,8,6,16,5,40,7,48,4,6]
section
variable{sc:Option V}{Q:Fl→St→Prop}
theorem t2_all{xs:List Int}{d:List Nat}(hn:xs.length≤1000000)(hd:Fit d)(h:∀ st,Q (.ret (.bool true)) st) :
  Zxv Q ⟨[some (.lst (xs.map .int)),some (.str d),none,none,none,none,none,none,none,none,none,none],[.box (some (.lst (pc4.map .str))),.box none]⟩:=by
 refine Zdt (v:=.lst ((tx4 d).map .str)) (Ev.lst (Es.cons Ev.k (Es.cons Ev.k (Es.cons Ev.k (Es.cons Ev.k (Es.cons Ev.k (Es.cons Ev.k (Es.cons Ev.k (Es.cons (Ev.var rfl) Es.nil)))))))) (Ye rfl)) ?_;have hf:=tx4_fit hd;have hl:(tx4 d).length=8:=rfl;have h0:((tx4 d).map V.str)[0]?=some (.str [105,102,32,97,58,10,32,32,102,40,98,44,10]):=rfl;have hf0:Fit [105,102,32,97,58,10,32,32,102,40,98,44,10]:=Zdb rfl;generalize [105,102,32,97,58,10,32,32,102,40,98,44,10]=t at h0 hf0;generalize tx4 d=ts at hf hl h0;refine Zts (a:=.ref 2) (b:=.inst 3) (Ev.tup (Es.cons (Ev.known _) (Es.cons (Ev.make _) Es.nil)) (Ye rfl)) ?_;refine (show Zxu Q ⟨[some (.lst (xs.map .int)),some (.str d),some (.lst (ts.map .str)),some (.ref 2),some (.inst 3),none,none,none,none,none,none,none],[.box (some (.lst (pc4.map .str))),.box none,.dct knK knV,Zjm]⟩ from ?_);refine s_unpB3 (Ev.tup (Es.cons (Ev.idx (Ev.var rfl) Ev.k (Zed (j:=0) rfl h0 (by rw [List.length_map,hl]; decide))) (Es.cons Ev.k (Es.cons Ev.k Es.nil))) (Ye rfl)) rfl ?_;refine (show Zxt Q ⟨[some (.lst (xs.map .int)),some (.str d),some (.lst (ts.map .str)),some (.ref 2),some (.inst 3),some (.int 0),some .none,none,none,none,none,none],[.box (some (.lst (pc4.map .str))),.box (some (.str t)),.dct knK knV,Zjm]⟩ from ?_);have hp:([.box (some (.lst (pc4.map .str))),.box (some (.str t)),.dct knK knV,Zjm]:List Cell)[3]?=some Zjm:=rfl;refine Zij (Ev.meth (n:=3) (Ev.var rfl) hp (Es.cons (Ev.box rfl) Es.nil) rfl (fun Q k=>Zds hp hf0.l (Ycb hf0.n (by decide)) k) (fl:=.next) rfl) ?_;refine s_for (vs:=(xs.take 16++run4).map .int) (Ev.bin (Ev.slice (Ev.var rfl) Eo.no (Eo.yes Ev.k) (Zov (n:=16) hn)) (b:=.lst (run4.map .int)) (Ev.lst (Es.cons Ev.k (Es.cons Ev.k (Es.cons Ev.k (Es.cons Ev.k (Es.cons Ev.k (Es.cons Ev.k (Es.cons Ev.k (Es.cons Ev.k (Es.cons Ev.k (Es.cons Ev.k (Es.cons Ev.k (Es.cons Ev.k (Es.cons Ev.k (Es.cons Ev.k (Es.cons Ev.k (Es.cons Ev.k (Es.cons Ev.k Es.nil))))))))))))))))) (Ye rfl)) ((Zxq (by simp [run4,Zc]; lia)).trans (by rw [List.map_append]))) ?_;exact loop4 (sc:=.lst (xs.map .int)) (dr:=.str d) hl hf h (xs.take 16++run4) none _ t t 0 .none none none none none ⟨rfl,rfl,.z _ _ _ _ _ _ _ rfl,hf0,hf0,fun _=>rfl⟩ fun z=>absurd z (by decide)
end
theorem Zzh{Q:Fl→St→Prop}{xs:List Int}(hn:xs.length≤1000000)(h:∀ st,Q (.ret (.bool true)) st):Xlaw Q ⟨[some (.lst (xs.map .int)),none,none,none,none,none,none,none,none,none,none,none],[.box none,.box none]⟩:=by
 refine s_to (v:=.lst (pc4.map .str)) (st₁:=⟨[some (.lst (xs.map .int)),none,none,none,none,none,none,none,none,none,none,none],[.box none,.box none]⟩) (fun Q q=>⟨by decide,q⟩) ⟨none,rfl,?_⟩;obtain ⟨d,hd,e⟩:=Ev.drawn (P:=Zcx (pVar 0) none (some (pC (.int 8)))) (xs:=xs.take 8) (st:=⟨[some (.lst (xs.map .int)),none,none,none,none,none,none,none,none,none,none,none],[.box (some (.lst (pc4.map .str))),.box none]⟩) (Ev.slice (Ev.var rfl) Eo.no (Eo.yes Ev.k) (Zov (n:=8) hn)) rfl (by rw [List.length_take]; exact Nat.min_le_left _ _);exact Zdt e (t2_all hn hd h)
end Mine
end
section
open PySem PySem.W PySem.Calls PyProof.Rows
namespace Mine
section
variable{prog:Program}{w:World}{B:Base}{E:Value→Shared→Prop}{s:Shared}
end
theorem Zvc{R:WRecords}{P:Params}{h:Heap}{ω:Wd}:∀ {vs:List Value} {xs:List WData},WellAll P h vs xs→WShape.hasItems R xs .int=true→∃ ns:List Int,xs=ns.map .int∧VRs ω (ns.map .int) vs:=by
 intro vs
 induction vs with
 | nil=>intro xs hw _; cases hw; exact ⟨[],rfl,.nil⟩
 | cons v vs ih =>
  intro xs hw hi;cases hw with
  | @cons _ _ x xs r rs =>
   have hi':WShape.has R x .int=true∧WShape.hasItems R xs .int=true:=by simpa [WShape.hasItems] using hi
   obtain ⟨i,rfl⟩:=hasW_int hi'.1;obtain ⟨ns,rfl,hv⟩:=ih rs hi'.2;cases r with
   | int i t=>exact ⟨i :: ns,rfl,.cons (.int i t) hv⟩
end Mine
namespace Mine
section
variable{prog:Program}{w:World}{B:Base}{A:Around}{E:Value→Shared→Prop}{s:Shared}{fa:Addr}{fd:FuncData}{body:List Stmt}{names bs:List Str}
theorem Zrp{c:Ctx}{n:Nat}{b:Nat}(D:DefAtB B fa fd body names bs)(hn:names=c.names){X:PX}(T:TopOk w B)(hsc:fd.scope=c.sc)(ha:B.attrs=c.attrs)(hbx:c.bx=bs.zip (List.range' b bs.length))(gl:∀ x g,c.globs.lookup x=some g→GOk prog w B n x g)(ms:∀ x np nl X,c.meths.lookup x=some (np,nl,X)→MOk prog w B n x np nl X)
  (h:CompilesT c body X) (L:Addr) (A:Around) (room:Room A (n + 2)) (o:OneFrame (D.fx b L) A):EX prog w B (D.fx b L) A (execs body (D.fx b L).env) X:=h.does (f:=D.fx b L) (A:=A) ⟨T,room.less (Yaa _),hn,hsc,D.ok b L,ha,hbx.symm,gl,ms⟩ o
theorem Ztd{n:Nat}(O:TopOk w B)(hb:B.hb=s.heap)(ho:B.os=s.os)(hg:s.gens=#[])(room:Room callerA (n + 1))(D:DefAtB B fa fd body names bs){X:PX}(hX:∀ (L:Addr) (A:Around),Room A n→OneFrame (D.fx 0 L) A→EX prog w B (D.fx 0 L) A (execs body (D.fx 0 L).env) X)
  {v:V} {xv:Value} (hv:VR ⟨B.hb.get?,fun _=>none,[],B.C⟩ v xv) (hq:X (fun fl _=>flV fl=.bool true) ⟨[v].map some++List.replicate (names.length - 1) none,bs.map fun _=>.box none⟩) :
  wpAny (model prog w) callerA (call (.ref fa) [xv]) (fun r s'=>r=.bool true∧(∀ b o,s.heap.get? b=some o→s'.heap.get? b=some o)∧s'.os=s.os∧s'.gens=#[]) E s:=by
 have hk0:∀ b o,B.hb.get? b=some o→s.heap.get? b=some o:=fun b o e=>by rw [hb] at e; exact e
 refine wpAny_call (callB_in O D 0 (by have:=room.2.2; omega) hk0 fun h' pn hp hns hk hc=>?_);have out:∀ a,s.heap.objs.size≤a→B.hb.get? a=none:=fun a ha=>by
  cases q:B.hb.get? a with
  | none=>rfl
  | some o=>exact absurd (Yd (Yk (hk0 a o q)) ha) (Yl _)
 have R₀:Rel B { D.fx 0 s.heap.objs.size with bx:=[] } ⟨B.hb.get?,fun _=>none,[],B.C⟩ ⟨some v :: List.replicate (names.length - 1) none,[]⟩ { s with heap:=h',toks:=s.toks + 1 }:=by
  refine ⟨fun a o e=>hk a o (hk0 a o e),(fun a o e=>nomatch e),fun a o e=>e,by rw [hb]; exact Yaa _,⟨_,hns,fun i x u h1 h2=>?_⟩,rfl,fun i d c h1 h2=>(nomatch h1),Yu.mpr ⟨fun h=>(nomatch h),Yah⟩,fun a ha=>⟨out a (Ybg (Yx.mp ha).symm),rfl⟩,⟨hg,ho.symm⟩,rfl,Yag (Yas _),fun x n e=>nomatch e⟩;cases i with
  | zero=>cases h2; exact ⟨xv,if_pos (Yc (h1.symm.trans hp)),hv⟩
  | succ i =>
   have:=Yw (show (List.replicate (names.length - 1) (none:Option V))[i]?=some (some u) from h2);rw [List.mem_replicate] at this;exact absurd this.2 (fun q=>nomatch q)
 have R₁:=(R₀.addBoxes (ds:=List.range' (s.heap.objs.size + 1) bs.length) List.nodup_range' fun d hd=>by
  have hlo:s.heap.objs.size + 1≤d:=(List.mem_range'_1.mp hd).1
  exact ⟨⟨out d (Ybu hlo),rfl,fun q=>Yl _ (Yx.mp q ▸ hlo)⟩,hc d hd⟩).reframe (f:=D.fx 0 s.heap.objs.size) rfl rfl (D.bx 0 _ (cs:=[]) rfl)
 refine (hX s.heap.objs.size _ (room.deeper _) ⟨Around.frames_deeper rfl,rfl⟩).to R₁ (by rw [Znq,List.length_range',← Znq]; exact hq) (fun x s₂ fl st₂ ω₂ l₂ vf R₂ q=>?_);have hkeep:∀ b o,s.heap.get? b=some o→s₂.heap.get? b=some o:=fun b o e=>R₂.hk b o (by rw [hb]; exact e);cases vf with
 | next=>cases q
 | brk=>cases q
 | cont=>cases q
 | ret u =>
  cases q;exact ⟨u.bool_inv,hkeep,R₂.gens.2.trans ho,R₂.gens.1⟩
end
end Mine
end
section
set_option tactic.hygienic true
open PySem PySem.W PySem.Calls PyProof.Rows
set_option maxRecDepth 100000
set_option maxHeartbeats 0
namespace Mine
theorem cc_init:Compiles (cxInit (fSc (sub (stm 17) 0))) (Zad (sub (stm 17) 0)) Zon:=⟨fun K=>by kernel_rfl⟩
theorem cc_set:Compiles (cxSet (fSc (sub (stm 17) 1))) (Zad (sub (stm 17) 1)) Zap:=⟨fun K=>by kernel_rfl⟩
theorem cc_s1:Compiles (cx1 (fSc (sub (stm 17) 4))) (Zad (sub (stm 17) 4)) Zbk:=⟨fun K=>by kernel_rfl⟩
theorem cc_s2:Compiles (cx2 (fSc (sub (stm 17) 6))) (Zad (sub (stm 17) 6)) Zaa:=⟨fun K=>by kernel_rfl⟩
theorem cc_g:Compiles (cxG (fSc (sub (stm 17) 5))) (Zad (sub (stm 17) 5)) Zi:=⟨fun K=>by kernel_rfl⟩
theorem cc_bo:Compiles (cxBO (fSc (sub (stm 17) 11))) (Zad (sub (stm 17) 11)) Zae:=⟨fun K=>by kernel_rfl⟩
theorem cc_gl:Compiles (cxGL (fSc (sub (stm 17) 13))) (Zad (sub (stm 17) 13)) Zl:=⟨fun K=>by kernel_rfl⟩
theorem cc_lo:Compiles (cxLo (fSc (sub (stm 17) 3))) (Zad (sub (stm 17) 3)) Zmp:=⟨fun K=>by kernel_rfl⟩
theorem cc_k:Compiles (cxK (fSc (stm 19))) (Zad (stm 19)) Zdf:=⟨fun K=>by kernel_rfl⟩
theorem cc_t:Compiles (cxT (fSc (stm 20))) (Zad (stm 20)) Zcm:=⟨fun K=>by kernel_rfl⟩
theorem cc_f:Compiles (cxF (fSc (stm 21))) (Zad (stm 21)) Zca:=⟨fun K=>by kernel_rfl⟩
theorem cr_set:CompilesR (cxSet (fSc (sub (stm 17) 1))) (Zad (sub (stm 17) 1)) Zbz:=⟨fun K=>by kernel_rfl⟩
theorem cr_lo:CompilesR (cxLo (fSc (sub (stm 17) 3))) (Zad (sub (stm 17) 3)) Zev:=⟨fun K=>by kernel_rfl⟩
theorem cc_law:CompilesT (cxL (fSc (stm 22))) (Zad (stm 22)) Xlaw:=⟨fun K o=>by kernel_rfl⟩
end Mine
namespace Mine
noncomputable def BB(P:Params)(h:Heap)(os:OsState):Base:=⟨h,kf P,249,attrsP,os
 ,hashP P
 ⟩
theorem base_ok{w:World}{h:Heap}{os:OsState}(X:(kf w.params).In h):BaseOk w (BB w.params h os):=by
 refine ⟨X,(show attrsP.Nodup by decide),(show attrsP.length≤100 by decide),?_,fun x=>?_,?_,?_,?_
  ,rfl
  ⟩
 ·show hasDictIn (kf w.params) 249=true; kernel_rfl
 ·show plainGet (kf w.params) 249 x=true; kernel_rfl
 ·show ∀ x∈attrsP,findIn (kf w.params) (.ref 249) x=some none;unfold attrsP;simp only [List.forall_mem_cons];refine ⟨?_,?_,?_,?_,?_,?_,?_,?_,?_,?_,?_,fun x hx=>nomatch hx⟩ <;> kernel_rfl
 ·show findIn (kf w.params) (.ref 249) "__setattr__"=some (some (.builtin "object.__setattr__")); kernel_rfl
 ·show plainOver (kf w.params) 249=true; kernel_rfl
noncomputable def noCells(sc:Scope):Bool:=sc.names.all fun x=>x.2 != .cell
noncomputable def locals(sc:Scope)(ns:List Str):Bool:=ns.all fun x=>sc.names.lookup x == some .local
theorem Zdd{P:Params}{h:Heap}{os:OsState}(X:(kf P).In h){s:Stmt}{nm ql:Str}{pm:Value}{a c:Addr}{o oc:Obj}{vs:Array Value}{t:Tok}{names:List Str}{np:Nat}
  (h1:(kf P).lookup a=some o) (h2:o.data=.func (fd s nm ql 3 .none .none .none pm (.ref c) .none 0)) (h3:(kf P).lookup c=some oc) (h4:oc.data=.fields vs) (h5:vs[1]?=some (.str ql t))
  (h6:noCells (fSc s)=true) (h7:(fSc s).isCoroutine=false) (h8:(fSc s).isGenerator=false) (h9:(fSc s).kind=.function) (h10:names.Nodup) (h11:locals (fSc s) names=true) (h12:np≤names.length)
  (h13:∀ vs:List Value,vs.length=np→bindArgs (fd s nm ql 3 .none .none .none pm (.ref c) .none 0) ⟨vs,[]⟩=pure ((names.take np).zip vs)) :
  DefAt (BB P h os) a (fd s nm ql 3 .none .none .none pm (.ref c) .none 0) (Zad s) names np:=by
 refine ⟨⟨o,X _ _ h1,h2⟩,⟨c,oc,vs,t,rfl,X _ _ h3,h4,h5⟩,rfl,rfl,rfl,rfl,?_,h7,h8,h9,h10,?_,h12,h13⟩
 ·intro x hx;have:=Ybv.mp h6 x hx;simpa using this
 ·intro x hx;have:=Ybv.mp h11 x hx;exact eq_of_beq this
theorem Zdu{α:Type}{vs:List α}(h:vs.length=1):∃ a,vs=[a]:=List.length_eq_one_iff.mp h
theorem Zot{α:Type}{vs:List α}(h:vs.length=2):∃ a b,vs=[a,b]:=by
 match vs,h with
 | [a,b],_=>exact ⟨a,b,rfl⟩
theorem Zqo{α:Type}{vs:List α}(h:vs.length=3):∃ a b c,vs=[a,b,c]:=by
 match vs,h with
 | [a,b,c],_=>exact ⟨a,b,c,rfl⟩
section
variable{P:Params}{h:Heap}{os:OsState}
theorem Zqd(X:(kf P).In h):DefAt (BB P h os) 155 (fd (sub (stm 17) 0) "__init__" "Parser.__init__" 3 .none .none .none (.str "cpy313.idlelib.pyparse" 289) (.ref 154) .none 0) (Zad (sub (stm 17) 0)) Zxw 3 :=
 Zdd X (o:=o139 P) (oc:=o138 P) (by kernel_rfl) rfl (by kernel_rfl) rfl rfl (by kernel_rfl) (by kernel_rfl) (by kernel_rfl) (by kernel_rfl) (by decide) (by kernel_rfl) (by decide) (fun vs hv=>by obtain ⟨a,b,c,rfl⟩:=Zqo hv; kernel_rfl)
theorem Znz(X:(kf P).In h):DefAt (BB P h os) 162 (fd (sub (stm 17) 1) "set_code" "Parser.set_code" 3 .none .none .none (.str "cpy313.idlelib.pyparse" 289) (.ref 161) .none 0) (Zad (sub (stm 17) 1)) Ziw 2 :=
 Zdd X (o:=o143 P) (oc:=o142 P) (by kernel_rfl) rfl (by kernel_rfl) rfl rfl (by kernel_rfl) (by kernel_rfl) (by kernel_rfl) (by kernel_rfl) (by decide) (by kernel_rfl) (by decide) (fun vs hv=>by obtain ⟨a,b,rfl⟩:=Zot hv; kernel_rfl)
theorem d_s1(X:(kf P).In h):DefAt (BB P h os) 183 (fd (sub (stm 17) 4) "_study1" "Parser._study1" 3 .none .none .none (.str "cpy313.idlelib.pyparse" 289) (.ref 182) .none 0) (Zad (sub (stm 17) 4)) Zmo 1 :=
 Zdd X (o:=o155 P) (oc:=o154 P) (by kernel_rfl) rfl (by kernel_rfl) rfl rfl (by kernel_rfl) (by kernel_rfl) (by kernel_rfl) (by kernel_rfl) (by decide) (by kernel_rfl) (by decide) (fun vs hv=>by obtain ⟨a,rfl⟩:=Zdu hv; kernel_rfl)
theorem d_s2(X:(kf P).In h):DefAt (BB P h os) 197 (fd (sub (stm 17) 6) "_study2" "Parser._study2" 3 .none .none .none (.str "cpy313.idlelib.pyparse" 289) (.ref 196) .none 0) (Zad (sub (stm 17) 6)) Zmn 1 :=
 Zdd X (o:=o163 P) (oc:=o162 P) (by kernel_rfl) rfl (by kernel_rfl) rfl rfl (by kernel_rfl) (by kernel_rfl) (by kernel_rfl) (by kernel_rfl) (by decide) (by kernel_rfl) (by decide) (fun vs hv=>by obtain ⟨a,rfl⟩:=Zdu hv; kernel_rfl)
theorem d_g(X:(kf P).In h):DefAt (BB P h os) 190 (fd (sub (stm 17) 5) "get_continuation_type" "Parser.get_continuation_type" 3 .none .none .none (.str "cpy313.idlelib.pyparse" 289) (.ref 189) .none 0) (Zad (sub (stm 17) 5)) Zan 1 :=
 Zdd X (o:=o159 P) (oc:=o158 P) (by kernel_rfl) rfl (by kernel_rfl) rfl rfl (by kernel_rfl) (by kernel_rfl) (by kernel_rfl) (by kernel_rfl) (by decide) (by kernel_rfl) (by decide) (fun vs hv=>by obtain ⟨a,rfl⟩:=Zdu hv; kernel_rfl)
theorem d_bo(X:(kf P).In h):DefAt (BB P h os) 232 (fd (sub (stm 17) 11) "is_block_opener" "Parser.is_block_opener" 3 .none .none .none (.str "cpy313.idlelib.pyparse" 289) (.ref 231) .none 0) (Zad (sub (stm 17) 11)) Zcq 1 :=
 Zdd X (o:=o183 P) (oc:=o182 P) (by kernel_rfl) rfl (by kernel_rfl) rfl rfl (by kernel_rfl) (by kernel_rfl) (by kernel_rfl) (by kernel_rfl) (by decide) (by kernel_rfl) (by decide) (fun vs hv=>by obtain ⟨a,rfl⟩:=Zdu hv; kernel_rfl)
theorem d_gl(X:(kf P).In h):DefAt (BB P h os) 246 (fd (sub (stm 17) 13) "get_last_stmt_bracketing" "Parser.get_last_stmt_bracketing" 3 .none .none .none (.str "cpy313.idlelib.pyparse" 289) (.ref 245) .none 0) (Zad (sub (stm 17) 13)) Zai 1 :=
 Zdd X (o:=o191 P) (oc:=o190 P) (by kernel_rfl) rfl (by kernel_rfl) rfl rfl (by kernel_rfl) (by kernel_rfl) (by kernel_rfl) (by kernel_rfl) (by decide) (by kernel_rfl) (by decide) (fun vs hv=>by obtain ⟨a,rfl⟩:=Zdu hv; kernel_rfl)
theorem d_lo(X:(kf P).In h):DefAt (BB P h os) 176 (fd (sub (stm 17) 3) "set_lo" "Parser.set_lo" 3 .none .none .none (.str "cpy313.idlelib.pyparse" 289) (.ref 175) .none 0) (Zad (sub (stm 17) 3)) Zqk 2 :=
 Zdd X (o:=o151 P) (oc:=o150 P) (by kernel_rfl) rfl (by kernel_rfl) rfl rfl (by kernel_rfl) (by kernel_rfl) (by kernel_rfl) (by kernel_rfl) (by decide) (by kernel_rfl) (by decide) (fun vs hv=>by obtain ⟨a,b,rfl⟩:=Zot hv; kernel_rfl)
theorem d_k(X:(kf P).In h):DefAt (BB P h os) 260 (fd (stm 19) "_law_known" "_law_known" 3 .none .none .none (.str "law_dm0165_04" 1428) (.ref 259) .none 0) (Zad (stm 19)) Zhh 0 :=
 Zdd X (o:=o204 P) (oc:=o203 P) (by kernel_rfl) rfl (by kernel_rfl) rfl rfl (by kernel_rfl) (by kernel_rfl) (by kernel_rfl) (by kernel_rfl) (by decide) (by kernel_rfl) (by decide) (fun vs hv=>by obtain rfl:=Ycd hv; kernel_rfl)
theorem d_t(X:(kf P).In h):DefAt (BB P h os) 267 (fd (stm 20) "_law_told" "_law_told" 3 .none .none .none (.str "law_dm0165_04" 1428) (.ref 266) .none 0) (Zad (stm 20)) Zix 1 :=
 Zdd X (o:=o210 P) (oc:=o209 P) (by kernel_rfl) rfl (by kernel_rfl) rfl rfl (by kernel_rfl) (by kernel_rfl) (by kernel_rfl) (by kernel_rfl) (by decide) (by kernel_rfl) (by decide) (fun vs hv=>by obtain ⟨a,rfl⟩:=Zdu hv; kernel_rfl)
theorem d_f(X:(kf P).In h):DefAt (BB P h os) 274 (fd (stm 21) "_law_fresh" "_law_fresh" 3 .none .none .none (.str "law_dm0165_04" 1428) (.ref 273) .none 0) (Zad (stm 21)) Zhi 1 :=
 Zdd X (o:=o216 P) (oc:=o215 P) (by kernel_rfl) rfl (by kernel_rfl) rfl rfl (by kernel_rfl) (by kernel_rfl) (by kernel_rfl) (by kernel_rfl) (by decide) (by kernel_rfl) (by decide) (fun vs hv=>by obtain ⟨a,rfl⟩:=Zdu hv; kernel_rfl)
end
section
variable{P:Params}{h:Heap}{os:OsState}
theorem d_law(X:(kf P).In h):DefAtB (BB P h os) 279 (fd (stm 22) "law" "law" 3 .none .none .none (.str "law_dm0165_04" 1428) (.ref 278) .none 0) (Zad (stm 22)) Xlaw_n ["pieces","code"]:=by
 refine ⟨⟨o221 P,X _ _ (by kernel_rfl),rfl⟩,⟨278,o220 P,_,_,rfl,X _ _ (by kernel_rfl),rfl,rfl⟩,rfl,rfl,rfl,rfl,by kernel_rfl,by kernel_rfl,by kernel_rfl,by decide,?_,⟨"script",rfl,fun x=>by kernel_rfl⟩,fun n=>by kernel_rfl,by decide,?_⟩
 ·intro x hx;exact eq_of_beq (Ybv.mp (show locals (fSc (stm 22)) Xlaw_n=true by kernel_rfl) x hx)
 ·intro x hx;exact eq_of_beq (Ybv.mp (show ((["pieces","code"]:List Str).all fun x=>(fSc (stm 22)).names.lookup x == some .cell)=true by kernel_rfl) x hx)
end
noncomputable def tes(P:Params):Array DictEntry:=match (o116 P).data with
 | .dict es _=>es
 | _=>#[]
noncomputable def tep(P:Params):Nat:=match (o116 P).data with
 | .dict _ n=>n
 | _=>0
noncomputable def keyOk1(e:DictEntry):Bool:=match e.key with
 | .int k _=>e.hash == hashInt k
 | _=>false
noncomputable def valOk1(es:Array DictEntry)(c:Nat):Bool:=match findBy Value.isInt es (c:Int) with
 | some (.int i _)=>i == ((trc c:Nat):Int)
 | _=>false
theorem Zyh(P:Params):((tes P).toList.all keyOk1)=true:=by kernel_rfl
theorem Zyg(P:Params):((List.range 128).all (valOk1 (tes P)))=true:=by kernel_rfl
noncomputable def tokOf:Option (Option Value)→Tok
 | some (some (.int _ t))=>t
 | _=>0
theorem val_at{P:Params}{h:Heap}{os:OsState}{x:Str}{i:Int}(e:nsIn (kf P) mainGlobals x=some (some (.int i (tokOf (nsIn (kf P) mainGlobals x))))){prog:Program}{w:World}{n:Nat}:GOk prog w (BB P h os) n x (.val (.int i)) :=
 ⟨_,.own e,fun ω=>.int _ _⟩
section
variable{prog:Program}{w:World}{h:Heap}{os:OsState}{n:Nat}
theorem Zzq(X:(kf w.params).In h):TransAt (BB w.params h os) 91:=by
 have hx:h.get? 91=some ⟨.ref 83,some 90,.dict (tes w.params) (tep w.params),#[]⟩:=X 91 (o116 w.params) (by kernel_rfl);refine ⟨⟨83,some 90,tes w.params,tep w.params,#[],hx,by kernel_rfl,by kernel_rfl,by kernel_rfl,?_,?_⟩⟩
 ·intro e he;have:=Ybv.mp (Zyh w.params) e (Array.mem_toList_iff.mpr he);unfold keyOk1 at this
  split at this
  ·rename_i k t hk; exact ⟨k,t,hk,eq_of_beq this⟩
  ·cases this
 ·intro c hc;have:=Ybv.mp (Zyg w.params) c (List.mem_range.mpr hc);unfold valOk1 at this
  split at this
  ·rename_i i t hk
   have e:=eq_of_beq this;subst e;exact ⟨t,hk⟩
  ·cases this
theorem Zyv(X:(kf w.params).In h):PatAt h 64 .junk :=
 ⟨48,47,_,_,_,_,_,_,_,X 64 (o61 w.params) (by kernel_rfl),X 48 (o45 w.params) (by kernel_rfl),X 47 (o44 w.params) (by kernel_rfl),rfl,by kernel_rfl⟩
theorem pat_str(X:(kf w.params).In h):PatAt h 65 .str :=
 ⟨53,52,_,_,_,_,_,_,_,X 65 (o63 w.params) (by kernel_rfl),X 53 (o49 w.params) (by kernel_rfl),X 52 (o48 w.params) (by kernel_rfl),rfl,by kernel_rfl⟩
theorem Zyw(X:(kf w.params).In h):PatAt h 66 .chew :=
 ⟨58,57,_,_,_,_,_,_,_,X 66 (o65 w.params) (by kernel_rfl),X 58 (o53 w.params) (by kernel_rfl),X 57 (o52 w.params) (by kernel_rfl),rfl,by kernel_rfl⟩
theorem Zbp{α:Type}{p:Str→α→Prop}:∀ {l:List (Str × α)},(∀ q∈l,p q.1 q.2)→∀ x g,l.lookup x=some g→p x g
 | [],_,x,g,e=>by cases e
 | (y,a) :: l,h,x,g,e=>by
  rw [List.lookup_cons] at e
  split at e
  ·rename_i q
   have:x=y:=eq_of_beq q;cases e; rw [this]; exact h (y,a) (.head _)
  ·exact Zbp (fun q hq=>h q (.tail _ hq)) x g e
theorem Zvp(X:(kf w.params).In h):∀ q∈gS,GOk prog w (BB w.params h os) n q.1 q.2:=by
 unfold gS;simp only [List.forall_mem_cons];refine ⟨?_,?_,?_,?_,?_,?_,?_,?_,?_,?_,?_,?_,fun q hq=>nomatch hq⟩
 ·exact ⟨rfl,.boot (by kernel_rfl) (by kernel_rfl) (by decide +kernel)⟩
 ·exact ⟨rfl,.boot (by kernel_rfl) (by kernel_rfl) (by decide +kernel)⟩
 ·exact ⟨rfl,.boot (by kernel_rfl) (by kernel_rfl) (by decide +kernel)⟩
 ·exact ⟨91,.own (by kernel_rfl),Zzq X⟩
 ·exact ⟨64,.own (by kernel_rfl),Zyv X⟩
 ·exact ⟨65,.own (by kernel_rfl),pat_str X⟩
 ·exact ⟨66,.own (by kernel_rfl),Zyw X⟩
 all_goals exact val_at (by kernel_rfl)
theorem Zfw(X:(kf w.params).In h):∀ x g,gS.lookup x=some g→GOk prog w (BB w.params h os) n x g:=Zbp (Zvp X)
end
theorem DefDoes.more{prog:Program}{w:World}{B:Base}{n m:Nat}{fa:Addr}{fd:FuncData}{body:List Stmt}{names:List Str}{np:Nat}{D:DefAt B fa fd body names np}{X:PX}(h:DefDoes prog w n D X)(hm:n≤m):DefDoes prog w m D X:=⟨fun L A room=>h.run L A (room.less hm)⟩
section
variable{prog:Program}{w:World}{h:Heap}{os:OsState}{n:Nat}
theorem Zwl(T:TopOk w (BB w.params h os))(X:(kf w.params).In h):DefDoes prog w 3 (Zqd (os:=os) X) Zon:=Zam (c:=cxInit (fSc (sub (stm 17) 0))) (n:=1) (Zqd X) T rfl rfl rfl (Zfw X) (fun x np nl X e=>by cases e) (by decide) cc_init
theorem dd_set(T:TopOk w (BB w.params h os))(X:(kf w.params).In h):DefDoes prog w 3 (Znz (os:=os) X) Zap:=Zam (c:=cxSet (fSc (sub (stm 17) 1))) (n:=1) (Znz X) T rfl rfl rfl (Zfw X) (fun x np nl X e=>by cases e) (by decide) cc_set
theorem dd_s1(T:TopOk w (BB w.params h os))(X:(kf w.params).In h):DefDoes prog w 3 (d_s1 (os:=os) X) Zbk:=Zam (c:=cx1 (fSc (sub (stm 17) 4))) (n:=1) (d_s1 X) T rfl rfl rfl (Zfw X) (fun x np nl X e=>by cases e) (by decide) cc_s1
theorem dd_lo(T:TopOk w (BB w.params h os))(X:(kf w.params).In h):DefDoes prog w 3 (d_lo (os:=os) X) Zmp:=Zam (c:=cxLo (fSc (sub (stm 17) 3))) (n:=1) (d_lo X) T rfl rfl rfl (Zfw X) (fun x np nl X e=>by cases e) (by decide) cc_lo
theorem dr_set(T:TopOk w (BB w.params h os))(X:(kf w.params).In h):DefRaises prog w 7 (Znz (os:=os) X) Zbz:=Zir (c:=cxSet (fSc (sub (stm 17) 1))) (n:=1) (Znz X) T rfl rfl rfl (Zfw X) (fun x np nl X e=>by cases e) (by decide) cr_set
theorem dr_lo(T:TopOk w (BB w.params h os))(X:(kf w.params).In h):DefRaises prog w 7 (d_lo (os:=os) X) Zev:=Zir (c:=cxLo (fSc (sub (stm 17) 3))) (n:=1) (d_lo X) T rfl rfl rfl (Zfw X) (fun x np nl X e=>by cases e) (by decide) cr_lo
theorem dd_s2(T:TopOk w (BB w.params h os))(X:(kf w.params).In h):DefDoes prog w 5 (d_s2 (os:=os) X) Zaa:=by
 refine Zam (c:=cx2 (fSc (sub (stm 17) 6))) (n:=3) (d_s2 X) T rfl rfl rfl (Zfw X) ?_ (by decide) cc_s2
 ·intro x np nl Y e
  have:=Zbp (p:=fun x q=>MOk prog w (BB w.params h os) 3 x q.1 q.2.1 q.2.2) (l:=mS1) (by
   unfold mS1;simp only [List.forall_mem_cons]
   exact ⟨⟨d_s1 X,rfl,⟨by kernel_rfl,by kernel_rfl,(show _ ∉ attrsP by decide +kernel)⟩,(dd_s1 T X).more (by decide)⟩,fun q hq=>nomatch hq⟩) x (np,nl,Y) e
  exact this
theorem dd_g(T:TopOk w (BB w.params h os))(X:(kf w.params).In h):DefDoes prog w 5 (d_g (os:=os) X) Zi:=by
 refine Zam (c:=cxG (fSc (sub (stm 17) 5))) (n:=3) (d_g X) T rfl rfl rfl (Zfw X) ?_ (by decide) cc_g
 ·intro x np nl Y e
  have:=Zbp (p:=fun x q=>MOk prog w (BB w.params h os) 3 x q.1 q.2.1 q.2.2) (l:=mG) (by
   unfold mG;simp only [List.forall_mem_cons]
   exact ⟨⟨d_s1 X,rfl,⟨by kernel_rfl,by kernel_rfl,(show _ ∉ attrsP by decide +kernel)⟩,(dd_s1 T X).more (by decide)⟩,fun q hq=>nomatch hq⟩) x (np,nl,Y) e
  exact this
theorem dd_bo(T:TopOk w (BB w.params h os))(X:(kf w.params).In h):DefDoes prog w 7 (d_bo (os:=os) X) Zae:=by
 refine Zam (c:=cxBO (fSc (sub (stm 17) 11))) (n:=5) (d_bo X) T rfl rfl rfl (Zfw X) ?_ (by decide) cc_bo
 ·intro x np nl Y e
  have:=Zbp (p:=fun x q=>MOk prog w (BB w.params h os) 5 x q.1 q.2.1 q.2.2) (l:=mB) (by
   unfold mB;simp only [List.forall_mem_cons]
   exact ⟨⟨d_s2 X,rfl,⟨by kernel_rfl,by kernel_rfl,(show _ ∉ attrsP by decide +kernel)⟩,(dd_s2 T X).more (by decide)⟩,fun q hq=>nomatch hq⟩) x (np,nl,Y) e
  exact this
theorem dd_gl(T:TopOk w (BB w.params h os))(X:(kf w.params).In h):DefDoes prog w 7 (d_gl (os:=os) X) Zl:=by
 refine Zam (c:=cxGL (fSc (sub (stm 17) 13))) (n:=5) (d_gl X) T rfl rfl rfl (Zfw X) ?_ (by decide) cc_gl
 ·intro x np nl Y e
  have:=Zbp (p:=fun x q=>MOk prog w (BB w.params h os) 5 x q.1 q.2.1 q.2.2) (l:=mB) (by
   unfold mB;simp only [List.forall_mem_cons]
   exact ⟨⟨d_s2 X,rfl,⟨by kernel_rfl,by kernel_rfl,(show _ ∉ attrsP by decide +kernel)⟩,(dd_s2 T X).more (by decide)⟩,fun q hq=>nomatch hq⟩) x (np,nl,Y) e
  exact this
theorem dd_k(T:TopOk w (BB w.params h os))(X:(kf w.params).In h):DefDoes prog w 3 (d_k (os:=os) X) Zdf:=Zam (c:=cxK (fSc (stm 19))) (n:=1) (d_k X) T rfl rfl rfl (Zfw X) (fun x np nl X e=>by cases e) (by decide) cc_k
theorem dd_t(T:TopOk w (BB w.params h os))(X:(kf w.params).In h):DefDoes prog w 3 (d_t (os:=os) X) Zcm:=Zam (c:=cxT (fSc (stm 20))) (n:=1) (d_t X) T rfl rfl rfl (Zfw X) (fun x np nl X e=>by cases e) (by decide) cc_t
theorem dd_f(T:TopOk w (BB w.params h os))(X:(kf w.params).In h):DefDoes prog w 7 (d_f (os:=os) X) Zca:=by
 refine Zam (c:=cxF (fSc (stm 21))) (n:=5) (d_f X) T rfl rfl rfl ?_ ?_ (by decide) cc_f
 ·refine Zbp (l:=gF) ?_;intro q hq;unfold gF at hq
  rcases Ybw.mp hq with hq | hq
  ·exact Zvp X q hq
  ·simp only [List.mem_cons,List.not_mem_nil,or_false] at hq
   rcases hq with rfl | rfl
   ·exact ⟨rfl,.own (by kernel_rfl),⟨Zqd X,rfl,⟨by kernel_rfl,by kernel_rfl,by kernel_rfl,by kernel_rfl⟩,(Zwl T X).more (by decide)⟩⟩
   ·exact ⟨d_t X,rfl,.own (by kernel_rfl),(dd_t T X).more (by decide)⟩
 ·intro x np nl Y e
  have:=Zbp (p:=fun x q=>MOk prog w (BB w.params h os) 5 x q.1 q.2.1 q.2.2) (l:=mF) (by
   unfold mF;simp only [List.forall_mem_cons]
   exact ⟨⟨Znz X,rfl,⟨by kernel_rfl,by kernel_rfl,(show _ ∉ attrsP by decide +kernel)⟩,(dd_set T X).more (by decide)⟩,⟨d_s2 X,rfl,⟨by kernel_rfl,by kernel_rfl,(show _ ∉ attrsP by decide +kernel)⟩,(dd_s2 T X).more (by decide)⟩,⟨d_g X,rfl,⟨by kernel_rfl,by kernel_rfl,(show _ ∉ attrsP by decide +kernel)⟩,(dd_g T X).more (by decide)⟩,fun q hq=>nomatch hq⟩) x (np,nl,Y) e
  exact this
theorem go(T:TopOk w (BB w.params h os))(X:(kf w.params).In h){fdl:FuncData}(D:DefAtB (BB w.params h os) 279 fdl (Zad (stm 22)) Xlaw_n ["pieces","code"])(hsc:fdl.scope=fSc (stm 22)){s:Shared}(hb:h=s.heap)(ho:os=s.os)(hg:s.gens=#[]){v:V}{xv:Value}{E:Value→Shared→Prop}(hv:VR ⟨h.get?,fun _=>none,[],249⟩ v xv)(hq:Xlaw (fun fl _=>flV fl=.bool true) ⟨[v].map some++List.replicate (Xlaw_n.length - 1) none,(["pieces","code"]:List Str).map fun _=>.box none⟩) :
  wpAny (model prog w) callerA (call (.ref 279) [xv]) (fun r s'=>r=.bool true∧(∀ b o,s.heap.get? b=some o→s'.heap.get? b=some o)∧s'.os=s.os∧s'.gens=#[]) E s:=by
 have h0:CompilesT (cxL (fSc (stm 22))) (Zad (stm 22)) Xlaw:=cc_law;have a1:(BB w.params h os).attrs=(cxL (fSc (stm 22))).attrs:=rfl;have a2:(cxL (fSc (stm 22))).bx=(["pieces","code"]:List Str).zip (List.range' 0 2):=rfl;have a3:fdl.scope=(cxL (fSc (stm 22))).sc:=hsc;have a4:Xlaw_n=(cxL (fSc (stm 22))).names:=rfl;have a5:∀ x g,(cxL (fSc (stm 22))).globs.lookup x=some g→GOk prog w (BB w.params h os) 7 x g:=by
  ·refine Zbp (l:=gL) ?_;intro q hq;unfold gL at hq
   rcases Ybw.mp hq with hq | hq
   ·exact Zvp X q hq
   ·simp only [List.mem_cons,List.not_mem_nil,or_false] at hq
    rcases hq with rfl | rfl | rfl | rfl | rfl | rfl | rfl | rfl
    ·exact ⟨d_k X,rfl,.own (by kernel_rfl),(dd_k T X).more (by decide)⟩
    ·exact ⟨d_t X,rfl,.own (by kernel_rfl),(dd_t T X).more (by decide)⟩
    ·exact ⟨d_f X,rfl,.own (by kernel_rfl),(dd_f T X).more (by decide)⟩
    ·exact ⟨rfl,.own (by kernel_rfl),⟨Zqd X,rfl,⟨by kernel_rfl,by kernel_rfl,by kernel_rfl,by kernel_rfl⟩,(Zwl T X).more (by decide)⟩⟩
    ·exact ⟨rfl,.boot (by kernel_rfl) (by kernel_rfl) (by decide +kernel)⟩
    ·exact ⟨rfl,.boot (by kernel_rfl) (by kernel_rfl) (by decide +kernel)⟩
    ·exact ⟨Znz X,rfl,⟨by kernel_rfl,by kernel_rfl,(show _ ∉ attrsP by decide +kernel)⟩,dr_set T X⟩
    ·exact ⟨d_lo X,rfl,⟨by kernel_rfl,by kernel_rfl,(show _ ∉ attrsP by decide +kernel)⟩,dr_lo T X⟩
 have a6:∀ x np nl X,(cxL (fSc (stm 22))).meths.lookup x=some (np,nl,X)→MOk prog w (BB w.params h os) 7 x np nl X:=by
  ·intro x np nl Y e
   have:=Zbp (p:=fun x q=>MOk prog w (BB w.params h os) 7 x q.1 q.2.1 q.2.2) (l:=mL) (by
    unfold mL;simp only [List.forall_mem_cons]
    exact ⟨⟨Znz X,rfl,⟨by kernel_rfl,by kernel_rfl,(show _ ∉ attrsP by decide +kernel)⟩,(dd_set T X).more (by decide)⟩,⟨d_lo X,rfl,⟨by kernel_rfl,by kernel_rfl,(show _ ∉ attrsP by decide +kernel)⟩,(dd_lo T X).more (by decide)⟩,⟨d_s2 X,rfl,⟨by kernel_rfl,by kernel_rfl,(show _ ∉ attrsP by decide +kernel)⟩,(dd_s2 T X).more (by decide)⟩,⟨d_g X,rfl,⟨by kernel_rfl,by kernel_rfl,(show _ ∉ attrsP by decide +kernel)⟩,(dd_g T X).more (by decide)⟩,⟨d_bo X,rfl,⟨by kernel_rfl,by kernel_rfl,(show _ ∉ attrsP by decide +kernel)⟩,(dd_bo T X).more (by decide)⟩,⟨d_gl X,rfl,⟨by kernel_rfl,by kernel_rfl,(show _ ∉ attrsP by decide +kernel)⟩,(dd_gl T X).more (by decide)⟩,fun q hq=>nomatch hq⟩) x (np,nl,Y) e
   exact this
 generalize cxL (fSc (stm 22))=c at h0 a1 a2 a3 a4 a5 a6;revert h0 hq D;generalize Zad (stm 22)=b;generalize Xlaw=Y;intro D hq h0;exact Ztd (B:=BB w.params h os) (n:=9) T hb ho hg ⟨rfl,by decide +kernel,by decide +kernel⟩ D (fun L A room o=>Zrp D a4 T a3 a1 a2 a5 a6 h0 L A room o) hv hq
end
theorem walk:WalkN vw Zfu (fun _ _=>True) (kHook kf kas Zfo).says row.row.toRowW lawD [] fun f vs=>PySem.call f vs:=by
 intro w s₀ s₁ mg mb G Y a o pm cd doc dV kV ha hdat hcode hdf hname hgens args vals as hpre hlay hrd hwl hlow;have X:(kf w.params).In s₁.heap:=kIn_of Y;obtain ⟨hsh,hpr⟩:=pre_splitW hpre;obtain ⟨d,r,rfl,h1,h2⟩:=hasAllW_cons hsh;obtain rfl:=hasAllW_nil h2;obtain ⟨xs,rfl,hit⟩:=hasW_list h1;have hlen:xs.length≤63:=by
  have e:(row.row.pre).value row.row.records { args:=[.list xs] }=some (.bool (!decide ((63:Int) < xs.length) && true)):=w_and (w_not (w_lt w_lit (w_len_list (w_arg rfl)))) w_lit;have hpr':(match (row.row.pre).value row.row.records { args:=[.list xs] } with | some (.bool true)=>true | _=>false)=true:=hpr;rw [e] at hpr'
  by_cases hh:(63:Int) < xs.length
  ·rw [decide_eq_true hh] at hpr'; cases hpr'
  ·omega
 cases hwl with
 | @cons _ vt _ _ w1 w2 =>
  cases w2;cases w1 with
  | @list la vs _ g1 g4 =>
   obtain ⟨ns,hxs,hvr⟩:=Zvc (ω:=⟨s₁.heap.get?,fun _=>none,[],249⟩) g4 hit;have T:TopOk w (BB w.params s₁.heap s₁.os):=⟨base_ok X,⟨_,_,_,_,topRead_of G.T⟩⟩;have ea:a=279:=by
    have e:=mg_of X G.T.g (n:="law") (v:=.ref 279) (by kernel_rfl);have e2:mg "law"=some (.ref a):=hname;rw [e] at e2;exact (Value.ref.inj (Yc e2)).symm
   subst ea;have D:=d_law (os:=s₁.os) X;have hv:VR ⟨s₁.heap.get?,fun _=>none,[],249⟩ (.lst (ns.map .int)) (.ref la):=by
    exact .lst (ws:=vs) (n:=0) g1 hvr
   have hns:ns.length≤1000000:=by
    have:=congrArg List.length hxs;rw [List.length_map] at this; omega
   refine wpAny_mono (go T X D rfl rfl rfl hgens hv (Zzh hns fun st=>rfl)) ?_ (fun _ _ e=>e);rintro r s' ⟨rfl,hk,hos,hg⟩;refine ⟨.inl ⟨_,.bool true,[],rfl,fun _=>rfl,.bool true,?_,fun _=>⟨Yah,fun a ha=>nomatch ha⟩⟩,hk,hos,hg⟩;show (WShape.has row.row.records (.bool true) .bool && (WTm.eq .res (.lit (.bool true))).holds row.row.records { args:=[.list xs],res:=some (.bool true),after:=[.list xs] })=true;unfold WTm.holds;rw [w_eq_bool (w_res rfl) w_lit]; rfl
theorem holds04:row.Holds:=hd walk
end Mine
end
theorem PySem.Challenge.cw_dm0165_04_holds : PySem.Challenge.rw_dm0165_04.Holds :=
  Mine.holds04
