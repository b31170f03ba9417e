import PyProof.Rows.All
import Wide.All
import OpenK.AllK
import Wide.FinOn
import KE.KStopIter
import Lean
import PySem.Challenge.RW_ny0386_01
set_option Elab.async false
set_option linter.all false
section
open PySem PySem.W PyProof.Rows
set_option maxRecDepth 100000
set_option maxHeartbeats 0
namespace Mine
noncomputable abbrev P0 : Program:=PySem.Challenge.pw_ny0386_01
noncomputable abbrev L0 : OpenLaw:=PySem.Challenge.rw_ny0386_01
noncomputable def topRunD (ok:Nat → Option Value → Thread → Bool) (stp:SharedT → Thread → Option (SharedT × Thread)) (n₀:Nat) (ann:Option Value) : Nat → SharedT → Thread → Option SharedT
  | 0,_,_ => none
  | n + 1,s,t => match through t with
    | true => some s
    | false => match ok n₀ ann t with
      | false => none
      | true => match stp s t with
        | some r => topRunD ok stp n₀ ann n r.1 r.2
        | none => none
theorem topRunD_of {p:Program} {w:World} {n₀:Nat} {ann:Option Value} : ∀ (n:Nat) {s s':SharedT} {t:Thread},
    topRunD stepOk (stepT (denote treeTable) p w) n₀ ann n s t = some s' → topRun treeTable p w n₀ ann n s.abs t = some s'.abs
  | 0,_,_,_,h => by cases h
  | n + 1,s,s',t,h => by
    unfold topRunD at h
    unfold topRun
    cases he : through t with
    | true => rw [he] at h; cases h; rfl
    | false =>
      rw [he] at h
      cases hk : stepOk n₀ ann t with
      | false => rw [hk] at h; cases h
      | true =>
        rw [hk] at h
        cases hs : stepT (denote treeTable) p w s t with
        | none => rw [hs] at h; cases h
        | some r =>
          obtain ⟨s₂,t₂⟩:=r
          rw [hs] at h
          dsimp only at h ⊢
          rw [stepT_spec hs]
          exact topRunD_of n h
noncomputable def buildT : List Obj → Nat → BT → Option BT
  | [],_,T => some T
  | o :: l,n,T => match ((T.ins n o).get n).isSome with
    | true => buildT l (n + 1) (T.ins n o)
    | false => none
theorem buildT_of {life:Life} : ∀ {l:List Obj} {n:Nat} {T T':BT} {h:Heap},buildT l n T = some T' → absHeap T n life = h → absHeap T' (n + l.length) life = l.foldl Heap.push h
  | [],n,T,T',h,e,a => by cases e; exact a
  | o :: l,n,T,T',h,e,a => by
    unfold buildT at e
    cases q : ((T.ins n o).get n).isSome with
    | false => rw [q] at e; cases e
    | true =>
      rw [q] at e
      have z:=buildT_of (life:=life) e (absHeap_ins q)
      rw [List.length_cons,Nat.add_comm l.length 1,← Nat.add_assoc,z,a]
      rfl
theorem foldl_push (l:List Obj) (a:Array Obj) (life:Life) : l.foldl Heap.push ⟨a,life⟩ = ⟨a ++ l.toArray,life⟩:=by
  induction l generalizing a with
  | nil => simp
  | cons o l ih =>
    rw [List.foldl_cons]
    show l.foldl Heap.push ⟨a.push o,life⟩ = _
    rw [ih]
    congr 1
    apply Array.ext'
    simp
theorem absNil (life:Life) : absHeap .nil 0 life = ⟨#[],life⟩:=rfl
theorem buildT_heap {h:Heap} {T:BT} (e:buildT h.objs.toList 0 .nil = some T) : absHeap T h.objs.size h.life = h:=by
  have z:=buildT_of (life:=h.life) e (absNil h.life)
  rw [Nat.zero_add,Array.length_toList] at z
  rw [z,foldl_push]
  obtain ⟨o,l⟩:=h
  simp
noncomputable def toT (s:Shared) (T:BT) : SharedT:=⟨T,s.heap.objs.size,s.heap.life,s.gens,s.drawn,s.toks,s.os⟩
theorem toT_abs {s:Shared} {T:BT} (e:buildT s.heap.objs.toList 0 .nil = some T) : (toT s T).abs = s:=by
  unfold toT SharedT.abs
  dsimp only
  rw [buildT_heap e]
noncomputable def headRun {α : Type} (opn:World → Option Shared) (ok:Nat → Option Value → Thread → Bool) (stp:World → SharedT → Thread → Option (SharedT × Thread)) (p:Program) (N:Nat) (look:Shared → Shared → α) (w:World) : Option α :=
  (opn w).bind fun s₀ => (buildT s₀.heap.objs.toList 0 .nil).bind fun T =>
    (topRunD ok (stp w) s₀.heap.objs.size (s₀.heap.nsMap mainGlobals "__annotations__") N (toT s₀ T) (topStub p)).map fun s₁ => look s₀ s₁.abs
noncomputable def looks {α β : Type} (p:Program) (sn:Shared → β) (Yf:Shared → α) (s₀ s₁:Shared) : Bool × Bool × β × α :=
  (s₀.heap.isNs mainGlobals && s₀.gens.size == 0,staticsOk (importedModules p.main.body) s₀.heap s₁.heap && namesBound p s₁.heap && gensDone s₁ && laidKept s₀.heap s₁.heap,sn s₁,Yf s₁)
theorem left_of {p q:Program} {loose:List Str} {Xt:Shared → Bool} {α : Type} {Yf:Shared → α} {Ya:World → α} {N:Nat}
    (h:∀ w,headRun (fun w => fencedOpening treeTable p w N) stepOk (fun w => stepT (denote treeTable) p w) p N (looks p (openSeen q loose (importedModules p.main.body) Xt true) Yf) w = some (true,true,openGood q loose,Ya w)) :
    LeftO p q loose Xt Yf Ya N true:=fun w => by
  have e:=h w
  unfold headRun at e
  obtain ⟨s₀,e0,e⟩:=Option.bind_eq_some_iff.mp e
  obtain ⟨T,eT,e⟩:=Option.bind_eq_some_iff.mp e
  obtain ⟨s₁,e1,e⟩:=Option.map_eq_some_iff.mp e
  have r:=topRunD_of N e1
  rw [toT_abs eT] at r
  unfold looks at e
  obtain ⟨l1,e⟩:=Prod.mk.inj e
  obtain ⟨l2,e⟩:=Prod.mk.inj e
  obtain ⟨l3,l4⟩:=Prod.mk.inj e
  have e0' : fencedOpening treeTable p w N = some s₀:=e0
  unfold openEnds
  rw [e0']
  show (topFrom treeTable p w N s₀).map _ = _
  unfold topFrom
  rw [l1]
  dsimp only
  rw [r]
  show Option.map _ (match _ with | true => some s₁.abs | false => none) = _
  rw [l2]
  show some (_,_) = _
  rw [l3,l4]
noncomputable abbrev sx (l:List Nat) : Str:=⟨⟨l⟩⟩
noncomputable abbrev en (P:Params) (x:Str) (t:Tok) (v:Value) : DictEntry:=⟨PyData.keyHash P x,.str x t,v⟩
noncomputable def fnAt (i:Nat) : Stmt:=P0.main.body.getD i (.Pass default)
noncomputable def methAt (i j:Nat) : Stmt:=match fnAt i with
  | .ClassDef _ _ _ b _ _ _ _ _ _ _ => b.getD j (.Pass default)
  | s => s
noncomputable def mkFn (st:Stmt) (qual:Str) (g:Addr) (dv kv doc md:Value) (an:Option Addr) (cd ct:Value) (bl:Addr) : FuncData:=match st with
  | .FunctionDef n a b _ _ _ sc _ _ _ => { name:=n,qualname:=qual,params:=a,body:=.stmts b,scope:=sc,globals:=g,closure:=[],defaults:=dv,kwdefaults:=kv,doc:=doc,pyModule:=md,annotations:=an,code:=cd,closureTuple:=ct,builtins:=bl }
  | _ => default
noncomputable def o0 (P:Params) : Obj:=⟨(.type "dict"),none,(.dict ⟨[(en P (sx [95,95,110,97,109,101,95,95]) 1 (.str (sx [98,117,105,108,116,105,110,115]) 160)),(en P (sx [95,95,100,111,99,95,95]) 2 (.builtin "builtins.__doc__:str#opaque")),(en P (sx [95,95,112,97,99,107,97,103,101,95,95]) 3 (.builtin "builtins.__package__:str#opaque")),(en P (sx [95,95,108,111,97,100,101,114,95,95]) 4 (.builtin "builtins.__loader__:shared#opaque")),(en P (sx [95,95,115,112,101,99,95,95]) 5 (.builtin "builtins.__spec__#opaque")),(en P (sx [95,95,98,117,105,108,100,95,99,108,97,115,115,95,95]) 6 (.builtin "__build_class__")),(en P (sx [95,95,105,109,112,111,114,116,95,95]) 7 (.builtin "__import__")),(en P (sx [97,98,115]) 8 (.builtin "abs")),(en P (sx [97,108,108]) 9 (.builtin "all")),(en P (sx [97,110,121]) 10 (.builtin "any")),(en P (sx [97,115,99,105,105]) 11 (.builtin "ascii")),(en P (sx [98,105,110]) 12 (.builtin "bin")),(en P (sx [98,114,101,97,107,112,111,105,110,116]) 13 (.builtin "breakpoint")),(en P (sx [99,97,108,108,97,98,108,101]) 14 (.builtin "callable")),(en P (sx [99,104,114]) 15 (.builtin "chr")),(en P (sx [99,111,109,112,105,108,101]) 16 (.builtin "compile")),(en P (sx [100,101,108,97,116,116,114]) 17 (.builtin "delattr")),(en P (sx [100,105,114]) 18 (.builtin "dir")),(en P (sx [100,105,118,109,111,100]) 19 (.builtin "divmod")),(en P (sx [101,118,97,108]) 20 (.builtin "eval")),(en P (sx [101,120,101,99]) 21 (.builtin "exec")),(en P (sx [102,111,114,109,97,116]) 22 (.builtin "format")),(en P (sx [103,101,116,97,116,116,114]) 23 (.builtin "getattr")),(en P (sx [103,108,111,98,97,108,115]) 24 (.builtin "globals")),(en P (sx [104,97,115,97,116,116,114]) 25 (.builtin "hasattr")),(en P (sx [104,97,115,104]) 26 (.builtin "hash")),(en P (sx [104,101,120]) 27 (.builtin "hex")),(en P (sx [105,100]) 28 (.builtin "id")),(en P (sx [105,110,112,117,116]) 29 (.builtin "input")),(en P (sx [105,115,105,110,115,116,97,110,99,101]) 30 (.builtin "isinstance")),(en P (sx [105,115,115,117,98,99,108,97,115,115]) 31 (.builtin "issubclass")),(en P (sx [105,116,101,114]) 32 (.builtin "iter")),(en P (sx [97,105,116,101,114]) 33 (.builtin "aiter")),(en P (sx [108,101,110]) 34 (.builtin "len")),(en P (sx [108,111,99,97,108,115]) 35 (.builtin "locals")),(en P (sx [109,97,120]) 36 (.builtin "max")),(en P (sx [109,105,110]) 37 (.builtin "min")),(en P (sx [110,101,120,116]) 38 (.builtin "next")),(en P (sx [97,110,101,120,116]) 39 (.builtin "anext")),(en P (sx [111,99,116]) 40 (.builtin "oct")),(en P (sx [111,114,100]) 41 (.builtin "ord")),(en P (sx [112,111,119]) 42 (.builtin "pow")),(en P (sx [112,114,105,110,116]) 43 (.builtin "print")),(en P (sx [114,101,112,114]) 44 (.builtin "repr")),(en P (sx [114,111,117,110,100]) 45 (.builtin "round")),(en P (sx [115,101,116,97,116,116,114]) 46 (.builtin "setattr")),(en P (sx [115,111,114,116,101,100]) 47 (.builtin "sorted")),(en P (sx [115,117,109]) 48 (.builtin "sum")),(en P (sx [118,97,114,115]) 49 (.builtin "vars")),(en P (sx [78,111,110,101]) 50 .none),(en P (sx [69,108,108,105,112,115,105,115]) 51 .ellipsis),(en P (sx [78,111,116,73,109,112,108,101,109,101,110,116,101,100]) 52 .notImplemented),(en P (sx [70,97,108,115,101]) 53 (.bool false)),(en P (sx [84,114,117,101]) 54 (.bool true)),(en P (sx [98,111,111,108]) 55 (.type "bool")),(en P (sx [109,101,109,111,114,121,118,105,101,119]) 56 (.type "memoryview")),(en P (sx [98,121,116,101,97,114,114,97,121]) 57 (.type "bytearray")),(en P (sx [98,121,116,101,115]) 58 (.type "bytes")),(en P (sx [99,108,97,115,115,109,101,116,104,111,100]) 59 (.type "classmethod")),(en P (sx [99,111,109,112,108,101,120]) 60 (.type "complex")),(en P (sx [100,105,99,116]) 61 (.type "dict")),(en P (sx [101,110,117,109,101,114,97,116,101]) 62 (.type "enumerate")),(en P (sx [102,105,108,116,101,114]) 63 (.type "filter")),(en P (sx [102,108,111,97,116]) 64 (.type "float")),(en P (sx [102,114,111,122,101,110,115,101,116]) 65 (.type "frozenset")),(en P (sx [112,114,111,112,101,114,116,121]) 66 (.type "property")),(en P (sx [105,110,116]) 67 (.type "int")),(en P (sx [108,105,115,116]) 68 (.type "list")),(en P (sx [109,97,112]) 69 (.type "map")),(en P (sx [111,98,106,101,99,116]) 70 (.type "object")),(en P (sx [114,97,110,103,101]) 71 (.type "range")),(en P (sx [114,101,118,101,114,115,101,100]) 72 (.type "reversed")),(en P (sx [115,101,116]) 73 (.type "set")),(en P (sx [115,108,105,99,101]) 74 (.type "slice")),(en P (sx [115,116,97,116,105,99,109,101,116,104,111,100]) 75 (.type "staticmethod")),(en P (sx [115,116,114]) 76 (.type "str")),(en P (sx [115,117,112,101,114]) 77 (.type "super")),(en P (sx [116,117,112,108,101]) 78 (.type "tuple")),(en P (sx [116,121,112,101]) 79 (.type "type")),(en P (sx [122,105,112]) 80 (.type "zip")),(en P (sx [95,95,100,101,98,117,103,95,95]) 81 (.bool true)),(en P (sx [66,97,115,101,69,120,99,101,112,116,105,111,110]) 82 (.type "BaseException")),(en P (sx [66,97,115,101,69,120,99,101,112,116,105,111,110,71,114,111,117,112]) 83 (.type "BaseExceptionGroup")),(en P (sx [69,120,99,101,112,116,105,111,110]) 84 (.type "Exception")),(en P (sx [71,101,110,101,114,97,116,111,114,69,120,105,116]) 85 (.type "GeneratorExit")),(en P (sx [75,101,121,98,111,97,114,100,73,110,116,101,114,114,117,112,116]) 86 (.type "KeyboardInterrupt")),(en P (sx [83,121,115,116,101,109,69,120,105,116]) 87 (.type "SystemExit")),(en P (sx [65,114,105,116,104,109,101,116,105,99,69,114,114,111,114]) 88 (.type "ArithmeticError")),(en P (sx [65,115,115,101,114,116,105,111,110,69,114,114,111,114]) 89 (.type "AssertionError")),(en P (sx [65,116,116,114,105,98,117,116,101,69,114,114,111,114]) 90 (.type "AttributeError")),(en P (sx [66,117,102,102,101,114,69,114,114,111,114]) 91 (.type "BufferError")),(en P (sx [69,79,70,69,114,114,111,114]) 92 (.type "EOFError")),(en P (sx [73,109,112,111,114,116,69,114,114,111,114]) 93 (.type "ImportError")),(en P (sx [76,111,111,107,117,112,69,114,114,111,114]) 94 (.type "LookupError")),(en P (sx [77,101,109,111,114,121,69,114,114,111,114]) 95 (.type "MemoryError")),(en P (sx [78,97,109,101,69,114,114,111,114]) 96 (.type "NameError")),(en P (sx [79,83,69,114,114,111,114]) 97 (.type "OSError")),(en P (sx [82,101,102,101,114,101,110,99,101,69,114,114,111,114]) 98 (.type "ReferenceError")),(en P (sx [82,117,110,116,105,109,101,69,114,114,111,114]) 99 (.type "RuntimeError")),(en P (sx [83,116,111,112,65,115,121,110,99,73,116,101,114,97,116,105,111,110]) 100 (.type "StopAsyncIteration")),(en P (sx [83,116,111,112,73,116,101,114,97,116,105,111,110]) 101 (.type "StopIteration")),(en P (sx [83,121,110,116,97,120,69,114,114,111,114]) 102 (.type "SyntaxError")),(en P (sx [83,121,115,116,101,109,69,114,114,111,114]) 103 (.type "SystemError")),(en P (sx [84,121,112,101,69,114,114,111,114]) 104 (.type "TypeError")),(en P (sx [86,97,108,117,101,69,114,114,111,114]) 105 (.type "ValueError")),(en P (sx [87,97,114,110,105,110,103]) 106 (.type "Warning")),(en P (sx [70,108,111,97,116,105,110,103,80,111,105,110,116,69,114,114,111,114]) 107 (.type "FloatingPointError")),(en P (sx [79,118,101,114,102,108,111,119,69,114,114,111,114]) 108 (.type "OverflowError")),(en P (sx [90,101,114,111,68,105,118,105,115,105,111,110,69,114,114,111,114]) 109 (.type "ZeroDivisionError")),(en P (sx [66,121,116,101,115,87,97,114,110,105,110,103]) 110 (.type "BytesWarning")),(en P (sx [68,101,112,114,101,99,97,116,105,111,110,87,97,114,110,105,110,103]) 111 (.type "DeprecationWarning")),(en P (sx [69,110,99,111,100,105,110,103,87,97,114,110,105,110,103]) 112 (.type "EncodingWarning")),(en P (sx [70,117,116,117,114,101,87,97,114,110,105,110,103]) 113 (.type "FutureWarning")),(en P (sx [73,109,112,111,114,116,87,97,114,110,105,110,103]) 114 (.type "ImportWarning")),(en P (sx [80,101,110,100,105,110,103,68,101,112,114,101,99,97,116,105,111,110,87,97,114,110,105,110,103]) 115 (.type "PendingDeprecationWarning")),(en P (sx [82,101,115,111,117,114,99,101,87,97,114,110,105,110,103]) 116 (.type "ResourceWarning")),(en P (sx [82,117,110,116,105,109,101,87,97,114,110,105,110,103]) 117 (.type "RuntimeWarning")),(en P (sx [83,121,110,116,97,120,87,97,114,110,105,110,103]) 118 (.type "SyntaxWarning")),(en P (sx [85,110,105,99,111,100,101,87,97,114,110,105,110,103]) 119 (.type "UnicodeWarning")),(en P (sx [85,115,101,114,87,97,114,110,105,110,103]) 120 (.type "UserWarning")),(en P (sx [66,108,111,99,107,105,110,103,73,79,69,114,114,111,114]) 121 (.type "BlockingIOError")),(en P (sx [67,104,105,108,100,80,114,111,99,101,115,115,69,114,114,111,114]) 122 (.type "ChildProcessError")),(en P (sx [67,111,110,110,101,99,116,105,111,110,69,114,114,111,114]) 123 (.type "ConnectionError")),(en P (sx [70,105,108,101,69,120,105,115,116,115,69,114,114,111,114]) 124 (.type "FileExistsError")),(en P (sx [70,105,108,101,78,111,116,70,111,117,110,100,69,114,114,111,114]) 125 (.type "FileNotFoundError")),(en P (sx [73,110,116,101,114,114,117,112,116,101,100,69,114,114,111,114]) 126 (.type "InterruptedError")),(en P (sx [73,115,65,68,105,114,101,99,116,111,114,121,69,114,114,111,114]) 127 (.type "IsADirectoryError")),(en P (sx [78,111,116,65,68,105,114,101,99,116,111,114,121,69,114,114,111,114]) 128 (.type "NotADirectoryError")),(en P (sx [80,101,114,109,105,115,115,105,111,110,69,114,114,111,114]) 129 (.type "PermissionError")),(en P (sx [80,114,111,99,101,115,115,76,111,111,107,117,112,69,114,114,111,114]) 130 (.type "ProcessLookupError")),(en P (sx [84,105,109,101,111,117,116,69,114,114,111,114]) 131 (.type "TimeoutError")),(en P (sx [73,110,100,101,110,116,97,116,105,111,110,69,114,114,111,114]) 132 (.type "IndentationError")),(en P (sx [95,73,110,99,111,109,112,108,101,116,101,73,110,112,117,116,69,114,114,111,114]) 133 (.type "_IncompleteInputError")),(en P (sx [73,110,100,101,120,69,114,114,111,114]) 134 (.type "IndexError")),(en P (sx [75,101,121,69,114,114,111,114]) 135 (.type "KeyError")),(en P (sx [77,111,100,117,108,101,78,111,116,70,111,117,110,100,69,114,114,111,114]) 136 (.type "ModuleNotFoundError")),(en P (sx [78,111,116,73,109,112,108,101,109,101,110,116,101,100,69,114,114,111,114]) 137 (.type "NotImplementedError")),(en P (sx [80,121,116,104,111,110,70,105,110,97,108,105,122,97,116,105,111,110,69,114,114,111,114]) 138 (.type "PythonFinalizationError")),(en P (sx [82,101,99,117,114,115,105,111,110,69,114,114,111,114]) 139 (.type "RecursionError")),(en P (sx [85,110,98,111,117,110,100,76,111,99,97,108,69,114,114,111,114]) 140 (.type "UnboundLocalError")),(en P (sx [85,110,105,99,111,100,101,69,114,114,111,114]) 141 (.type "UnicodeError")),(en P (sx [66,114,111,107,101,110,80,105,112,101,69,114,114,111,114]) 142 (.type "BrokenPipeError")),(en P (sx [67,111,110,110,101,99,116,105,111,110,65,98,111,114,116,101,100,69,114,114,111,114]) 143 (.type "ConnectionAbortedError")),(en P (sx [67,111,110,110,101,99,116,105,111,110,82,101,102,117,115,101,100,69,114,114,111,114]) 144 (.type "ConnectionRefusedError")),(en P (sx [67,111,110,110,101,99,116,105,111,110,82,101,115,101,116,69,114,114,111,114]) 145 (.type "ConnectionResetError")),(en P (sx [84,97,98,69,114,114,111,114]) 146 (.type "TabError")),(en P (sx [85,110,105,99,111,100,101,68,101,99,111,100,101,69,114,114,111,114]) 147 (.type "UnicodeDecodeError")),(en P (sx [85,110,105,99,111,100,101,69,110,99,111,100,101,69,114,114,111,114]) 148 (.type "UnicodeEncodeError")),(en P (sx [85,110,105,99,111,100,101,84,114,97,110,115,108,97,116,101,69,114,114,111,114]) 149 (.type "UnicodeTranslateError")),(en P (sx [69,120,99,101,112,116,105,111,110,71,114,111,117,112]) 150 (.type "ExceptionGroup")),(en P (sx [69,110,118,105,114,111,110,109,101,110,116,69,114,114,111,114]) 151 (.type "OSError")),(en P (sx [73,79,69,114,114,111,114]) 152 (.type "OSError")),(en P (sx [111,112,101,110]) 153 (.builtin "open")),(en P (sx [113,117,105,116]) 154 (.builtin "builtins.quit#opaque")),(en P (sx [101,120,105,116]) 155 (.builtin "builtins.exit#opaque")),(en P (sx [99,111,112,121,114,105,103,104,116]) 156 (.builtin "builtins.copyright#opaque")),(en P (sx [99,114,101,100,105,116,115]) 157 (.builtin "builtins.credits#opaque")),(en P (sx [108,105,99,101,110,115,101]) 158 (.builtin "builtins.license#opaque")),(en P (sx [104,101,108,112]) 159 (.builtin "builtins.help#opaque"))]⟩ 159),⟨[]⟩⟩
noncomputable def o2 (P:Params) : Obj:=⟨.none,none,(.dict ⟨[(en P (sx [105,109,112,111,114,116,46,108,111,97,100,101,100,46,95,115,114,101]) 183 (.bool true)),(en P (sx [99,108,97,115,115,46,95,102,114,111,122,101,110,95,105,109,112,111,114,116,108,105,98,46,66,117,105,108,116,105,110,73,109,112,111,114,116,101,114]) 185 (.ref 14)),(en P (sx [119,97,116,99,104,101,100,46,105,109,112,111,114,116]) 206 (.ref 18)),(en P (sx [99,108,97,115,115,46,95,102,114,111,122,101,110,95,105,109,112,111,114,116,108,105,98,46,77,111,100,117,108,101,83,112,101,99]) 216 (.ref 22)),(en P (sx [115,121,115,46,109,111,100,117,108,101,115,46,98,111,111,107,101,100,45,101,112,111,99,104]) 245 (.int 4 0)),(en P (sx [105,109,112,111,114,116,46,108,97,116,101,114,45,108,97,105,100,46,95,115,114,101]) 270 (.bool true)),(en P (sx [119,97,116,99,104,101,100,46,108,105,98,114,97,114,121]) 272 (.ref 27)),(en P (sx [119,97,116,99,104,101,100,46,108,105,98,114,97,114,121,45,111,98,106,101,99,116,115]) 0 (.str (sx [12,30]) 0)),(en P (sx [119,97,116,99,104,101,100,46,108,105,98,114,97,114,121,45,100,101,101,112,46,95,115,114,101]) 273 (.str (sx [4,0,0,11,4,0,0,11,4,0,0,3,4,0,0,11,8,4,100,105,99,116,2]) 0)),(en P (sx [105,109,112,111,114,116,46,108,111,97,100,101,100,46,95,99,111,108,108,101,99,116,105,111,110,115]) 280 (.bool true)),(en P (sx [115,121,115,46,109,111,100,117,108,101,115,46,108,97,110,100,101,100,46,95,99,111,108,108,101,99,116,105,111,110,115]) 294 (.bool true)),(en P (sx [105,109,112,111,114,116,46,108,97,116,101,114,45,108,97,105,100,46,95,99,111,108,108,101,99,116,105,111,110,115]) 309 (.bool true)),(en P (sx [119,97,116,99,104,101,100,46,108,105,98,114,97,114,121,45,100,101,101,112,46,95,99,111,108,108,101,99,116,105,111,110,115]) 311 (.str (sx [4,0,0,29,4,0,0,29,4,0,0,3,4,0,0,29,8,4,100,105,99,116,2]) 0)),(en P (sx [116,121,112,101,46,95,95,115,117,98,99,108,97,115,115,101,115,95,95,46,79,83,69,114,114,111,114,46,48]) 419 (.int 80 0)),(en P (sx [116,121,112,101,46,95,95,115,117,98,99,108,97,115,115,101,115,95,95,46,79,83,69,114,114,111,114,46,110]) 420 (.int 1 0))]⟩ 15),⟨[]⟩⟩
noncomputable def o3 (P:Params) : Obj:=⟨(.type "dict"),none,(.dict ⟨[(en P (sx [95,95,110,97,109,101,95,95]) 165 (.str (sx [108,97,119,95,110,121,48,51,56,54,95,48,49]) 1352)),(en P (sx [95,95,100,111,99,95,95]) 166 .none),(en P (sx [95,95,112,97,99,107,97,103,101,95,95]) 167 .none),(en P (sx [95,95,108,111,97,100,101,114,95,95]) 168 (.builtin "__main__.__loader__#opaque")),(en P (sx [95,95,115,112,101,99,95,95]) 169 .none),(en P (sx [95,95,97,110,110,111,116,97,116,105,111,110,115,95,95]) 170 (.ref 6)),(en P (sx [95,95,98,117,105,108,116,105,110,115,95,95]) 171 (.ref 4)),(en P (sx [95,95,102,105,108,101,95,95]) 173 (.str (sx [47,99,108,97,105,109,47,99,117,116,46,112,121]) 172)),(en P (sx [95,95,99,97,99,104,101,100,95,95]) 174 .none),(en P (sx [95,115,114,101]) 275 (.ref 12)),(en P (sx [100,101,113,117,101]) 317 (.type "collections.deque")),(en P (sx [95,119,97,108,108]) 330 (.ref 44)),(en P (sx [95,115,116,114,105,112,95,112,97,100,100,105,110,103]) 342 (.ref 51)),(en P (sx [95,116,119,105,110,95,114,101,95,49]) 382 (.ref 56)),(en P (sx [95,119,104,101,110,99,101]) 392 (.ref 63)),(en P (sx [95,105,110,100,101,120]) 400 (.ref 70)),(en P (sx [85,110,115,117,112,112,111,114,116,101,100,79,112,101,114,97,116,105,111,110]) 422 (.ref 80)),(en P (sx [73,79,66,97,115,101]) 454 (.ref 100)),(en P (sx [66,117,102,102,101,114,101,100,73,79,66,97,115,101]) 472 (.ref 115)),(en P (sx [84,101,120,116,73,79,66,97,115,101]) 490 (.ref 127)),(en P (sx [66,121,116,101,115,73,79]) 752 (.ref 357)),(en P (sx [83,116,114,105,110,103,73,79]) 1039 (.ref 604)),(en P (sx [95,107,105,110,100]) 1050 (.ref 613)),(en P (sx [95,102,115,112,97,116,104]) 1059 (.ref 620)),(en P (sx [95,99,104,101,99,107,95,97,114,103,95,116,121,112,101,115]) 1069 (.ref 627)),(en P (sx [105,115,97,98,115]) 1076 (.ref 634)),(en P (sx [106,111,105,110]) 1087 (.ref 758)),(en P (sx [106,111,105,110,95,112,97,116,104]) 1088 (.ref 641)),(en P (sx [100,105,114,110,97,109,101]) 1098 (.ref 648)),(en P (sx [115,104,108,101,120]) 1239 (.ref 739)),(en P (sx [115,112,108,105,116]) 1249 (.ref 751)),(en P (sx [106,111,105,110,95,115,104,108,101,120]) 1257 (.ref 758)),(en P (sx [95,102,105,110,100,95,117,110,115,97,102,101]) 1259 (.ref 759)),(en P (sx [113,117,111,116,101]) 1266 (.ref 766)),(en P (sx [83,95,73,70,77,84]) 1275 (.ref 773)),(en P (sx [83,95,73,70,68,73,82]) 1277 (.int 16384 1276)),(en P (sx [83,95,73,70,67,72,82]) 1279 (.int 8192 1278)),(en P (sx [83,95,73,70,66,76,75]) 1281 (.int 24576 1280)),(en P (sx [83,95,73,70,82,69,71]) 1283 (.int 32768 1282)),(en P (sx [83,95,73,70,73,70,79]) 1285 (.int 4096 1284)),(en P (sx [83,95,73,70,76,78,75]) 1287 (.int 40960 1286)),(en P (sx [83,95,73,70,83,79,67,75]) 1289 (.int 49152 1288)),(en P (sx [83,95,73,83,85,73,68]) 1291 (.int 2048 1290)),(en P (sx [83,95,73,83,71,73,68]) 1293 (.int 1024 1292)),(en P (sx [83,95,73,83,86,84,88]) 1295 (.int 512 1294)),(en P (sx [83,95,73,82,85,83,82]) 1297 (.int 256 1296)),(en P (sx [83,95,73,87,85,83,82]) 1299 (.int 128 1298)),(en P (sx [83,95,73,88,85,83,82]) 1301 (.int 64 1300)),(en P (sx [83,95,73,82,71,82,80]) 1303 (.int 32 1302)),(en P (sx [83,95,73,87,71,82,80]) 1305 (.int 16 1304)),(en P (sx [83,95,73,88,71,82,80]) 1307 (.int 8 1306)),(en P (sx [83,95,73,82,79,84,72]) 1309 (.int 4 1308)),(en P (sx [83,95,73,87,79,84,72]) 1311 (.int 2 1310)),(en P (sx [83,95,73,88,79,84,72]) 1313 (.int 1 1312)),(en P (sx [95,102,105,108,101,109,111,100,101,95,116,97,98,108,101]) 1339 (.ref 806)),(en P (sx [102,105,108,101,109,111,100,101]) 1351 (.ref 813)),(en P (sx [95,108,97,119,95,102,105,101,108,100]) 1360 (.ref 820)),(en P (sx [95,108,97,119,95,116,111,108,100]) 1366 (.ref 825)),(en P (sx [95,108,97,119,95,100,117,101]) 1372 (.ref 830)),(en P (sx [108,97,119]) 1378 (.ref 835))]⟩ 60),⟨[]⟩⟩
noncomputable def o4 (P:Params) : Obj:=⟨(.type "module"),(some 0),.plain,⟨[]⟩⟩
noncomputable def o50 (P:Params) : Obj:=⟨(.type "code"),none,(.fields ⟨[(.str (sx [95,115,116,114,105,112,95,112,97,100,100,105,110,103]) 333),(.str (sx [95,115,116,114,105,112,95,112,97,100,100,105,110,103]) 334),(.str (sx [47,99,108,97,105,109,47,99,117,116,46,112,121]) 335),(.int 7 0),(.int 2 0),(.int 0 0),(.int 0 0),(.int 3 0),(.ref 45),(.bool true),(.int 318 0),(.ref 46),.none,(.ref 47),(.ref 48),(.ref 49),(.int 340 0),(.int 7 0),(.str (sx [47,99,108,97,105,109,47,99,117,116,46,112,121]) 341)]⟩),⟨[]⟩⟩
noncomputable def o51 (P:Params) : Obj:=⟨(.type "function"),none,(.func (mkFn (fnAt 4) (sx [95,115,116,114,105,112,95,112,97,100,100,105,110,103]) 3 .none .none .none (.str (sx [99,112,121,51,49,51,46,108,111,99,97,108,101]) 331) none (.ref 50) .none 0)),⟨[]⟩⟩
noncomputable def o55 (P:Params) : Obj:=⟨(.type "tuple"),none,(.seq ⟨[(.int 14 0),(.int 17 0),(.int 4 0),(.int 1 0),(.int 1 0),(.int 21 0),(.int 9 0),(.int 0 0),(.int 604043296 0),(.int 1 0),(.int 0 0),(.int 0 0),(.int 0 0),(.int 0 0),(.int 0 0),(.int 8 0),(.int 4 0),(.int 0 0),(.int 13 0),(.int 14 0),(.int 21 0),(.int 9 0),(.int 0 0),(.int 604043296 0),(.int 1 0),(.int 0 0),(.int 0 0),(.int 0 0),(.int 0 0),(.int 0 0),(.int 8 0),(.int 4 0),(.int 0 0),(.int 1 0)]⟩ 0),⟨[]⟩⟩
noncomputable def o56 (P:Params) : Obj:=⟨(.type "re.Pattern"),none,(.fields ⟨[(.str (sx [91,94,92,119,64,37,43,61,58,44,46,47,45,93]) 344),(.int 256 381),(.int 0 0),.none,.none,(.ref 55),(.int 0 0)]⟩),⟨[]⟩⟩
noncomputable def o69 (P:Params) : Obj:=⟨(.type "code"),none,(.fields ⟨[(.str (sx [95,105,110,100,101,120]) 393),(.str (sx [95,105,110,100,101,120]) 394),(.str (sx [47,99,108,97,105,109,47,99,117,116,46,112,121]) 395),(.int 24 0),(.int 2 0),(.int 0 0),(.int 0 0),(.int 3 0),(.ref 64),(.bool true),(.int 318 0),(.ref 65),.none,(.ref 66),(.ref 67),(.ref 68),(.int 398 0),(.int 24 0),(.str (sx [47,99,108,97,105,109,47,99,117,116,46,112,121]) 399)]⟩),⟨[]⟩⟩
noncomputable def o70 (P:Params) : Obj:=⟨(.type "function"),none,(.func (mkFn (fnAt 8) (sx [95,105,110,100,101,120]) 3 .none .none .none (.str (sx [105,111]) 383) none (.ref 69) .none 0)),⟨[]⟩⟩
noncomputable def o96 (P:Params) : Obj:=⟨(.type "code"),none,(.fields ⟨[(.str (sx [95,95,110,101,119,95,95]) 437),(.str (sx [73,79,66,97,115,101,46,95,95,110,101,119,95,95]) 438),(.str (sx [47,99,108,97,105,109,47,99,117,116,46,112,121]) 439),(.int 36 0),(.int 1 0),(.int 1 0),(.int 0 0),(.int 15 0),(.ref 91),(.bool true),(.int 318 0),(.ref 92),.none,(.ref 93),(.ref 94),(.ref 95),(.int 443 0),(.int 36 0),(.str (sx [47,99,108,97,105,109,47,99,117,116,46,112,121]) 444)]⟩),⟨[]⟩⟩
noncomputable def o97 (P:Params) : Obj:=⟨(.type "function"),none,(.func (mkFn (methAt 10 1) (sx [73,79,66,97,115,101,46,95,95,110,101,119,95,95]) 3 .none .none .none (.str (sx [105,111]) 383) none (.ref 96) .none 0)),⟨[]⟩⟩
noncomputable def o99 (P:Params) : Obj:=⟨(.type "dict"),none,(.dict ⟨[(en P (sx [95,95,109,111,100,117,108,101,95,95]) 430 (.str (sx [105,111]) 435)),(en P (sx [95,95,102,105,114,115,116,108,105,110,101,110,111,95,95]) 434 (.int 33 433)),(en P (sx [95,95,110,101,119,95,95]) 445 (.ref 101)),(en P (sx [95,95,115,116,97,116,105,99,95,97,116,116,114,105,98,117,116,101,115,95,95]) 446 (.ref 98)),(en P (sx [95,95,100,105,99,116,95,95]) 449 (.ref 102)),(en P (sx [95,95,119,101,97,107,114,101,102,95,95]) 451 (.ref 103)),(en P (sx [95,95,100,111,99,95,95]) 452 .none)]⟩ 4),⟨[]⟩⟩
noncomputable def o100 (P:Params) : Obj:=⟨(.type "type"),none,(.cls ⟨(sx [73,79,66,97,115,101]),[(.type "object")],[(.ref 100),(.type "object")],99,(sx [73,79,66,97,115,101]),true,[],[(.ref 115),(.ref 127)],false,none,false⟩),⟨[none,none,(some (.str (sx [73,79,66,97,115,101]) 423)),(some (.str (sx [73,79,66,97,115,101]) 431)),(some .none),(some (.bool true))]⟩⟩
noncomputable def o101 (P:Params) : Obj:=⟨(.type "staticmethod"),none,(.fields ⟨[(.ref 97)]⟩),⟨[]⟩⟩
noncomputable def o126 (P:Params) : Obj:=⟨(.type "dict"),none,(.dict ⟨[(en P (sx [95,95,109,111,100,117,108,101,95,95]) 480 (.str (sx [105,111]) 485)),(en P (sx [95,95,102,105,114,115,116,108,105,110,101,110,111,95,95]) 484 (.int 42 483)),(en P (sx [95,95,115,116,97,116,105,99,95,97,116,116,114,105,98,117,116,101,115,95,95]) 487 (.ref 125)),(en P (sx [95,95,100,111,99,95,95]) 488 .none)]⟩ 2),⟨[]⟩⟩
noncomputable def o127 (P:Params) : Obj:=⟨(.type "type"),none,(.cls ⟨(sx [84,101,120,116,73,79,66,97,115,101]),[(.ref 100)],[(.ref 127),(.ref 100),(.type "object")],126,(sx [84,101,120,116,73,79,66,97,115,101]),true,[],[(.ref 604)],false,none,false⟩),⟨[(some (.ref 118)),none,(some (.str (sx [84,101,120,116,73,79,66,97,115,101]) 473)),(some (.str (sx [84,101,120,116,73,79,66,97,115,101]) 481)),(some .none),(some (.bool true))]⟩⟩
noncomputable def o357 (P:Params) : Obj:=⟨(.type "type"),none,(.cls ⟨(sx [66,121,116,101,115,73,79]),[(.ref 115)],[(.ref 357),(.ref 115),(.ref 100),(.type "object")],356,(sx [66,121,116,101,115,73,79]),true,[],[],false,none,false⟩),⟨[(some (.ref 130)),none,(some (.str (sx [66,121,116,101,115,73,79]) 491)),(some (.str (sx [66,121,116,101,115,73,79]) 499)),(some .none),(some (.bool true))]⟩⟩
noncomputable def o367 (P:Params) : Obj:=⟨(.type "tuple"),none,(.seq ⟨[(.str (sx []) 767),(.str (sx [10]) 768)]⟩ 0),⟨[]⟩⟩
noncomputable def o373 (P:Params) : Obj:=⟨(.type "code"),none,(.fields ⟨[(.str (sx [95,95,105,110,105,116,95,95]) 769),(.str (sx [83,116,114,105,110,103,73,79,46,95,95,105,110,105,116,95,95]) 770),(.str (sx [47,99,108,97,105,109,47,99,117,116,46,112,121]) 771),(.int 217 0),(.int 3 0),(.int 0 0),(.int 0 0),(.int 3 0),(.ref 368),(.bool true),(.int 318 0),(.ref 369),.none,(.ref 370),(.ref 371),(.ref 372),(.int 775 0),(.int 217 0),(.str (sx [47,99,108,97,105,109,47,99,117,116,46,112,121]) 776)]⟩),⟨[]⟩⟩
noncomputable def o374 (P:Params) : Obj:=⟨(.type "function"),none,(.func (mkFn (methAt 14 1) (sx [83,116,114,105,110,103,73,79,46,95,95,105,110,105,116,95,95]) 3 (.ref 367) .none .none (.str (sx [105,111]) 383) none (.ref 373) .none 0)),⟨[]⟩⟩
noncomputable def o380 (P:Params) : Obj:=⟨(.type "code"),none,(.fields ⟨[(.str (sx [95,95,116,114,97,110,115,108,97,116,101,100]) 778),(.str (sx [83,116,114,105,110,103,73,79,46,95,95,116,114,97,110,115,108,97,116,101,100]) 779),(.str (sx [47,99,108,97,105,109,47,99,117,116,46,112,121]) 780),(.int 230 0),(.int 2 0),(.int 0 0),(.int 0 0),(.int 3 0),(.ref 375),(.bool true),(.int 318 0),(.ref 376),.none,(.ref 377),(.ref 378),(.ref 379),(.int 784 0),(.int 230 0),(.str (sx [47,99,108,97,105,109,47,99,117,116,46,112,121]) 785)]⟩),⟨[]⟩⟩
noncomputable def o381 (P:Params) : Obj:=⟨(.type "function"),none,(.func (mkFn (methAt 14 2) (sx [83,116,114,105,110,103,73,79,46,95,95,116,114,97,110,115,108,97,116,101,100]) 3 .none .none .none (.str (sx [105,111]) 383) none (.ref 380) .none 0)),⟨[]⟩⟩
noncomputable def o387 (P:Params) : Obj:=⟨(.type "code"),none,(.fields ⟨[(.str (sx [95,95,99,104,101,99,107]) 787),(.str (sx [83,116,114,105,110,103,73,79,46,95,95,99,104,101,99,107]) 788),(.str (sx [47,99,108,97,105,109,47,99,117,116,46,112,121]) 789),(.int 238 0),(.int 1 0),(.int 0 0),(.int 0 0),(.int 3 0),(.ref 382),(.bool true),(.int 318 0),(.ref 383),.none,(.ref 384),(.ref 385),(.ref 386),(.int 791 0),(.int 238 0),(.str (sx [47,99,108,97,105,109,47,99,117,116,46,112,121]) 792)]⟩),⟨[]⟩⟩
noncomputable def o388 (P:Params) : Obj:=⟨(.type "function"),none,(.func (mkFn (methAt 14 3) (sx [83,116,114,105,110,103,73,79,46,95,95,99,104,101,99,107]) 3 .none .none .none (.str (sx [105,111]) 383) none (.ref 387) .none 0)),⟨[]⟩⟩
noncomputable def o543 (P:Params) : Obj:=⟨(.type "tuple"),none,(.seq ⟨[(.int (-1) 960)]⟩ 0),⟨[]⟩⟩
noncomputable def o549 (P:Params) : Obj:=⟨(.type "code"),none,(.fields ⟨[(.str (sx [114,101,97,100]) 961),(.str (sx [83,116,114,105,110,103,73,79,46,114,101,97,100]) 962),(.str (sx [47,99,108,97,105,109,47,99,117,116,46,112,121]) 963),(.int 360 0),(.int 2 0),(.int 2 0),(.int 0 0),(.int 3 0),(.ref 544),(.bool true),(.int 318 0),(.ref 545),.none,(.ref 546),(.ref 547),(.ref 548),(.int 968 0),(.int 360 0),(.str (sx [47,99,108,97,105,109,47,99,117,116,46,112,121]) 969)]⟩),⟨[]⟩⟩
noncomputable def o550 (P:Params) : Obj:=⟨(.type "function"),none,(.func (mkFn (methAt 14 25) (sx [83,116,114,105,110,103,73,79,46,114,101,97,100]) 3 (.ref 543) .none .none (.str (sx [105,111]) 383) none (.ref 549) .none 0)),⟨[]⟩⟩
noncomputable def o603 (P:Params) : Obj:=⟨(.type "dict"),none,(.dict ⟨[(en P (sx [95,95,109,111,100,117,108,101,95,95]) 760 (.str (sx [95,105,111]) 765)),(en P (sx [95,95,102,105,114,115,116,108,105,110,101,110,111,95,95]) 764 (.int 214 763)),(en P (sx [95,95,105,110,105,116,95,95]) 777 (.ref 374)),(en P (sx [95,83,116,114,105,110,103,73,79,95,95,116,114,97,110,115,108,97,116,101,100]) 786 (.ref 381)),(en P (sx [95,83,116,114,105,110,103,73,79,95,95,99,104,101,99,107]) 793 (.ref 388)),(en P (sx [95,83,116,114,105,110,103,73,79,95,95,99,104,101,99,107,95,100,111,116]) 800 (.ref 395)),(en P (sx [95,83,116,114,105,110,103,73,79,95,95,108,105,110,101]) 815 (.ref 402)),(en P (sx [99,108,111,115,101,100]) 823 (.ref 410)),(en P (sx [108,105,110,101,95,98,117,102,102,101,114,105,110,103]) 831 (.ref 418)),(en P (sx [110,101,119,108,105,110,101,115]) 839 (.ref 426)),(en P (sx [101,110,99,111,100,105,110,103]) 847 (.ref 434)),(en P (sx [101,114,114,111,114,115]) 855 (.ref 442)),(en P (sx [99,108,111,115,101]) 862 (.ref 449)),(en P (sx [95,95,101,110,116,101,114,95,95]) 869 (.ref 456)),(en P (sx [95,95,101,120,105,116,95,95]) 877 (.ref 463)),(en P (sx [114,101,97,100,97,98,108,101]) 884 (.ref 470)),(en P (sx [119,114,105,116,97,98,108,101]) 891 (.ref 477)),(en P (sx [115,101,101,107,97,98,108,101]) 898 (.ref 484)),(en P (sx [105,115,97,116,116,121]) 905 (.ref 491)),(en P (sx [102,108,117,115,104]) 912 (.ref 498)),(en P (sx [102,105,108,101,110,111]) 919 (.ref 505)),(en P (sx [100,101,116,97,99,104]) 926 (.ref 512)),(en P (sx [103,101,116,118,97,108,117,101]) 933 (.ref 519)),(en P (sx [116,101,108,108]) 940 (.ref 526)),(en P (sx [115,101,101,107]) 950 (.ref 534)),(en P (sx [116,114,117,110,99,97,116,101]) 958 (.ref 542)),(en P (sx [114,101,97,100]) 970 (.ref 550)),(en P (sx [114,101,97,100,108,105,110,101]) 980 (.ref 558)),(en P (sx [114,101,97,100,108,105,110,101,115]) 990 (.ref 566)),(en P (sx [95,95,105,116,101,114,95,95]) 997 (.ref 573)),(en P (sx [95,95,110,101,120,116,95,95]) 1005 (.ref 580)),(en P (sx [119,114,105,116,101]) 1017 (.ref 587)),(en P (sx [119,114,105,116,101,108,105,110,101,115]) 1025 (.ref 594)),(en P (sx [95,95,114,101,112,114,95,95]) 1032 (.ref 601)),(en P (sx [95,95,115,116,97,116,105,99,95,97,116,116,114,105,98,117,116,101,115,95,95]) 1036 (.ref 602)),(en P (sx [95,95,100,111,99,95,95]) 1037 .none)]⟩ 2),⟨[]⟩⟩
noncomputable def o604 (P:Params) : Obj:=⟨(.type "type"),none,(.cls ⟨(sx [83,116,114,105,110,103,73,79]),[(.ref 127)],[(.ref 604),(.ref 127),(.ref 100),(.type "object")],603,(sx [83,116,114,105,110,103,73,79]),true,[],[],false,none,false⟩),⟨[(some (.ref 360)),none,(some (.str (sx [83,116,114,105,110,103,73,79]) 753)),(some (.str (sx [83,116,114,105,110,103,73,79]) 761)),(some .none),(some (.bool true))]⟩⟩
noncomputable def o656 (P:Params) : Obj:=⟨(.type "tuple"),none,(.seq ⟨[.none,.none,(.bool false),(.bool false)]⟩ 0),⟨[]⟩⟩
noncomputable def o662 (P:Params) : Obj:=⟨(.type "code"),none,(.fields ⟨[(.str (sx [95,95,105,110,105,116,95,95]) 1113),(.str (sx [115,104,108,101,120,46,95,95,105,110,105,116,95,95]) 1114),(.str (sx [47,99,108,97,105,109,47,99,117,116,46,112,121]) 1115),(.int 486 0),(.int 5 0),(.int 0 0),(.int 0 0),(.int 3 0),(.ref 657),(.bool true),(.int 318 0),(.ref 658),.none,(.ref 659),(.ref 660),(.ref 661),(.int 1122 0),(.int 486 0),(.str (sx [47,99,108,97,105,109,47,99,117,116,46,112,121]) 1123)]⟩),⟨[]⟩⟩
noncomputable def o663 (P:Params) : Obj:=⟨(.type "function"),none,(.func (mkFn (methAt 24 0) (sx [115,104,108,101,120,46,95,95,105,110,105,116,95,95]) 3 (.ref 656) .none .none (.str (sx [99,112,121,51,49,51,46,115,104,108,101,120]) 1099) none (.ref 662) .none 0)),⟨[]⟩⟩
noncomputable def o669 (P:Params) : Obj:=⟨(.type "code"),none,(.fields ⟨[(.str (sx [112,117,110,99,116,117,97,116,105,111,110,95,99,104,97,114,115]) 1125),(.str (sx [115,104,108,101,120,46,112,117,110,99,116,117,97,116,105,111,110,95,99,104,97,114,115]) 1126),(.str (sx [47,99,108,97,105,109,47,99,117,116,46,112,121]) 1127),(.int 527 0),(.int 1 0),(.int 0 0),(.int 0 0),(.int 3 0),(.ref 664),(.bool true),(.int 318 0),(.ref 665),.none,(.ref 666),(.ref 667),(.ref 668),(.int 1129 0),(.int 527 0),(.str (sx [47,99,108,97,105,109,47,99,117,116,46,112,121]) 1130)]⟩),⟨[]⟩⟩
noncomputable def o670 (P:Params) : Obj:=⟨(.type "function"),none,(.func (mkFn (methAt 24 1) (sx [115,104,108,101,120,46,112,117,110,99,116,117,97,116,105,111,110,95,99,104,97,114,115]) 3 .none .none .none (.str (sx [99,112,121,51,49,51,46,115,104,108,101,120]) 1099) none (.ref 669) .none 0)),⟨[]⟩⟩
noncomputable def o671 (P:Params) : Obj:=⟨(.type "property"),none,(.fields ⟨[(.ref 670),.none,.none,.none,(.str (sx [112,117,110,99,116,117,97,116,105,111,110,95,99,104,97,114,115]) 1132),(.bool false)]⟩),⟨[]⟩⟩
noncomputable def o699 (P:Params) : Obj:=⟨(.type "code"),none,(.fields ⟨[(.str (sx [103,101,116,95,116,111,107,101,110]) 1157),(.str (sx [115,104,108,101,120,46,103,101,116,95,116,111,107,101,110]) 1158),(.str (sx [47,99,108,97,105,109,47,99,117,116,46,112,121]) 1159),(.int 554 0),(.int 1 0),(.int 0 0),(.int 0 0),(.int 3 0),(.ref 694),(.bool true),(.int 318 0),(.ref 695),.none,(.ref 696),(.ref 697),(.ref 698),(.int 1166 0),(.int 554 0),(.str (sx [47,99,108,97,105,109,47,99,117,116,46,112,121]) 1167)]⟩),⟨[]⟩⟩
noncomputable def o700 (P:Params) : Obj:=⟨(.type "function"),none,(.func (mkFn (methAt 24 5) (sx [115,104,108,101,120,46,103,101,116,95,116,111,107,101,110]) 3 .none .none .none (.str (sx [99,112,121,51,49,51,46,115,104,108,101,120]) 1099) none (.ref 699) .none 0)),⟨[]⟩⟩
noncomputable def o706 (P:Params) : Obj:=⟨(.type "code"),none,(.fields ⟨[(.str (sx [114,101,97,100,95,116,111,107,101,110]) 1169),(.str (sx [115,104,108,101,120,46,114,101,97,100,95,116,111,107,101,110]) 1170),(.str (sx [47,99,108,97,105,109,47,99,117,116,46,112,121]) 1171),(.int 581 0),(.int 1 0),(.int 0 0),(.int 0 0),(.int 3 0),(.ref 701),(.bool true),(.int 318 0),(.ref 702),.none,(.ref 703),(.ref 704),(.ref 705),(.int 1177 0),(.int 581 0),(.str (sx [47,99,108,97,105,109,47,99,117,116,46,112,121]) 1178)]⟩),⟨[]⟩⟩
noncomputable def o707 (P:Params) : Obj:=⟨(.type "function"),none,(.func (mkFn (methAt 24 6) (sx [115,104,108,101,120,46,114,101,97,100,95,116,111,107,101,110]) 3 .none .none .none (.str (sx [99,112,121,51,49,51,46,115,104,108,101,120]) 1099) none (.ref 706) .none 0)),⟨[]⟩⟩
noncomputable def o728 (P:Params) : Obj:=⟨(.type "code"),none,(.fields ⟨[(.str (sx [95,95,105,116,101,114,95,95]) 1197),(.str (sx [115,104,108,101,120,46,95,95,105,116,101,114,95,95]) 1198),(.str (sx [47,99,108,97,105,109,47,99,117,116,46,112,121]) 1199),(.int 728 0),(.int 1 0),(.int 0 0),(.int 0 0),(.int 3 0),(.ref 723),(.bool true),(.int 318 0),(.ref 724),.none,(.ref 725),(.ref 726),(.ref 727),(.int 1201 0),(.int 728 0),(.str (sx [47,99,108,97,105,109,47,99,117,116,46,112,121]) 1202)]⟩),⟨[]⟩⟩
noncomputable def o729 (P:Params) : Obj:=⟨(.type "function"),none,(.func (mkFn (methAt 24 9) (sx [115,104,108,101,120,46,95,95,105,116,101,114,95,95]) 3 .none .none .none (.str (sx [99,112,121,51,49,51,46,115,104,108,101,120]) 1099) none (.ref 728) .none 0)),⟨[]⟩⟩
noncomputable def o735 (P:Params) : Obj:=⟨(.type "code"),none,(.fields ⟨[(.str (sx [95,95,110,101,120,116,95,95]) 1204),(.str (sx [115,104,108,101,120,46,95,95,110,101,120,116,95,95]) 1205),(.str (sx [47,99,108,97,105,109,47,99,117,116,46,112,121]) 1206),(.int 731 0),(.int 1 0),(.int 0 0),(.int 0 0),(.int 3 0),(.ref 730),(.bool true),(.int 318 0),(.ref 731),.none,(.ref 732),(.ref 733),(.ref 734),(.int 1209 0),(.int 731 0),(.str (sx [47,99,108,97,105,109,47,99,117,116,46,112,121]) 1210)]⟩),⟨[]⟩⟩
noncomputable def o736 (P:Params) : Obj:=⟨(.type "function"),none,(.func (mkFn (methAt 24 10) (sx [115,104,108,101,120,46,95,95,110,101,120,116,95,95]) 3 .none .none .none (.str (sx [99,112,121,51,49,51,46,115,104,108,101,120]) 1099) none (.ref 735) .none 0)),⟨[]⟩⟩
noncomputable def o738 (P:Params) : Obj:=⟨(.type "dict"),none,(.dict ⟨[(en P (sx [95,95,109,111,100,117,108,101,95,95]) 1108 (.str (sx [99,112,121,51,49,51,46,115,104,108,101,120]) 1099)),(en P (sx [95,95,102,105,114,115,116,108,105,110,101,110,111,95,95]) 1112 (.int 484 1111)),(en P (sx [95,95,105,110,105,116,95,95]) 1124 (.ref 663)),(en P (sx [112,117,110,99,116,117,97,116,105,111,110,95,99,104,97,114,115]) 1132 (.ref 671)),(en P (sx [112,117,115,104,95,116,111,107,101,110]) 1140 (.ref 678)),(en P (sx [112,117,115,104,95,115,111,117,114,99,101]) 1149 (.ref 686)),(en P (sx [112,111,112,95,115,111,117,114,99,101]) 1156 (.ref 693)),(en P (sx [103,101,116,95,116,111,107,101,110]) 1168 (.ref 700)),(en P (sx [114,101,97,100,95,116,111,107,101,110]) 1179 (.ref 707)),(en P (sx [115,111,117,114,99,101,104,111,111,107]) 1187 (.ref 714)),(en P (sx [101,114,114,111,114,95,108,101,97,100,101,114]) 1196 (.ref 722)),(en P (sx [95,95,105,116,101,114,95,95]) 1203 (.ref 729)),(en P (sx [95,95,110,101,120,116,95,95]) 1211 (.ref 736)),(en P (sx [95,95,115,116,97,116,105,99,95,97,116,116,114,105,98,117,116,101,115,95,95]) 1232 (.ref 737)),(en P (sx [95,95,100,105,99,116,95,95]) 1234 (.ref 740)),(en P (sx [95,95,119,101,97,107,114,101,102,95,95]) 1236 (.ref 741)),(en P (sx [95,95,100,111,99,95,95]) 1237 .none)]⟩ 4),⟨[]⟩⟩
noncomputable def o739 (P:Params) : Obj:=⟨(.type "type"),none,(.cls ⟨(sx [115,104,108,101,120]),[(.type "object")],[(.ref 739),(.type "object")],738,(sx [115,104,108,101,120]),true,[],[],false,none,false⟩),⟨[none,none,(some (.str (sx [115,104,108,101,120]) 1101)),(some (.str (sx [115,104,108,101,120]) 1109)),(some (.builtin "object.__new__")),(some (.bool true))]⟩⟩
noncomputable def o744 (P:Params) : Obj:=⟨(.type "tuple"),none,(.seq ⟨[(.bool false),(.bool true)]⟩ 0),⟨[]⟩⟩
noncomputable def o750 (P:Params) : Obj:=⟨(.type "code"),none,(.fields ⟨[(.str (sx [115,112,108,105,116]) 1240),(.str (sx [115,112,108,105,116]) 1241),(.str (sx [47,99,108,97,105,109,47,99,117,116,46,112,121]) 1242),(.int 736 0),(.int 3 0),(.int 0 0),(.int 0 0),(.int 3 0),(.ref 745),(.bool true),(.int 318 0),(.ref 746),.none,(.ref 747),(.ref 748),(.ref 749),(.int 1247 0),(.int 736 0),(.str (sx [47,99,108,97,105,109,47,99,117,116,46,112,121]) 1248)]⟩),⟨[]⟩⟩
noncomputable def o751 (P:Params) : Obj:=⟨(.type "function"),none,(.func (mkFn (fnAt 25) (sx [115,112,108,105,116]) 3 (.ref 744) .none .none (.str (sx [99,112,121,51,49,51,46,115,104,108,101,120]) 1099) none (.ref 750) .none 0)),⟨[]⟩⟩
noncomputable def o753 (P:Params) : Obj:=⟨.none,none,(.fields ⟨[]⟩),⟨[]⟩⟩
noncomputable def o757 (P:Params) : Obj:=⟨(.type "code"),none,(.fields ⟨[(.str (sx [106,111,105,110]) 1250),(.str (sx [106,111,105,110]) 1251),(.str (sx [47,99,108,97,105,109,47,99,117,116,46,112,121]) 1252),(.int 744 0),(.int 1 0),(.int 0 0),(.int 0 0),(.int 3 0),(.ref 752),(.bool true),(.int 318 0),(.ref 753),.none,(.ref 754),(.ref 755),(.ref 756),(.int 1254 0),(.int 744 0),(.str (sx [47,99,108,97,105,109,47,99,117,116,46,112,121]) 1255)]⟩),⟨[]⟩⟩
noncomputable def o758 (P:Params) : Obj:=⟨(.type "function"),none,(.func (mkFn (fnAt 26) (sx [106,111,105,110]) 3 .none .none .none (.str (sx [99,112,121,51,49,51,46,115,104,108,101,120]) 1099) none (.ref 757) .none 0)),⟨[]⟩⟩
noncomputable def o759 (P:Params) : Obj:=⟨(.type "builtin_function_or_method"),none,(.fields ⟨[(.builtin "re.Pattern.search"),(.ref 56)]⟩),⟨[]⟩⟩
noncomputable def o765 (P:Params) : Obj:=⟨(.type "code"),none,(.fields ⟨[(.str (sx [113,117,111,116,101]) 1260),(.str (sx [113,117,111,116,101]) 1261),(.str (sx [47,99,108,97,105,109,47,99,117,116,46,112,121]) 1262),(.int 748 0),(.int 1 0),(.int 0 0),(.int 0 0),(.int 3 0),(.ref 760),(.bool true),(.int 318 0),(.ref 761),.none,(.ref 762),(.ref 763),(.ref 764),(.int 1264 0),(.int 748 0),(.str (sx [47,99,108,97,105,109,47,99,117,116,46,112,121]) 1265)]⟩),⟨[]⟩⟩
noncomputable def o766 (P:Params) : Obj:=⟨(.type "function"),none,(.func (mkFn (fnAt 29) (sx [113,117,111,116,101]) 3 .none .none .none (.str (sx [99,112,121,51,49,51,46,115,104,108,101,120]) 1099) none (.ref 765) .none 0)),⟨[]⟩⟩
noncomputable def o772 (P:Params) : Obj:=⟨(.type "code"),none,(.fields ⟨[(.str (sx [83,95,73,70,77,84]) 1269),(.str (sx [83,95,73,70,77,84]) 1270),(.str (sx [47,99,108,97,105,109,47,99,117,116,46,112,121]) 1271),(.int 755 0),(.int 1 0),(.int 0 0),(.int 0 0),(.int 3 0),(.ref 767),(.bool true),(.int 318 0),(.ref 768),.none,(.ref 769),(.ref 770),(.ref 771),(.int 1273 0),(.int 755 0),(.str (sx [47,99,108,97,105,109,47,99,117,116,46,112,121]) 1274)]⟩),⟨[]⟩⟩
noncomputable def o773 (P:Params) : Obj:=⟨(.type "function"),none,(.func (mkFn (fnAt 31) (sx [83,95,73,70,77,84]) 3 .none .none .none (.str (sx [99,112,121,51,49,51,46,115,116,97,116]) 1267) none (.ref 772) .none 0)),⟨[]⟩⟩
noncomputable def o774 (P:Params) : Obj:=⟨(.type "tuple"),none,(.seq ⟨[(.int 40960 1286),(.str (sx [108]) 1314)]⟩ 0),⟨[]⟩⟩
noncomputable def o775 (P:Params) : Obj:=⟨(.type "tuple"),none,(.seq ⟨[(.int 49152 1288),(.str (sx [115]) 1315)]⟩ 0),⟨[]⟩⟩
noncomputable def o776 (P:Params) : Obj:=⟨(.type "tuple"),none,(.seq ⟨[(.int 32768 1282),(.str (sx [45]) 1316)]⟩ 0),⟨[]⟩⟩
noncomputable def o781 (P:Params) : Obj:=⟨(.type "tuple"),none,(.seq ⟨[(.ref 774),(.ref 775),(.ref 776),(.ref 777),(.ref 778),(.ref 779),(.ref 780)]⟩ 0),⟨[]⟩⟩
noncomputable def o782 (P:Params) : Obj:=⟨(.type "tuple"),none,(.seq ⟨[(.int 256 1296),(.str (sx [114]) 1321)]⟩ 0),⟨[]⟩⟩
noncomputable def o783 (P:Params) : Obj:=⟨(.type "tuple"),none,(.seq ⟨[(.ref 782)]⟩ 0),⟨[]⟩⟩
noncomputable def o784 (P:Params) : Obj:=⟨(.type "tuple"),none,(.seq ⟨[(.int 128 1298),(.str (sx [119]) 1322)]⟩ 0),⟨[]⟩⟩
noncomputable def o785 (P:Params) : Obj:=⟨(.type "tuple"),none,(.seq ⟨[(.ref 784)]⟩ 0),⟨[]⟩⟩
noncomputable def o786 (P:Params) : Obj:=⟨(.type "tuple"),none,(.seq ⟨[(.int 2112 1323),(.str (sx [115]) 1324)]⟩ 0),⟨[]⟩⟩
noncomputable def o787 (P:Params) : Obj:=⟨(.type "tuple"),none,(.seq ⟨[(.int 2048 1290),(.str (sx [83]) 1325)]⟩ 0),⟨[]⟩⟩
noncomputable def o788 (P:Params) : Obj:=⟨(.type "tuple"),none,(.seq ⟨[(.int 64 1300),(.str (sx [120]) 1326)]⟩ 0),⟨[]⟩⟩
noncomputable def o789 (P:Params) : Obj:=⟨(.type "tuple"),none,(.seq ⟨[(.ref 786),(.ref 787),(.ref 788)]⟩ 0),⟨[]⟩⟩
noncomputable def o790 (P:Params) : Obj:=⟨(.type "tuple"),none,(.seq ⟨[(.int 32 1302),(.str (sx [114]) 1327)]⟩ 0),⟨[]⟩⟩
noncomputable def o791 (P:Params) : Obj:=⟨(.type "tuple"),none,(.seq ⟨[(.ref 790)]⟩ 0),⟨[]⟩⟩
noncomputable def o792 (P:Params) : Obj:=⟨(.type "tuple"),none,(.seq ⟨[(.int 16 1304),(.str (sx [119]) 1328)]⟩ 0),⟨[]⟩⟩
noncomputable def o793 (P:Params) : Obj:=⟨(.type "tuple"),none,(.seq ⟨[(.ref 792)]⟩ 0),⟨[]⟩⟩
noncomputable def o794 (P:Params) : Obj:=⟨(.type "tuple"),none,(.seq ⟨[(.int 1032 1329),(.str (sx [115]) 1330)]⟩ 0),⟨[]⟩⟩
noncomputable def o795 (P:Params) : Obj:=⟨(.type "tuple"),none,(.seq ⟨[(.int 1024 1292),(.str (sx [83]) 1331)]⟩ 0),⟨[]⟩⟩
noncomputable def o796 (P:Params) : Obj:=⟨(.type "tuple"),none,(.seq ⟨[(.int 8 1306),(.str (sx [120]) 1332)]⟩ 0),⟨[]⟩⟩
noncomputable def o797 (P:Params) : Obj:=⟨(.type "tuple"),none,(.seq ⟨[(.ref 794),(.ref 795),(.ref 796)]⟩ 0),⟨[]⟩⟩
noncomputable def o798 (P:Params) : Obj:=⟨(.type "tuple"),none,(.seq ⟨[(.int 4 1308),(.str (sx [114]) 1333)]⟩ 0),⟨[]⟩⟩
noncomputable def o799 (P:Params) : Obj:=⟨(.type "tuple"),none,(.seq ⟨[(.ref 798)]⟩ 0),⟨[]⟩⟩
noncomputable def o800 (P:Params) : Obj:=⟨(.type "tuple"),none,(.seq ⟨[(.int 2 1310),(.str (sx [119]) 1334)]⟩ 0),⟨[]⟩⟩
noncomputable def o801 (P:Params) : Obj:=⟨(.type "tuple"),none,(.seq ⟨[(.ref 800)]⟩ 0),⟨[]⟩⟩
noncomputable def o802 (P:Params) : Obj:=⟨(.type "tuple"),none,(.seq ⟨[(.int 513 1335),(.str (sx [116]) 1336)]⟩ 0),⟨[]⟩⟩
noncomputable def o803 (P:Params) : Obj:=⟨(.type "tuple"),none,(.seq ⟨[(.int 512 1294),(.str (sx [84]) 1337)]⟩ 0),⟨[]⟩⟩
noncomputable def o804 (P:Params) : Obj:=⟨(.type "tuple"),none,(.seq ⟨[(.int 1 1312),(.str (sx [120]) 1338)]⟩ 0),⟨[]⟩⟩
noncomputable def o805 (P:Params) : Obj:=⟨(.type "tuple"),none,(.seq ⟨[(.ref 802),(.ref 803),(.ref 804)]⟩ 0),⟨[]⟩⟩
noncomputable def o806 (P:Params) : Obj:=⟨(.type "tuple"),none,(.seq ⟨[(.ref 781),(.ref 783),(.ref 785),(.ref 789),(.ref 791),(.ref 793),(.ref 797),(.ref 799),(.ref 801),(.ref 805)]⟩ 0),⟨[]⟩⟩
noncomputable def o812 (P:Params) : Obj:=⟨(.type "code"),none,(.fields ⟨[(.str (sx [102,105,108,101,109,111,100,101]) 1340),(.str (sx [102,105,108,101,109,111,100,101]) 1341),(.str (sx [47,99,108,97,105,109,47,99,117,116,46,112,121]) 1342),(.int 777 0),(.int 1 0),(.int 0 0),(.int 0 0),(.int 3 0),(.ref 807),(.bool true),(.int 318 0),(.ref 808),.none,(.ref 809),(.ref 810),(.ref 811),(.int 1349 0),(.int 777 0),(.str (sx [47,99,108,97,105,109,47,99,117,116,46,112,121]) 1350)]⟩),⟨[]⟩⟩
noncomputable def o813 (P:Params) : Obj:=⟨(.type "function"),none,(.func (mkFn (fnAt 52) (sx [102,105,108,101,109,111,100,101]) 3 .none .none .none (.str (sx [99,112,121,51,49,51,46,115,116,97,116]) 1267) none (.ref 812) .none 0)),⟨[]⟩⟩
noncomputable def o819 (P:Params) : Obj:=⟨(.type "code"),none,(.fields ⟨[(.str (sx [95,108,97,119,95,102,105,101,108,100]) 1354),(.str (sx [95,108,97,119,95,102,105,101,108,100]) 1355),(.str (sx [47,99,108,97,105,109,47,99,117,116,46,112,121]) 1356),(.int 795 0),(.int 1 0),(.int 0 0),(.int 0 0),(.int 3 0),(.ref 814),(.bool true),(.int 318 0),(.ref 815),.none,(.ref 816),(.ref 817),(.ref 818),(.int 1358 0),(.int 795 0),(.str (sx [47,99,108,97,105,109,47,99,117,116,46,112,121]) 1359)]⟩),⟨[]⟩⟩
noncomputable def o820 (P:Params) : Obj:=⟨(.type "function"),none,(.func (mkFn (fnAt 54) (sx [95,108,97,119,95,102,105,101,108,100]) 3 .none .none .none (.str (sx [108,97,119,95,110,121,48,51,56,54,95,48,49]) 1352) none (.ref 819) .none 0)),⟨[]⟩⟩
noncomputable def o824 (P:Params) : Obj:=⟨(.type "code"),none,(.fields ⟨[(.str (sx [95,108,97,119,95,116,111,108,100]) 1361),(.str (sx [95,108,97,119,95,116,111,108,100]) 1362),(.str (sx [47,99,108,97,105,109,47,99,117,116,46,112,121]) 1363),(.int 797 0),(.int 2 0),(.int 0 0),(.int 0 0),(.int 3 0),(.ref 821),(.bool true),(.int 318 0),(.ref 822),.none,.none,.none,(.ref 823),(.int 1364 0),(.int 797 0),(.str (sx [47,99,108,97,105,109,47,99,117,116,46,112,121]) 1365)]⟩),⟨[]⟩⟩
noncomputable def o825 (P:Params) : Obj:=⟨(.type "function"),none,(.func (mkFn (fnAt 55) (sx [95,108,97,119,95,116,111,108,100]) 3 .none .none .none (.str (sx [108,97,119,95,110,121,48,51,56,54,95,48,49]) 1352) none (.ref 824) .none 0)),⟨[]⟩⟩
noncomputable def o829 (P:Params) : Obj:=⟨(.type "code"),none,(.fields ⟨[(.str (sx [95,108,97,119,95,100,117,101]) 1367),(.str (sx [95,108,97,119,95,100,117,101]) 1368),(.str (sx [47,99,108,97,105,109,47,99,117,116,46,112,121]) 1369),(.int 805 0),(.int 1 0),(.int 0 0),(.int 0 0),(.int 3 0),(.ref 826),(.bool true),(.int 318 0),(.ref 827),.none,.none,.none,(.ref 828),(.int 1370 0),(.int 805 0),(.str (sx [47,99,108,97,105,109,47,99,117,116,46,112,121]) 1371)]⟩),⟨[]⟩⟩
noncomputable def o830 (P:Params) : Obj:=⟨(.type "function"),none,(.func (mkFn (fnAt 56) (sx [95,108,97,119,95,100,117,101]) 3 .none .none .none (.str (sx [108,97,119,95,110,121,48,51,56,54,95,48,49]) 1352) none (.ref 829) .none 0)),⟨[]⟩⟩
noncomputable def o834 (P:Params) : Obj:=⟨(.type "code"),none,(.fields ⟨[(.str (sx [108,97,119]) 1373),(.str (sx [108,97,119]) 1374),(.str (sx [47,99,108,97,105,109,47,99,117,116,46,112,121]) 1375),(.int 817 0),(.int 1 0),(.int 0 0),(.int 0 0),(.int 3 0),(.ref 831),(.bool true),(.int 318 0),(.ref 832),.none,.none,.none,(.ref 833),(.int 1376 0),(.int 817 0),(.str (sx [47,99,108,97,105,109,47,99,117,116,46,112,121]) 1377)]⟩),⟨[]⟩⟩
noncomputable def o835 (P:Params) : Obj:=⟨(.type "function"),none,(.func (mkFn (fnAt 57) (sx [108,97,119]) 3 .none .none .none (.str (sx [108,97,119,95,110,121,48,51,56,54,95,48,49]) 1352) none (.ref 834) .none 0)),⟨[]⟩⟩
noncomputable def K0 (P:Params) : Frag:=[(0,o0 P),(2,o2 P),(3,o3 P),(4,o4 P),(50,o50 P),(51,o51 P),(55,o55 P),(56,o56 P),(69,o69 P),(70,o70 P),(96,o96 P),(97,o97 P),(99,o99 P),(100,o100 P),(101,o101 P),(126,o126 P),(127,o127 P),(357,o357 P),(367,o367 P),(373,o373 P),(374,o374 P),(380,o380 P),(381,o381 P),(387,o387 P),(388,o388 P),(543,o543 P),(549,o549 P),(550,o550 P),(603,o603 P),(604,o604 P),(656,o656 P),(662,o662 P),(663,o663 P),(669,o669 P),(670,o670 P),(671,o671 P),(699,o699 P),(700,o700 P),(706,o706 P),(707,o707 P),(728,o728 P),(729,o729 P),(735,o735 P),(736,o736 P),(738,o738 P),(739,o739 P),(744,o744 P),(750,o750 P),(751,o751 P),(753,o753 P),(757,o757 P),(758,o758 P),(759,o759 P),(765,o765 P),(766,o766 P),(772,o772 P),(773,o773 P),(774,o774 P),(775,o775 P),(776,o776 P),(781,o781 P),(782,o782 P),(783,o783 P),(784,o784 P),(785,o785 P),(786,o786 P),(787,o787 P),(788,o788 P),(789,o789 P),(790,o790 P),(791,o791 P),(792,o792 P),(793,o793 P),(794,o794 P),(795,o795 P),(796,o796 P),(797,o797 P),(798,o798 P),(799,o799 P),(800,o800 P),(801,o801 P),(802,o802 P),(803,o803 P),(804,o804 P),(805,o805 P),(806,o806 P),(812,o812 P),(813,o813 P),(819,o819 P),(820,o820 P),(824,o824 P),(825,o825 P),(829,o829 P),(830,o830 P),(834,o834 P),(835,o835 P)]
noncomputable def A0 : List Addr:=[0,2,3,4,50,51,55,56,69,70,96,97,99,100,101,126,127,357,367,373,374,380,381,387,388,543,549,550,603,604,656,662,663,669,670,671,699,700,706,707,728,729,735,736,738,739,744,750,751,753,757,758,759,765,766,772,773,774,775,776,781,782,783,784,785,786,787,788,789,790,791,792,793,794,795,796,797,798,799,800,801,802,803,804,805,806,812,813,819,820,824,825,829,830,834,835]
end Mine
end
section
open PySem PySem.W PySem.W.X PyProof.Rows
set_option maxRecDepth 100000
set_option maxHeartbeats 0
namespace Mine
noncomputable abbrev twDenote:=@PySem.W.Fast.tw11892475500146522536
noncomputable abbrev twTable:=@PySem.W.Fast.tw14364793385576792824
noncomputable abbrev twStepT:=@PySem.W.Fast.tw10156331382660048174
noncomputable abbrev twImp:=@PySem.W.Fast.tw10274390034422433532
noncomputable abbrev twFence:=@PySem.W.Fast.tw14289696077712309145
noncomputable abbrev twSeen:=@PySem.W.Fast.tw4187177175401517315
noncomputable abbrev twStart:=@PySem.W.Fast.tw1435165496053646825
noncomputable abbrev twOk:=@PySem.W.Fast.tw6613529449190102663
noncomputable def q0 : Program:={ P0 with main:={ P0.main with body:=P0.main.body.drop 57 } }
noncomputable def loose0 : List Str:=P0.boundNames.filter fun x => x != ("law" : Str)
noncomputable def N0 : Nat:=8000
noncomputable def Xt0 : Shared → Bool:=fun _ => true
theorem opn_eq : (fun w => fencedOpening treeTable P0 w N0) = fun w => (twImp twTable (opening P0) w N0 (twStart (opening P0)).1 (twStart (opening P0)).2).bind (twFence P0):=by
  unfold fencedOpening twImp twTable twStart twFence
  rw [PySem.W.Fast.te10274390034422433532,PySem.W.Fast.te14364793385576792824,PySem.W.Fast.te1435165496053646825,PySem.W.Fast.te14289696077712309145]
theorem stp_eq : (fun w => stepT (denote treeTable) P0 w) = fun w => twStepT (twDenote twTable) P0 w:=by
  unfold twStepT twDenote twTable
  rw [PySem.W.Fast.te10156331382660048174,PySem.W.Fast.te14364793385576792824,PySem.W.Fast.te11892475500146522536]
theorem run0 : ∀ w,headRun (fun w => (twImp twTable (opening P0) w N0 (twStart (opening P0)).1 (twStart (opening P0)).2).bind (twFence P0)) twOk (fun w => twStepT (twDenote twTable) P0 w) P0 N0
    (looks P0 (twSeen q0 loose0 (importedModules P0.main.body) Xt0 true) (obsZ A0)) w = some (true,true,openGood q0 loose0,valZ K0 836 1379 w):=by
  intro w
  kernel_rfl
theorem left0 : LeftO P0 q0 loose0 Xt0 (obsZ A0) (valZ K0 836 1379) N0 true:=by
  refine left_of fun w => ?_
  have h:=run0 w
  rw [← opn_eq,← stp_eq] at h
  unfold twSeen twOk at h
  rw [← PySem.W.Fast.te4187177175401517315,← PySem.W.Fast.te6613529449190102663] at h
  exact h
end Mine
end
section
open PySem PySem.W PySem.W.X PyProof.Rows PySem.Calls
set_option maxRecDepth 100000
set_option maxHeartbeats 0
namespace Mine
noncomputable abbrev twSaid:=@PySem.W.Fast.tw9446332074065402090
theorem said0 : L0.wellSaid = true:=by
  have h : twSaid L0 = true:=by kernel_rfl
  unfold twSaid at h
  rw [← PySem.W.Fast.te9446332074065402090] at h
  exact h
noncomputable def d0 : DefRec:=match fnAt 57 with
  | .FunctionDef n a b _ _ _ sc _ _ p => ⟨n,a,b,sc,p⟩
  | _ => ⟨Str.empty,default,[],default,default⟩
theorem def0 : defOf q0 L0.row.name = some (d0,[]):=by kernel_rfl
theorem the0 : L0.row.prog.theDef L0.row.name = some (d0.params,d0.body,d0.scope):=by kernel_rfl
theorem kw0 : kwWritten? d0.params.kwonlyargs d0.params.kw_defaults = some []:=by kernel_rfl
theorem ok0 : (chainsOk q0 && opensWell L0.row.prog && (frees L0.row.toRowW && L0.row.within.isEmpty)) = true:=by kernel_rfl
theorem bare0 : L0.row.prog.bare:=⟨rfl,rfl,rfl,rfl,rfl,by kernel_rfl⟩
theorem prom0 : L0.row.toRowW.promised:=RowW.promised_of_found (by kernel_rfl)
noncomputable def XP0 : (Str → Option Value) → Heap → Prop:=fun _ _ => True
noncomputable abbrev Walk0 : Prop:=WalkX q0 loose0 XP0 (obsZ A0) (valZ K0 836 1379) L0.row.toRowW d0 [] fun f vs => PySem.call f vs
theorem head0 (said:L0.wellSaid = true) (walk:Walk0) : L0.Holds :=
  holds_law said fun s1 => holds_openX (r:=L0.row) (q:=q0) (loose:=loose0) (Xt:=Xt0) (XP:=XP0) left0 (fun _ _ => trivial) (fun _ _ _ _ _ => trivial) def0 the0 kw0
    (fun s _ => recFacts_of (R:=[]) (s:=s) rfl) rfl s1 ok0 bare0 prom0 walk
noncomputable def nth {α : Type} : List α → Nat → Option α
  | [],_ => none
  | x :: l,n => match n with
    | 0 => some x
    | n + 1 => nth l n
noncomputable def put {α : Type} : List α → Nat → α → List α
  | [],_,_ => []
  | x :: l,n,y => match n with
    | 0 => y :: l
    | n + 1 => x :: put l n y
theorem nth_mem {α : Type} : ∀ {l:List α} {n:Nat} {x:α},nth l n = some x → x ∈ l
  | [],_,_,h => by cases h
  | y :: l,0,x,h => by cases h; exact .head _
  | y :: l,n + 1,x,h => .tail _ (nth_mem (l:=l) (n:=n) h)
structure Sum where
  c : Code
  r : Addr → Tok → Result
  di : Nat
  dm : Nat:=0
  need : List (Nat × Addr × Obj × (Addr → Tok → Obj)):=[]
  news : List (Nat × (Addr → Tok → Obj)):=[]
  lv : Nat:=500
structure Rl where
  c : Code
  r : Tok → Result
  di : Nat
  need : List (Addr × Obj)
  B : List (Bool × Bool)
structure St where
  S : List (Addr × Obj)
  m : Nat
  i : Nat
  g : List GenState
structure Acc where
  a : List (Nat × Nat)
  o : List (Obj × Obj)
  c : List (Code × Code)
  b : List (Bool × Bool):=[]
inductive Md where
  | nrm
  | fn
  | seg (fs:List Frame)
inductive Stop where
  | bad (n:Nat)
  | done (r:Result)
  | call (c:Code) (hd:Option Value) (g:Bool) (l:List Value) (k:Result → Sem Fin)
  | again (c:Code)
structure Out where
  stop : Stop
  c : Code
  md : Md
  κ : Kont
  st : St
  acc : Acc
  dk : Nat:=0
structure GP where
  den : Code → Sem Fin
  kt : KT
  w : World
  n : Nat
  t : Nat
  b : Nat
  sf : Bool
noncomputable def wtC : Code → Nat
  | .builtin .. => 5
  | _ => 1
noncomputable def handledK : Kont → Option Value
  | .ret _ hd _ κ => hd.or (handledK κ)
  | _ => none
noncomputable def enterG (self:Addr) (fd:FuncData) (args:Args) (q:Str) : Sem Fin :=
  Sem.bind (bindArgs fd args) fun bs =>
  Sem.bind (newFunctionEnv fd.scope fd.globals fd.closure bs (q ++ ".<locals>.") (some self) fd.code none fd.builtins) fun env =>
  Sem.pure (.again (match fd.body with | .stmts b => .func b env | .expr e => .expr e env))
noncomputable def callG (self:Addr) (fd:FuncData) (args:Args) : Sem Fin:=match fd.code with
  | .none => enterG self fd args fd.qualname
  | c => Sem.bind (field c 1) fun v => match v with
    | .str q _ => enterG self fd args q
    | _ => enterG self fd args fd.qualname
noncomputable def fnOf (kt:KT) (c:Code) : Option (Sem Fin):=match c with
  | .call (.ref a) args => match kt.get a with
    | some ⟨_,_,.func fd,_⟩ => match fd.scope.isGenerator || fd.scope.isCoroutine with
      | false => some (callG a fd args)
      | true => none
    | _ => none
  | _ => none
noncomputable def needs (S:List (Addr × Obj)) : List (Nat × Addr × Obj × (Addr → Tok → Obj)) → Acc → Option Acc
  | [],acc => some acc
  | x :: l,acc => match nth S x.1 with
    | some p => needs S l { acc with a:=(p.1,x.2.1) :: acc.a,o:=(p.2,x.2.2.1) :: acc.o }
    | none => none
noncomputable def puts (n:Addr) (t:Tok) : List (Addr × Obj) → List (Nat × Addr × Obj × (Addr → Tok → Obj)) → List (Addr × Obj)
  | S,[] => S
  | S,x :: l => puts n t (put S x.1 (x.2.1,x.2.2.2 n t)) l
noncomputable def ndup : List Nat → Bool
  | [] => true
  | x :: l => match l.any (Nat.beq x) with
    | true => false
    | false => ndup l
noncomputable def newsG (n:Addr) (t:Tok) : List (Nat × (Addr → Tok → Obj)) → List (Addr × Obj)
  | [] => []
  | x :: l => (n + x.1,x.2 n t) :: newsG n t l
noncomputable def iop (id:String) (f:Int → Int → Int) (B:Int → Int → List (Bool × Bool)) (args:List Value) : Option Rl:=match args with
  | [.int a t,.int b u] => some ⟨.call (.builtin id) ⟨[.int a t,.int b u],[]⟩,fun k => .ok (.ret (.int (f a b) k)),1,[],B a b⟩
  | _ => none
noncomputable def told (v:Nat) (x:Bool) : Bool × List (Bool × Bool):=match v with
  | 0 => (x,[])
  | 1 => (true,[(x,true)])
  | _ + 2 => (false,[(x,false)])
noncomputable def icmp (id:String) (f:Int → Int → Bool) (v:Nat) (args:List Value) : Option Rl:=match args with
  | [.int a t,.int b u] => some ⟨.call (.builtin id) ⟨[.int a t,.int b u],[]⟩,fun _ => .ok (.ret (.bool (told v (f a b)).1)),0,[],(told v (f a b)).2⟩
  | _ => none
noncomputable def scmp (id:String) (f:Str → Str → Bool) (v:Nat) (args:List Value) : Option Rl:=match args with
  | [.str a t,.str b u] => some ⟨.call (.builtin id) ⟨[.str a t,.str b u],[]⟩,fun _ => .ok (.ret (.bool (told v (f a b)).1)),0,[],(told v (f a b)).2⟩
  | _ => none
noncomputable def seqs (x y:Str) : Bool:=x.cps.toList == y.cps.toList
noncomputable def sin (x y:Str) : Bool:=!(Builtin.Str.occurrences x y 0 x.length 1).isEmpty
noncomputable def slen (x:Str) : Nat:=x.cps.toList.length
noncomputable def fits (x:Str) : Bool × Bool:=(Nat.ble (slen x) 16777216,true)
noncomputable def cat (x y:Str) : Str:=⟨⟨x.cps.toList ++ y.cps.toList⟩⟩
noncomputable def rlen (args:List Value) : Option Rl:=match args with
  | [.str x t] => some ⟨.call (.builtin "len") ⟨[.str x t],[]⟩,fun k => .ok (.ret (.int (slen x) (k + 1))),2,[],[fits x]⟩
  | _ => none
noncomputable def rlenB (args:List Value) : Option Rl:=match args with
  | [.str x t] => some ⟨.builtin "len" ⟨[.str x t],[]⟩,fun k => .ok (.ret (.int (slen x) (k + 1))),2,[],[fits x]⟩
  | _ => none
noncomputable def sadd (v:Nat) (args:List Value) : Option Rl:=match args with
  | [.str x t,.str y u] => match v with
    | 0 => some ⟨.call (.builtin "str.__add__") ⟨[.str x t,.str y u],[]⟩,fun k => .ok (.ret (.str (cat x y) k)),1,[],[(Nat.beq (slen x) 0,false),(Nat.beq (slen y) 0,false),fits (cat x y)]⟩
    | 1 => some ⟨.call (.builtin "str.__add__") ⟨[.str x t,.str y u],[]⟩,fun _ => .ok (.ret (.str y u)),0,[],[(Nat.beq (slen x) 0,true)]⟩
    | _ + 2 => some ⟨.call (.builtin "str.__add__") ⟨[.str x t,.str y u],[]⟩,fun _ => .ok (.ret (.str x t)),0,[],[(Nat.beq (slen x) 0,false),(Nat.beq (slen y) 0,true)]⟩
  | _ => none
noncomputable def sat (x:Str) (i:Nat) : Nat:=x.cps.toList.getD i 0
noncomputable def sget (v:Nat) (args:List Value) : Option Rl:=match args with
  | [.str x t,.int i u] => match v with
    | 0 => some ⟨.call (.builtin "str.__getitem__") ⟨[.str x t,.int i u],[]⟩,fun k => .ok (.ret (.str ⟨⟨[sat x i.toNat]⟩⟩ k)),1,[],[(decide (0 ≤ i),true),(decide (i < slen x),true),fits x]⟩
    | _ + 1 => some ⟨.call (.builtin "str.__getitem__") ⟨[.str x t,.int i u],[]⟩,fun k => .ok (.ret (.str ⟨⟨[sat x (i + slen x).toNat]⟩⟩ k)),1,[],[(decide (i < 0),true),(decide (0 ≤ i + slen x),true),fits x]⟩
  | _ => none
noncomputable def spart (x:Str) (i j:Int) : Str:=⟨⟨(x.cps.toList.drop i.toNat).take (j.toNat - i.toNat)⟩⟩
noncomputable def sliceO (i j:Value) : Obj:=⟨.type "slice",none,.fields ⟨[i,j,.none]⟩,⟨[]⟩⟩
noncomputable def sslice (v:Nat) (ob:Addr × Obj) (args:List Value) : Option Rl:=match args with
  | [.str x t,_] => match ob.2.data with
    | .fields ⟨[.int i ti,.int j tj,.none]⟩ => match v with
      | 0 => some ⟨.call (.builtin "str.__getitem__") ⟨[.str x t,.ref ob.1],[]⟩,fun k => .ok (.ret (.str (spart x i j) k)),1,[(ob.1,sliceO (.int i ti) (.int j tj))],[(decide (0 ≤ i),true),(decide (i ≤ j),true),(decide (j ≤ slen x),true),(decide (j - i < slen x),true),fits x]⟩
      | _ + 1 => some ⟨.call (.builtin "str.__getitem__") ⟨[.str x t,.ref ob.1],[]⟩,fun _ => .ok (.ret (.str x t)),0,[(ob.1,sliceO (.int i ti) (.int j tj))],[(decide (i = 0),true),(decide (j = slen x),true),fits x]⟩
    | _ => none
  | _ => none
noncomputable def imodv (v:Nat) (args:List Value) : Option Rl:=match args with
  | [.int a t,.int b u] => some ⟨.call (.builtin "int.__mod__") ⟨[.int a t,.int b u],[]⟩,fun k => .ok (.ret (.int (Int.ofNat v) k)),1,[],[(b == 0,false),(Int.fmod a b == Int.ofNat v,true)]⟩
  | _ => none
noncomputable def sfree (x y:Str) : Bool:=(Builtin.Str.occurrences x y 0 x.length (x.length + 1)).isEmpty
noncomputable def srepl (args:List Value) : Option Rl:=match args with
  | [.str x t,.str y u,.str z v] => some ⟨.call (.builtin "str.replace") ⟨[.str x t,.str y u,.str z v],[]⟩,fun _ => .ok (.ret (.str x t)),0,[],[(sfree x y,true)]⟩
  | _ => none
noncomputable def srep (x:Str) (k:Int) : Str:=⟨⟨List.replicate k.toNat (sat x 0)⟩⟩
noncomputable def tkm (k:Int) (t T:Tok) : Tok:=match decide (k = 1) with
  | true => t
  | false => T
noncomputable def dim (k:Int) : Nat:=match decide (k = 1) with
  | true => 0
  | false => 1
noncomputable def smul (args:List Value) : Option Rl:=match args with
  | [.str x t,.int k u] => some ⟨.call (.builtin "str.__mul__") ⟨[.str x t,.int k u],[]⟩,fun T => .ok (.ret (.str (srep x k) (tkm k t T))),dim k,[],[(Nat.beq (slen x) 1,true),(decide (k < 1024),true),(decide (-1024 < k),true)]⟩
  | _ => none
noncomputable def tka (x y:Str) (t u T:Tok) : Tok:=match Nat.beq (slen x) 0 with
  | true => u
  | false => match Nat.beq (slen y) 0 with
    | true => t
    | false => T
noncomputable def dia (x y:Str) : Nat:=match Nat.beq (slen x) 0 with
  | true => 0
  | false => match Nat.beq (slen y) 0 with
    | true => 0
    | false => 1
noncomputable def sadd3 (args:List Value) : Option Rl:=match args with
  | [.str x t,.str y u] => some ⟨.call (.builtin "str.__add__") ⟨[.str x t,.str y u],[]⟩,fun T => .ok (.ret (.str (cat x y) (tka x y t u T))),dia x y,[],[fits (cat x y)]⟩
  | _ => none
noncomputable def rule1 (r:Nat) (args:List Value) : Option Rl:=match r with
  | 0 => iop "int.__add__" (· + ·) (fun _ _ => []) args
  | 1 => iop "int.__sub__" (· - ·) (fun _ _ => []) args
  | 2 => iop "int.__floordiv__" Int.fdiv (fun a b => [(b == 0,false),(Builtin.divisionGoesByPylong a b,false)]) args
  | 3 => iop "int.__mod__" Int.fmod (fun _ b => [(b == 0,false)]) args
  | 4 => icmp "int.__eq__" (· == ·) 0 args
  | 5 => icmp "int.__eq__" (· == ·) 1 args
  | 6 => icmp "int.__eq__" (· == ·) 2 args
  | 7 => icmp "int.__lt__" (fun a b => decide (a < b)) 0 args
  | 8 => icmp "int.__lt__" (fun a b => decide (a < b)) 1 args
  | 9 => icmp "int.__lt__" (fun a b => decide (a < b)) 2 args
  | 10 => icmp "int.__gt__" (fun a b => decide (a > b)) 0 args
  | 11 => icmp "int.__gt__" (fun a b => decide (a > b)) 1 args
  | 12 => icmp "int.__gt__" (fun a b => decide (a > b)) 2 args
  | 13 => icmp "int.__ge__" (fun a b => decide (a ≥ b)) 0 args
  | 14 => icmp "int.__ge__" (fun a b => decide (a ≥ b)) 1 args
  | 15 => icmp "int.__ge__" (fun a b => decide (a ≥ b)) 2 args
  | 16 => scmp "str.__eq__" seqs 0 args
  | 17 => scmp "str.__eq__" seqs 1 args
  | 18 => scmp "str.__eq__" seqs 2 args
  | 19 => scmp "str.__contains__" sin 0 args
  | 20 => scmp "str.__contains__" sin 1 args
  | 21 => scmp "str.__contains__" sin 2 args
  | 22 => rlen args
  | 23 => sadd 0 args
  | 24 => sadd 1 args
  | 25 => sadd 2 args
  | 26 => sget 0 args
  | 27 => sget 1 args
  | 28 => rlenB args
  | 29 => imodv 0 args
  | 30 => imodv 1 args
  | 31 => imodv 2 args
  | 32 => imodv 3 args
  | 33 => srepl args
  | 34 => iop "int.__and__" Builtin.bitAnd (fun _ _ => []) args
  | 35 => smul args
  | 36 => sadd3 args
  | _ => none
noncomputable def tupO (l:List Value) (k:Nat) : Obj:=⟨.type "tuple",none,.seq ⟨l⟩ k,⟨[]⟩⟩
noncomputable def orq (a b:Bool) : Bool:=match a with
  | true => true
  | false => b
noncomputable def tcont (ob:Addr × Obj) (args:List Value) : Option Rl:=match args with
  | [_,.str x t] => match ob.2.data with
    | .seq ⟨[.str y u,.str z v]⟩ k => some ⟨.call (.builtin "tuple.__contains__") ⟨[.ref ob.1,.str x t],[]⟩,fun _ => .ok (.ret (.bool (orq (seqs y x) (seqs z x)))),0,[(ob.1,tupO [.str y u,.str z v] k)],[]⟩
    | _ => none
  | _ => none
noncomputable def objRule (r:Nat) (ob:Addr × Obj) (args:List Value) : Option Rl:=match r with
  | 0 => sslice 0 ob args
  | 1 => sslice 1 ob args
  | 2 => tcont ob args
  | _ => none
noncomputable def ruleOf (r:Nat) (S:List (Addr × Obj)) (ω:List Nat) (args:List Value) : Option (Rl × List Nat × List (Obj × Obj)):=match Nat.ble 50 r with
  | false => match rule1 r args with
    | some x => match x.need with
      | [] => some (x,ω,[])
      | _ :: _ => none
    | none => none
  | true => match ω with
    | [] => none
    | j :: ω => match nth S j with
      | none => none
      | some p => match objRule (r - 50) p args with
        | some x => match x.need with
          | [y] => some (x,ω,[(p.2,y.2)])
          | _ => none
        | none => none
noncomputable abbrev GT:=List Nat → List Sum → Code → Md → Kont → Nat → Sem Fin → St → Acc → Out
noncomputable def retG (ih:GT) (r:Result) (ω:List Nat) (sums:List Sum) (c:Code) (md:Md) (κ:Kont) (dk:Nat) (st:St) (acc:Acc) : Out:=match md with
  | .nrm => match κ with
    | .base => { stop:=.done r,c:=c,md:=.nrm,κ:=.base,st:=st,acc:=acc }
    | .ret c₁ _ k κ₁ => ih ω sums c₁ .nrm κ₁ (dk - wtC c₁) (k r) st acc
    | .gen .. => { stop:=.bad 21,c:=c,md:=.nrm,κ:=κ,st:=st,acc:=acc }
    | .genS .. => { stop:=.bad 21,c:=c,md:=.nrm,κ:=κ,st:=st,acc:=acc }
  | .fn => { stop:=.bad 22,c:=c,md:=.fn,κ:=κ,st:=st,acc:=acc }
  | .seg fs => match fs with
    | [] => match κ with
      | .gen g c₁ k κ₁ => ih ω sums c₁ .nrm κ₁ (dk - wtC c₁) (k (End.ret r).result) { st with g:=st.g.set g (End.ret r).genState } acc
      | .base => { stop:=.bad 23,c:=c,md:=.nrm,κ:=κ,st:=st,acc:=acc }
      | .ret .. => { stop:=.bad 23,c:=c,md:=.nrm,κ:=κ,st:=st,acc:=acc }
      | .genS .. => { stop:=.bad 23,c:=c,md:=.nrm,κ:=κ,st:=st,acc:=acc }
    | _ :: _ => { stop:=.bad 24,c:=c,md:=.nrm,κ:=κ,st:=st,acc:=acc }
noncomputable def againG (G:GP) (ih:GT) (c':Code) (ω:List Nat) (sums:List Sum) (c:Code) (md:Md) (κ:Kont) (dk:Nat) (st:St) (acc:Acc) : Out:=match c'.quiet && !c'.isCaller with
  | false => { stop:=.bad 5,c:=c,md:=md,κ:=κ,st:=st,acc:=acc }
  | true => match md with
    | .fn => match G.sf with
      | false => ih ω sums c' .nrm κ dk (G.den c') st acc
      | true => match κ with
        | .base => { stop:=.again c',c:=c,md:=.nrm,κ:=.base,st:=st,acc:=acc }
        | .ret .. => ih ω sums c' .nrm κ dk (G.den c') st acc
        | .gen .. => { stop:=.bad 9,c:=c,md:=md,κ:=κ,st:=st,acc:=acc }
        | .genS .. => { stop:=.bad 9,c:=c,md:=md,κ:=κ,st:=st,acc:=acc }
    | .seg fs => match ω with
      | [] => { stop:=.bad 1,c:=c,md:=md,κ:=κ,st:=st,acc:=acc }
      | e :: ω => match e with
        | 0 => ih ω sums c' (.seg fs) κ dk (G.den c') st acc
        | _ + 1 => { stop:=.bad 8,c:=c,md:=md,κ:=κ,st:=st,acc:=acc }
    | .nrm => match ω with
      | [] => { stop:=.bad 1,c:=c,md:=md,κ:=κ,st:=st,acc:=acc }
      | e :: ω => match e with
        | 0 => ih ω sums c' .nrm κ dk (G.den c') st acc
        | 1 => match fnOf G.kt c' with
          | some t' => match Nat.ble dk 60 with
            | true => ih ω sums c' .fn κ dk t' st acc
            | false => { stop:=.bad 6,c:=c,md:=md,κ:=κ,st:=st,acc:=acc }
          | none => { stop:=.bad 7,c:=c,md:=md,κ:=κ,st:=st,acc:=acc }
        | _ + 2 => match κ with
          | .base => { stop:=.again c',c:=c,md:=.nrm,κ:=.base,st:=st,acc:=acc }
          | .ret .. => { stop:=.bad 9,c:=c,md:=md,κ:=κ,st:=st,acc:=acc }
          | .gen .. => { stop:=.bad 9,c:=c,md:=md,κ:=κ,st:=st,acc:=acc }
          | .genS .. => { stop:=.bad 9,c:=c,md:=md,κ:=κ,st:=st,acc:=acc }
noncomputable def readG (G:GP) (a:Addr) (ω:List Nat) (st:St) (acc:Acc) : Option (Obj × List Nat × Acc):=match ω with
  | [] => none
  | e :: ω => match e with
    | 0 => match G.kt.get a with
      | some o => some (o,ω,acc)
      | none => none
    | j + 1 => match nth st.S j with
      | some p => some (p.2,ω,{ acc with a:=(p.1,a) :: acc.a })
      | none => none
noncomputable def writeG (a:Addr) (u:Obj → Obj) (ω:List Nat) (st:St) (acc:Acc) : Option (List Nat × St × Acc):=match ω with
  | [] => none
  | e :: ω => match e with
    | 0 => none
    | j + 1 => match nth st.S j with
      | some p => match (u p.2).isFreed with
        | true => none
        | false => some (ω,{ st with S:=put st.S j (p.1,u p.2) },{ acc with a:=(p.1,a) :: acc.a })
      | none => none
noncomputable def sumG (G:GP) (ih:GT) (c':Code) (k:Result → Sem Fin) (ω:List Nat) (sums:List Sum) (c:Code) (md:Md) (κ:Kont) (dk:Nat) (st:St) (acc:Acc) : Out:=match sums with
  | [] => { stop:=.bad 19,c:=c,md:=md,κ:=κ,st:=st,acc:=acc }
  | x :: sums => match needs st.S x.need acc with
    | none => { stop:=.bad 20,c:=c,md:=md,κ:=κ,st:=st,acc:=acc }
    | some acc₁ => match ndup (x.need.map (·.1)) && (ndup (x.news.map (·.1)) && Nat.ble (G.b + (dk + wtC c)) x.lv) with
      | false => { stop:=.bad 26,c:=c,md:=md,κ:=κ,st:=st,acc:=acc }
      | true => ih ω sums c md κ dk (k (x.r (G.n + st.m) (G.t + st.i))) { S:=newsG (G.n + st.m) (G.t + st.i) x.news ++ puts (G.n + st.m) (G.t + st.i) st.S x.need,m:=st.m + x.dm,i:=st.i + x.di,g:=st.g } { acc₁ with c:=(c',x.c) :: acc₁.c }
noncomputable def posOf (c:Code) : List Value:=match c with
  | .call _ as => as.pos
  | .builtin _ as => as.pos
  | _ => []
noncomputable def ruleG (G:GP) (ih:GT) (r:Nat) (c':Code) (k:Result → Sem Fin) (ω:List Nat) (sums:List Sum) (c:Code) (md:Md) (κ:Kont) (dk:Nat) (st:St) (acc:Acc) : Out:=match ruleOf r st.S ω (posOf c') with
  | none => { stop:=.bad 28,c:=c,md:=md,κ:=κ,st:=st,acc:=acc }
  | some x => ih x.2.1 sums c md κ dk (k (x.1.r (G.t + st.i))) { st with i:=st.i + x.1.di } { acc with c:=(c',x.1.c) :: acc.c,b:=x.1.B ++ acc.b,o:=x.2.2 ++ acc.o }
noncomputable def callGo (G:GP) (ih:GT) (c':Code) (hd:Option Value) (g:Bool) (l:List Value) (k:Result → Sem Fin) (ω:List Nat) (sums:List Sum) (c:Code) (md:Md) (κ:Kont) (dk:Nat) (st:St) (acc:Acc) : Out:=match okMark hd with
  | false => { stop:=.bad 16,c:=c,md:=md,κ:=κ,st:=st,acc:=acc }
  | true => match ω with
    | [] => { stop:=.bad 1,c:=c,md:=md,κ:=κ,st:=st,acc:=acc }
    | e :: ω => match md with
      | .fn => { stop:=.bad 15,c:=c,md:=md,κ:=κ,st:=st,acc:=acc }
      | .seg fs => match e with
        | 0 => { stop:=.bad 18,c:=c,md:=md,κ:=κ,st:=st,acc:=acc }
        | 1 => { stop:=.bad 18,c:=c,md:=md,κ:=κ,st:=st,acc:=acc }
        | 2 => { stop:=.bad 18,c:=c,md:=md,κ:=κ,st:=st,acc:=acc }
        | 3 => { stop:=.call c' hd g l k,c:=c,md:=.seg fs,κ:=κ,st:=st,acc:=acc }
        | r + 4 => ruleG G ih r c' k ω sums c (.seg fs) κ dk st acc
      | .nrm => match e with
        | 0 => match c'.isCaller with
          | true => { stop:=.bad 17,c:=c,md:=md,κ:=κ,st:=st,acc:=acc }
          | false => ih ω sums c' .nrm (.ret c hd k κ) (dk + wtC c) (G.den c') st acc
        | 1 => match fnOf G.kt c' with
          | some t' => match Nat.ble dk 60 with
            | true => ih ω sums c' .fn (.ret c hd k κ) (dk + wtC c) t' st acc
            | false => { stop:=.bad 6,c:=c,md:=md,κ:=κ,st:=st,acc:=acc }
          | none => { stop:=.bad 7,c:=c,md:=md,κ:=κ,st:=st,acc:=acc }
        | 2 => match hd.or (handledK κ) with
          | none => sumG G ih c' k ω sums c .nrm κ dk st acc
          | some _ => { stop:=.bad 27,c:=c,md:=md,κ:=κ,st:=st,acc:=acc }
        | 3 => match hd.or (handledK κ) with
          | none => ⟨.call c' hd g l k,c,.nrm,κ,st,acc,dk + wtC c⟩
          | some _ => { stop:=.bad 27,c:=c,md:=md,κ:=κ,st:=st,acc:=acc }
        | r + 4 => ruleG G ih r c' k ω sums c .nrm κ dk st acc
noncomputable def gxStep (G:GP) (ih:GT) : GT:=fun ω sums c md κ dk t st acc => match t with
  | .pure fin => match fin with
    | .done fl => retG ih (.ok fl) ω sums c md κ dk st acc
    | .again c' => againG G ih c' ω sums c md κ dk st acc
  | .raise e => retG ih (.error e) ω sums c md κ dk st acc
  | .rule _ k => ih ω sums c md κ dk (k ()) st acc
  | .at _ k => ih ω sums c md κ dk (k ()) st acc
  | .point _ k => ih ω sums c md κ dk (k ()) st acc
  | .ask k => ih ω sums c md κ dk (k ⟨P0,G.w.params⟩) st acc
  | .load a _ k => match readG G a ω st acc with
    | some r => ih r.2.1 sums c md κ dk (k r.1) st r.2.2
    | none => { stop:=.bad 2,c:=c,md:=md,κ:=κ,st:=st,acc:=acc }
  | .loadIfAlive a k => match readG G a ω st acc with
    | some r => ih r.2.1 sums c md κ dk (k (some r.1)) st r.2.2
    | none => { stop:=.bad 3,c:=c,md:=md,κ:=κ,st:=st,acc:=acc }
  | .alloc o k => match o.isFreed with
    | true => { stop:=.bad 4,c:=c,md:=md,κ:=κ,st:=st,acc:=acc }
    | false => ih ω sums c md κ dk (k (G.n + st.m)) { st with S:=(G.n + st.m,o) :: st.S,m:=st.m + 1 } acc
  | .update a _ u k => match writeG a u ω st acc with
    | some r => ih r.1 sums c md κ dk (k ()) r.2.1 r.2.2
    | none => { stop:=.bad 11,c:=c,md:=md,κ:=κ,st:=st,acc:=acc }
  | .fresh k => ih ω sums c md κ dk (k (G.t + st.i)) { st with i:=st.i + 1 } acc
  | .handled own k => match own with
    | true => { stop:=.bad 13,c:=c,md:=md,κ:=κ,st:=st,acc:=acc }
    | false => match md with
      | .nrm => ih ω sums c .nrm κ dk (k (handledK κ)) st acc
      | .fn => { stop:=.bad 14,c:=c,md:=md,κ:=κ,st:=st,acc:=acc }
      | .seg _ => { stop:=.bad 14,c:=c,md:=md,κ:=κ,st:=st,acc:=acc }
  | .call c' hd g l k => callGo G ih c' hd g l k ω sums c md κ dk st acc
  | .newGen c' k => ih ω sums c md κ dk (k st.g.length) { st with g:=st.g ++ [.fresh c'] } acc
  | .genState g k => match st.g[g]? with
    | some gs => ih ω sums c md κ dk (k gs.seen) st acc
    | none => { stop:=.bad 25,c:=c,md:=md,κ:=κ,st:=st,acc:=acc }
  | .unsupported _ => { stop:=.bad 30,c:=c,md:=md,κ:=κ,st:=st,acc:=acc }
  | .finish _ => { stop:=.bad 31,c:=c,md:=md,κ:=κ,st:=st,acc:=acc }
  | .register .. => { stop:=.bad 32,c:=c,md:=md,κ:=κ,st:=st,acc:=acc }
  | .choose .. => { stop:=.bad 33,c:=c,md:=md,κ:=κ,st:=st,acc:=acc }
  | .os .. => { stop:=.bad 34,c:=c,md:=md,κ:=κ,st:=st,acc:=acc }
  | .resume .. => { stop:=.bad 35,c:=c,md:=md,κ:=κ,st:=st,acc:=acc }
  | .yield .. => { stop:=.bad 36,c:=c,md:=md,κ:=κ,st:=st,acc:=acc }
  | .stack _ => { stop:=.bad 37,c:=c,md:=md,κ:=κ,st:=st,acc:=acc }
  | .fork .. => { stop:=.bad 38,c:=c,md:=md,κ:=κ,st:=st,acc:=acc }
  | .thread _ => { stop:=.bad 39,c:=c,md:=md,κ:=κ,st:=st,acc:=acc }
  | .await .. => { stop:=.bad 40,c:=c,md:=md,κ:=κ,st:=st,acc:=acc }
noncomputable def gx (G:GP) : Nat → GT
  | 0 => fun _ _ c md κ _ _ st acc => { stop:=.bad 0,c:=c,md:=md,κ:=κ,st:=st,acc:=acc }
  | f + 1 => gxStep G (gx G f)
theorem frames_le (c:Code) : c.frames ≤ 3:=by
  unfold Code.frames
  split <;> first | omega | (split <;> omega)
theorem weight_le {c:Code} (h:c.isCaller = false) : c.weight ≤ 5:=by
  have:=frames_le c
  unfold Code.weight
  rw [h]
  simp only [Bool.false_eq_true,if_false,Nat.add_zero]
  split <;> split <;> omega
theorem weight_wt {c:Code} (h:c.isCaller = false) : c.weight ≤ wtC c:=by
  cases c with
  | builtin id args => exact weight_le h
  | call f args => exact Nat.zero_le _
  | _ =>
    all_goals (
      simp only [Code.weight,Code.frames,Code.isCreation,Code.isGuard,Code.isCaller,wtC]
      (repeat' split) <;> simp_all)
theorem units_wt (c:Code) : c.cUnits ≤ 10 * wtC c:=by
  have:=frames_le c
  cases c with
  | builtin id args => show 1 + 3 * _ ≤ 50; omega
  | call f args => show 1 ≤ 10; omega
  | _ => all_goals (simp only [Code.cUnits,wtC]; omega)
theorem call_weight (f:Value) (a:Args) : (Code.call f a).weight = 0:=rfl
noncomputable def Jdg (V:XV) (c:Code) (md:Md) (κ:Kont) (t:Sem Fin) (s:Shared) : Prop:=match md with
  | .nrm => Means V c none κ t s
  | .fn => wpOwn (model V.prog V.w) (aroundOf V true κ) c t (fun fin s' => s'.heap.NoLimit ∧ postC V.prog V.w (aroundOf V true κ) (endOf V κ) fin s') (postE (endOf V κ)) s
  | .seg fs => Means V c (some fs) κ t s
section
variable {V:XV} {c:Code} {md:Md} {κ:Kont} {h:Heap} {g:Array GenState} {d:Drawn} {t:Nat} {os:OsState} {s:Shared}
theorem j_rule {tag:String} {k:Unit → Sem Fin} (x:Jdg V c md κ (k ()) s) : Jdg V c md κ (.rule tag k) s:=by
  cases md with
  | nrm => exact y_skim _ _ _ _ _ _ _ _ _ 1 x
  | fn => exact y_skim _ _ _ _ _ _ _ _ _ 1 x
  | seg fs => exact s_skim _ _ _ _ _ _ _ _ 1 x
theorem j_at {q:Pos} {k:Unit → Sem Fin} (x:Jdg V c md κ (k ()) s) : Jdg V c md κ (.at q k) s:=by
  cases md with
  | nrm => exact y_skim _ _ _ _ _ _ _ _ _ 1 x
  | fn => exact y_skim _ _ _ _ _ _ _ _ _ 1 x
  | seg fs => exact s_skim _ _ _ _ _ _ _ _ 1 x
theorem j_point {l:List Value} {k:Unit → Sem Fin} (x:Jdg V c md κ (k ()) s) : Jdg V c md κ (.point l k) s:=by
  cases md with
  | nrm => exact y_skim _ _ _ _ _ _ _ _ _ 1 x
  | fn => exact y_skim _ _ _ _ _ _ _ _ _ 1 x
  | seg fs => exact s_skim _ _ _ _ _ _ _ _ 1 x
theorem j_ask {k:Setting → Sem Fin} (x:Jdg V c md κ (k ⟨V.prog,V.w.params⟩) s) : Jdg V c md κ (.ask k) s:=by
  cases md with
  | nrm => exact y_skim _ _ _ _ _ _ _ _ _ 1 x
  | fn => exact y_skim _ _ _ _ _ _ _ _ _ 1 x
  | seg fs => exact s_skim _ _ _ _ _ _ _ _ 1 x
theorem j_load {a:Addr} {q:Option Value} {k:Obj → Sem Fin} {o:Obj} (ho:h.get? a = some o) (x:Jdg V c md κ (k o) ⟨h,g,d,t,os⟩) : Jdg V c md κ (.load a q k) ⟨h,g,d,t,os⟩:=by
  cases md with
  | nrm => exact y_load _ _ _ _ _ _ _ _ _ _ _ _ _ _ _ _ ho x
  | fn => exact y_load _ _ _ _ _ _ _ _ _ _ _ _ _ _ _ _ ho x
  | seg fs => exact s_load _ _ _ _ _ _ _ _ _ _ _ _ _ _ _ ho x
theorem j_alive {a:Addr} {k:Option Obj → Sem Fin} {o:Obj} (ho:h.get? a = some o) (x:Jdg V c md κ (k (some o)) ⟨h,g,d,t,os⟩) : Jdg V c md κ (.loadIfAlive a k) ⟨h,g,d,t,os⟩:=by
  cases md with
  | nrm => exact y_alive _ _ _ _ _ _ _ _ _ _ _ _ _ _ _ ho x
  | fn => exact y_alive _ _ _ _ _ _ _ _ _ _ _ _ _ _ _ ho x
  | seg fs => exact s_alive _ _ _ _ _ _ _ _ _ _ _ _ _ _ ho x
theorem j_alloc {o:Obj} {k:Addr → Sem Fin} (x:Jdg V c md κ (k h.objs.size) ⟨h.push o,g,d,t,os⟩) : Jdg V c md κ (.alloc o k) ⟨h,g,d,t,os⟩:=by
  cases md with
  | nrm => exact wpOwn_bind (m:=alloc o) (f:=k) (wpOwn_of_wpAny (wpAny_alloc x))
  | fn => exact wpOwn_bind (m:=alloc o) (f:=k) (wpOwn_of_wpAny (wpAny_alloc x))
  | seg fs => exact s_cmd _ _ _ _ _ _ (m:=PySem.alloc o) (k:=k) (wpAny_alloc x)
theorem j_update {a:Addr} {q:Option Value} {u:Obj → Obj} {k:Unit → Sem Fin} {o:Obj} (ho:h.get? a = some o) (x:Jdg V c md κ (k ()) ⟨h.update a u,g,d,t,os⟩) : Jdg V c md κ (.update a q u k) ⟨h,g,d,t,os⟩:=by
  cases md with
  | nrm => exact wpOwn_bind (m:=updatePart a q u) (f:=k) (wpOwn_of_wpAny (wpAny_updatePart ho x))
  | fn => exact wpOwn_bind (m:=updatePart a q u) (f:=k) (wpOwn_of_wpAny (wpAny_updatePart ho x))
  | seg fs => exact s_cmd _ _ _ _ _ _ (m:=updatePart a q u) (k:=k) (wpAny_updatePart ho x)
theorem j_fresh {k:Tok → Sem Fin} (x:Jdg V c md κ (k t) ⟨h,g,d,t + 1,os⟩) : Jdg V c md κ (.fresh k) ⟨h,g,d,t,os⟩:=by
  cases md with
  | nrm => exact y_fresh _ _ _ _ _ _ _ _ _ _ _ _ _ x
  | fn => exact y_fresh _ _ _ _ _ _ _ _ _ _ _ _ _ x
  | seg fs => exact s_fresh _ _ _ _ _ _ _ _ _ _ _ _ x
theorem j_newGen {c':Code} {k:Nat → Sem Fin} (x:Jdg V c md κ (k g.size) ⟨h,g.push (.fresh c'),d,t,os⟩) : Jdg V c md κ (.newGen c' k) ⟨h,g,d,t,os⟩:=by
  cases md with
  | nrm => exact y_newGen _ _ _ _ _ _ _ _ _ _ _ _ _ _ x
  | fn => exact y_newGen _ _ _ _ _ _ _ _ _ _ _ _ _ _ x
  | seg fs => exact s_newGen _ _ _ _ _ _ _ _ _ _ _ _ _ x
theorem j_genState {n:Nat} {k:GenStatus × Option (List (Code × Pos)) → Sem Fin} {gs:GenState} (hg:s.gens[n]? = some gs) (x:Jdg V c md κ (k gs.seen) s) : Jdg V c md κ (.genState n k) s:=by
  cases md with
  | nrm => exact y_genState _ _ _ _ _ _ _ _ _ _ gs hg x
  | fn => exact y_genState _ _ _ _ _ _ _ _ _ _ gs hg x
  | seg fs => exact s_genState _ _ _ _ _ _ _ _ _ gs hg x
end
theorem fn_enter {V:XV} {κ:Kont} {a:Addr} {fd:FuncData} {args:Args} {s:Shared} {oc:Value} {od:Option Addr} {sl:Array (Option Value)}
    (ho:s.heap.get? a = some ⟨oc,od,.func fd,sl⟩) (hg:fd.scope.isGenerator = false) (hc:fd.scope.isCoroutine = false) (hd:(aroundOf V true κ).depth < recursionLimit)
    (x:Jdg V (.call (.ref a) args) .fn κ (callG a fd args) s) : Means V (.call (.ref a) args) none κ (denote table (.call (.ref a) args)) s:=by
  intro Γ p hcode hΓ
  have x:=x Γ p hcode hΓ
  show Sem.wp _ Γ (callAny (.ref a) args) _ _ p s
  unfold callAny
  rw [Sem.wp_bind',Sem.wp_load_of _ _ _ _ _ ho]
  show Sem.wp _ Γ (callFunction a fd args) _ _ p s
  unfold callFunction
  unfold callG at x
  rw [hg,hc]
  have jp : ∀ (q:Str) (p':Pos) (s':Shared),Sem.wp (model V.prog V.w) Γ (enterG a fd args q) (fun fin _ s' => s'.heap.NoLimit ∧ postC V.prog V.w (aroundOf V true κ) (endOf V κ) fin s') (fun e _ s' => postE (endOf V κ) e s') p' s' →
      Sem.wp (model V.prog V.w) Γ (do
        let bs ← bindArgs fd args
        let env ← newFunctionEnv fd.scope fd.globals fd.closure bs (q ++ Str.ofString ".<locals>.") (some a) fd.code none fd.builtins
        enterFrame
        again (match fd.body with | .stmts b => .func b env | .expr e => .expr e env)) (fun fin _ s' => postC V.prog V.w (aroundOf V true κ) (endOf V κ) fin s') (fun e _ s' => postE (endOf V κ) e s') p' s':=by
    intro q p' s' y
    unfold enterG at y
    change Sem.wp _ Γ (bindArgs fd args >>= fun bs => _) _ _ p' s' at y
    rw [Sem.wp_bind'] at y ⊢
    refine Sem.wp_mono _ Γ _ (fun bs p₁ s₁ y => ?_) (fun _ _ _ y => y) _ _ y
    change Sem.wp _ Γ (newFunctionEnv _ _ _ _ _ _ _ _ _ >>= fun env => _) _ _ p₁ s₁ at y
    rw [Sem.wp_bind'] at y ⊢
    refine Sem.wp_mono _ Γ _ (fun env p₂ s₂ y => ?_) (fun _ _ _ y => y) _ _ y
    have y' : s₂.heap.NoLimit ∧ postC V.prog V.w (aroundOf V true κ) (endOf V κ) (.again (match fd.body with | .stmts b => .func b env | .expr e => .expr e env)) s₂:=y
    have z : wpAny (model V.prog V.w) ((aroundOf V true κ).under (.call (.ref a) args)) (do enterFrame; again (match fd.body with | .stmts b => .func b env | .expr e => .expr e env)) (fun fin s' => postC V.prog V.w (aroundOf V true κ) (endOf V κ) fin s') (fun e s' => postE (endOf V κ) e s') s₂ :=
      wpAny_bind (wpAny_enterFrame y'.1 (by show (aroundOf V true κ).depth + 0 < _; exact hd) (wpAny_pure y'.2))
    exact z Γ p₂ (hcode ▸ hΓ.in)
  generalize hcd : fd.code = cd at x jp ⊢
  cases cd with
  | none => exact jp _ _ _ x
  | _ =>
    all_goals (
      dsimp only at x ⊢
      change Sem.wp _ Γ (field _ 1 >>= fun v => _) _ _ p s at x
      rw [Sem.wp_bind'] at x ⊢
      refine Sem.wp_mono _ Γ _ (fun v p₁ s₁ y => ?_) (fun _ _ _ y => y) _ _ x
      cases v <;> exact jp _ _ _ y)
theorem put_map {α β : Type} (f:α → β) : ∀ {l:List α} {j:Nat} {p y:α},nth l j = some p → f y = f p → (put l j y).map f = l.map f
  | [],_,_,_,h,_ => by cases h
  | x :: l,0,p,y,h,e => by cases h; show f y :: l.map f = _; rw [e]; rfl
  | x :: l,j + 1,p,y,h,e => by
    show f x :: (put l j y).map f = f x :: l.map f
    rw [put_map f (l:=l) (j:=j) h e]
theorem put_mem {l:List (Addr × Obj)} : ∀ {j:Nat} {p y q:Addr × Obj},nth l j = some p → (l.map (·.1)).Nodup → q ∈ put l j y → q = y ∨ (q ∈ l ∧ q.1 ≠ p.1):=by
  induction l with
  | nil => intro j p y q h; cases h
  | cons x l ih =>
    intro j p y q h nd hq
    rw [List.map_cons,List.nodup_cons] at nd
    cases j with
    | zero =>
      cases h
      rcases List.mem_cons.mp hq with e | e
      · exact .inl e
      · exact .inr ⟨.tail _ e,fun z => nd.1 (z ▸ List.mem_map_of_mem e)⟩
    | succ j =>
      rcases List.mem_cons.mp hq with e | e
      · exact .inr ⟨e ▸ .head _,fun z => nd.1 (by rw [← e,z]; exact List.mem_map_of_mem (nth_mem h))⟩
      · rcases ih h nd.2 e with e | ⟨e,z⟩
        · exact .inl e
        · exact .inr ⟨.tail _ e,z⟩
structure Old where
  h : Heap
  S : List Addr
structure Rp (G:GP) (h₀:Old) (h:Heap) (st:St) : Prop where
  size : h.objs.size = G.n + st.m
  own : ∀ p ∈ st.S,h.get? p.1 = some p.2
  nd : (st.S.map (·.1)).Nodup
  base : KT.Holds h 1 0 G.kt
  apart : ∀ p ∈ st.S,G.kt.get p.1 = none
  keep : ∀ b o,h₀.h.get? b = some o → b ∉ h₀.S → h.get? b = some o
  new : ∀ p ∈ st.S,p.1 ∈ h₀.S ∨ h₀.h.get? p.1 = none
  le : h₀.h.objs.size ≤ h.objs.size
theorem holds_at {h:Heap} {kt:KT} (H:KT.Holds h 1 0 kt) {a:Addr} {o:Obj} (e:kt.get a = some o) : h.get? a = some o:=by
  have z:=KT.Holds.get H e
  rw [Nat.one_mul,Nat.add_zero] at z
  exact z
theorem holds_keeps {h h':Heap} : ∀ {t:KT} {s b:Nat},KT.Holds h s b t → (∀ j o,t.get j = some o → h.get? (s * j + b) = some o → h'.get? (s * j + b) = some o) → KT.Holds h' s b t
  | .nil,_,_,_,_ => trivial
  | .node v l r,s,b,H,k => by
    refine ⟨fun o e => ?_,holds_keeps H.2.1 fun j o e q => ?_,holds_keeps H.2.2 fun j o e q => ?_⟩
    · have:=k 0 o (by rw [KT.get_node,if_pos rfl]; exact e)
      rw [Nat.mul_zero,Nat.zero_add] at this
      exact this (H.1 o e)
    · have z:=k (2 * j + 1) o (by rw [KT.get_node,if_neg (by omega),if_pos (by omega)]; rw [show (2 * j + 1) / 2 = j by omega]; exact e)
      have e2 : s * (2 * j + 1) + b = 2 * s * j + (s + b):=by rw [Nat.mul_add,Nat.mul_one,← Nat.mul_assoc,Nat.mul_comm s 2]; omega
      rw [e2] at z
      exact z q
    · have z:=k (2 * j + 2) o (by rw [KT.get_node,if_neg (by omega),if_neg (by omega)]; rw [show (2 * j + 2) / 2 - 1 = j by omega]; exact e)
      have e2 : s * (2 * j + 2) + b = 2 * s * j + (2 * s + b):=by rw [Nat.mul_add,← Nat.mul_assoc,Nat.mul_comm s 2]; omega
      rw [e2] at z
      exact z q
theorem holds_of_keeps {h h':Heap} {kt:KT} (H:KT.Holds h 1 0 kt) (k:∀ a o,kt.get a = some o → h.get? a = some o → h'.get? a = some o) : KT.Holds h' 1 0 kt :=
  holds_keeps H fun j o e q => by
    rw [Nat.one_mul,Nat.add_zero] at q ⊢
    exact k j o e q
section
variable {G:GP} {h₀:Old} {h:Heap} {st:St}
theorem Rp.lt (D:Rp G h₀ h st) {p:Addr × Obj} (hp:p ∈ st.S) : p.1 < G.n + st.m:=D.size ▸ Heap.lt_size (D.own p hp)
theorem Rp.alloc (D:Rp G h₀ h st) {o:Obj} (hf:o.isFreed = false) : Rp G h₀ (h.push o) { st with S:=(G.n + st.m,o) :: st.S,m:=st.m + 1 }:=by
  refine ⟨by rw [Heap.size_push,D.size,Nat.add_assoc],fun p hp => ?_,?_,?_,fun p hp => ?_,fun b o' e q => ?_,fun p hp => ?_,?_⟩
  · rcases List.mem_cons.mp hp with rfl | hp
    · show (h.push o).get? (G.n + st.m) = some o
      rw [← D.size]; exact Heap.get?_push_size _ hf
    · exact Heap.get?_push_of_some _ (D.own p hp)
  · show ((G.n + st.m) :: st.S.map (·.1)).Nodup
    refine List.nodup_cons.mpr ⟨fun hm => ?_,D.nd⟩
    obtain ⟨p,hp,e⟩:=List.mem_map.mp hm
    have:=D.lt hp
    have e' : p.1 = G.n + st.m:=e
    rw [e'] at this
    exact absurd this (Nat.lt_irrefl _)
  · exact holds_of_keeps D.base fun a o e q => Heap.get?_push_of_some _ q
  · rcases List.mem_cons.mp hp with rfl | hp
    · show G.kt.get (G.n + st.m) = none
      cases q : G.kt.get (G.n + st.m) with
      | none => rfl
      | some o' =>
        have:=Heap.lt_size (holds_at D.base q)
        rw [D.size] at this
        exact absurd this (Nat.lt_irrefl _)
    · exact D.apart p hp
  · exact Heap.get?_push_of_some _ (D.keep b o' e q)
  · rcases List.mem_cons.mp hp with rfl | hp
    · refine .inr ?_
      show h₀.h.get? (G.n + st.m) = none
      cases q : h₀.h.get? (G.n + st.m) with
      | none => rfl
      | some o' =>
        have:=Nat.lt_of_lt_of_le (Heap.lt_size q) D.le
        rw [D.size] at this
        exact absurd this (Nat.lt_irrefl _)
    · exact D.new p hp
  · rw [Heap.size_push]; exact Nat.le_succ_of_le D.le
theorem Rp.change (D:Rp G h₀ h st) {j:Nat} {p:Addr × Obj} {o':Obj} {h':Heap} (hj:nth st.S j = some p) (hs:h'.objs.size = h.objs.size) (hk:∀ b,b ≠ p.1 → h'.get? b = h.get? b) (hn:h'.get? p.1 = some o') :
    Rp G h₀ h' { st with S:=put st.S j (p.1,o') }:=by
  have hm : (put st.S j (p.1,o')).map (·.1) = st.S.map (·.1):=put_map (y:=(p.1,o')) (·.1) hj rfl
  refine ⟨by rw [hs,D.size],fun q hq => ?_,by show ((put st.S j (p.1,o')).map (·.1)).Nodup; rw [hm]; exact D.nd,?_,fun q hq => ?_,fun b o e q => ?_,fun q hq => ?_,by rw [hs]; exact D.le⟩
  · rcases put_mem hj D.nd hq with rfl | ⟨e,z⟩
    · exact hn
    · rw [hk _ z]; exact D.own q e
  · refine holds_of_keeps D.base fun a o e q => ?_
    have : a ≠ p.1:=by
      rintro rfl
      rw [D.apart p (nth_mem hj)] at e
      cases e
    rw [hk _ this]; exact q
  · rcases put_mem hj D.nd hq with rfl | ⟨e,z⟩
    · exact D.apart p (nth_mem hj)
    · exact D.apart q e
  · have : b ≠ p.1:=by
      rintro rfl
      rcases D.new p (nth_mem hj) with z | z
      · exact q z
      · rw [z] at e; cases e
    rw [hk _ this]; exact D.keep b o e q
  · rcases put_mem hj D.nd hq with rfl | ⟨e,z⟩
    · exact D.new p (nth_mem hj)
    · exact D.new q e
theorem Rp.update (D:Rp G h₀ h st) {j:Nat} {p:Addr × Obj} {u:Obj → Obj} (hj:nth st.S j = some p) (hf:(u p.2).isFreed = false) : Rp G h₀ (h.update p.1 u) { st with S:=put st.S j (p.1,u p.2) }:=by
  have hs : Heap.SameBut p.1 h (h.update p.1 u):=Heap.SameBut.update ..
  refine D.change hj hs.1 (fun b hb => hs.2 b hb) ?_
  have ho:=D.own p (nth_mem hj)
  first | exact Heap.get?_update_self u ho hf | exact Heap.get?_update_self _ ho hf
theorem Rp.i_irrel (D:Rp G h₀ h st) (i:Nat) (g:List GenState) : Rp G h₀ h { st with i:=i,g:=g }:=⟨D.size,D.own,D.nd,D.base,D.apart,D.keep,D.new,D.le⟩
end
theorem nth_put_ne {α : Type} : ∀ {l:List α} {i j:Nat} {y:α},j ≠ i → nth (put l i y) j = nth l j
  | [],_,_,_,_ => rfl
  | x :: l,0,0,_,h => absurd rfl h
  | x :: l,0,j + 1,_,_ => rfl
  | x :: l,i + 1,0,_,_ => rfl
  | x :: l,i + 1,j + 1,y,h => nth_put_ne (l:=l) fun e => h (congrArg (· + 1) e)
theorem nth_inj {l:List (Addr × Obj)} : ∀ {i j:Nat} {p q:Addr × Obj},(l.map (·.1)).Nodup → nth l i = some p → nth l j = some q → p.1 = q.1 → i = j:=by
  induction l with
  | nil => intro i j p q _ h; cases h
  | cons x l ih =>
    intro i j p q nd hi hj e
    rw [List.map_cons,List.nodup_cons] at nd
    cases i with
    | zero =>
      cases j with
      | zero => rfl
      | succ j =>
        cases hi
        exact absurd (e ▸ List.mem_map_of_mem (nth_mem (l:=l) (n:=j) hj)) nd.1
    | succ i =>
      cases j with
      | zero =>
        cases hj
        exact absurd (e ▸ List.mem_map_of_mem (nth_mem (l:=l) (n:=i) hi)) nd.1
      | succ j => exact congrArg (· + 1) (ih nd.2 hi hj e)
theorem ndup_nodup : ∀ {l:List Nat},ndup l = true → l.Nodup
  | [],_ => List.nodup_nil
  | x :: l,h => by
    unfold ndup at h
    cases q : l.any (Nat.beq x) with
    | true => rw [q] at h; cases h
    | false =>
      rw [q] at h
      refine List.nodup_cons.mpr ⟨fun hm => ?_,ndup_nodup h⟩
      have:=List.any_eq_false.mp q x hm
      simp at this
noncomputable abbrev Needs:=List (Nat × Addr × Obj × (Addr → Tok → Obj))
theorem puts_map {n:Addr} {t:Tok} {S:List (Addr × Obj)} : ∀ {l:Needs},(∀ y ∈ l,nth S y.1 = some (y.2.1,y.2.2.1)) → (l.map (·.1)).Nodup → (puts n t S l).map (·.1) = S.map (·.1):=by
  intro l
  induction l generalizing S with
  | nil => intro _ _; rfl
  | cons x l ih =>
    intro hn nd
    rw [List.map_cons,List.nodup_cons] at nd
    have h0:=hn x (.head _)
    have e : (put S x.1 (x.2.1,x.2.2.2 n t)).map (·.1) = S.map (·.1):=put_map (y:=(x.2.1,x.2.2.2 n t)) (·.1) h0 rfl
    show (puts n t (put S x.1 (x.2.1,x.2.2.2 n t)) l).map (·.1) = _
    rw [ih (fun y hy => ?_) nd.2,e]
    rw [nth_put_ne (show y.1 ≠ x.1 from fun z => nd.1 (List.mem_map.mpr ⟨y,hy,z⟩))]
    exact hn y (.tail _ hy)
theorem puts_mem {n:Addr} {t:Tok} {S:List (Addr × Obj)} {q:Addr × Obj} : ∀ {l:Needs},(∀ y ∈ l,nth S y.1 = some (y.2.1,y.2.2.1)) → (l.map (·.1)).Nodup → (S.map (·.1)).Nodup → q ∈ puts n t S l →
    (∃ y ∈ l,q = (y.2.1,y.2.2.2 n t)) ∨ (q ∈ S ∧ q.1 ∉ l.map (·.2.1)):=by
  intro l
  induction l generalizing S with
  | nil => intro _ _ _ h; exact .inr ⟨h,fun h => nomatch h⟩
  | cons x l ih =>
    intro hn nd ndS h
    rw [List.map_cons,List.nodup_cons] at nd
    have h0:=hn x (.head _)
    have e : (put S x.1 (x.2.1,x.2.2.2 n t)).map (·.1) = S.map (·.1):=put_map (y:=(x.2.1,x.2.2.2 n t)) (·.1) h0 rfl
    have h : q ∈ puts n t (put S x.1 (x.2.1,x.2.2.2 n t)) l:=h
    rcases ih (fun y hy => by
        rw [nth_put_ne (show y.1 ≠ x.1 from fun z => nd.1 (List.mem_map.mpr ⟨y,hy,z⟩))]
        exact hn y (.tail _ hy)) nd.2 (by rw [e]; exact ndS) h with ⟨y,hy,e⟩ | ⟨hq,hne⟩
    · exact .inl ⟨y,.tail _ hy,e⟩
    · rcases put_mem h0 ndS hq with e | ⟨hq,hz⟩
      · exact .inl ⟨x,.head _,e⟩
      · refine .inr ⟨hq,fun hm => ?_⟩
        rw [List.map_cons,List.mem_cons] at hm
        exact hm.elim hz hne
theorem newsG_mem {n t:Nat} {q:Addr × Obj} : ∀ {l:List (Nat × (Addr → Tok → Obj))},q ∈ newsG n t l → ∃ x ∈ l,q = (n + x.1,x.2 n t)
  | [],h => nomatch h
  | x :: l,h => by
    rcases List.mem_cons.mp h with e | h
    · exact ⟨x,.head _,e⟩
    · obtain ⟨y,hy,e⟩:=newsG_mem h
      exact ⟨y,.tail _ hy,e⟩
theorem newsG_nodup {n t:Nat} : ∀ {l:List (Nat × (Addr → Tok → Obj))},(l.map (·.1)).Nodup → ((newsG n t l).map (·.1)).Nodup
  | [],_ => List.nodup_nil
  | x :: l,h => by
    rw [List.map_cons,List.nodup_cons] at h
    refine List.nodup_cons.mpr ⟨fun hm => ?_,newsG_nodup h.2⟩
    obtain ⟨p,hp,e⟩:=List.mem_map.mp hm
    obtain ⟨y,hy,rfl⟩:=newsG_mem hp
    have e : n + y.1 = n + x.1:=e
    have e : y.1 = x.1:=Nat.add_left_cancel e
    exact h.1 (e ▸ List.mem_map_of_mem hy)
noncomputable def Sum.Ok (G:GP) (x:Sum) : Prop:=∀ (A:Around) (b:Nat) (R:Result → Shared → Prop) (s:Shared),A.depth ≤ 310 + b → A.units ≤ 100 + 10 * b → A.handled = none → b ≤ x.lv → KT.Holds s.heap 1 0 G.kt →
  (∀ y ∈ x.need,s.heap.get? y.2.1 = some y.2.2.1) → (x.need.map (·.2.1)).Nodup → (∀ y ∈ x.need,G.kt.get y.2.1 = none) →
  (∀ h' : Heap,h'.objs.size = s.heap.objs.size + x.dm → (∀ b o,s.heap.get? b = some o → b ∉ x.need.map (·.2.1) → h'.get? b = some o) → (∀ y ∈ x.need,h'.get? y.2.1 = some (y.2.2.2 s.heap.objs.size s.toks)) →
    (∀ p ∈ newsG s.heap.objs.size s.toks x.news,h'.get? p.1 = some p.2) → R (x.r s.heap.objs.size s.toks) { s with heap:=h',toks:=s.toks + x.di }) →
  codeAny (model P0 G.w) A x.c R s
noncomputable def Rl.Ok (w:World) (x:Rl) : Prop:=(∀ p ∈ x.B,p.1 = p.2) → ∀ (A:Around) (R:Result → Shared → Prop) (s:Shared),(∀ y ∈ x.need,s.heap.get? y.1 = some y.2) → R (x.r s.toks) { s with toks:=s.toks + x.di } →
  codeAny (model P0 w) A x.c R s
section
variable {G:GP} {h₀:Old} {h h':Heap} {st:St} {x:Sum}
theorem nodup_app {α : Type} {l m:List α} (h1:l.Nodup) (h2:m.Nodup) (h:∀ a ∈ l,a ∉ m) : (l ++ m).Nodup:=List.nodup_append.mpr ⟨h1,h2,fun a ha b hb e => h a ha (e ▸ hb)⟩
theorem Rp.sum (D:Rp G h₀ h st) (hn:∀ y ∈ x.need,nth st.S y.1 = some (y.2.1,y.2.2.1)) (nd:(x.need.map (·.1)).Nodup) (nw:(x.news.map (·.1)).Nodup) (hs:h'.objs.size = h.objs.size + x.dm)
    (hk:∀ b o,h.get? b = some o → b ∉ x.need.map (·.2.1) → h'.get? b = some o) (hu:∀ y ∈ x.need,h'.get? y.2.1 = some (y.2.2.2 (G.n + st.m) (G.t + st.i))) (hw:∀ p ∈ newsG (G.n + st.m) (G.t + st.i) x.news,h'.get? p.1 = some p.2) (i:Nat) :
    Rp G h₀ h' { S:=newsG (G.n + st.m) (G.t + st.i) x.news ++ puts (G.n + st.m) (G.t + st.i) st.S x.need,m:=st.m + x.dm,i:=i,g:=st.g }:=by
  have em:=puts_map (n:=G.n + st.m) (t:=G.t + st.i) hn nd
  have fr : ∀ p ∈ newsG (G.n + st.m) (G.t + st.i) x.news,G.n + st.m ≤ p.1:=fun p hp => by
    obtain ⟨y,_,rfl⟩:=newsG_mem hp
    exact Nat.le_add_right ..
  have ap : ∀ y ∈ x.need,G.kt.get y.2.1 = none:=fun y hy => D.apart _ (nth_mem (hn y hy))
  have bs : KT.Holds h' 1 0 G.kt:=holds_of_keeps D.base fun a o e q => hk a o q fun hm => by
    obtain ⟨y,hy,ey⟩:=List.mem_map.mp hm
    have:=ap y hy
    rw [ey,e] at this
    cases this
  refine ⟨by rw [hs,D.size,Nat.add_assoc],fun p hp => ?_,?_,bs,fun p hp => ?_,fun b o e q => ?_,fun p hp => ?_,by rw [hs]; exact Nat.le_add_right_of_le D.le⟩
  · rcases List.mem_append.mp hp with hp | hp
    · exact hw p hp
    · rcases puts_mem hn nd D.nd hp with ⟨y,hy,rfl⟩ | ⟨hp,hz⟩
      · exact hu y hy
      · exact hk _ _ (D.own p hp) hz
  · rw [List.map_append]
    refine nodup_app (newsG_nodup nw) (by rw [em]; exact D.nd) fun a ha hb => ?_
    rw [em] at hb
    obtain ⟨p,hp,rfl⟩:=List.mem_map.mp ha
    obtain ⟨q,hq,e⟩:=List.mem_map.mp hb
    have e : q.1 = p.1:=e
    have h1 : q.1 < G.n + st.m:=D.lt hq
    rw [e] at h1
    exact absurd h1 (Nat.not_lt.mpr (fr p hp))
  · rcases List.mem_append.mp hp with hp | hp
    · cases q : G.kt.get p.1 with
      | none => rfl
      | some o =>
        have h1:=Heap.lt_size (holds_at D.base q)
        rw [D.size] at h1
        exact absurd h1 (Nat.not_lt.mpr (fr p hp))
    · rcases puts_mem hn nd D.nd hp with ⟨y,hy,rfl⟩ | ⟨hp,_⟩
      · exact ap y hy
      · exact D.apart p hp
  · refine hk b o (D.keep b o e q) fun hm => ?_
    obtain ⟨y,hy,rfl⟩:=List.mem_map.mp hm
    rcases D.new _ (nth_mem (hn y hy)) with z | z
    · exact q z
    · rw [z] at e; cases e
  · rcases List.mem_append.mp hp with hp | hp
    · refine .inr ?_
      cases q : h₀.h.get? p.1 with
      | none => rfl
      | some o =>
        have h1:=Nat.lt_of_lt_of_le (Heap.lt_size q) D.le
        rw [D.size] at h1
        exact absurd h1 (Nat.not_lt.mpr (fr p hp))
    · rcases puts_mem hn nd D.nd hp with ⟨y,hy,rfl⟩ | ⟨hp,_⟩
      · exact D.new (y.2.1,y.2.2.1) (nth_mem (hn y hy))
      · exact D.new p hp
end
section
variable {w:World}
theorem tInt (s:Shared) (i:Int) (t:Tok) : s.TypeIs (.int i t) "int":=rfl
theorem tStr (s:Shared) (x:Str) (t:Tok) : s.TypeIs (.str x t) "str":=rfl
theorem code_slot {id T:String} {name:Str} {self:Value} {rest:List Value} {b:Builtin} {m:Made} {A:Around} {R:Result → Shared → Prop} {s:Shared} (h:Slot T name id) (hT:s.TypeIs self T) (hb:entryFor table id = some b)
    (ha:argsOk id ⟨self :: rest,[]⟩) (g:Gives (b ⟨self :: rest,[]⟩) m) (hm:m.post (fun v s' => R (.ok (.ret v)) s') s) : codeAny (model P0 w) A (.call (.builtin id) ⟨self :: rest,[]⟩) R s :=
  codeAny_call_builtin h.plain hb (h.check _ _ _ _ _ _ _ _ hT ha (g P0 w A R s hm))
theorem code_fn {id:String} {b:Builtin} {args:List Value} {A:Around} {R:Result → Shared → Prop} {s:Shared} (hk:builtinKind id = none) (hp:plainId id = true) (hb:entryFor table id = some b) (ha:argsOk id ⟨args,[]⟩)
    (hc:wpAny (model P0 w) A.in1 (b ⟨args,[]⟩) (fun fin s' => match fin with | .done f => R (.ok f) s' | .again c' => c'.quiet = true ∧ codeAny (model P0 w) A c' R s') (fun e s' => R (.error e) s') s) : codeAny (model P0 w) A (.call (.builtin id) ⟨args,[]⟩) R s:=by
  refine codeAny_call_builtin hp hb ?_
  simp only [checkBuiltinCall,hk]
  cases hsig : Manifest.signature? id with
  | none => exact wpAny_pure hc
  | some sig =>
    simp only [argsOk,hsig] at ha
    have h2 : Bind.checkArgs id sig ⟨args,[]⟩ = pure ():=ha
    show wpAny _ A.in1 (Bind.checkArgs id sig ⟨args,[]⟩) _ _ s
    rw [h2]; exact wpAny_pure hc
theorem iop_ok {id:String} {f:Int → Int → Int} {B:Int → Int → List (Bool × Bool)} {b:Builtin} {name:Str} (h:Slot "int" name id) (hb:entryFor table id = some b) (ha:∀ u v,argsOk id ⟨[u,v],[]⟩)
    (g:∀ a t c u,(∀ p ∈ B a c,p.1 = p.2) → Gives (b ⟨[.int a t,.int c u],[]⟩) (.int (f a c))) {args:List Value} {x:Rl} (e:iop id f B args = some x) : x.Ok w:=by
  unfold iop at e
  split at e
  · cases e
    exact fun hB A R s _ hR => code_slot h (tInt s _ _) hb (ha _ _) (g _ _ _ _ hB) hR
  · cases e
theorem told_eq {v:Nat} {y:Bool} (h:∀ p ∈ (told v y).2,p.1 = p.2) : (told v y).1 = y:=by
  unfold told at h ⊢
  split at h
  · rfl
  · exact (h _ (.head _)).symm
  · exact (h _ (.head _)).symm
theorem icmp_ok {id:String} {f:Int → Int → Bool} {b:Builtin} {name:Str} (h:Slot "int" name id) (hb:entryFor table id = some b) (ha:∀ u v,argsOk id ⟨[u,v],[]⟩)
    (g:∀ a t c u,Gives (b ⟨[.int a t,.int c u],[]⟩) (.val (.bool (f a c)))) {v:Nat} {args:List Value} {x:Rl} (e:icmp id f v args = some x) : x.Ok w:=by
  unfold icmp at e
  split at e
  · cases e
    refine fun hB A R s _ hR => code_slot h (tInt s _ _) hb (ha _ _) (g _ _ _ _) ?_
    show R _ _
    rw [← told_eq hB]
    exact hR
  · cases e
theorem scmp_ok {id:String} {f:Str → Str → Bool} {b:Builtin} {name:Str} (h:Slot "str" name id) (hb:entryFor table id = some b) (ha:∀ u v,argsOk id ⟨[u,v],[]⟩)
    (g:∀ a t c u,Gives (b ⟨[.str a t,.str c u],[]⟩) (.val (.bool (f a c)))) {v:Nat} {args:List Value} {x:Rl} (e:scmp id f v args = some x) : x.Ok w:=by
  unfold scmp at e
  split at e
  · cases e
    refine fun hB A R s _ hR => code_slot h (tStr s _ _) hb (ha _ _) (g _ _ _ _) ?_
    show R _ _
    rw [← told_eq hB]
    exact hR
  · cases e
theorem slen_eq (x:Str) : slen x = x.length:=rfl
theorem fits_le {x:Str} (h:(fits x).1 = (fits x).2) : x.length ≤ 16777216:=Nat.le_of_ble_eq_true h
theorem code_bi {id:String} {b:Builtin} {args:Args} {A:Around} {R:Result → Shared → Prop} {s:Shared} (hp:plainId id = true) (hb:entryFor table id = some b)
    (hc:wpAny (model P0 w) A.in1 (b args) (fun fin s' => match fin with | .done f => R (.ok f) s' | .again c' => c'.quiet = true ∧ codeAny (model P0 w) A c' R s') (fun e s' => R (.error e) s') s) : codeAny (model P0 w) A (.builtin id args) R s:=by
  refine codeAny_of_tree ?_
  show wpAny _ _ (match entryFor table id with | some b => b args | none => unsupported ((withoutEnding? id "#data").getD id)) _ _ s
  rw [hb,Around.under_plainId hp args]
  exact hc
theorem len_tree {x:Str} {t:Tok} {A:Around} {R:Result → Shared → Prop} {s:Shared} (hx:x.length ≤ 16777216) (hR:R (.ok (.ret (.int (slen x) (s.toks + 1)))) { s with toks:=s.toks + 2 }) :
    wpAny (model P0 w) A.in1 (Builtin.«len» ⟨[.str x t],[]⟩) (fun fin s' => match fin with | .done f => R (.ok f) s' | .again c' => c'.quiet = true ∧ codeAny (model P0 w) A c' R s') (fun e s' => R (.error e) s') s:=by
  unfold Builtin.«len»
  refine wpAny_bind (m:=oneArg "len" _) (wpAny_pure ?_)
  refine wpAny_bind (m:=callSpecial? (.str x t) (Str.ofString "__len__")) (wpAny_callSpecial?_slot (name:=Str.ofString "__len__") (tStr s x t) F.slot_str_len (call_gives F.slot_str_len (tStr s x t) F.entry_str_len (F.args_str_len_1 _) (gives_str_len x t) ?_))
  show wpAny _ _ _ _ _ { s with toks:=s.toks + 1 }
  refine wpAny_bind (wpAny_holding (wpAny_pure ?_))
  refine wpAny_bind (wpAny_letGo ?_)
  show wpAny _ _ (if (x.length : Int) < 0 then _ else _) _ _ _
  rw [if_neg (by omega)]
  show wpAny _ _ (if (x.length : Int) ≥ 2 ^ 63 then _ else _) _ _ _
  rw [if_neg (by omega)]
  exact wpAny_bind (wpAny_mkInt (wpAny_pure hR))
theorem rlen_ok {args:List Value} {x:Rl} (e:rlen args = some x) : x.Ok w:=by
  unfold rlen at e
  split at e
  · rename_i x t
    cases e
    intro hB A R s _ hR
    exact code_fn kind_len plain_len entry_len (args_len1 _) (len_tree (fits_le (hB _ (.head _))) hR)
  · cases e
theorem rlenB_ok {args:List Value} {x:Rl} (e:rlenB args = some x) : x.Ok w:=by
  unfold rlenB at e
  split at e
  · rename_i x t
    cases e
    intro hB A R s _ hR
    exact code_bi plain_len entry_len (len_tree (fits_le (hB _ (.head _))) hR)
  · cases e
theorem not_of {b:Bool} (h:b = false) : ¬ b = true:=by rw [h]; decide
theorem beq_of {n:Nat} {b:Bool} (h:Nat.beq n 0 = b) : (n == 0) = b:=by
  cases n <;> exact h
theorem cat_eq (x y:Str) : x ++ y = cat x y:=by
  show (⟨x.cps ++ y.cps⟩ : Str) = _
  unfold cat
  congr 1
  apply Array.ext'
  simp
theorem sadd_ok {v:Nat} {args:List Value} {x:Rl} (e:sadd v args = some x) : x.Ok w:=by
  unfold sadd at e
  split at e
  · rename_i x t y u
    split at e
    · cases e
      intro hB A R s _ hR
      have h1 : (x.length == 0) = false:=beq_of (hB _ (.head _))
      have h2 : (y.length == 0) = false:=beq_of (hB _ (.tail _ (.head _)))
      have h3:=fits_le (hB _ (.tail _ (.tail _ (.head _))))
      refine code_slot F.slot_str_add (tStr s _ _) F.entry_str_add (F.args_str_add_2 _ _) (gives_str_add x y t u) ?_
      rw [h1,h2]
      show (x ++ y).length ≤ sizeLine ∧ _
      rw [cat_eq]
      exact ⟨h3,hR⟩
    · cases e
      intro hB A R s _ hR
      have h1 : (x.length == 0) = true:=beq_of (hB _ (.head _))
      refine code_slot F.slot_str_add (tStr s _ _) F.entry_str_add (F.args_str_add_2 _ _) (gives_str_add x y t u) ?_
      rw [h1]
      exact hR
    · cases e
      intro hB A R s _ hR
      have h1 : (x.length == 0) = false:=beq_of (hB _ (.head _))
      have h2 : (y.length == 0) = true:=beq_of (hB _ (.tail _ (.head _)))
      refine code_slot F.slot_str_add (tStr s _ _) F.entry_str_add (F.args_str_add_2 _ _) (gives_str_add x y t u) ?_
      rw [h1,h2]
      exact hR
  · cases e
theorem at_some {x:Str} {k:Nat} (h:k < slen x) : x.cps[k]? = some (sat x k):=by
  unfold sat
  have h : k < x.cps.toList.length:=h
  rw [← Array.getElem?_toList,List.getElem?_eq_getElem h,List.getD_eq_getElem?_getD,List.getElem?_eq_getElem h]
  rfl
theorem sget_ok {v:Nat} {args:List Value} {x:Rl} (e:sget v args = some x) : x.Ok w:=by
  unfold sget at e
  split at e
  · rename_i x t i u
    split at e
    · cases e
      intro hB A R s _ hR
      have h1 : 0 ≤ i:=of_decide_eq_true (hB _ (.head _))
      have h2 : i < slen x:=of_decide_eq_true (hB _ (.tail _ (.head _)))
      have h3:=fits_le (hB _ (.tail _ (.tail _ (.head _))))
      have h4 : slen x ≤ 16777216:=h3
      refine code_slot F.slot_str_getitem (tStr s _ _) F.entry_str_getitem (F.args_str_getitem_2 _ _) (gives_str_getitem x i t u (sat x i.toNat) ?_ ?_) ⟨by show 1 ≤ sizeLine; decide,hR⟩
      · rw [decide_eq_false (by omega),decide_eq_false (by omega)]; rfl
      · unfold seqIndex?
        have h5 : i < (x.length : Int):=h2
        simp only [if_neg (Int.not_lt.mpr h1),decide_eq_true h1,decide_eq_true h5,Bool.and_self,if_true]
        show x.cps[i.toNat]? = _
        exact at_some (by omega)
    · cases e
      intro hB A R s _ hR
      have h1 : i < 0:=of_decide_eq_true (hB _ (.head _))
      have h2 : 0 ≤ i + slen x:=of_decide_eq_true (hB _ (.tail _ (.head _)))
      have h3:=fits_le (hB _ (.tail _ (.tail _ (.head _))))
      have h4 : slen x ≤ 16777216:=h3
      refine code_slot F.slot_str_getitem (tStr s _ _) F.entry_str_getitem (F.args_str_getitem_2 _ _) (gives_str_getitem x i t u (sat x (i + slen x).toNat) ?_ ?_) ⟨by show 1 ≤ sizeLine; decide,hR⟩
      · rw [decide_eq_false (by omega),decide_eq_false (by omega)]; rfl
      · unfold seqIndex?
        have h5 : 0 ≤ i + (x.length : Int):=h2
        have h6 : i + (x.length : Int) < x.length:=by omega
        simp only [if_pos h1,decide_eq_true h5,decide_eq_true h6,Bool.and_self,if_true]
        show x.cps[(i + (x.length : Int)).toNat]? = _
        exact at_some (by rw [slen_eq]; omega)
  · cases e
theorem sslice_need {v:Nat} {ob:Addr × Obj} {args:List Value} {x:Rl} (e:sslice v ob args = some x) : ∃ o,x.need = [(ob.1,o)]:=by
  unfold sslice at e
  split at e
  · split at e
    · split at e
      · cases e; exact ⟨_,rfl⟩
      · cases e; exact ⟨_,rfl⟩
    · cases e
  · cases e
theorem sslice_ok {v:Nat} {ob:Addr × Obj} {args:List Value} {x:Rl} (e:sslice v ob args = some x) : x.Ok w:=by
  unfold sslice at e
  split at e
  · rename_i x t _
    split at e
    · rename_i i ti j tj _
      split at e
      · cases e
        intro hB A R s hn hR
        have h1 : 0 ≤ i:=of_decide_eq_true (hB _ (.head _))
        have h2 : i ≤ j:=of_decide_eq_true (hB _ (.tail _ (.head _)))
        have h3 : j ≤ slen x:=of_decide_eq_true (hB _ (.tail _ (.tail _ (.head _))))
        have h4 : j - i < slen x:=of_decide_eq_true (hB _ (.tail _ (.tail _ (.tail _ (.head _)))))
        have h5:=fits_le (hB _ (.tail _ (.tail _ (.tail _ (.tail _ (.head _))))))
        obtain ⟨a,rfl⟩:=Int.eq_ofNat_of_zero_le h1
        obtain ⟨b,rfl⟩:=Int.eq_ofNat_of_zero_le (Int.le_trans h1 h2)
        have hab : a ≤ b:=by omega
        have hb : b ≤ x.length:=by have:=slen_eq x; omega
        refine codeAny_call_builtin F.slot_str_getitem.plain F.entry_str_getitem (F.slot_str_getitem.check _ _ _ _ _ _ _ _ (tStr s x t) (F.args_str_getitem_2 _ _) (meets_str_getitem_slice x t ob.1 (some (a,ti)) (some (b,tj)) none rfl P0 w A R s ⟨⟨sliceO _ _,hn _ (.head _),rfl,rfl⟩,?_⟩))
        unfold sliceMade
        have e1 : slicePicked x (some ((a:Int),ti)) (some ((b:Int),tj)) none = (List.range (b - a)).map (fun k => a + k):=StrLaws.strSliceIndices_plain hab hb
        rw [e1,if_neg (by
          simp only [Option.map_none,Option.getD_none,List.length_map,List.length_range,beq_self_eq_true,Bool.true_and,beq_iff_eq]
          have:=slen_eq x
          omega)]
        have e2 : (((List.range (b - a)).map (fun k => a + k)).filterMap (x.cps[·]?)).toArray = (spart x a b).cps:=by
          rw [← StrLaws.strSliceIndices_plain hab hb]
          apply Array.ext'
          show _ = (x.cps.toList.drop a).take (b - a)
          exact StrLaws.sliced_plain x hab hb
        show Str.length ⟨_⟩ ≤ sizeLine ∧ R _ _
        rw [e2]
        refine ⟨?_,hR⟩
        show (spart x a b).cps.size ≤ sizeLine
        have : (spart x a b).cps.size = ((x.cps.toList.drop a).take (b - a)).length:=rfl
        rw [this,List.length_take]
        have hz : sizeLine = 16777216:=rfl
        omega
      · cases e
        intro hB A R s hn hR
        have h1 : i = 0:=of_decide_eq_true (hB _ (.head _))
        have h2 : j = slen x:=of_decide_eq_true (hB _ (.tail _ (.head _)))
        subst h1
        subst h2
        refine codeAny_call_builtin F.slot_str_getitem.plain F.entry_str_getitem (F.slot_str_getitem.check _ _ _ _ _ _ _ _ (tStr s x t) (F.args_str_getitem_2 _ _) (meets_str_getitem_slice x t ob.1 (some (0,ti)) (some (slen x,tj)) none rfl P0 w A R s ⟨⟨sliceO _ _,hn _ (.head _),rfl,rfl⟩,?_⟩))
        unfold sliceMade
        have e1 : slicePicked x (some (((0 : Nat) : Int),ti)) (some ((slen x:Int),tj)) none = (List.range (slen x - 0)).map (fun k => 0 + k):=StrLaws.strSliceIndices_plain (Nat.zero_le _) (Nat.le_refl _)
        have e1 : slicePicked x (some (0,ti)) (some ((slen x:Int),tj)) none = (List.range (slen x - 0)).map (fun k => 0 + k):=e1
        rw [e1,if_pos (by
          simp only [Option.map_none,Option.getD_none,List.length_map,List.length_range,beq_self_eq_true,Bool.true_and,beq_iff_eq]
          have:=slen_eq x
          omega)]
        exact hR
    · cases e
  · cases e
theorem seqs_eq (x y:Str) : seqs x y = (x == y):=eq_meets x y
theorem tcont_need {ob:Addr × Obj} {args:List Value} {x:Rl} (e:tcont ob args = some x) : ∃ o,x.need = [(ob.1,o)]:=by
  unfold tcont at e
  split at e
  · split at e
    · cases e; exact ⟨_,rfl⟩
    · cases e
  · cases e
theorem tcont_ok {ob:Addr × Obj} {args:List Value} {x:Rl} (e:tcont ob args = some x) : x.Ok w:=by
  unfold tcont at e
  split at e
  · rename_i x t
    split at e
    · rename_i y u z v k _
      cases e
      intro hB A R s hn hR
      have ho : s.heap.get? ob.1 = some (tupO [.str y u,.str z v] k):=hn _ (.head _)
      have ht : IsTup s.heap ob.1 #[.str y u,.str z v]:=⟨_,ho,rfl,_,rfl⟩
      refine codeAny_call_builtin slot_tuple_contains.plain entry_tuple_contains (slot_tuple_contains.check _ _ _ _ _ _ _ _ ht.typeIs (args_tuple_contains _ _) ?_)
      refine tuple_contains_strs ht (.cons y u (.cons z v .nil)) ?_
      show R _ _
      have e : [y,z].any (· == x) = orq (seqs y x) (seqs z x):=by
        rw [seqs_eq,seqs_eq]
        show ((y == x) || ((z == x) || false)) = _
        unfold orq
        cases (y == x) <;> cases (z == x) <;> rfl
      rw [e]
      exact hR
    · cases e
  · cases e
theorem objRule_need {r:Nat} {ob:Addr × Obj} {args:List Value} {x:Rl} (e:objRule r ob args = some x) : ∃ o,x.need = [(ob.1,o)]:=by
  unfold objRule at e
  split at e
  · exact sslice_need e
  · exact sslice_need e
  · exact tcont_need e
  · cases e
theorem objRule_ok {r:Nat} {ob:Addr × Obj} {args:List Value} {x:Rl} (e:objRule r ob args = some x) : x.Ok w:=by
  unfold objRule at e
  split at e
  · exact sslice_ok e
  · exact sslice_ok e
  · exact tcont_ok e
  · cases e
theorem imodv_ok {v:Nat} {args:List Value} {x:Rl} (e:imodv v args = some x) : x.Ok w:=by
  unfold imodv at e
  split at e
  · rename_i a t c u
    cases e
    intro hB A R s _ hR
    have h1:=hB _ (.head _)
    have h2 : (Int.fmod a c == Int.ofNat v) = true:=hB _ (.tail _ (.head _))
    refine code_slot F.slot_int_mod (tInt s _ _) F.entry_int_mod (F.args_int_mod_2 _ _) (AutoIntG6.int___mod___int_int_1 a t c u (not_of h1)) ?_
    have e : Int.fmod a c = Int.ofNat v:=by simpa using h2
    show R (.ok (.ret (.int (Int.fmod a c) s.toks))) _
    rw [e]
    exact hR
  · cases e
theorem srepl_ok {args:List Value} {x:Rl} (e:srepl args = some x) : x.Ok w:=by
  unfold srepl at e
  split at e
  · rename_i x t y u z v
    cases e
    intro hB A R s _ hR
    have h1 : sfree x y = true:=hB _ (.head _)
    have h2 : ((Builtin.Str.occurrences x y 0 x.length (x.length + 1)).isEmpty || (y.length == 0 && z.length == 0)) = true:=by
      have h1 : (Builtin.Str.occurrences x y 0 x.length (x.length + 1)).isEmpty = true:=h1
      rw [h1]; rfl
    have g:=gives_str_replace x y z t u v (fun h => by rw [h2] at h; cases h)
    rw [if_pos h2] at g
    exact code_slot F.slot_str_replace (tStr s _ _) F.entry_str_replace (F.args_str_replace_3 _ _ _) g hR
  · cases e
theorem srep_join {x:Str} (h:x.cps.toList.length = 1) (k:Nat) : ∀ acc : Array Nat,(List.replicate k x.cps).foldl (· ++ ·) acc = acc ++ (⟨List.replicate k (sat x 0)⟩ : Array Nat):=by
  obtain ⟨c,hc⟩ : ∃ c,x.cps.toList = [c]:=List.length_eq_one_iff.mp h
  have hs : sat x 0 = c:=by unfold sat; rw [hc]; rfl
  have hx : x.cps = #[c]:=by apply Array.ext'; rw [hc]
  rw [hs,hx]
  induction k with
  | zero => intro acc; simp
  | succ k ih =>
    intro acc
    rw [List.replicate_succ,List.foldl_cons,ih]
    apply Array.ext'
    simp [List.replicate_succ]
theorem smul_ok {args:List Value} {x:Rl} (e:smul args = some x) : x.Ok w:=by
  unfold smul at e
  split at e
  · rename_i x t k u
    cases e
    intro hB A R s _ hR
    have h1 : slen x = 1:=Nat.eq_of_beq_eq_true (hB _ (.head _))
    have h2 : k < 1024:=of_decide_eq_true (hB _ (.tail _ (.head _)))
    have h3 : -1024 < k:=of_decide_eq_true (hB _ (.tail _ (.tail _ (.head _))))
    have hl : x.length = 1:=h1
    have g:=gives_str_mul x k t u (by rw [decide_eq_false (by omega),decide_eq_false (by omega)]; rfl)
      (fun a _ => by
        rw [hl]
        have : (1 : Int) ≤ (2 ^ 63 - 1) / k:=Int.le_ediv_of_mul_le (by omega) (by omega)
        omega)
      (fun a _ => by
        rw [hl]
        unfold Builtin.Str.tooLong
        simp only [decide_eq_false_iff_not]
        have hz : sizeLine = 16777216:=rfl
        omega)
    refine code_slot F.slot_str_mul (tStr s _ _) F.entry_str_mul (F.args_str_mul_2 _ _) g ?_
    by_cases k1 : k < 1
    · rw [if_pos k1]
      have e0 : k.toNat = 0:=by omega
      have e1 : tkm k t s.toks = s.toks:=by unfold tkm; rw [decide_eq_false (by omega)]
      have e2 : dim k = 1:=by unfold dim; rw [decide_eq_false (by omega)]
      have e3 : srep x k = Str.empty:=by unfold srep; rw [e0]; rfl
      dsimp only at hR
      rw [e1,e2,e3] at hR
      exact ⟨by decide,hR⟩
    · rw [if_neg k1]
      by_cases k2 : k = 1
      · subst k2
        rw [if_pos (by rfl)]
        have e3 : srep x 1 = x:=by
          obtain ⟨c,hc⟩ : ∃ c,x.cps.toList = [c]:=List.length_eq_one_iff.mp h1
          have hx : x.cps = #[c]:=by apply Array.ext'; rw [hc]
          unfold srep sat
          rw [hc]
          obtain ⟨y⟩:=x
          dsimp only at hx
          rw [hx]
          rfl
        dsimp only at hR
        rw [e3] at hR
        exact hR
      · rw [if_neg (by rw [hl]; simp [k2])]
        have e1 : tkm k t s.toks = s.toks:=by unfold tkm; rw [decide_eq_false k2]
        have e2 : dim k = 1:=by unfold dim; rw [decide_eq_false k2]
        have e3 : (⟨(List.replicate k.toNat x.cps).foldl (· ++ ·) #[]⟩ : Str) = srep x k:=by
          rw [srep_join h1]
          unfold srep
          congr 1
          apply Array.ext'
          simp
        dsimp only at hR
        rw [e1,e2] at hR
        rw [e3]
        refine ⟨?_,hR⟩
        show (srep x k).length ≤ sizeLine
        have : (srep x k).length = k.toNat:=by unfold srep; show (List.replicate k.toNat _).length = _; rw [List.length_replicate]
        rw [this]
        have hz : sizeLine = 16777216:=rfl
        omega
  · cases e
theorem sadd3_ok {args:List Value} {x:Rl} (e:sadd3 args = some x) : x.Ok w:=by
  unfold sadd3 at e
  split at e
  · rename_i x t y u
    cases e
    intro hB A R s _ hR
    have h3:=fits_le (hB _ (.head _))
    refine code_slot F.slot_str_add (tStr s _ _) F.entry_str_add (F.args_str_add_2 _ _) (gives_str_add x y t u) ?_
    dsimp only at hR
    unfold tka dia at hR
    cases k1 : Nat.beq (slen x) 0 with
    | true =>
      have h1 : (x.length == 0) = true:=beq_of k1
      rw [k1] at hR
      rw [h1]
      have e : cat x y = y:=by
        have : x.cps.toList = []:=List.length_eq_zero_iff.mp (Nat.eq_of_beq_eq_true k1)
        unfold cat
        rw [this]
        rfl
      dsimp only at hR
      rw [e] at hR
      exact hR
    | false =>
      have h1 : (x.length == 0) = false:=beq_of k1
      rw [k1] at hR
      rw [h1]
      cases k2 : Nat.beq (slen y) 0 with
      | true =>
        have h2 : (y.length == 0) = true:=beq_of k2
        rw [k2] at hR
        rw [h2]
        have e : cat x y = x:=by
          have : y.cps.toList = []:=List.length_eq_zero_iff.mp (Nat.eq_of_beq_eq_true k2)
          unfold cat
          rw [this,List.append_nil]
        dsimp only at hR
        rw [e] at hR
        exact hR
      | false =>
        have h2 : (y.length == 0) = false:=beq_of k2
        rw [k2] at hR
        rw [h2]
        show (x ++ y).length ≤ sizeLine ∧ _
        rw [cat_eq]
        exact ⟨h3,hR⟩
  · cases e
theorem gives_and (a:Int) (t:Tok) (c:Int) (u:Tok) : Gives (Builtin.«int.__and__» ⟨[.int a t,.int c u],[]⟩) (.int (Builtin.bitAnd a c)) :=
  .of_wp fun M A E s Q h => by obtain ⟨hp,g,d,tk,os⟩:=s; wp_walk; exact ⟨_,rfl,h⟩
theorem rule1_ok : ∀ {r:Nat} {args:List Value} {x:Rl},rule1 r args = some x → x.Ok w:=by
  intro r args x e
  match r,e with
  | 0,e => exact iop_ok F.slot_int_add F.entry_int_add F.args_int_add_2 (fun a t c u _ => AutoIntG4.int___add___int_int_0 a t c u) e
  | 1,e => exact iop_ok F.slot_int_sub F.entry_int_sub F.args_int_sub_2 (fun a t c u _ => AutoIntG9.int___sub___int_int_0 a t c u) e
  | 2,e => exact iop_ok F.slot_int_floordiv F.entry_int_floordiv F.args_int_floordiv_2 (fun a t c u hB => AutoIntG4.int___floordiv___int_int_1 a t c u (not_of (hB _ (.head _))) (not_of (hB _ (.tail _ (.head _))))) e
  | 3,e => exact iop_ok F.slot_int_mod F.entry_int_mod F.args_int_mod_2 (fun a t c u hB => AutoIntG6.int___mod___int_int_1 a t c u (not_of (hB _ (.head _)))) e
  | 4,e => exact icmp_ok F.slot_int_eq F.entry_int_eq F.args_int_eq_2 AutoIntG7.int___eq___int_int_0 e
  | 5,e => exact icmp_ok F.slot_int_eq F.entry_int_eq F.args_int_eq_2 AutoIntG7.int___eq___int_int_0 e
  | 6,e => exact icmp_ok F.slot_int_eq F.entry_int_eq F.args_int_eq_2 AutoIntG7.int___eq___int_int_0 e
  | 7,e => exact icmp_ok F.slot_int_lt F.entry_int_lt F.args_int_lt_2 AutoIntG1.int___lt___int_int_0 e
  | 8,e => exact icmp_ok F.slot_int_lt F.entry_int_lt F.args_int_lt_2 AutoIntG1.int___lt___int_int_0 e
  | 9,e => exact icmp_ok F.slot_int_lt F.entry_int_lt F.args_int_lt_2 AutoIntG1.int___lt___int_int_0 e
  | 10,e => exact icmp_ok F.slot_int_gt F.entry_int_gt F.args_int_gt_2 AutoIntG4.int___gt___int_int_0 e
  | 11,e => exact icmp_ok F.slot_int_gt F.entry_int_gt F.args_int_gt_2 AutoIntG4.int___gt___int_int_0 e
  | 12,e => exact icmp_ok F.slot_int_gt F.entry_int_gt F.args_int_gt_2 AutoIntG4.int___gt___int_int_0 e
  | 13,e => exact icmp_ok F.slot_int_ge F.entry_int_ge F.args_int_ge_2 AutoIntG9.int___ge___int_int_0 e
  | 14,e => exact icmp_ok F.slot_int_ge F.entry_int_ge F.args_int_ge_2 AutoIntG9.int___ge___int_int_0 e
  | 15,e => exact icmp_ok F.slot_int_ge F.entry_int_ge F.args_int_ge_2 AutoIntG9.int___ge___int_int_0 e
  | 16,e => exact scmp_ok F.slot_str_eq F.entry_str_eq F.args_str_eq_2 (fun x t y u => gives_str_eq x y t u) e
  | 17,e => exact scmp_ok F.slot_str_eq F.entry_str_eq F.args_str_eq_2 (fun x t y u => gives_str_eq x y t u) e
  | 18,e => exact scmp_ok F.slot_str_eq F.entry_str_eq F.args_str_eq_2 (fun x t y u => gives_str_eq x y t u) e
  | 19,e => exact scmp_ok F.slot_str_contains F.entry_str_contains F.args_str_contains_2 (fun x t y u => gives_str_contains x y t u) e
  | 20,e => exact scmp_ok F.slot_str_contains F.entry_str_contains F.args_str_contains_2 (fun x t y u => gives_str_contains x y t u) e
  | 21,e => exact scmp_ok F.slot_str_contains F.entry_str_contains F.args_str_contains_2 (fun x t y u => gives_str_contains x y t u) e
  | 22,e => exact rlen_ok e
  | 23,e => exact sadd_ok (v:=0) (args:=args) e
  | 24,e => exact sadd_ok (v:=1) (args:=args) e
  | 25,e => exact sadd_ok (v:=2) (args:=args) e
  | 26,e => exact sget_ok (v:=0) (args:=args) e
  | 27,e => exact sget_ok (v:=1) (args:=args) e
  | 28,e => exact rlenB_ok e
  | 29,e => exact imodv_ok (v:=0) (args:=args) e
  | 30,e => exact imodv_ok (v:=1) (args:=args) e
  | 31,e => exact imodv_ok (v:=2) (args:=args) e
  | 32,e => exact imodv_ok (v:=3) (args:=args) e
  | 33,e => exact srepl_ok e
  | 34,e => exact iop_ok F.slot_int_and F.entry_int_and F.args_int_and_2 (fun a t c u _ => gives_and a t c u) e
  | 35,e => exact smul_ok e
  | 36,e => exact sadd3_ok e
  | n + 37,e =>
    have e : none = some x:=e
    cases e
end
noncomputable def AllEq {α : Type} (l:List (α × α)) : Prop:=l.map (·.1) = l.map (·.2)
theorem AllEq.cons {α : Type} {p:α × α} {l:List (α × α)} (h:AllEq (p :: l)) : p.1 = p.2 ∧ AllEq l:=by
  unfold AllEq at h
  rw [List.map_cons,List.map_cons] at h
  injection h with h1 h2
  exact ⟨h1,h2⟩
noncomputable def Acc.Good (a:Acc) : Prop:=AllEq a.a ∧ AllEq a.o ∧ AllEq a.c ∧ AllEq a.b
theorem AllEq.app {α : Type} : ∀ {l m:List (α × α)},AllEq (l ++ m) → (∀ p ∈ l,p.1 = p.2) ∧ AllEq m
  | [],_,h => ⟨fun _ hp => (nomatch hp),h⟩
  | x :: l,m,h => by
    obtain ⟨e,h⟩:=AllEq.cons (p:=x) (l:=l ++ m) h
    obtain ⟨z,h⟩:=AllEq.app h
    exact ⟨fun p hp => (List.mem_cons.mp hp).elim (fun q => q ▸ e) (z p),h⟩
structure Lv (A:Around) (b:Nat) : Prop where
  depth : A.depth ≤ 310 + b
  units : A.units ≤ 100 + 10 * b
  handled : A.handled = none
theorem Lv.mono {A:Around} {b b':Nat} (h:Lv A b) (le:b ≤ b') : Lv A b':=⟨Nat.le_trans h.depth (by omega),Nat.le_trans h.units (by omega),h.handled⟩
noncomputable def KOk : Kont → Nat → Prop
  | .base,_ => True
  | .ret c _ _ κ,dk => c.isCaller = false ∧ wtC c ≤ dk ∧ KOk κ (dk - wtC c)
  | .gen _ c _ κ,dk => c.isCaller = false ∧ wtC c ≤ dk ∧ KOk κ (dk - wtC c)
  | .genS ..,_ => False
theorem KOk.depth {V:XV} {b:Nat} (L:Lv V.A₀ b) : ∀ {κ:Kont} {dk:Nat},KOk κ dk → (aroundOf V true κ).depth ≤ 310 + b + dk ∧ (aroundOf V true κ).units ≤ 100 + 10 * (b + dk)
  | .base,dk,_ => ⟨Nat.le_trans L.depth (by omega),Nat.le_trans L.units (by omega)⟩
  | .ret c hd k κ,dk,h => by
    have z:=KOk.depth (V:=V) L h.2.2
    have y:=weight_wt h.1
    have y2:=units_wt c
    have e : (aroundOf V true (.ret c hd k κ)).depth = (aroundOf V true κ).depth + c.weight:=rfl
    have e2 : (aroundOf V true (.ret c hd k κ)).units = (aroundOf V true κ).units + c.cUnits:=rfl
    have:=h.2.1
    rw [e,e2]
    omega
  | .gen ..,dk,_ => ⟨Nat.le_trans L.depth (by omega),Nat.le_trans L.units (by omega)⟩
  | .genS ..,_,h => h.elim
theorem KOk.handled {V:XV} (hH:V.A₀.handled = none) : ∀ {κ:Kont} {dk:Nat},KOk κ dk → (aroundOf V true κ).handled = handledK κ
  | .base,_,_ => hH
  | .ret c hd k κ,dk,h => by
    have z:=KOk.handled hH h.2.2
    show hd.or (aroundOf V true κ).handled = hd.or (handledK κ)
    rw [z]
  | .gen ..,_,_ => hH
  | .genS ..,_,h => h.elim
noncomputable def PostOut (V:XV) (G:GP) (b:Nat) (h₀:Old) (o:Out) : Prop:=match o.stop with
  | .bad _ => False
  | .done r => ∀ h,Rp G h₀ h o.st → V.R₀ r ⟨h,⟨o.st.g⟩,V.d,G.t + o.st.i,V.os⟩
  | .call c' hd _ _ k => match o.md with
    | .nrm => ∀ A h,A.frames = ((aroundOf V true o.κ).under o.c).frames → Lv A (b + o.dk) → o.c.isCaller = false → KOk o.κ (o.dk - wtC o.c) → Rp G h₀ h o.st → codeAny (model V.prog V.w) A c' (fun r s' => Means V o.c none o.κ (k r) s') ⟨h,⟨o.st.g⟩,V.d,G.t + o.st.i,V.os⟩
    | .fn => False
    | .seg fs => ∀ h,Rp G h₀ h o.st → codeAny (model V.prog V.w) (((aroundOf V false o.κ).over o.c fs).mark hd) c' (fun r s' => Means V o.c (some fs) o.κ (k r) s') ⟨h,⟨o.st.g⟩,V.d,G.t + o.st.i,V.os⟩
  | .again c' => ∀ h,Rp G h₀ h o.st → codeAny (model V.prog V.w) V.A₀ c' V.R₀ ⟨h,⟨o.st.g⟩,V.d,G.t + o.st.i,V.os⟩
section
variable {V:XV} {c:Code} {κ:Kont} {s:Shared}
theorem j_ret {r:Result} {t:Sem Fin} (ht:t = leafOf r) (key:endOf V κ r s) : Jdg V c .nrm κ t s:=by
  cases r with
  | ok f => subst ht; exact y_pure _ _ _ _ _ _ _ _ _ (y_done _ _ _ _ _ _ key)
  | error e => subst ht; exact y_raise _ _ _ _ _ _ _ _ _ (y_err _ _ _ key)
theorem j_again {c':Code} (hq:c'.quiet = true) (x:Means V c' none κ (denote table c') s) : Jdg V c .nrm κ (.pure (.again c')) s :=
  y_pure _ _ _ _ _ _ _ _ _ (y_again _ _ _ _ _ _ hq (y_code _ _ _ _ _ _ x))
theorem j_again_fn {c':Code} (hq:c'.quiet = true) (hl:s.heap.NoLimit) (x:Means V c' none κ (denote table c') s) : Jdg V c .fn κ (.pure (.again c')) s :=
  y_pure _ _ _ _ _ _ _ _ _ ⟨hl,y_again _ _ _ _ _ _ hq (y_code _ _ _ _ _ _ x)⟩
theorem j_again_seg {fs:List Frame} {c':Code} (hq:c'.quiet = true) (x:Means V c' (some fs) κ (denote table c') s) : Jdg V c (.seg fs) κ (.pure (.again c')) s :=
  s_again _ _ _ _ _ _ _ _ hq x
theorem j_call {c':Code} {hd:Option Value} {g:Bool} {l:List Value} {k:Result → Sem Fin} (hnb:hd ≠ some byPass)
    (x:codeAny (model V.prog V.w) (((aroundOf V true κ).under c).mark hd) c' (fun r s' => Means V c none κ (k r) s') s) : Jdg V c .nrm κ (.call c' hd g l k) s :=
  y_call _ _ _ _ _ _ _ _ _ _ _ _ _ hnb x
theorem j_enter {c':Code} {hd:Option Value} {g:Bool} {l:List Value} {k:Result → Sem Fin} (hnb:hd ≠ some byPass)
    (x:Means V c' none (.ret c hd k κ) (denote table c') s) : Jdg V c .nrm κ (.call c' hd g l k) s :=
  y_call _ _ _ _ _ _ _ _ _ _ _ _ _ hnb (y_code _ _ _ _ _ _ x)
theorem j_call_seg {fs:List Frame} {c':Code} {hd:Option Value} {g:Bool} {l:List Value} {k:Result → Sem Fin} (hnb:hd ≠ some byPass)
    (x:codeAny (model V.prog V.w) (((aroundOf V false κ).over c fs).mark hd) c' (fun r s' => Means V c (some fs) κ (k r) s') s) : Jdg V c (.seg fs) κ (.call c' hd g l k) s:=by
  have z : Sem.call c' hd g l k = (Sem.call c' hd g l Sem.pure).wrap k .raise id id:=rfl
  show SegX _ _ _ _ _ _ _
  rw [z]
  exact s_cmd _ _ _ _ _ _ (x_call (codeAny_mono x fun r s' q => wpAny_pure q) hnb)
end
theorem okMark_ne {hd:Option Value} (q:okMark hd = true) : hd ≠ some byPass:=by
  intro e
  subst e
  simp [okMark] at q
theorem needs_good {S:List (Addr × Obj)} : ∀ {l:Needs} {acc acc':Acc},needs S l acc = some acc' → acc'.Good → acc.Good ∧ ∀ y ∈ l,nth S y.1 = some (y.2.1,y.2.2.1)
  | [],acc,acc',h,g => by cases h; exact ⟨g,fun _ hy => nomatch hy⟩
  | x :: l,acc,acc',h,g => by
    unfold needs at h
    cases q : nth S x.1 with
    | none => rw [q] at h; cases h
    | some p =>
      rw [q] at h
      obtain ⟨⟨ga,go,gc⟩,z⟩:=needs_good h g
      obtain ⟨e1,ga⟩:=ga.cons
      obtain ⟨e2,go⟩:=go.cons
      refine ⟨⟨ga,go,gc⟩,fun y hy => ?_⟩
      rcases List.mem_cons.mp hy with rfl | hy
      · rw [q]; exact congrArg some (Prod.ext e1 e2)
      · exact z y hy
theorem kok {c:Code} {hd:Option Value} {k:Result → Sem Fin} {κ:Kont} {dk:Nat} (hc:c.isCaller = false) (hκ:KOk κ dk) : KOk (.ret c hd k κ) (dk + wtC c) :=
  ⟨hc,Nat.le_add_left _ _,by rw [Nat.add_sub_cancel]; exact hκ⟩
theorem lv_under {V:XV} {b dk:Nat} {c:Code} {hd:Option Value} {κ:Kont} (hL:Lv V.A₀ b) (hc:c.isCaller = false) (hκ:KOk κ dk) (qh:hd.or (handledK κ) = none) : Lv (((aroundOf V true κ).under c).mark hd) (b + (dk + wtC c)):=by
  refine ⟨?_,?_,?_⟩
  · have y:=(KOk.depth (V:=V) hL hκ).1
    have y2:=weight_wt hc
    show (aroundOf V true κ).depth + c.weight ≤ 310 + (b + (dk + wtC c))
    omega
  · have y:=(KOk.depth (V:=V) hL hκ).2
    have y2:=units_wt c
    show (aroundOf V true κ).units + c.cUnits ≤ 100 + 10 * (b + (dk + wtC c))
    omega
  · show hd.or (aroundOf V true κ).handled = none
    rw [KOk.handled hL.handled hκ]; exact qh
theorem nodup_addr {S:List (Addr × Obj)} (nd:(S.map (·.1)).Nodup) : ∀ {l:Needs},(l.map (·.1)).Nodup → (∀ y ∈ l,nth S y.1 = some (y.2.1,y.2.2.1)) → (l.map (·.2.1)).Nodup
  | [],_,_ => List.nodup_nil
  | x :: l,h,hn => by
    rw [List.map_cons,List.nodup_cons] at h
    refine List.nodup_cons.mpr ⟨fun hm => ?_,nodup_addr nd h.2 fun y hy => hn y (.tail _ hy)⟩
    obtain ⟨y,hy,e⟩:=List.mem_map.mp hm
    have e' : x.1 = y.1:=nth_inj nd (hn x (.head _)) (hn y (.tail _ hy)) (show x.2.1 = y.2.1 from Eq.symm e)
    exact h.1 (List.mem_map.mpr ⟨y,hy,e'.symm⟩)
theorem ruleOf_ok {w:World} {r:Nat} {S:List (Addr × Obj)} {ω:List Nat} {args:List Value} {x:Rl × List Nat × List (Obj × Obj)} (e:ruleOf r S ω args = some x) (hO:∀ p ∈ x.2.2,p.1 = p.2) : x.1.Ok w ∧ ∀ y ∈ x.1.need,y ∈ S:=by
  unfold ruleOf at e
  split at e
  · split at e
    · rename_i y q
      split at e
      · rename_i hn
        cases e
        exact ⟨rule1_ok q,fun y hy => by rw [show Rl.need _ = [] from hn] at hy; cases hy⟩
      · cases e
    · cases e
  · split at e
    · cases e
    · split at e
      · cases e
      · rename_i p qp
        split at e
        · rename_i y q
          split at e
          · rename_i z hn
            cases e
            refine ⟨objRule_ok q,fun y' hy => ?_⟩
            obtain ⟨o',en⟩:=objRule_need q
            have hy : y' ∈ y.need:=hy
            rw [hn] at hy en
            have ez : z = (p.1,o'):=by injection en
            have e2 : p.2 = z.2:=hO _ (.head _)
            have : y' = z:=by simpa using hy
            rw [this,ez]
            rw [ez] at e2
            have e2 : p.2 = o':=e2
            rw [← e2]
            exact nth_mem qp
          · cases e
        · cases e
noncomputable def GInv (V:XV) (G:GP) (b:Nat) (ih:GT) : Prop:=∀ (ω:List Nat) (sums:List Sum) (c:Code) (md:Md) (κ:Kont) (dk:Nat) (t:Sem Fin) (st:St) (acc:Acc) (h₀:Old) (o:Out),ih ω sums c md κ dk t st acc = o →
  (∀ x ∈ sums,x.Ok G) → c.isCaller = false → KOk κ dk → o.acc.Good → PostOut V G b h₀ o → acc.Good ∧ ∀ h,Rp G h₀ h st → Jdg V c md κ t ⟨h,⟨st.g⟩,V.d,G.t + st.i,V.os⟩
section
variable {V:XV} {G:GP} {b:Nat} {ih:GT} (IH:GInv V G b ih) {ω:List Nat} {sums:List Sum} {c:Code} {md:Md} {κ:Kont} {dk:Nat} {st:St} {acc:Acc} {h₀:Old} {o:Out}
  (hs:∀ x ∈ sums,x.Ok G) (hc:c.isCaller = false) (hκ:KOk κ dk) (hg:o.acc.Good) (ho:PostOut V G b h₀ o)
include IH hs hκ hg ho
theorem retG_sound {r:Result} {t:Sem Fin} (ht:t = leafOf r) (e:retG ih r ω sums c md κ dk st acc = o) : acc.Good ∧ ∀ h,Rp G h₀ h st → Jdg V c md κ t ⟨h,⟨st.g⟩,V.d,G.t + st.i,V.os⟩:=by
  cases md with
  | nrm =>
    cases κ with
    | base => subst e; exact ⟨hg,fun h D => j_ret ht (ho h D)⟩
    | ret c₁ hd k κ₁ =>
      obtain ⟨ga,z⟩:=IH _ _ _ _ _ _ _ _ _ h₀ o e hs hκ.1 hκ.2.2 hg ho
      exact ⟨ga,fun h D => j_ret ht (z h D)⟩
    | gen => subst e; exact ho.elim
    | genS => subst e; exact ho.elim
  | fn => subst e; exact ho.elim
  | seg fs =>
    cases fs with
    | nil =>
      cases κ with
      | gen g c₁ k κ₁ =>
        obtain ⟨ga,z⟩:=IH _ _ _ _ _ _ _ _ _ h₀ o e hs hκ.1 hκ.2.2 hg ho
        refine ⟨ga,fun h D => ?_⟩
        have z:=z h (D.i_irrel st.i (st.g.set g (End.ret r).genState))
        refine s_end _ _ _ _ _ _ r t ht ?_
        have z' : Means V c₁ none κ₁ (k (End.ret r).result) ⟨h,⟨st.g.set g (End.ret r).genState⟩,V.d,G.t + st.i,V.os⟩:=z
        rw [← set_gens] at z'
        exact z'
      | base => subst e; exact ho.elim
      | ret => subst e; exact ho.elim
      | genS => subst e; exact ho.elim
    | cons f fs => subst e; exact ho.elim
omit IH hs hκ hg ho in
theorem fnOf_parts {kt:KT} {c':Code} {t':Sem Fin} (e:fnOf kt c' = some t') : ∃ a args oc od fd sl,c' = .call (.ref a) args ∧ kt.get a = some ⟨oc,od,.func fd,sl⟩ ∧ fd.scope.isGenerator = false ∧ fd.scope.isCoroutine = false ∧ t' = callG a fd args:=by
  unfold fnOf at e
  split at e
  · rename_i a args
    split at e
    · rename_i oc od fd sl q
      split at e
      · rename_i b
        have:=Bool.or_eq_false_iff.mp b
        cases e
        exact ⟨a,args,oc,od,fd,sl,rfl,q,this.1,this.2,rfl⟩
      · cases e
    · cases e
  · cases e
include hc in
theorem againG_sound (hden:G.den = denote table) (hl:∀ h,KT.Holds h 1 0 G.kt → h.NoLimit) (hL:Lv V.A₀ b) (hb:b ≤ 500) {c':Code} (e:againG G ih c' ω sums c md κ dk st acc = o) :
    acc.Good ∧ ∀ h,Rp G h₀ h st → Jdg V c md κ (.pure (.again c')) ⟨h,⟨st.g⟩,V.d,G.t + st.i,V.os⟩:=by
  unfold againG at e
  cases q : (c'.quiet && !c'.isCaller) with
  | false => rw [q] at e; subst e; exact ho.elim
  | true =>
    rw [q] at e
    obtain ⟨hq,hn⟩:=Bool.and_eq_true_iff.mp q
    have hn : c'.isCaller = false:=by simpa using hn
    cases md with
    | fn =>
      dsimp only at e
      cases sf : G.sf with
      | false =>
        rw [sf] at e
        obtain ⟨ga,z⟩:=IH _ _ _ _ _ _ _ _ _ h₀ o e hs hn hκ hg ho
        refine ⟨ga,fun h D => j_again_fn hq (hl h D.base) ?_⟩
        rw [← hden]; exact z h D
      | true =>
        rw [sf] at e
        cases κ with
        | base =>
          subst e
          exact ⟨hg,fun h D => y_pure _ _ _ _ _ _ _ _ _ ⟨hl h D.base,y_again _ _ _ _ _ _ hq (ho h D)⟩⟩
        | ret =>
          obtain ⟨ga,z⟩:=IH _ _ _ _ _ _ _ _ _ h₀ o e hs hn hκ hg ho
          refine ⟨ga,fun h D => j_again_fn hq (hl h D.base) ?_⟩
          rw [← hden]; exact z h D
        | gen => subst e; exact ho.elim
        | genS => subst e; exact ho.elim
    | seg fs =>
      cases ω with
      | nil => subst e; exact ho.elim
      | cons n ω =>
        cases n with
        | zero =>
          obtain ⟨ga,z⟩:=IH _ _ _ _ _ _ _ _ _ h₀ o e hs hn hκ hg ho
          refine ⟨ga,fun h D => j_again_seg hq ?_⟩
          rw [← hden]; exact z h D
        | succ n => subst e; exact ho.elim
    | nrm =>
      cases ω with
      | nil => subst e; exact ho.elim
      | cons n ω =>
        cases n with
        | zero =>
          obtain ⟨ga,z⟩:=IH _ _ _ _ _ _ _ _ _ h₀ o e hs hn hκ hg ho
          refine ⟨ga,fun h D => j_again hq ?_⟩
          rw [← hden]; exact z h D
        | succ n =>
          cases n with
          | zero =>
            dsimp only at e
            cases f : fnOf G.kt c' with
            | none => rw [f] at e; subst e; exact ho.elim
            | some t' =>
              rw [f] at e
              dsimp only at e
              cases bl : Nat.ble dk 60 with
              | false => rw [bl] at e; subst e; exact ho.elim
              | true =>
                rw [bl] at e
                obtain ⟨ga,z⟩:=IH _ _ _ _ _ _ _ _ _ h₀ o e hs hn hκ hg ho
                refine ⟨ga,fun h D => j_again hq ?_⟩
                obtain ⟨a,args,oc,od,fd,sl,rfl,qa,g1,g2,rfl⟩:=fnOf_parts f
                have hbl:=Nat.le_of_ble_eq_true bl
                have hd:=(KOk.depth (V:=V) hL hκ).1
                have hr : recursionLimit = 1000:=rfl
                exact fn_enter (s:=⟨h,⟨st.g⟩,V.d,G.t + st.i,V.os⟩) (holds_at D.base qa) g1 g2 (by omega) (z h D)
          | succ n =>
            cases κ with
            | base =>
              subst e
              exact ⟨hg,fun h D => y_pure _ _ _ _ _ _ _ _ _ (y_again _ _ _ _ _ _ hq (ho h D))⟩
            | ret => subst e; exact ho.elim
            | gen => subst e; exact ho.elim
            | genS => subst e; exact ho.elim
include hc in
theorem sumG_sound (hp:V.prog = P0) (hw:V.w = G.w) (hG:b ≤ G.b) {c':Code} {k:Result → Sem Fin} {A:Around} (LA:Lv A (b + (dk + wtC c))) (e:sumG G ih c' k ω sums c md κ dk st acc = o) :
    acc.Good ∧ ∀ h,Rp G h₀ h st → codeAny (model V.prog V.w) A c' (fun r s' => Jdg V c md κ (k r) s') ⟨h,⟨st.g⟩,V.d,G.t + st.i,V.os⟩:=by
  unfold sumG at e
  cases sums with
  | nil => subst e; exact ho.elim
  | cons x sums =>
    dsimp only at e
    cases q : needs st.S x.need acc with
    | none => rw [q] at e; subst e; exact ho.elim
    | some acc₁ =>
      rw [q] at e
      dsimp only at e
      cases q2 : ndup (x.need.map (·.1)) && (ndup (x.news.map (·.1)) && Nat.ble (G.b + (dk + wtC c)) x.lv) with
      | false => rw [q2] at e; subst e; exact ho.elim
      | true =>
        rw [q2] at e
        dsimp only at e
        obtain ⟨n1,n2⟩:=Bool.and_eq_true_iff.mp q2
        obtain ⟨n2,n3⟩:=Bool.and_eq_true_iff.mp n2
        have n1:=ndup_nodup n1
        have n2:=ndup_nodup n2
        have n3:=Nat.le_of_ble_eq_true n3
        obtain ⟨ga,z⟩:=IH _ _ _ _ _ _ _ _ _ h₀ o e (fun y hy => hs y (.tail _ hy)) hc hκ hg ho
        obtain ⟨ga1,ga2,ga3,ga4⟩:=ga
        obtain ⟨ec,ga3⟩:=ga3.cons
        have ec : c' = x.c:=ec
        obtain ⟨gb,nd⟩:=needs_good q ⟨ga1,ga2,ga3,ga4⟩
        have okx:=hs x (.head _)
        rw [ec,hp,hw]
        refine ⟨gb,fun h D => okx A _ _ _ LA.depth LA.units LA.handled (by omega) D.base (fun y hy => D.own _ (nth_mem (nd y hy))) ?_ (fun y hy => D.apart _ (nth_mem (nd y hy))) fun h' hz hk hu hn => ?_⟩
        · exact nodup_addr D.nd n1 nd
        · have es : h.objs.size = G.n + st.m:=D.size
          have R':=D.sum nd n1 n2 hz hk (by rw [← es]; exact hu) (by rw [← es]; exact hn) (st.i + x.di)
          have:=z h' R'
          rw [← Nat.add_assoc] at this
          show Jdg V c md κ (k (x.r h.objs.size _)) _
          rw [es]
          exact this
include hc in
theorem ruleG_sound (hp:V.prog = P0) (hw:V.w = G.w) {r:Nat} {c':Code} {k:Result → Sem Fin} {A:Around} (e:ruleG G ih r c' k ω sums c md κ dk st acc = o) :
    acc.Good ∧ ∀ h,Rp G h₀ h st → codeAny (model V.prog V.w) A c' (fun r s' => Jdg V c md κ (k r) s') ⟨h,⟨st.g⟩,V.d,G.t + st.i,V.os⟩:=by
  unfold ruleG at e
  cases q : ruleOf r st.S ω (posOf c') with
  | none => rw [q] at e; subst e; exact ho.elim
  | some x =>
    rw [q] at e
    dsimp only at e
    obtain ⟨ga,z⟩:=IH _ _ _ _ _ _ _ _ _ h₀ o e hs hc hκ hg ho
    obtain ⟨ga1,ga2,ga3,ga4⟩:=ga
    obtain ⟨ec,ga3⟩:=ga3.cons
    obtain ⟨hB,ga4⟩:=ga4.app
    obtain ⟨hO,ga2⟩:=ga2.app
    have ec : c' = x.1.c:=ec
    obtain ⟨okx,nd⟩:=ruleOf_ok (w:=G.w) q hO
    rw [ec,hp,hw]
    refine ⟨⟨ga1,ga2,ga3,ga4⟩,fun h D => okx hB A _ _ (fun y hy => D.own y (nd y hy)) ?_⟩
    have:=z h (D.i_irrel (st.i + x.1.di) st.g)
    rw [← Nat.add_assoc] at this
    exact this
end
section
variable {G:GP} {ω:List Nat} {st:St} {acc:Acc}
theorem readG_sound {a:Addr} {r:Obj × List Nat × Acc} (e:readG G a ω st acc = some r) (hg:r.2.2.Good) : acc.Good ∧ ∀ h₀ h,Rp G h₀ h st → h.get? a = some r.1:=by
  unfold readG at e
  cases ω with
  | nil => cases e
  | cons n ω =>
    cases n with
    | zero =>
      dsimp only at e
      cases q : G.kt.get a with
      | none => rw [q] at e; cases e
      | some o => rw [q] at e; cases e; exact ⟨hg,fun h₀ h D => holds_at D.base q⟩
    | succ j =>
      dsimp only at e
      cases q : nth st.S j with
      | none => rw [q] at e; cases e
      | some p =>
        rw [q] at e
        cases e
        obtain ⟨g1,g2,g3,g4⟩:=hg
        obtain ⟨e1,g1⟩:=g1.cons
        have e1 : p.1 = a:=e1
        exact ⟨⟨g1,g2,g3,g4⟩,fun h₀ h D => e1 ▸ D.own p (nth_mem q)⟩
theorem writeG_sound {a:Addr} {u:Obj → Obj} {r:List Nat × St × Acc} (e:writeG a u ω st acc = some r) (hg:r.2.2.Good) : acc.Good ∧ r.2.1.g = st.g ∧ r.2.1.i = st.i ∧ ∀ h₀ h,Rp G h₀ h st → (∃ o,h.get? a = some o) ∧ Rp G h₀ (h.update a u) r.2.1:=by
  unfold writeG at e
  cases ω with
  | nil => cases e
  | cons n ω =>
    cases n with
    | zero => cases e
    | succ j =>
      dsimp only at e
      cases q : nth st.S j with
      | none => rw [q] at e; cases e
      | some p =>
        rw [q] at e
        dsimp only at e
        cases q2 : (u p.2).isFreed with
        | true => rw [q2] at e; cases e
        | false =>
          rw [q2] at e
          cases e
          obtain ⟨g1,g2,g3,g5⟩:=hg
          obtain ⟨e1,g4⟩:=g1.cons
          have e1 : p.1 = a:=e1
          subst e1
          exact ⟨⟨g4,g2,g3,g5⟩,rfl,rfl,fun h₀ h D => ⟨⟨_,D.own p (nth_mem q)⟩,D.update q q2⟩⟩
end
section
variable {V:XV} {G:GP} {b:Nat} {ih:GT} (IH:GInv V G b ih) {ω:List Nat} {sums:List Sum} {c:Code} {md:Md} {κ:Kont} {dk:Nat} {st:St} {acc:Acc} {h₀:Old} {o:Out}
  (hs:∀ x ∈ sums,x.Ok G) (hc:c.isCaller = false) (hκ:KOk κ dk) (hg:o.acc.Good) (ho:PostOut V G b h₀ o)
include IH hs hc hκ hg ho
theorem callGo_sound (hden:G.den = denote table) (hp:V.prog = P0) (hw:V.w = G.w) (hL:Lv V.A₀ b) (hb:b ≤ 500) (hG:b ≤ G.b) {c':Code} {hd:Option Value} {g:Bool} {l:List Value} {k:Result → Sem Fin} (e:callGo G ih c' hd g l k ω sums c md κ dk st acc = o) :
    acc.Good ∧ ∀ h,Rp G h₀ h st → Jdg V c md κ (.call c' hd g l k) ⟨h,⟨st.g⟩,V.d,G.t + st.i,V.os⟩:=by
  unfold callGo at e
  cases q : okMark hd with
  | false => rw [q] at e; subst e; exact ho.elim
  | true =>
    rw [q] at e
    dsimp only at e
    have hnb:=okMark_ne q
    cases ω with
    | nil => subst e; exact ho.elim
    | cons n ω =>
      cases md with
      | fn => subst e; exact ho.elim
      | seg fs =>
        cases n with
        | zero => subst e; exact ho.elim
        | succ n =>
          cases n with
          | zero => subst e; exact ho.elim
          | succ n =>
            cases n with
            | zero => subst e; exact ho.elim
            | succ n =>
              cases n with
              | zero =>
                subst e
                exact ⟨hg,fun h D => j_call_seg hnb (ho h D)⟩
              | succ n =>
                obtain ⟨ga,z⟩:=ruleG_sound IH hs hc hκ hg ho hp hw (A:=((aroundOf V false κ).over c fs).mark hd) e
                exact ⟨ga,fun h D => j_call_seg hnb (z h D)⟩
      | nrm =>
        cases n with
        | zero =>
          dsimp only at e
          cases bc : c'.isCaller with
          | true => rw [bc] at e; subst e; exact ho.elim
          | false =>
            rw [bc] at e
            obtain ⟨ga,z⟩:=IH _ _ _ _ _ _ _ _ _ h₀ o e hs bc (kok hc hκ) hg ho
            refine ⟨ga,fun h D => j_enter hnb ?_⟩
            rw [← hden]; exact z h D
        | succ n =>
          cases n with
          | zero =>
            dsimp only at e
            cases f : fnOf G.kt c' with
            | none => rw [f] at e; subst e; exact ho.elim
            | some t' =>
              rw [f] at e
              dsimp only at e
              cases bl : Nat.ble dk 60 with
              | false => rw [bl] at e; subst e; exact ho.elim
              | true =>
                rw [bl] at e
                obtain ⟨a,args,oc,od,fd,sl,rfl,qa,g1,g2,rfl⟩:=fnOf_parts f
                obtain ⟨ga,z⟩:=IH _ _ _ _ _ _ _ _ _ h₀ o e hs rfl (kok hc hκ) hg ho
                refine ⟨ga,fun h D => j_enter hnb ?_⟩
                have hbl:=Nat.le_of_ble_eq_true bl
                have hd':=(KOk.depth (V:=V) hL (κ:=.ret c hd k κ) (dk:=dk + wtC c) (kok hc hκ)).1
                have hr : recursionLimit = 1000:=rfl
                have hwc : wtC c ≤ 5:=by unfold wtC; split <;> omega
                exact fn_enter (s:=⟨h,⟨st.g⟩,V.d,G.t + st.i,V.os⟩) (holds_at D.base qa) g1 g2 (by omega) (z h D)
          | succ n =>
            cases n with
            | zero =>
              dsimp only at e
              cases qh : hd.or (handledK κ) with
              | some v => rw [qh] at e; subst e; exact ho.elim
              | none =>
                rw [qh] at e
                obtain ⟨ga,z⟩:=sumG_sound IH hs hc hκ hg ho hp hw hG (A:=((aroundOf V true κ).under c).mark hd) (lv_under hL hc hκ qh) e
                exact ⟨ga,fun h D => j_call hnb (z h D)⟩
            | succ n =>
              cases n with
              | zero =>
                dsimp only at e
                cases qh : hd.or (handledK κ) with
                | some v => rw [qh] at e; subst e; exact ho.elim
                | none =>
                  rw [qh] at e
                  subst e
                  exact ⟨hg,fun h D => j_call hnb (ho _ h rfl (lv_under hL hc hκ qh) hc (by show KOk κ (dk + wtC c - wtC c); rw [Nat.add_sub_cancel]; exact hκ) D)⟩
              | succ n =>
                obtain ⟨ga,z⟩:=ruleG_sound IH hs hc hκ hg ho hp hw (A:=((aroundOf V true κ).under c).mark hd) e
                exact ⟨ga,fun h D => j_call hnb (z h D)⟩
end
theorem gx_sound {V:XV} {G:GP} {b:Nat} (hden:G.den = denote table) (hl:∀ h,KT.Holds h 1 0 G.kt → h.NoLimit) (hp:V.prog = P0) (hw:V.w = G.w) (hL:Lv V.A₀ b) (hb:b ≤ 500) (hG:b ≤ G.b) : ∀ f : Nat,GInv V G b (gx G f)
  | 0,ω,sums,c,md,κ,dk,t,st,acc,h₀,o,e,_,_,_,_,ho => by subst e; exact ho.elim
  | f + 1,ω,sums,c,md,κ,dk,t,st,acc,h₀,o,e,hs,hc,hκ,hg,ho => by
    have IH:=gx_sound hden hl hp hw hL hb hG f
    have e : gxStep G (gx G f) ω sums c md κ dk t st acc = o:=e
    unfold gxStep at e
    cases t with
    | pure fin =>
      cases fin with
      | done fl => exact retG_sound IH hs hκ hg ho rfl e
      | again c' => exact againG_sound IH hs hc hκ hg ho hden hl hL hb e
    | raise x => exact retG_sound IH hs hκ hg ho rfl e
    | rule tag k =>
      obtain ⟨ga,z⟩:=IH _ _ _ _ _ _ _ _ _ h₀ o e hs hc hκ hg ho
      exact ⟨ga,fun h D => j_rule (z h D)⟩
    | «at» q k =>
      obtain ⟨ga,z⟩:=IH _ _ _ _ _ _ _ _ _ h₀ o e hs hc hκ hg ho
      exact ⟨ga,fun h D => j_at (z h D)⟩
    | point l k =>
      obtain ⟨ga,z⟩:=IH _ _ _ _ _ _ _ _ _ h₀ o e hs hc hκ hg ho
      exact ⟨ga,fun h D => j_point (z h D)⟩
    | ask k =>
      obtain ⟨ga,z⟩:=IH _ _ _ _ _ _ _ _ _ h₀ o e hs hc hκ hg ho
      exact ⟨ga,fun h D => j_ask (by rw [hp,hw]; exact z h D)⟩
    | load a q k =>
      dsimp only at e
      cases r : readG G a ω st acc with
      | none => rw [r] at e; subst e; exact ho.elim
      | some x =>
        rw [r] at e
        obtain ⟨ga,z⟩:=IH _ _ _ _ _ _ _ _ _ h₀ o e hs hc hκ hg ho
        obtain ⟨gb,y⟩:=readG_sound r ga
        exact ⟨gb,fun h D => j_load (y h₀ h D) (z h D)⟩
    | loadIfAlive a k =>
      dsimp only at e
      cases r : readG G a ω st acc with
      | none => rw [r] at e; subst e; exact ho.elim
      | some x =>
        rw [r] at e
        obtain ⟨ga,z⟩:=IH _ _ _ _ _ _ _ _ _ h₀ o e hs hc hκ hg ho
        obtain ⟨gb,y⟩:=readG_sound r ga
        exact ⟨gb,fun h D => j_alive (y h₀ h D) (z h D)⟩
    | alloc x k =>
      dsimp only at e
      cases q : x.isFreed with
      | true => rw [q] at e; subst e; exact ho.elim
      | false =>
        rw [q] at e
        obtain ⟨ga,z⟩:=IH _ _ _ _ _ _ _ _ _ h₀ o e hs hc hκ hg ho
        refine ⟨ga,fun h D => j_alloc ?_⟩
        rw [D.size]; exact z _ (D.alloc q)
    | update a q u k =>
      dsimp only at e
      cases r : writeG a u ω st acc with
      | none => rw [r] at e; subst e; exact ho.elim
      | some x =>
        rw [r] at e
        obtain ⟨ga,z⟩:=IH _ _ _ _ _ _ _ _ _ h₀ o e hs hc hκ hg ho
        obtain ⟨gb,e1,e2,y⟩:=writeG_sound (G:=G) r ga
        refine ⟨gb,fun h D => ?_⟩
        obtain ⟨⟨o',ho'⟩,D'⟩:=y h₀ h D
        have z:=z _ D'
        rw [e1,e2] at z
        exact j_update ho' z
    | fresh k =>
      obtain ⟨ga,z⟩:=IH _ _ _ _ _ _ _ _ _ h₀ o e hs hc hκ hg ho
      exact ⟨ga,fun h D => j_fresh (z h (D.i_irrel (st.i + 1) st.g))⟩
    | handled own k =>
      cases own with
      | true => subst e; exact ho.elim
      | false =>
        cases md with
        | nrm =>
          obtain ⟨ga,z⟩:=IH _ _ _ _ _ _ _ _ _ h₀ o e hs hc hκ hg ho
          refine ⟨ga,fun h D => y_handled _ _ _ _ _ _ _ _ _ ?_⟩
          have:=z h D
          rw [KOk.handled hL.handled hκ]
          exact this
        | fn => subst e; exact ho.elim
        | seg fs => subst e; exact ho.elim
    | call c' hd g l k => exact callGo_sound IH hs hc hκ hg ho hden hp hw hL hb hG e
    | newGen c' k =>
      obtain ⟨ga,z⟩:=IH _ _ _ _ _ _ _ _ _ h₀ o e hs hc hκ hg ho
      refine ⟨ga,fun h D => j_newGen ?_⟩
      rw [push_gens]
      exact z h (D.i_irrel st.i _)
    | genState g k =>
      dsimp only at e
      cases q : st.g[g]? with
      | none => rw [q] at e; subst e; exact ho.elim
      | some gs =>
        rw [q] at e
        obtain ⟨ga,z⟩:=IH _ _ _ _ _ _ _ _ _ h₀ o e hs hc hκ hg ho
        exact ⟨ga,fun h D => j_genState ((get_gens st.g g).trans q) (z h D)⟩
    | unsupported => subst e; exact ho.elim
    | finish => subst e; exact ho.elim
    | register => subst e; exact ho.elim
    | choose => subst e; exact ho.elim
    | os => subst e; exact ho.elim
    | resume => subst e; exact ho.elim
    | «yield» => subst e; exact ho.elim
    | stack => subst e; exact ho.elim
    | fork => subst e; exact ho.elim
    | thread => subst e; exact ho.elim
    | await => subst e; exact ho.elim
noncomputable def kt0 (P:Params) : KT:=(.node (some (o0 P)) (.node none (.node (some (o3 P)) (.node none (.node none (.node none (.node none (.node (some (o127 P)) .nil .nil) .nil) (.node none (.node none (.node none (.node (some (o543 P)) .nil .nil) (.node (some (o799 P)) .nil .nil)) (.node none (.node (some (o671 P)) .nil .nil) .nil)) (.node none .nil (.node none (.node (some (o735 P)) .nil .nil) .nil)))) (.node none (.node none (.node none (.node none .nil (.node (some (o783 P)) .nil .nil)) .nil) .nil) (.node none .nil (.node none (.node (some (o367 P)) .nil .nil) (.node none (.node (some (o751 P)) .nil .nil) .nil))))) (.node none (.node none (.node none (.node none (.node none .nil (.node (some (o775 P)) .nil .nil)) .nil) .nil) .nil) (.node (some (o55 P)) (.node none (.node none (.node none .nil (.node (some (o791 P)) .nil .nil)) (.node none (.node (some (o663 P)) .nil .nil) .nil)) .nil) (.node none .nil (.node none .nil (.node none (.node (some (o759 P)) .nil .nil) .nil)))))) (.node none (.node none (.node none (.node none (.node none .nil (.node (some (o387 P)) .nil .nil)) (.node none (.node none .nil (.node (some (o835 P)) .nil .nil)) (.node none (.node (some (o707 P)) .nil .nil) .nil))) (.node (some (o99 P)) (.node none (.node none .nil (.node (some (o803 P)) .nil .nil)) .nil) (.node none .nil (.node none (.node (some (o739 P)) .nil .nil) .nil)))) (.node (some (o51 P)) (.node none (.node none (.node none .nil (.node (some (o787 P)) .nil .nil)) .nil) .nil) (.node none (.node none (.node none .nil (.node (some (o819 P)) .nil .nil)) .nil) .nil))) (.node none .nil (.node none (.node none (.node none (.node none .nil (.node (some (o795 P)) .nil .nil)) .nil) (.node none (.node none (.node (some (o603 P)) .nil .nil) .nil) .nil)) (.node none (.node none .nil (.node none (.node (some (o699 P)) .nil .nil) .nil)) .nil))))) (.node none (.node none (.node none (.node none .nil (.node (some (o97 P)) (.node none (.node none .nil (.node (some (o801 P)) .nil .nil)) .nil) .nil)) (.node none (.node none (.node none (.node none .nil (.node (some (o785 P)) .nil .nil)) .nil) .nil) .nil)) (.node none .nil (.node none (.node none (.node none (.node none .nil (.node (some (o793 P)) .nil .nil)) .nil) (.node none .nil (.node none (.node (some (o729 P)) .nil .nil) .nil))) (.node none (.node none (.node none .nil (.node (some (o825 P)) .nil .nil)) .nil) .nil)))) (.node none (.node none (.node none (.node (some (o69 P)) (.node none (.node none .nil (.node (some (o773 P)) .nil .nil)) .nil) .nil) (.node (some (o101 P)) (.node none (.node none (.node (some (o549 P)) .nil .nil) (.node (some (o805 P)) .nil .nil)) .nil) (.node none (.node (some (o357 P)) .nil .nil) .nil))) (.node none (.node none (.node none (.node none .nil (.node (some (o789 P)) .nil .nil)) .nil) .nil) (.node none .nil (.node none (.node (some (o373 P)) .nil .nil) (.node none (.node (some (o757 P)) .nil .nil) .nil))))) (.node none (.node none (.node none (.node none (.node none .nil (.node (some (o781 P)) .nil .nil)) .nil) .nil) (.node none (.node none (.node none .nil (.node (some (o813 P)) .nil .nil)) .nil) .nil)) (.node none (.node none (.node none (.node none .nil (.node (some (o797 P)) .nil .nil)) (.node none (.node (some (o669 P)) .nil .nil) .nil)) .nil) (.node none (.node none (.node none .nil (.node (some (o829 P)) .nil .nil)) .nil) (.node none (.node (some (o381 P)) .nil .nil) (.node none (.node (some (o765 P)) .nil .nil) .nil)))))))) (.node (some (o2 P)) (.node (some (o4 P)) (.node none (.node none (.node none .nil (.node (some (o96 P)) (.node none (.node none .nil (.node (some (o800 P)) .nil .nil)) .nil) (.node none .nil (.node none (.node (some (o736 P)) .nil .nil) .nil)))) (.node none (.node none (.node none (.node none .nil (.node (some (o784 P)) .nil .nil)) (.node none (.node (some (o656 P)) .nil .nil) .nil)) .nil) .nil)) (.node none (.node none (.node none (.node none (.node none .nil (.node (some (o776 P)) .nil .nil)) .nil) .nil) (.node none .nil (.node none .nil (.node none (.node (some (o744 P)) .nil .nil) .nil)))) (.node (some (o56 P)) (.node none (.node none (.node none .nil (.node (some (o792 P)) .nil .nil)) .nil) (.node none .nil (.node none (.node (some (o728 P)) .nil .nil) .nil))) (.node none (.node none (.node none .nil (.node (some (o824 P)) .nil .nil)) .nil) .nil)))) (.node none (.node none (.node none (.node none (.node none (.node none .nil (.node (some (o772 P)) .nil .nil)) (.node (some (o388 P)) .nil .nil)) .nil) (.node (some (o100 P)) (.node none (.node none .nil (.node (some (o804 P)) .nil .nil)) .nil) .nil)) (.node none (.node none (.node none (.node none .nil (.node (some (o788 P)) .nil .nil)) .nil) .nil) (.node none (.node none (.node none .nil (.node (some (o820 P)) .nil .nil)) .nil) .nil))) (.node none (.node none .nil (.node none (.node none (.node none .nil (.node (some (o812 P)) .nil .nil)) .nil) .nil)) (.node none (.node none (.node none (.node none .nil (.node (some (o796 P)) .nil .nil)) .nil) (.node none (.node none (.node (some (o604 P)) .nil .nil) .nil) .nil)) (.node none (.node none .nil (.node none (.node (some (o700 P)) .nil .nil) .nil)) (.node none (.node (some (o380 P)) .nil .nil) .nil)))))) (.node none (.node none (.node none (.node none (.node none .nil (.node none (.node none .nil (.node (some (o834 P)) .nil .nil)) (.node none (.node (some (o706 P)) .nil .nil) .nil))) (.node none (.node none (.node none .nil (.node (some (o802 P)) .nil .nil)) .nil) (.node none .nil (.node none (.node (some (o738 P)) .nil .nil) .nil)))) (.node (some (o50 P)) (.node none (.node none (.node none .nil (.node (some (o786 P)) .nil .nil)) .nil) .nil) .nil)) (.node none .nil (.node none (.node none (.node none (.node none .nil (.node (some (o794 P)) .nil .nil)) .nil) .nil) .nil))) (.node none (.node none (.node none (.node (some (o70 P)) (.node none (.node none .nil (.node (some (o774 P)) .nil .nil)) .nil) .nil) (.node none (.node none (.node none (.node (some (o550 P)) .nil .nil) (.node (some (o806 P)) .nil .nil)) .nil) .nil)) (.node none (.node none (.node none (.node none .nil (.node (some (o790 P)) .nil .nil)) (.node none (.node (some (o662 P)) .nil .nil) .nil)) .nil) (.node none .nil (.node none (.node (some (o374 P)) .nil .nil) (.node none (.node (some (o758 P)) .nil .nil) .nil))))) (.node none (.node none (.node none (.node none (.node none .nil (.node (some (o782 P)) .nil .nil)) .nil) .nil) (.node none .nil (.node none .nil (.node none (.node (some (o750 P)) .nil .nil) .nil)))) (.node none (.node none (.node none (.node none .nil (.node (some (o798 P)) .nil .nil)) (.node none (.node (some (o670 P)) .nil .nil) .nil)) .nil) (.node (some (o126 P)) (.node none (.node none .nil (.node (some (o830 P)) .nil .nil)) .nil) (.node none .nil (.node none (.node (some (o766 P)) .nil .nil) .nil)))))))))
noncomputable def K1 (P:Params) : Frag:=(K0 P).filter fun p => p.1 != 753
theorem kt0_eq (P:Params) : KT.of (K1 P) = kt0 P:=by kernel_rfl
noncomputable def den0 : Code → Sem Fin:=twDenote twTable
theorem den0_eq : den0 = denote table:=by
  unfold den0 twDenote twTable
  rw [← PySem.W.Fast.te14364793385576792824,← PySem.W.Fast.te11892475500146522536,table_eq_tree]
noncomputable def G0 (w:World) (n t b:Nat) : GP:=⟨den0,kt0 w.params,w,n,t,b,false⟩
noncomputable def runFn (G:GP) (fuel:Nat) (ω:List Nat) (sums:List Sum) (c:Code) (S:List (Addr × Obj)) (g:List GenState) : Out:=match fnOf G.kt c with
  | some t => gx G fuel ω sums c .fn .base 0 t ⟨S,0,0,g⟩ ⟨[],[],[],[]⟩
  | none => { stop:=.bad 50,c:=c,md:=.fn,κ:=.base,st:=⟨S,0,0,g⟩,acc:=⟨[],[],[],[]⟩ }
noncomputable def runC (G:GP) (fuel:Nat) (ω:List Nat) (sums:List Sum) (c:Code) (S:List (Addr × Obj)) (g:List GenState) : Out:=gx G fuel ω sums c .nrm .base 0 (G.den c) ⟨S,0,0,g⟩ ⟨[],[],[],[]⟩
noncomputable def digits : Nat → Nat → List Nat
  | 0,_ => []
  | f + 1,x => (x % 64) :: digits f (x / 64)
noncomputable abbrev W (b:Bool) (w:World) : World:=w.withFollow "special-get-raises" b
theorem noLimit0 (P:Params) {h:Heap} (H:KT.Holds h 1 0 (kt0 P)) : h.NoLimit:=by
  have e : h.get? cStatics = some (o2 P):=holds_at H (by rfl)
  have c1 : h.isNs cStatics = true:=by
    unfold Heap.isNs
    rw [e]
    kernel_rfl
  refine ⟨_,.of_isNs c1,?_⟩
  unfold Heap.nsMap
  rw [e]
  kernel_rfl
structure Hp (w:World) (H h:Heap) (S:List (Addr × Obj)) : Prop where
  own : ∀ p ∈ S,h.get? p.1 = some p.2
  nd : (S.map (·.1)).Nodup
  base : KT.Holds h 1 0 (kt0 w.params)
  apart : ∀ p ∈ S,(kt0 w.params).get p.1 = none
  keep : ∀ b o,H.get? b = some o → b ≠ 753 → h.get? b = some o
  new : ∀ p ∈ S,H.get? p.1 = none ∨ p.1 = 753
section
variable {w:World} {H h:Heap} {S F:List (Addr × Obj)}
theorem Hp.rp (D:Hp w H h S) {n T lv:Nat} (hn:h.objs.size = n) (i:Nat) (g:List GenState) : Rp (G0 w n T lv) ⟨h,S.map (·.1)⟩ h ⟨S,0,i,g⟩ :=
  ⟨hn,D.own,D.nd,D.base,D.apart,fun _ _ e _ => e,fun p hp => .inl (List.mem_map_of_mem hp),Nat.le_refl _⟩
theorem Hp.sub {S':List (Addr × Obj)} (D:Hp w H h S) (hs:∀ p ∈ S',p ∈ S) (nd:(S'.map (·.1)).Nodup) : Hp w H h S' :=
  ⟨fun p hp => D.own p (hs p hp),nd,D.base,fun p hp => D.apart p (hs p hp),D.keep,fun p hp => D.new p (hs p hp)⟩
theorem Hp.subl {S':List (Addr × Obj)} (D:Hp w H h S) (hs:S'.Sublist S) : Hp w H h S':=D.sub (fun _ hp => hs.subset hp) ((hs.map _).nodup D.nd)
theorem Hp.perm {S':List (Addr × Obj)} (D:Hp w H h S) (hs:S'.Perm S) : Hp w H h S':=D.sub (fun _ hp => hs.subset hp) ((hs.map _).nodup_iff.mpr D.nd)
theorem Rp.hp {n T lv:Nat} {h':Heap} {st:St} (D:Rp (G0 w n T lv) ⟨h,S.map (·.1)⟩ h' st) (D₀:Hp w H h (S ++ F)) : Hp w H h' (st.S ++ F):=by
  have nd:=D₀.nd
  rw [List.map_append] at nd
  obtain ⟨n1,n2,n3⟩:=List.nodup_append.mp nd
  have fr : ∀ p ∈ F,h'.get? p.1 = some p.2:=fun p hp => D.keep _ _ (D₀.own p (List.mem_append_right _ hp)) fun hm => n3 _ hm _ (List.mem_map_of_mem hp) rfl
  refine ⟨fun p hp => ?_,?_,D.base,fun p hp => ?_,fun b o e q => ?_,fun p hp => ?_⟩
  · rcases List.mem_append.mp hp with hp | hp
    · exact D.own p hp
    · exact fr p hp
  · rw [List.map_append]
    refine nodup_app D.nd n2 fun a ha hb => ?_
    obtain ⟨p,hp,rfl⟩:=List.mem_map.mp ha
    rcases D.new p hp with z | z
    · exact n3 _ z _ hb rfl
    · obtain ⟨q,hq,e⟩:=List.mem_map.mp hb
      have:=D₀.own q (List.mem_append_right _ hq)
      have e : q.1 = p.1:=e
      have z : h.get? p.1 = none:=z
      rw [e,z] at this
      cases this
  · rcases List.mem_append.mp hp with hp | hp
    · exact D.apart p hp
    · exact D₀.apart p (List.mem_append_right _ hp)
  · refine D.keep b o (D₀.keep b o e q) fun hm => ?_
    obtain ⟨p,hp,rfl⟩:=List.mem_map.mp hm
    rcases D₀.new p (List.mem_append_left _ hp) with z | z
    · rw [z] at e; cases e
    · exact q z
  · rcases List.mem_append.mp hp with hp | hp
    · rcases D.new p hp with z | z
      · obtain ⟨q,hq,e⟩:=List.mem_map.mp z
        have:=D₀.new q (List.mem_append_left _ hq)
        have e : q.1 = p.1:=e
        rw [e] at this
        exact this
      · by_cases e : p.1 = 753
        · exact .inr e
        · refine .inl ?_
          cases q : H.get? p.1 with
          | none => rfl
          | some o =>
            have z : h.get? p.1 = none:=z
            rw [D₀.keep _ _ q e] at z; cases z
    · exact D₀.new p (List.mem_append_right _ hp)
end
noncomputable def V0 (w:World) (A:Around) (R:Result → Shared → Prop) (s:Shared) : XV:=⟨P0,w,s.heap,0,.nil,[],A,R,s.drawn,s.toks,s.os⟩
noncomputable def Out.k (o:Out) : Result → Sem Fin:=match o.stop with
  | .call _ _ _ _ k => k
  | _ => fun _ => .unsupported ""
noncomputable def Out.d (o:Out) : Code:=match o.stop with
  | .call c _ _ _ _ => c
  | .again c => c
  | _ => default
noncomputable def Out.L (o:Out) (k:Nat) (ix:List Nat):=(o.acc.a.map (·.1),o.acc.o.map (·.1),o.acc.c.map (·.1),o.acc.b,o.stop,(o.st.m,o.st.i,o.st.g),o.st.S.drop k,ix.map (nth o.st.S))
noncomputable def Out.R (o:Out) (B:List (Bool × Bool)) (p:Stop) (m i:Nat) (g:List GenState) (S N:List (Addr × Obj)):=(o.acc.a.map (·.2),o.acc.o.map (·.2),o.acc.c.map (·.2),B,p,(m,i,g),S,N.map some)
structure Out.Is (o:Out) (p:Stop) (m i:Nat) (g:List GenState) (S N:List (Addr × Obj)) : Prop where
  good : o.acc.Good
  stop : o.stop = p
  m : o.st.m = m
  i : o.st.i = i
  g : o.st.g = g
  S : ∀ x ∈ S,x ∈ o.st.S
  N : ∀ x ∈ N,x ∈ o.st.S
theorem mem_of_map_some {l:List (Addr × Obj)} : ∀ {ix:List Nat} {N:List (Addr × Obj)},ix.map (nth l) = N.map some → ∀ x ∈ N,x ∈ l
  | [],[],_,_,h => nomatch h
  | [],_ :: _,h,_,_ => by cases h
  | _ :: _,[],h,_,_ => by cases h
  | j :: ix,y :: N,h,x,hx => by
    rw [List.map_cons,List.map_cons] at h
    injection h with h1 h2
    rcases List.mem_cons.mp hx with rfl | hx
    · exact nth_mem h1
    · exact mem_of_map_some h2 x hx
theorem Out.is_of {o:Out} {k:Nat} {ix:List Nat} {B:List (Bool × Bool)} {p:Stop} {m i:Nat} {g:List GenState} {S N:List (Addr × Obj)} (e:o.L k ix = o.R B p m i g S N) (hB:∀ x ∈ B,x.1 = x.2) : o.Is p m i g S N:=by
  unfold Out.L Out.R at e
  injection e with e1 e
  injection e with e2 e
  injection e with e3 e
  injection e with e4 e
  injection e with e5 e
  injection e with e6 e
  injection e with e7 e8
  injection e6 with f1 f2
  injection f2 with f2 f3
  refine ⟨⟨e1,e2,e3,?_⟩,e5,f1,f2,f3,fun x hx => ?_,mem_of_map_some e8⟩
  · rw [e4]
    exact List.map_congr_left hB
  · rw [← e7] at hx
    exact List.mem_of_mem_drop hx
section
variable {w:World} {A:Around} {R:Result → Shared → Prop} {s:Shared} {b lv fuel:Nat} {ω:List Nat} {sums:List Sum} {c:Code} {S:List (Addr × Obj)} {g:List GenState} {o:Out} {H:Heap}
theorem code_run (e:runC (G0 w s.heap.objs.size s.toks lv) fuel ω sums c S g = o) (hc:c.isCaller = false) (hs:∀ x ∈ sums,x.Ok (G0 w s.heap.objs.size s.toks lv)) (hg:o.acc.Good) (L:Lv A b) (hb:b ≤ 500) (hlv:b ≤ lv) (D:Hp w H s.heap S) (hgens:s.gens = ⟨g⟩)
    (post:PostOut (V0 w A R s) (G0 w s.heap.objs.size s.toks lv) b ⟨s.heap,S.map (·.1)⟩ o) : codeAny (model P0 w) A c R s:=by
  have z:=gx_sound (V:=V0 w A R s) (G:=G0 w s.heap.objs.size s.toks lv) (b:=b) den0_eq (fun h H => noLimit0 _ H) rfl rfl L hb hlv fuel _ _ _ _ _ _ _ _ _ _ o e hs hc trivial hg post
  have j:=z.2 s.heap (D.rp rfl 0 g)
  have es : (⟨s.heap,⟨g⟩,(V0 w A R s).d,(G0 w s.heap.objs.size s.toks lv).t + 0,(V0 w A R s).os⟩ : Shared) = s:=by
    rw [← hgens]; rfl
  have j' : Means (V0 w A R s) c none .base (den0 c) ⟨s.heap,⟨g⟩,(V0 w A R s).d,(G0 w s.heap.objs.size s.toks lv).t + 0,(V0 w A R s).os⟩:=j
  rw [es,den0_eq] at j'
  exact y_code _ _ _ _ _ _ j'
theorem fn_run (e:runFn (G0 w s.heap.objs.size s.toks lv) fuel ω sums c S g = o) (hs:∀ x ∈ sums,x.Ok (G0 w s.heap.objs.size s.toks lv)) (hg:o.acc.Good) (L:Lv A b) (hb:b ≤ 500) (hlv:b ≤ lv) (D:Hp w H s.heap S) (hgens:s.gens = ⟨g⟩)
    (post:PostOut (V0 w A R s) (G0 w s.heap.objs.size s.toks lv) b ⟨s.heap,S.map (·.1)⟩ o) : codeAny (model P0 w) A c R s:=by
  unfold runFn at e
  cases f : fnOf (G0 w s.heap.objs.size s.toks lv).kt c with
  | none => rw [f] at e; subst e; exact post.elim
  | some t =>
    rw [f] at e
    obtain ⟨a,args,oc,od,fd,sl,rfl,qa,g1,g2,rfl⟩:=fnOf_parts f
    have z:=gx_sound (V:=V0 w A R s) (G:=G0 w s.heap.objs.size s.toks lv) (b:=b) den0_eq (fun h H => noLimit0 _ H) rfl rfl L hb hlv fuel _ _ _ _ _ _ _ _ _ _ o e hs rfl trivial hg post
    have j:=z.2 s.heap (D.rp rfl 0 g)
    have es : (⟨s.heap,⟨g⟩,(V0 w A R s).d,(G0 w s.heap.objs.size s.toks lv).t + 0,(V0 w A R s).os⟩ : Shared) = s:=by
      rw [← hgens]; rfl
    rw [es] at j
    have hd:=L.depth
    exact y_code _ _ _ _ _ _ (fn_enter (V:=V0 w A R s) (κ:=.base) (holds_at D.base qa) g1 g2 (by show A.depth < 1000; omega) j)
theorem cont_run {V:XV} {κ:Kont} {dk:Nat} {t:Sem Fin} (e:gx (G0 w s.heap.objs.size s.toks lv) fuel ω sums c .nrm κ dk t ⟨S,0,0,g⟩ ⟨[],[],[],[]⟩ = o) (hc:c.isCaller = false) (hκ:KOk κ dk) (hs:∀ x ∈ sums,x.Ok (G0 w s.heap.objs.size s.toks lv)) (hg:o.acc.Good)
    (hp:V.prog = P0) (hw:V.w = w) (L:Lv V.A₀ b) (hb:b ≤ 500) (hlv:b ≤ lv) (D:Hp w H s.heap S) (hgens:s.gens = ⟨g⟩) (hd:s.drawn = V.d) (hos:s.os = V.os)
    (post:PostOut V (G0 w s.heap.objs.size s.toks lv) b ⟨s.heap,S.map (·.1)⟩ o) : Means V c none κ t s:=by
  have z:=gx_sound (V:=V) (G:=G0 w s.heap.objs.size s.toks lv) (b:=b) den0_eq (fun h H => noLimit0 _ H) hp hw L hb hlv fuel _ _ _ _ _ _ _ _ _ _ o e hs hc hκ hg post
  have j:=z.2 s.heap (D.rp rfl 0 g)
  have es : (⟨s.heap,⟨g⟩,V.d,(G0 w s.heap.objs.size s.toks lv).t + 0,V.os⟩ : Shared) = s:=by
    rw [← hgens,← hd,← hos]; rfl
  rw [es] at j
  exact j
end
section
variable {V:XV} {G:GP} {b:Nat} {h₀:Old} {o:Out}
theorem post_done {r:Result} (e:o.stop = .done r) (k:∀ h,Rp G h₀ h o.st → V.R₀ r ⟨h,⟨o.st.g⟩,V.d,G.t + o.st.i,V.os⟩) : PostOut V G b h₀ o:=by
  unfold PostOut
  rw [e]
  exact k
theorem post_again {c':Code} (e:o.stop = .again c') (k:∀ h,Rp G h₀ h o.st → codeAny (model V.prog V.w) V.A₀ c' V.R₀ ⟨h,⟨o.st.g⟩,V.d,G.t + o.st.i,V.os⟩) : PostOut V G b h₀ o:=by
  unfold PostOut
  rw [e]
  exact k
end
theorem ok_fn {w:World} {x:Sum} {fuel:Nat} {ω:List Nat} {sums:Nat → Nat → List Sum} (hlv:x.lv ≤ 500) (hs:∀ n T,∀ y ∈ sums n T,y.Ok (G0 w n T x.lv))
    (e:∀ n T g,(runFn (G0 w n T x.lv) fuel ω (sums n T) x.c (x.need.map fun y => (y.2.1,y.2.2.1)) g).Is (.done (x.r n T)) x.dm x.di g (x.need.map fun y => (y.2.1,y.2.2.2 n T)) (newsG n T x.news)) {n T lv:Nat} : x.Ok (G0 w n T lv):=by
  intro A b R s hd hu hh hb K hn nd ap post
  show codeAny (model P0 w) A x.c R s
  have I:=e s.heap.objs.size s.toks s.gens.toList
  generalize ho : runFn (G0 w s.heap.objs.size s.toks x.lv) fuel ω (sums s.heap.objs.size s.toks) x.c (x.need.map fun y => (y.2.1,y.2.2.1)) s.gens.toList = o at I
  have em : (x.need.map fun y => (y.2.1,y.2.2.1)).map (·.1) = x.need.map (·.2.1):=by rw [List.map_map]; rfl
  refine fn_run (lv:=x.lv) (H:={}) ho (hs _ _) I.good ⟨hd,hu,hh⟩ (by omega) hb ⟨fun p hp => ?_,by rw [em]; exact nd,K,fun p hp => ?_,fun b o e => ?_,fun p hp => .inl ?_⟩ rfl ?_
  · obtain ⟨y,hy,rfl⟩:=List.mem_map.mp hp
    exact hn y hy
  · obtain ⟨y,hy,rfl⟩:=List.mem_map.mp hp
    exact ap y hy
  · have:=Heap.lt_size e
    exact absurd this (Nat.not_lt_zero _)
  · cases q : ({} : Heap).get? p.1 with
    | none => rfl
    | some o => exact absurd (Heap.lt_size q) (Nat.not_lt_zero _)
  · refine post_done I.stop fun h D => ?_
    have q:=post h (by rw [D.size,I.m]; rfl) (fun b o e q => D.keep b o e (by show b ∉ List.map _ _; rw [em]; exact q)) (fun y hy => D.own (y.2.1,y.2.2.2 _ _) (I.S _ (List.mem_map.mpr ⟨y,hy,rfl⟩))) (fun p hp => D.own p (I.N p hp))
    rw [I.g,I.i]
    exact q
theorem ok_fn2 {w:World} {c:Code} {r:Addr → Tok → Result} {di dm lv₀:Nat} {need:Needs} {news:List (Nat × (Addr → Tok → Obj))} (rr:Nat → Nat → List GenState → Out) (fuel:Nat) (ω:List Nat) (sums:Nat → Nat → List Sum) (S:List (Addr × Obj)) (af nw:Nat → Nat → List (Addr × Obj)) (B:Nat → Nat → List (Bool × Bool)) (k:Nat) (ix:List Nat)
    (hrr:∀ n T g,rr n T g = runFn (G0 w n T lv₀) fuel ω (sums n T) c S g) (hS:S = need.map fun y => (y.2.1,y.2.2.1)) (haf:∀ n T,af n T = need.map fun y => (y.2.1,y.2.2.2 n T)) (hnw:∀ n T,nw n T = newsG n T news) (hlv:lv₀ ≤ 500)
    (hs:∀ n T,∀ y ∈ sums n T,y.Ok (G0 w n T lv₀)) (hB:∀ n T,∀ x ∈ B n T,x.1 = x.2)
    (e:∀ n T g,(rr n T g).L k ix = (rr n T g).R (B n T) (.done (r n T)) dm di g (af n T) (nw n T)) {n T lv:Nat} : Sum.Ok (G0 w n T lv) ⟨c,r,di,dm,need,news,lv₀⟩:=by
  subst hS
  refine ok_fn (fuel:=fuel) (ω:=ω) (sums:=sums) hlv hs fun n T g => ?_
  have z:=Out.is_of (e n T g) (hB n T)
  rw [haf,hnw,hrr] at z
  exact z
noncomputable def pickM {α : Type} : List Bool → List α → List α
  | [],l => l
  | _ :: _,[] => []
  | b :: bs,x :: l => match b with
    | true => x :: pickM bs l
    | false => pickM bs l
theorem pickM_sub {α : Type} : ∀ (bs:List Bool) (l:List α),(pickM bs l).Sublist l
  | [],l => List.Sublist.refl l
  | _ :: _,[] => List.Sublist.refl []
  | true :: bs,x :: l => (pickM_sub bs l).cons₂ x
  | false :: bs,x :: l => (pickM_sub bs l).cons x
noncomputable def Out.M (o:Out) (mk:List Bool):=(o.acc.a.map (·.1),o.acc.o.map (·.1),o.acc.c.map (·.1),o.acc.b,o.stop,(o.st.m,o.st.i,o.st.g),pickM mk o.st.S)
noncomputable def Out.N (o:Out) (B:List (Bool × Bool)) (p:Stop) (m i:Nat) (g:List GenState) (S:List (Addr × Obj)):=(o.acc.a.map (·.2),o.acc.o.map (·.2),o.acc.c.map (·.2),B,p,(m,i,g),S)
structure Out.Ends (o:Out) (p:Stop) (m i:Nat) (g:List GenState) (S:List (Addr × Obj)) : Prop where
  good : o.acc.Good
  stop : o.stop = p
  m : o.st.m = m
  i : o.st.i = i
  g : o.st.g = g
  S : S.Sublist o.st.S
theorem Out.ends_of {o:Out} {mk:List Bool} {B:List (Bool × Bool)} {p:Stop} {m i:Nat} {g:List GenState} {S:List (Addr × Obj)} (e:o.M mk = o.N B p m i g S) (hB:∀ x ∈ B,x.1 = x.2) : o.Ends p m i g S:=by
  unfold Out.M Out.N at e
  injection e with e1 e
  injection e with e2 e
  injection e with e3 e
  injection e with e4 e
  injection e with e5 e
  injection e with e6 e7
  injection e6 with f1 f2
  injection f2 with f2 f3
  refine ⟨⟨e1,e2,e3,?_⟩,e5,f1,f2,f3,?_⟩
  · rw [e4]
    exact List.map_congr_left hB
  · rw [← e7]
    exact pickM_sub _ _
structure Nx (w:World) (H:Heap) (s s':Shared) (m i:Nat) (S:List (Addr × Obj)) : Prop where
  hp : Hp w H s'.heap S
  gens : s'.gens = s.gens
  drawn : s'.drawn = s.drawn
  os : s'.os = s.os
  toks : s'.toks = s.toks + i
  size : s'.heap.objs.size = s.heap.objs.size + m
section
variable {w:World} {A:Around} {R:Result → Shared → Prop} {s:Shared} {b lv₀:Nat} {c:Code} {F:List (Addr × Obj)} {H:Heap} {m i:Nat}
theorem nx_of {o:Out} {p:Stop} {S S':List (Addr × Obj)} {n T:Nat} {h:Heap} (D:Hp w H s.heap (S ++ F)) (I:o.Ends p m i s.gens.toList S') (hn:s.heap.objs.size = n) (hT:s.toks = T) (D':Rp (G0 w n T lv₀) ⟨s.heap,S.map (·.1)⟩ h o.st) :
    Nx w H s ⟨h,⟨o.st.g⟩,s.drawn,T + o.st.i,s.os⟩ m i (S' ++ F):=by
  subst hn hT
  refine ⟨(D'.hp D).subl (I.S.append (List.Sublist.refl F)),?_,rfl,rfl,?_,?_⟩
  · show (⟨o.st.g⟩ : Array GenState) = s.gens
    rw [I.g]
  · show s.toks + o.st.i = _
    rw [I.i]
  · show h.objs.size = _
    rw [D'.size,I.m]; rfl
variable (rr:Nat → Nat → List GenState → Out) (fuel:Nat) (ω:List Nat) (sums:Nat → Nat → List Sum) (S:List (Addr × Obj)) (af:Nat → Nat → List (Addr × Obj)) (B:Nat → Nat → List (Bool × Bool)) (mk:List Bool)
theorem run_again {c':Code} (hrr:∀ n T g,rr n T g = runC (G0 w n T lv₀) fuel ω (sums n T) c S g) (hs:∀ n T,∀ y ∈ sums n T,y.Ok (G0 w n T lv₀)) (hB:∀ n T,∀ x ∈ B n T,x.1 = x.2)
    (e:∀ n T g,(rr n T g).M mk = (rr n T g).N (B n T) (.again c') m i g (af n T)) (hc:c.isCaller = false) (hlv:lv₀ ≤ 500) (L:Lv A b) (hb:b ≤ lv₀) (D:Hp w H s.heap (S ++ F))
    (post:∀ s',Nx w H s s' m i (af s.heap.objs.size s.toks ++ F) → codeAny (model P0 w) A c' R s') : codeAny (model P0 w) A c R s:=by
  have I:=Out.ends_of (e s.heap.objs.size s.toks s.gens.toList) (hB _ _)
  refine code_run (lv:=lv₀) (S:=S) (g:=s.gens.toList) (hrr _ _ _).symm hc (hs _ _) I.good L (by omega) hb (D.subl (List.sublist_append_left S F)) rfl ?_
  exact post_again I.stop fun h D' => post _ (nx_of D I rfl rfl D')
theorem run_done {r:Nat → Nat → Result} (hrr:∀ n T g,rr n T g = runC (G0 w n T lv₀) fuel ω (sums n T) c S g) (hs:∀ n T,∀ y ∈ sums n T,y.Ok (G0 w n T lv₀)) (hB:∀ n T,∀ x ∈ B n T,x.1 = x.2)
    (e:∀ n T g,(rr n T g).M mk = (rr n T g).N (B n T) (.done (r n T)) m i g (af n T)) (hc:c.isCaller = false) (hlv:lv₀ ≤ 500) (L:Lv A b) (hb:b ≤ lv₀) (D:Hp w H s.heap (S ++ F))
    (post:∀ s',Nx w H s s' m i (af s.heap.objs.size s.toks ++ F) → R (r s.heap.objs.size s.toks) s') : codeAny (model P0 w) A c R s:=by
  have I:=Out.ends_of (e s.heap.objs.size s.toks s.gens.toList) (hB _ _)
  refine code_run (lv:=lv₀) (S:=S) (g:=s.gens.toList) (hrr _ _ _).symm hc (hs _ _) I.good L (by omega) hb (D.subl (List.sublist_append_left S F)) rfl ?_
  exact post_done I.stop fun h D' => post _ (nx_of D I rfl rfl D')
theorem run_fn {r:Nat → Nat → Result} (hrr:∀ n T g,rr n T g = runFn (G0 w n T lv₀) fuel ω (sums n T) c S g) (hs:∀ n T,∀ y ∈ sums n T,y.Ok (G0 w n T lv₀)) (hB:∀ n T,∀ x ∈ B n T,x.1 = x.2)
    (e:∀ n T g,(rr n T g).M mk = (rr n T g).N (B n T) (.done (r n T)) m i g (af n T)) (hlv:lv₀ ≤ 500) (L:Lv A b) (hb:b ≤ lv₀) (D:Hp w H s.heap (S ++ F))
    (post:∀ s',Nx w H s s' m i (af s.heap.objs.size s.toks ++ F) → R (r s.heap.objs.size s.toks) s') : codeAny (model P0 w) A c R s:=by
  have I:=Out.ends_of (e s.heap.objs.size s.toks s.gens.toList) (hB _ _)
  refine fn_run (lv:=lv₀) (S:=S) (g:=s.gens.toList) (hrr _ _ _).symm (hs _ _) I.good L (by omega) hb (D.subl (List.sublist_append_left S F)) rfl ?_
  exact post_done I.stop fun h D' => post _ (nx_of D I rfl rfl D')
end
noncomputable def Out.isC (o:Out) : Bool:=match o.stop with
  | .call .. => match o.md with
    | .nrm => true
    | .fn => false
    | .seg _ => false
  | _ => false
noncomputable def Out.M3 (o:Out) (mk:List Bool):=(o.acc.a.map (·.1),o.acc.o.map (·.1),o.acc.c.map (·.1),o.acc.b,(o.isC,o.d,o.dk),(o.st.m,o.st.i,o.st.g),pickM mk o.st.S)
noncomputable def Out.N3 (o:Out) (B:List (Bool × Bool)) (c:Code) (dk m i:Nat) (g:List GenState) (S:List (Addr × Obj)):=(o.acc.a.map (·.2),o.acc.o.map (·.2),o.acc.c.map (·.2),B,(true,c,dk),(m,i,g),S)
structure Out.Stops (o:Out) (c:Code) (dk m i:Nat) (g:List GenState) (S:List (Addr × Obj)) : Prop where
  good : o.acc.Good
  isC : o.isC = true
  d : o.d = c
  dk : o.dk = dk
  m : o.st.m = m
  i : o.st.i = i
  g : o.st.g = g
  S : S.Sublist o.st.S
theorem Out.stops_of {o:Out} {mk:List Bool} {B:List (Bool × Bool)} {c:Code} {dk m i:Nat} {g:List GenState} {S:List (Addr × Obj)} (e:o.M3 mk = o.N3 B c dk m i g S) (hB:∀ x ∈ B,x.1 = x.2) : o.Stops c dk m i g S:=by
  unfold Out.M3 Out.N3 at e
  injection e with e1 e
  injection e with e2 e
  injection e with e3 e
  injection e with e4 e
  injection e with e5 e
  injection e with e6 e7
  injection e5 with d1 d2
  injection d2 with d2 d3
  injection e6 with f1 f2
  injection f2 with f2 f3
  refine ⟨⟨e1,e2,e3,?_⟩,d1,d2,d3,f1,f2,f3,?_⟩
  · rw [e4]
    exact List.map_congr_left hB
  · rw [← e7]
    exact pickM_sub _ _
theorem Out.Stops.ends {o:Out} {c:Code} {dk m i:Nat} {g:List GenState} {S:List (Addr × Obj)} (I:o.Stops c dk m i g S) : o.Ends o.stop m i g S:=⟨I.good,rfl,I.m,I.i,I.g,I.S⟩
section
variable {V:XV} {G:GP} {b:Nat} {h₀:Old} {o:Out}
theorem post_stop (e:o.isC = true)
    (k:∀ A h,A.frames = ((aroundOf V true o.κ).under o.c).frames → Lv A (b + o.dk) → o.c.isCaller = false → KOk o.κ (o.dk - wtC o.c) → Rp G h₀ h o.st → codeAny (model V.prog V.w) A o.d (fun r s' => Means V o.c none o.κ (o.k r) s') ⟨h,⟨o.st.g⟩,V.d,G.t + o.st.i,V.os⟩) : PostOut V G b h₀ o:=by
  obtain ⟨stop,c,md,κ,st,acc,dk⟩:=o
  cases stop with
  | call c' hd g l k' =>
    cases md with
    | nrm => exact k
    | fn => cases e
    | seg fs => cases e
  | bad n => cases e
  | done r => cases e
  | again c' => cases e
end
structure Cont (V:XV) (o:Out) (r:Result) (s:Shared) : Prop where
  run : Means V o.c none o.κ (o.k r) s
structure Mid (w:World) (V:XV) (b:Nat) (o:Out) (s:Shared) : Prop where
  prog : V.prog = P0
  world : V.w = w
  lv : Lv V.A₀ b
  caller : o.c.isCaller = false
  kok : KOk o.κ (o.dk - wtC o.c)
  drawn : s.drawn = V.d
  os : s.os = V.os
theorem Mid.nx {w:World} {V:XV} {b:Nat} {o:Out} {s s':Shared} (M:Mid w V b o s) (hd:s'.drawn = s.drawn) (ho:s'.os = s.os) : Mid w V b o s':=⟨M.prog,M.world,M.lv,M.caller,M.kok,hd.trans M.drawn,ho.trans M.os⟩
section
variable {w:World} {A:Around} {R:Result → Shared → Prop} {s:Shared} {b lv₀:Nat} {c:Code} {F:List (Addr × Obj)} {H:Heap} {m i dk:Nat}
variable (rr:Nat → Nat → List GenState → Out) (fuel:Nat) (ω:List Nat) (sums:Nat → Nat → List Sum) (S:List (Addr × Obj)) (af:Nat → Nat → List (Addr × Obj)) (B:Nat → Nat → List (Bool × Bool)) (mk:List Bool)
theorem run_fnS {c':Nat → Nat → Code} (hrr:∀ n T g,rr n T g = runFn (G0 w n T lv₀) fuel ω (sums n T) c S g) (hs:∀ n T,∀ y ∈ sums n T,y.Ok (G0 w n T lv₀)) (hB:∀ n T,∀ x ∈ B n T,x.1 = x.2)
    (e:∀ n T g,(rr n T g).M3 mk = (rr n T g).N3 (B n T) (c' n T) dk m i g (af n T)) (hlv:lv₀ ≤ 500) (L:Lv A b) (hb:b ≤ lv₀) (D:Hp w H s.heap (S ++ F))
    (post:∀ A' s',Lv A' (b + dk) → Nx w H s s' m i (af s.heap.objs.size s.toks ++ F) → Mid w (V0 w A R s) b (rr s.heap.objs.size s.toks s.gens.toList) s' →
      codeAny (model P0 w) A' (c' s.heap.objs.size s.toks) (fun r s'' => Cont (V0 w A R s) (rr s.heap.objs.size s.toks s.gens.toList) r s'') s') : codeAny (model P0 w) A c R s:=by
  have I:=Out.stops_of (e s.heap.objs.size s.toks s.gens.toList) (hB _ _)
  refine fn_run (lv:=lv₀) (S:=S) (g:=s.gens.toList) (hrr _ _ _).symm (hs _ _) I.good L (by omega) hb (D.subl (List.sublist_append_left S F)) rfl ?_
  refine post_stop I.isC fun A' h _ LA hc hκ D' => ?_
  rw [I.dk] at LA
  rw [I.d]
  exact codeAny_mono (post A' _ LA (nx_of D I.ends rfl rfl D') ⟨rfl,rfl,L,hc,hκ,rfl,rfl⟩) fun _ _ x => x.run
theorem run_codeS {c':Nat → Nat → Code} (hrr:∀ n T g,rr n T g = runC (G0 w n T lv₀) fuel ω (sums n T) c S g) (hs:∀ n T,∀ y ∈ sums n T,y.Ok (G0 w n T lv₀)) (hB:∀ n T,∀ x ∈ B n T,x.1 = x.2)
    (e:∀ n T g,(rr n T g).M3 mk = (rr n T g).N3 (B n T) (c' n T) dk m i g (af n T)) (hc:c.isCaller = false) (hlv:lv₀ ≤ 500) (L:Lv A b) (hb:b ≤ lv₀) (D:Hp w H s.heap (S ++ F))
    (post:∀ A' s',Lv A' (b + dk) → Nx w H s s' m i (af s.heap.objs.size s.toks ++ F) → Mid w (V0 w A R s) b (rr s.heap.objs.size s.toks s.gens.toList) s' →
      codeAny (model P0 w) A' (c' s.heap.objs.size s.toks) (fun r s'' => Cont (V0 w A R s) (rr s.heap.objs.size s.toks s.gens.toList) r s'') s') : codeAny (model P0 w) A c R s:=by
  have I:=Out.stops_of (e s.heap.objs.size s.toks s.gens.toList) (hB _ _)
  refine code_run (lv:=lv₀) (S:=S) (g:=s.gens.toList) (hrr _ _ _).symm hc (hs _ _) I.good L (by omega) hb (D.subl (List.sublist_append_left S F)) rfl ?_
  refine post_stop I.isC fun A' h _ LA hc hκ D' => ?_
  rw [I.dk] at LA
  rw [I.d]
  exact codeAny_mono (post A' _ LA (nx_of D I.ends rfl rfl D') ⟨rfl,rfl,L,hc,hκ,rfl,rfl⟩) fun _ _ x => x.run
noncomputable def runK (w:World) (n T lv:Nat) (fuel:Nat) (ω:List Nat) (sums:List Sum) (o:Out) (r:Result) (S:List (Addr × Obj)) (g:List GenState) : Out :=
  gx (G0 w n T lv) fuel ω sums o.c .nrm o.κ (o.dk - wtC o.c) (o.k r) ⟨S,0,0,g⟩ ⟨[],[],[],[]⟩
theorem nx_of' {o:Out} {p:Stop} {S S':List (Addr × Obj)} {n T:Nat} {h:Heap} {V:XV} (hd:s.drawn = V.d) (hos:s.os = V.os) (D:Hp w H s.heap (S ++ F)) (I:o.Ends p m i s.gens.toList S') (hn:s.heap.objs.size = n) (hT:s.toks = T) (D':Rp (G0 w n T lv₀) ⟨s.heap,S.map (·.1)⟩ h o.st) :
    Nx w H s ⟨h,⟨o.st.g⟩,V.d,T + o.st.i,V.os⟩ m i (S' ++ F):=by
  rw [← hd,← hos]
  exact nx_of D I hn hT D'
theorem run_K {V:XV} {o:Out} {r₀:Result} {r:Nat → Nat → Result} (M:Mid w V b o s) (hrr:∀ n T g,rr n T g = runK w n T lv₀ fuel ω (sums n T) o r₀ S g) (hs:∀ n T,∀ y ∈ sums n T,y.Ok (G0 w n T lv₀)) (hB:∀ n T,∀ x ∈ B n T,x.1 = x.2)
    (e:∀ n T g,(rr n T g).M mk = (rr n T g).N (B n T) (.done (r n T)) m i g (af n T)) (hlv:lv₀ ≤ 500) (hb:b ≤ lv₀) (D:Hp w H s.heap (S ++ F))
    (post:∀ s',Nx w H s s' m i (af s.heap.objs.size s.toks ++ F) → V.R₀ (r s.heap.objs.size s.toks) s') : Cont V o r₀ s:=by
  have I:=Out.ends_of (e s.heap.objs.size s.toks s.gens.toList) (hB _ _)
  refine ⟨?_⟩
  refine cont_run (w:=w) (lv:=lv₀) (S:=S) (g:=s.gens.toList) (dk:=o.dk - wtC o.c) (hrr _ _ _).symm M.caller M.kok (hs _ _) I.good M.prog M.world M.lv (by omega) hb (D.subl (List.sublist_append_left S F)) rfl M.drawn M.os ?_
  exact post_done I.stop fun h D' => post _ (nx_of' M.drawn M.os D I rfl rfl D')
theorem run_KA {V:XV} {o:Out} {r₀:Result} {c':Code} (M:Mid w V b o s) (hrr:∀ n T g,rr n T g = runK w n T lv₀ fuel ω (sums n T) o r₀ S g) (hs:∀ n T,∀ y ∈ sums n T,y.Ok (G0 w n T lv₀)) (hB:∀ n T,∀ x ∈ B n T,x.1 = x.2)
    (e:∀ n T g,(rr n T g).M mk = (rr n T g).N (B n T) (.again c') m i g (af n T)) (hlv:lv₀ ≤ 500) (hb:b ≤ lv₀) (D:Hp w H s.heap (S ++ F))
    (post:∀ s',Nx w H s s' m i (af s.heap.objs.size s.toks ++ F) → codeAny (model P0 w) V.A₀ c' V.R₀ s') : Cont V o r₀ s:=by
  have I:=Out.ends_of (e s.heap.objs.size s.toks s.gens.toList) (hB _ _)
  refine ⟨?_⟩
  refine cont_run (w:=w) (lv:=lv₀) (S:=S) (g:=s.gens.toList) (dk:=o.dk - wtC o.c) (hrr _ _ _).symm M.caller M.kok (hs _ _) I.good M.prog M.world M.lv (by omega) hb (D.subl (List.sublist_append_left S F)) rfl M.drawn M.os ?_
  refine post_again I.stop fun h D' => ?_
  rw [M.prog,M.world]
  exact post _ (nx_of' M.drawn M.os D I rfl rfl D')
theorem run_KS {V:XV} {o:Out} {r₀:Result} {c':Nat → Nat → Code} (M:Mid w V b o s) (hrr:∀ n T g,rr n T g = runK w n T lv₀ fuel ω (sums n T) o r₀ S g) (hs:∀ n T,∀ y ∈ sums n T,y.Ok (G0 w n T lv₀)) (hB:∀ n T,∀ x ∈ B n T,x.1 = x.2)
    (e:∀ n T g,(rr n T g).M3 mk = (rr n T g).N3 (B n T) (c' n T) dk m i g (af n T)) (hlv:lv₀ ≤ 500) (hb:b ≤ lv₀) (D:Hp w H s.heap (S ++ F))
    (post:∀ A' s',Lv A' (b + dk) → Nx w H s s' m i (af s.heap.objs.size s.toks ++ F) → Mid w V b (rr s.heap.objs.size s.toks s.gens.toList) s' →
      codeAny (model P0 w) A' (c' s.heap.objs.size s.toks) (fun r s'' => Cont V (rr s.heap.objs.size s.toks s.gens.toList) r s'') s') : Cont V o r₀ s:=by
  have I:=Out.stops_of (e s.heap.objs.size s.toks s.gens.toList) (hB _ _)
  refine ⟨?_⟩
  refine cont_run (w:=w) (lv:=lv₀) (S:=S) (g:=s.gens.toList) (dk:=o.dk - wtC o.c) (hrr _ _ _).symm M.caller M.kok (hs _ _) I.good M.prog M.world M.lv (by omega) hb (D.subl (List.sublist_append_left S F)) rfl M.drawn M.os ?_
  refine post_stop I.isC fun A' h _ LA hc hκ D' => ?_
  rw [I.dk] at LA
  rw [I.d,M.prog,M.world]
  exact codeAny_mono (post A' _ LA (nx_of' M.drawn M.os D I.ends rfl rfl D') ⟨M.prog,M.world,M.lv,hc,hκ,rfl,rfl⟩) fun _ _ x => x.run
end
noncomputable def runT (w:World) (n T lv fuel:Nat) (ω:List Nat) (sums:List Sum) (c:Code) (t:Sem Fin) (S:List (Addr × Obj)) (g:List GenState) : Out:=gx (G0 w n T lv) fuel ω sums c .nrm .base 0 t ⟨S,0,0,g⟩ ⟨[],[],[],[]⟩
noncomputable def framesK : Kont → List Env
  | .ret c _ _ κ => c.envs ++ framesK κ
  | _ => []
noncomputable def Out.fr (o:Out) : List Env:=o.c.envs ++ framesK o.κ
theorem frames_under {A:Around} {c:Code} {F:List Env} (h:A.frames = some F) : (A.under c).frames = some (c.envs ++ F):=by
  show pushEnvs c.envs A.frames = _
  rw [pushEnvs_eq,h]; rfl
theorem frames_of {V:XV} {F:List Env} (h:V.A₀.frames = some F) : ∀ {κ:Kont} {dk:Nat},KOk κ dk → (∀ g c k κ',κ ≠ .gen g c k κ') → (aroundOf V true κ).frames = some (framesK κ ++ F)
  | .base,_,_,_ => h
  | .ret c hd k κ,dk,hk,_ => by
    show (((aroundOf V true κ).under c).mark hd).frames = _
    have z : (aroundOf V true κ).frames = some (framesK κ ++ F):=by
      cases κ with
      | gen g c' k' κ' => exact h
      | base => exact h
      | genS => exact hk.2.2.elim
      | ret c' hd' k' κ' => exact frames_of h (κ:=.ret c' hd' k' κ') hk.2.2 (fun _ _ _ _ e => nomatch e)
    show ((aroundOf V true κ).under c).frames = _
    rw [frames_under z]
    show _ = some ((c.envs ++ framesK κ) ++ F)
    rw [List.append_assoc]
  | .gen ..,_,_,hn => absurd rfl (hn _ _ _ _)
  | .genS ..,_,h,_ => h.elim
noncomputable def plainK : Kont → Bool
  | .ret _ _ _ κ => plainK κ
  | .base => true
  | _ => false
theorem frames_stop {V:XV} {o:Out} {F:List Env} {A:Around} {dk:Nat} (h:V.A₀.frames = some F) (hk:KOk o.κ dk) (hA:A.frames = ((aroundOf V true o.κ).under o.c).frames) (hp:plainK o.κ = true) : A.frames = some (o.fr ++ F):=by
  rw [hA,frames_under (frames_of h hk fun g c k κ' e => by rw [e] at hp; cases hp)]
  show _ = some ((o.c.envs ++ framesK o.κ) ++ F)
  rw [List.append_assoc]
section
variable {w:World} {A:Around} {R:Result → Shared → Prop} {s:Shared} {b lv₀:Nat} {c:Code} {F:List (Addr × Obj)} {H:Heap} {m i dk:Nat}
variable (rr:Nat → Nat → List GenState → Out) (fuel:Nat) (ω:List Nat) (sums:Nat → Nat → List Sum) (S:List (Addr × Obj)) (af:Nat → Nat → List (Addr × Obj)) (B:Nat → Nat → List (Bool × Bool)) (mk:List Bool)
theorem run_fnSF {c':Nat → Nat → Code} {fr:Nat → Nat → List Env} (hrr:∀ n T g,rr n T g = runFn (G0 w n T lv₀) fuel ω (sums n T) c S g) (hs:∀ n T,∀ y ∈ sums n T,y.Ok (G0 w n T lv₀)) (hB:∀ n T,∀ x ∈ B n T,x.1 = x.2)
    (e:∀ n T g,(rr n T g).M3 mk = (rr n T g).N3 (B n T) (c' n T) dk m i g (af n T)) (ef:∀ n T g,((rr n T g).fr,plainK (rr n T g).κ) = (fr n T,true)) (hlv:lv₀ ≤ 500) (L:Lv A b) (hb:b ≤ lv₀) (D:Hp w H s.heap (S ++ F))
    (post:∀ A' s',(∀ F,A.frames = some F → A'.frames = some (fr s.heap.objs.size s.toks ++ F)) → Lv A' (b + dk) → Nx w H s s' m i (af s.heap.objs.size s.toks ++ F) → Mid w (V0 w A R s) b (rr s.heap.objs.size s.toks s.gens.toList) s' →
      codeAny (model P0 w) A' (c' s.heap.objs.size s.toks) (fun r s'' => Cont (V0 w A R s) (rr s.heap.objs.size s.toks s.gens.toList) r s'') s') : codeAny (model P0 w) A c R s:=by
  have I:=Out.stops_of (e s.heap.objs.size s.toks s.gens.toList) (hB _ _)
  have e2:=Prod.mk.inj (ef s.heap.objs.size s.toks s.gens.toList)
  refine fn_run (lv:=lv₀) (S:=S) (g:=s.gens.toList) (hrr _ _ _).symm (hs _ _) I.good L (by omega) hb (D.subl (List.sublist_append_left S F)) rfl ?_
  refine post_stop I.isC fun A' h hf LA hc hκ D' => ?_
  rw [I.dk] at LA
  rw [I.d]
  exact codeAny_mono (post A' _ (fun F q => e2.1 ▸ frames_stop (V:=V0 w A R s) q hκ hf e2.2) LA (nx_of D I.ends rfl rfl D') ⟨rfl,rfl,L,hc,hκ,rfl,rfl⟩) fun _ _ x => x.run
theorem run_codeSF {c':Nat → Nat → Code} {fr:Nat → Nat → List Env} (hrr:∀ n T g,rr n T g = runC (G0 w n T lv₀) fuel ω (sums n T) c S g) (hs:∀ n T,∀ y ∈ sums n T,y.Ok (G0 w n T lv₀)) (hB:∀ n T,∀ x ∈ B n T,x.1 = x.2)
    (e:∀ n T g,(rr n T g).M3 mk = (rr n T g).N3 (B n T) (c' n T) dk m i g (af n T)) (ef:∀ n T g,((rr n T g).fr,plainK (rr n T g).κ) = (fr n T,true)) (hc:c.isCaller = false) (hlv:lv₀ ≤ 500) (L:Lv A b) (hb:b ≤ lv₀) (D:Hp w H s.heap (S ++ F))
    (post:∀ A' s',(∀ F,A.frames = some F → A'.frames = some (fr s.heap.objs.size s.toks ++ F)) → Lv A' (b + dk) → Nx w H s s' m i (af s.heap.objs.size s.toks ++ F) → Mid w (V0 w A R s) b (rr s.heap.objs.size s.toks s.gens.toList) s' →
      codeAny (model P0 w) A' (c' s.heap.objs.size s.toks) (fun r s'' => Cont (V0 w A R s) (rr s.heap.objs.size s.toks s.gens.toList) r s'') s') : codeAny (model P0 w) A c R s:=by
  have I:=Out.stops_of (e s.heap.objs.size s.toks s.gens.toList) (hB _ _)
  have e2:=Prod.mk.inj (ef s.heap.objs.size s.toks s.gens.toList)
  refine code_run (lv:=lv₀) (S:=S) (g:=s.gens.toList) (hrr _ _ _).symm hc (hs _ _) I.good L (by omega) hb (D.subl (List.sublist_append_left S F)) rfl ?_
  refine post_stop I.isC fun A' h hf LA hc hκ D' => ?_
  rw [I.dk] at LA
  rw [I.d]
  exact codeAny_mono (post A' _ (fun F q => e2.1 ▸ frames_stop (V:=V0 w A R s) q hκ hf e2.2) LA (nx_of D I.ends rfl rfl D') ⟨rfl,rfl,L,hc,hκ,rfl,rfl⟩) fun _ _ x => x.run
theorem run_KSF {V:XV} {o:Out} {r₀:Result} {c':Nat → Nat → Code} {fr:Nat → Nat → List Env} (M:Mid w V b o s) (hrr:∀ n T g,rr n T g = runK w n T lv₀ fuel ω (sums n T) o r₀ S g) (hs:∀ n T,∀ y ∈ sums n T,y.Ok (G0 w n T lv₀)) (hB:∀ n T,∀ x ∈ B n T,x.1 = x.2)
    (e:∀ n T g,(rr n T g).M3 mk = (rr n T g).N3 (B n T) (c' n T) dk m i g (af n T)) (ef:∀ n T g,((rr n T g).fr,plainK (rr n T g).κ) = (fr n T,true)) (hlv:lv₀ ≤ 500) (hb:b ≤ lv₀) (D:Hp w H s.heap (S ++ F))
    (post:∀ A' s',(∀ F,V.A₀.frames = some F → A'.frames = some (fr s.heap.objs.size s.toks ++ F)) → Lv A' (b + dk) → Nx w H s s' m i (af s.heap.objs.size s.toks ++ F) → Mid w V b (rr s.heap.objs.size s.toks s.gens.toList) s' →
      codeAny (model P0 w) A' (c' s.heap.objs.size s.toks) (fun r s'' => Cont V (rr s.heap.objs.size s.toks s.gens.toList) r s'') s') : Cont V o r₀ s:=by
  have I:=Out.stops_of (e s.heap.objs.size s.toks s.gens.toList) (hB _ _)
  have e2:=Prod.mk.inj (ef s.heap.objs.size s.toks s.gens.toList)
  refine ⟨?_⟩
  refine cont_run (w:=w) (lv:=lv₀) (S:=S) (g:=s.gens.toList) (dk:=o.dk - wtC o.c) (hrr _ _ _).symm M.caller M.kok (hs _ _) I.good M.prog M.world M.lv (by omega) hb (D.subl (List.sublist_append_left S F)) rfl M.drawn M.os ?_
  refine post_stop I.isC fun A' h hf LA hc hκ D' => ?_
  rw [I.dk] at LA
  rw [I.d,M.prog,M.world]
  exact codeAny_mono (post A' _ (fun F q => e2.1 ▸ frames_stop (V:=V) q hκ hf e2.2) LA (nx_of' M.drawn M.os D I.ends rfl rfl D') ⟨M.prog,M.world,M.lv,hc,hκ,rfl,rfl⟩) fun _ _ x => x.run
noncomputable def G1 (w:World) (n t b:Nat) : GP:=⟨den0,kt0 w.params,w,n,t,b,true⟩
noncomputable def runE (w:World) (n T lv fuel:Nat) (ω:List Nat) (c:Code) (S:List (Addr × Obj)) (g:List GenState) : Out:=runFn (G1 w n T lv) fuel ω [] c S g
theorem run_E {c':Nat → Nat → Code} (hrr:∀ n T g,rr n T g = runE w n T lv₀ fuel ω c S g) (hB:∀ n T,∀ x ∈ B n T,x.1 = x.2)
    (e:∀ n T g,(rr n T g).M mk = (rr n T g).N (B n T) (.again (c' n T)) m i g (af n T)) (hlv:lv₀ ≤ 500) (L:Lv A b) (hb:b ≤ lv₀) (D:Hp w H s.heap (S ++ F))
    (post:∀ s',Nx w H s s' m i (af s.heap.objs.size s.toks ++ F) → codeAny (model P0 w) A (c' s.heap.objs.size s.toks) R s') : codeAny (model P0 w) A c R s:=by
  have I:=Out.ends_of (e s.heap.objs.size s.toks s.gens.toList) (hB _ _)
  have e0:=(hrr s.heap.objs.size s.toks s.gens.toList).symm
  unfold runE runFn at e0
  cases f : fnOf (G1 w s.heap.objs.size s.toks lv₀).kt c with
  | none =>
    rw [f] at e0
    have:=I.stop
    rw [← e0] at this
    cases this
  | some t =>
    rw [f] at e0
    obtain ⟨a,args,oc,od,fd,sl,rfl,qa,g1,g2,rfl⟩:=fnOf_parts f
    have D0:=D.subl (List.sublist_append_left S F)
    have D1:=D0.rp (n:=s.heap.objs.size) (T:=s.toks) (lv:=lv₀) rfl 0 s.gens.toList
    have z:=gx_sound (V:=V0 w A R s) (G:=G1 w s.heap.objs.size s.toks lv₀) (b:=b) den0_eq (fun h H => noLimit0 _ H) rfl rfl L (by omega) hb fuel _ _ _ _ _ _ _ _ _ ⟨s.heap,S.map (·.1)⟩ _ e0 (fun _ h => nomatch h) rfl trivial I.good
      (post_again I.stop fun h D' => post _ (nx_of (lv₀:=lv₀) D I rfl rfl ⟨D'.size,D'.own,D'.nd,D'.base,D'.apart,D'.keep,D'.new,D'.le⟩))
    have j:=z.2 s.heap ⟨D1.size,D1.own,D1.nd,D1.base,D1.apart,D1.keep,D1.new,D1.le⟩
    have es : (⟨s.heap,⟨s.gens.toList⟩,(V0 w A R s).d,(G1 w s.heap.objs.size s.toks lv₀).t + 0,(V0 w A R s).os⟩ : Shared) = s:=rfl
    rw [es] at j
    have hd:=L.depth
    exact y_code _ _ _ _ _ _ (fn_enter (V:=V0 w A R s) (κ:=.base) (holds_at D0.base qa) g1 g2 (by show A.depth < 1000; omega) j)
noncomputable def partT (t:Sem Flow) : Sem Fin:=Sem.bind t fun f => .pure (.done f)
theorem own_part {V:XV} {t:Sem Flow} (x:Means V c none .base (partT t) s) : wpOwn (model V.prog V.w) V.A₀ c t (fun f s' => V.R₀ (.ok f) s') (fun e s' => V.R₀ (.error e) s') s:=by
  intro Γ p hc hΓ
  have z:=x Γ p hc hΓ
  unfold partT at z
  change Sem.wp _ Γ (t >>= fun f => _) _ _ p s at z
  rw [Sem.wp_bind'] at z
  exact z
theorem run_P {t:Sem Flow} {r:Nat → Nat → Result} (hrr:∀ n T g,rr n T g = runT w n T lv₀ fuel ω (sums n T) c (partT t) S g) (hs:∀ n T,∀ y ∈ sums n T,y.Ok (G0 w n T lv₀)) (hB:∀ n T,∀ x ∈ B n T,x.1 = x.2)
    (e:∀ n T g,(rr n T g).M mk = (rr n T g).N (B n T) (.done (r n T)) m i g (af n T)) (hc:c.isCaller = false) (hlv:lv₀ ≤ 500) (L:Lv A b) (hb:b ≤ lv₀) (D:Hp w H s.heap (S ++ F))
    (post:∀ s',Nx w H s s' m i (af s.heap.objs.size s.toks ++ F) → R (r s.heap.objs.size s.toks) s') : wpOwn (model P0 w) A c t (fun f s' => R (.ok f) s') (fun e s' => R (.error e) s') s:=by
  have I:=Out.ends_of (e s.heap.objs.size s.toks s.gens.toList) (hB _ _)
  refine own_part (V:=V0 w A R s) ?_
  refine cont_run (w:=w) (V:=V0 w A R s) (lv:=lv₀) (S:=S) (g:=s.gens.toList) (dk:=0) (hrr _ _ _).symm hc trivial (hs _ _) I.good rfl rfl L (by omega) hb (D.subl (List.sublist_append_left S F)) rfl rfl rfl ?_
  exact post_done I.stop fun h D' => post _ (nx_of D I rfl rfl D')
theorem run_PS {t:Sem Flow} {c':Nat → Nat → Code} (hrr:∀ n T g,rr n T g = runT w n T lv₀ fuel ω (sums n T) c (partT t) S g) (hs:∀ n T,∀ y ∈ sums n T,y.Ok (G0 w n T lv₀)) (hB:∀ n T,∀ x ∈ B n T,x.1 = x.2)
    (e:∀ n T g,(rr n T g).M3 mk = (rr n T g).N3 (B n T) (c' n T) dk m i g (af n T)) (hc:c.isCaller = false) (hlv:lv₀ ≤ 500) (L:Lv A b) (hb:b ≤ lv₀) (D:Hp w H s.heap (S ++ F))
    (post:∀ A' s',Lv A' (b + dk) → Nx w H s s' m i (af s.heap.objs.size s.toks ++ F) → Mid w (V0 w A R s) b (rr s.heap.objs.size s.toks s.gens.toList) s' →
      codeAny (model P0 w) A' (c' s.heap.objs.size s.toks) (fun r s'' => Cont (V0 w A R s) (rr s.heap.objs.size s.toks s.gens.toList) r s'') s') : wpOwn (model P0 w) A c t (fun f s' => R (.ok f) s') (fun e s' => R (.error e) s') s:=by
  have I:=Out.stops_of (e s.heap.objs.size s.toks s.gens.toList) (hB _ _)
  refine own_part (V:=V0 w A R s) ?_
  refine cont_run (w:=w) (V:=V0 w A R s) (lv:=lv₀) (S:=S) (g:=s.gens.toList) (dk:=0) (hrr _ _ _).symm hc trivial (hs _ _) I.good rfl rfl L (by omega) hb (D.subl (List.sublist_append_left S F)) rfl rfl rfl ?_
  refine post_stop I.isC fun A' h _ LA hc hκ D' => ?_
  rw [I.dk] at LA
  rw [I.d]
  exact codeAny_mono (post A' _ LA (nx_of D I.ends rfl rfl D') ⟨rfl,rfl,L,hc,hκ,rfl,rfl⟩) fun _ _ x => x.run
end
end Mine
end
noncomputable section
open PySem PySem.W PySem.W.X PyProof.Rows PySem.Calls
set_option maxRecDepth 100000
set_option maxHeartbeats 0
namespace Mine
theorem nm {α : Type} {a:α} {P:Prop} (h:a ∈ ([] : List α)) : P:=nomatch h
section
variable {w:World} {lv₀:Nat} {c:Code} {m i dk:Nat} {rr:Nat → Nat → List GenState → Out} {fuel:Nat} {ω:List Nat} {sums:Nat → Nat → List Sum} {S:List (Addr × Obj)} {af:Nat → Nat → List (Addr × Obj)} {B:Nat → Nat → List (Bool × Bool)} {mk:List Bool} {o:Out} {r₀:Result}
theorem mkA {c':Code} (e:∀ n T g,(rr n T g).M mk = (rr n T g).N (B n T) (.again c') m i g (af n T)) (hrr:∀ n T g,rr n T g = runC (G0 w n T lv₀) fuel ω (sums n T) c S g) (hc:c.isCaller = false) (hlv:lv₀ ≤ 500) ⦃A_:Around⦄ ⦃R_:Result → Shared → Prop⦄ ⦃s_:Shared⦄ ⦃v_:Nat⦄ ⦃F_:List (Addr × Obj)⦄ ⦃H_:Heap⦄
    (hs_:∀ n T,∀ y ∈ sums n T,y.Ok (G0 w n T lv₀)) (hB_:∀ n T,∀ x ∈ B n T,x.1 = x.2) (hL_:Lv A_ v_) (hv_:v_ ≤ lv₀) (D_:Hp w H_ s_.heap (S ++ F_)) (post_:∀ s',Nx w H_ s_ s' m i (af s_.heap.objs.size s_.toks ++ F_) → codeAny (model P0 w) A_ c' R_ s') : codeAny (model P0 w) A_ c R_ s_ :=
  run_again rr fuel ω sums S af B mk hrr hs_ hB_ e hc hlv hL_ hv_ D_ post_
theorem mkD {r:Nat → Nat → Result} (e:∀ n T g,(rr n T g).M mk = (rr n T g).N (B n T) (.done (r n T)) m i g (af n T)) (hrr:∀ n T g,rr n T g = runC (G0 w n T lv₀) fuel ω (sums n T) c S g) (hc:c.isCaller = false) (hlv:lv₀ ≤ 500) ⦃A_:Around⦄ ⦃R_:Result → Shared → Prop⦄ ⦃s_:Shared⦄ ⦃v_:Nat⦄ ⦃F_:List (Addr × Obj)⦄ ⦃H_:Heap⦄
    (hs_:∀ n T,∀ y ∈ sums n T,y.Ok (G0 w n T lv₀)) (hB_:∀ n T,∀ x ∈ B n T,x.1 = x.2) (hL_:Lv A_ v_) (hv_:v_ ≤ lv₀) (D_:Hp w H_ s_.heap (S ++ F_)) (post_:∀ s',Nx w H_ s_ s' m i (af s_.heap.objs.size s_.toks ++ F_) → R_ (r s_.heap.objs.size s_.toks) s') : codeAny (model P0 w) A_ c R_ s_ :=
  run_done rr fuel ω sums S af B mk hrr hs_ hB_ e hc hlv hL_ hv_ D_ post_
theorem mkFS {c':Nat → Nat → Code} (e:∀ n T g,(rr n T g).M3 mk = (rr n T g).N3 (B n T) (c' n T) dk m i g (af n T)) (hrr:∀ n T g,rr n T g = runFn (G0 w n T lv₀) fuel ω (sums n T) c S g) (hlv:lv₀ ≤ 500) ⦃A_:Around⦄ ⦃R_:Result → Shared → Prop⦄ ⦃s_:Shared⦄ ⦃v_:Nat⦄ ⦃F_:List (Addr × Obj)⦄ ⦃H_:Heap⦄
    (hs_:∀ n T,∀ y ∈ sums n T,y.Ok (G0 w n T lv₀)) (hB_:∀ n T,∀ x ∈ B n T,x.1 = x.2) (hL_:Lv A_ v_) (hv_:v_ ≤ lv₀) (D_:Hp w H_ s_.heap (S ++ F_)) (post_:∀ A' s',Lv A' (v_ + dk) → Nx w H_ s_ s' m i (af s_.heap.objs.size s_.toks ++ F_) → Mid w (V0 w A_ R_ s_) v_ (rr s_.heap.objs.size s_.toks s_.gens.toList) s' → codeAny (model P0 w) A' (c' s_.heap.objs.size s_.toks) (fun r s'' => Cont (V0 w A_ R_ s_) (rr s_.heap.objs.size s_.toks s_.gens.toList) r s'') s') : codeAny (model P0 w) A_ c R_ s_ :=
  run_fnS rr fuel ω sums S af B mk hrr hs_ hB_ e hlv hL_ hv_ D_ post_
theorem mkCS {c':Nat → Nat → Code} (e:∀ n T g,(rr n T g).M3 mk = (rr n T g).N3 (B n T) (c' n T) dk m i g (af n T)) (hrr:∀ n T g,rr n T g = runC (G0 w n T lv₀) fuel ω (sums n T) c S g) (hc:c.isCaller = false) (hlv:lv₀ ≤ 500) ⦃A_:Around⦄ ⦃R_:Result → Shared → Prop⦄ ⦃s_:Shared⦄ ⦃v_:Nat⦄ ⦃F_:List (Addr × Obj)⦄ ⦃H_:Heap⦄
    (hs_:∀ n T,∀ y ∈ sums n T,y.Ok (G0 w n T lv₀)) (hB_:∀ n T,∀ x ∈ B n T,x.1 = x.2) (hL_:Lv A_ v_) (hv_:v_ ≤ lv₀) (D_:Hp w H_ s_.heap (S ++ F_)) (post_:∀ A' s',Lv A' (v_ + dk) → Nx w H_ s_ s' m i (af s_.heap.objs.size s_.toks ++ F_) → Mid w (V0 w A_ R_ s_) v_ (rr s_.heap.objs.size s_.toks s_.gens.toList) s' → codeAny (model P0 w) A' (c' s_.heap.objs.size s_.toks) (fun r s'' => Cont (V0 w A_ R_ s_) (rr s_.heap.objs.size s_.toks s_.gens.toList) r s'') s') : codeAny (model P0 w) A_ c R_ s_ :=
  run_codeS rr fuel ω sums S af B mk hrr hs_ hB_ e hc hlv hL_ hv_ D_ post_
theorem mkFSF {c':Nat → Nat → Code} {fr:Nat → Nat → List Env} (e:∀ n T g,(rr n T g).M3 mk = (rr n T g).N3 (B n T) (c' n T) dk m i g (af n T)) (ef:∀ n T g,((rr n T g).fr,plainK (rr n T g).κ) = (fr n T,true)) (hrr:∀ n T g,rr n T g = runFn (G0 w n T lv₀) fuel ω (sums n T) c S g) (hlv:lv₀ ≤ 500) ⦃A_:Around⦄ ⦃R_:Result → Shared → Prop⦄ ⦃s_:Shared⦄ ⦃v_:Nat⦄ ⦃F_:List (Addr × Obj)⦄ ⦃H_:Heap⦄
    (hs_:∀ n T,∀ y ∈ sums n T,y.Ok (G0 w n T lv₀)) (hB_:∀ n T,∀ x ∈ B n T,x.1 = x.2) (hL_:Lv A_ v_) (hv_:v_ ≤ lv₀) (D_:Hp w H_ s_.heap (S ++ F_)) (post_:∀ A' s',(∀ F,A_.frames = some F → A'.frames = some (fr s_.heap.objs.size s_.toks ++ F)) → Lv A' (v_ + dk) → Nx w H_ s_ s' m i (af s_.heap.objs.size s_.toks ++ F_) → Mid w (V0 w A_ R_ s_) v_ (rr s_.heap.objs.size s_.toks s_.gens.toList) s' → codeAny (model P0 w) A' (c' s_.heap.objs.size s_.toks) (fun r s'' => Cont (V0 w A_ R_ s_) (rr s_.heap.objs.size s_.toks s_.gens.toList) r s'') s') : codeAny (model P0 w) A_ c R_ s_ :=
  run_fnSF rr fuel ω sums S af B mk hrr hs_ hB_ e ef hlv hL_ hv_ D_ post_
theorem mkCSF {c':Nat → Nat → Code} {fr:Nat → Nat → List Env} (e:∀ n T g,(rr n T g).M3 mk = (rr n T g).N3 (B n T) (c' n T) dk m i g (af n T)) (ef:∀ n T g,((rr n T g).fr,plainK (rr n T g).κ) = (fr n T,true)) (hrr:∀ n T g,rr n T g = runC (G0 w n T lv₀) fuel ω (sums n T) c S g) (hc:c.isCaller = false) (hlv:lv₀ ≤ 500) ⦃A_:Around⦄ ⦃R_:Result → Shared → Prop⦄ ⦃s_:Shared⦄ ⦃v_:Nat⦄ ⦃F_:List (Addr × Obj)⦄ ⦃H_:Heap⦄
    (hs_:∀ n T,∀ y ∈ sums n T,y.Ok (G0 w n T lv₀)) (hB_:∀ n T,∀ x ∈ B n T,x.1 = x.2) (hL_:Lv A_ v_) (hv_:v_ ≤ lv₀) (D_:Hp w H_ s_.heap (S ++ F_)) (post_:∀ A' s',(∀ F,A_.frames = some F → A'.frames = some (fr s_.heap.objs.size s_.toks ++ F)) → Lv A' (v_ + dk) → Nx w H_ s_ s' m i (af s_.heap.objs.size s_.toks ++ F_) → Mid w (V0 w A_ R_ s_) v_ (rr s_.heap.objs.size s_.toks s_.gens.toList) s' → codeAny (model P0 w) A' (c' s_.heap.objs.size s_.toks) (fun r s'' => Cont (V0 w A_ R_ s_) (rr s_.heap.objs.size s_.toks s_.gens.toList) r s'') s') : codeAny (model P0 w) A_ c R_ s_ :=
  run_codeSF rr fuel ω sums S af B mk hrr hs_ hB_ e ef hc hlv hL_ hv_ D_ post_
theorem mkK {r:Nat → Nat → Result} (e:∀ n T g,(rr n T g).M mk = (rr n T g).N (B n T) (.done (r n T)) m i g (af n T)) (hrr:∀ n T g,rr n T g = runK w n T lv₀ fuel ω (sums n T) o r₀ S g) (hlv:lv₀ ≤ 500) ⦃s_:Shared⦄ ⦃v_:Nat⦄ ⦃F_:List (Addr × Obj)⦄ ⦃H_:Heap⦄ ⦃V_:XV⦄
    (hs_:∀ n T,∀ y ∈ sums n T,y.Ok (G0 w n T lv₀)) (hB_:∀ n T,∀ x ∈ B n T,x.1 = x.2) (M_:Mid w V_ v_ o s_) (hv_:v_ ≤ lv₀) (D_:Hp w H_ s_.heap (S ++ F_)) (post_:∀ s',Nx w H_ s_ s' m i (af s_.heap.objs.size s_.toks ++ F_) → V_.R₀ (r s_.heap.objs.size s_.toks) s') : Cont V_ o r₀ s_ :=
  run_K rr fuel ω sums S af B mk M_ hrr hs_ hB_ e hlv hv_ D_ post_
theorem mkKA {c':Code} (e:∀ n T g,(rr n T g).M mk = (rr n T g).N (B n T) (.again c') m i g (af n T)) (hrr:∀ n T g,rr n T g = runK w n T lv₀ fuel ω (sums n T) o r₀ S g) (hlv:lv₀ ≤ 500) ⦃s_:Shared⦄ ⦃v_:Nat⦄ ⦃F_:List (Addr × Obj)⦄ ⦃H_:Heap⦄ ⦃V_:XV⦄
    (hs_:∀ n T,∀ y ∈ sums n T,y.Ok (G0 w n T lv₀)) (hB_:∀ n T,∀ x ∈ B n T,x.1 = x.2) (M_:Mid w V_ v_ o s_) (hv_:v_ ≤ lv₀) (D_:Hp w H_ s_.heap (S ++ F_)) (post_:∀ s',Nx w H_ s_ s' m i (af s_.heap.objs.size s_.toks ++ F_) → codeAny (model P0 w) V_.A₀ c' V_.R₀ s') : Cont V_ o r₀ s_ :=
  run_KA rr fuel ω sums S af B mk M_ hrr hs_ hB_ e hlv hv_ D_ post_
theorem mkKS {c':Nat → Nat → Code} (e:∀ n T g,(rr n T g).M3 mk = (rr n T g).N3 (B n T) (c' n T) dk m i g (af n T)) (hrr:∀ n T g,rr n T g = runK w n T lv₀ fuel ω (sums n T) o r₀ S g) (hlv:lv₀ ≤ 500) ⦃s_:Shared⦄ ⦃v_:Nat⦄ ⦃F_:List (Addr × Obj)⦄ ⦃H_:Heap⦄ ⦃V_:XV⦄
    (hs_:∀ n T,∀ y ∈ sums n T,y.Ok (G0 w n T lv₀)) (hB_:∀ n T,∀ x ∈ B n T,x.1 = x.2) (M_:Mid w V_ v_ o s_) (hv_:v_ ≤ lv₀) (D_:Hp w H_ s_.heap (S ++ F_)) (post_:∀ A' s',Lv A' (v_ + dk) → Nx w H_ s_ s' m i (af s_.heap.objs.size s_.toks ++ F_) → Mid w V_ v_ (rr s_.heap.objs.size s_.toks s_.gens.toList) s' → codeAny (model P0 w) A' (c' s_.heap.objs.size s_.toks) (fun r s'' => Cont V_ (rr s_.heap.objs.size s_.toks s_.gens.toList) r s'') s') : Cont V_ o r₀ s_ :=
  run_KS rr fuel ω sums S af B mk M_ hrr hs_ hB_ e hlv hv_ D_ post_
theorem mkKSF {c':Nat → Nat → Code} {fr:Nat → Nat → List Env} (e:∀ n T g,(rr n T g).M3 mk = (rr n T g).N3 (B n T) (c' n T) dk m i g (af n T)) (ef:∀ n T g,((rr n T g).fr,plainK (rr n T g).κ) = (fr n T,true)) (hrr:∀ n T g,rr n T g = runK w n T lv₀ fuel ω (sums n T) o r₀ S g) (hlv:lv₀ ≤ 500) ⦃s_:Shared⦄ ⦃v_:Nat⦄ ⦃F_:List (Addr × Obj)⦄ ⦃H_:Heap⦄ ⦃V_:XV⦄
    (hs_:∀ n T,∀ y ∈ sums n T,y.Ok (G0 w n T lv₀)) (hB_:∀ n T,∀ x ∈ B n T,x.1 = x.2) (M_:Mid w V_ v_ o s_) (hv_:v_ ≤ lv₀) (D_:Hp w H_ s_.heap (S ++ F_)) (post_:∀ A' s',(∀ F,V_.A₀.frames = some F → A'.frames = some (fr s_.heap.objs.size s_.toks ++ F)) → Lv A' (v_ + dk) → Nx w H_ s_ s' m i (af s_.heap.objs.size s_.toks ++ F_) → Mid w V_ v_ (rr s_.heap.objs.size s_.toks s_.gens.toList) s' → codeAny (model P0 w) A' (c' s_.heap.objs.size s_.toks) (fun r s'' => Cont V_ (rr s_.heap.objs.size s_.toks s_.gens.toList) r s'') s') : Cont V_ o r₀ s_ :=
  run_KSF rr fuel ω sums S af B mk M_ hrr hs_ hB_ e ef hlv hv_ D_ post_
theorem mkE {c':Nat → Nat → Code} (e:∀ n T g,(rr n T g).M mk = (rr n T g).N (B n T) (.again (c' n T)) m i g (af n T)) (hrr:∀ n T g,rr n T g = runE w n T lv₀ fuel ω c S g) (hlv:lv₀ ≤ 500) ⦃A_:Around⦄ ⦃R_:Result → Shared → Prop⦄ ⦃s_:Shared⦄ ⦃v_:Nat⦄ ⦃F_:List (Addr × Obj)⦄ ⦃H_:Heap⦄
    (hs_:∀ n T,∀ y ∈ ([] : List Sum),y.Ok (G0 w n T lv₀)) (hB_:∀ n T,∀ x ∈ B n T,x.1 = x.2) (hL_:Lv A_ v_) (hv_:v_ ≤ lv₀) (D_:Hp w H_ s_.heap (S ++ F_)) (post_:∀ s',Nx w H_ s_ s' m i (af s_.heap.objs.size s_.toks ++ F_) → codeAny (model P0 w) A_ (c' s_.heap.objs.size s_.toks) R_ s') : codeAny (model P0 w) A_ c R_ s_ :=
  run_E rr fuel ω S af B mk hrr hB_ e hlv hL_ hv_ D_ post_
theorem mkP {t:Sem Flow} {r:Nat → Nat → Result} (e:∀ n T g,(rr n T g).M mk = (rr n T g).N (B n T) (.done (r n T)) m i g (af n T)) (hrr:∀ n T g,rr n T g = runT w n T lv₀ fuel ω (sums n T) c (partT t) S g) (hc:c.isCaller = false) (hlv:lv₀ ≤ 500) ⦃A_:Around⦄ ⦃R_:Result → Shared → Prop⦄ ⦃s_:Shared⦄ ⦃v_:Nat⦄ ⦃F_:List (Addr × Obj)⦄ ⦃H_:Heap⦄
    (hs_:∀ n T,∀ y ∈ sums n T,y.Ok (G0 w n T lv₀)) (hB_:∀ n T,∀ x ∈ B n T,x.1 = x.2) (hL_:Lv A_ v_) (hv_:v_ ≤ lv₀) (D_:Hp w H_ s_.heap (S ++ F_)) (post_:∀ s',Nx w H_ s_ s' m i (af s_.heap.objs.size s_.toks ++ F_) → R_ (r s_.heap.objs.size s_.toks) s') : wpOwn (model P0 w) A_ c t (fun f s' => R_ (.ok f) s') (fun e s' => R_ (.error e) s') s_ :=
  run_P rr fuel ω sums S af B mk hrr hs_ hB_ e hc hlv hL_ hv_ D_ post_
theorem mkPS {t:Sem Flow} {c':Nat → Nat → Code} (e:∀ n T g,(rr n T g).M3 mk = (rr n T g).N3 (B n T) (c' n T) dk m i g (af n T)) (hrr:∀ n T g,rr n T g = runT w n T lv₀ fuel ω (sums n T) c (partT t) S g) (hc:c.isCaller = false) (hlv:lv₀ ≤ 500) ⦃A_:Around⦄ ⦃R_:Result → Shared → Prop⦄ ⦃s_:Shared⦄ ⦃v_:Nat⦄ ⦃F_:List (Addr × Obj)⦄ ⦃H_:Heap⦄
    (hs_:∀ n T,∀ y ∈ sums n T,y.Ok (G0 w n T lv₀)) (hB_:∀ n T,∀ x ∈ B n T,x.1 = x.2) (hL_:Lv A_ v_) (hv_:v_ ≤ lv₀) (D_:Hp w H_ s_.heap (S ++ F_)) (post_:∀ A' s',Lv A' (v_ + dk) → Nx w H_ s_ s' m i (af s_.heap.objs.size s_.toks ++ F_) → Mid w (V0 w A_ R_ s_) v_ (rr s_.heap.objs.size s_.toks s_.gens.toList) s' → codeAny (model P0 w) A' (c' s_.heap.objs.size s_.toks) (fun r s'' => Cont (V0 w A_ R_ s_) (rr s_.heap.objs.size s_.toks s_.gens.toList) r s'') s') : wpOwn (model P0 w) A_ c t (fun f s' => R_ (.ok f) s') (fun e s' => R_ (.error e) s') s_ :=
  run_PS rr fuel ω sums S af B mk hrr hs_ hB_ e hc hlv hL_ hv_ D_ post_
end
def ioI (d:Addr) : Obj:=⟨.ref 604,some d,.plain,⟨[]⟩⟩
def ioD (P:Params) (κ:Nat → Tok) (buf:Str) (tb:Tok) (pos:Int) (tp:Tok) : Obj :=
  ⟨.type "dict",none,.dict ⟨[en P (sx [95,83,116,114,105,110,103,73,79,95,95,110,101,119,108,105,110,101]) (κ 0) (.str (sx [10]) 768),en P (sx [95,83,116,114,105,110,103,73,79,95,95,98,117,102]) (κ 1) (.str buf tb),en P (sx [95,83,116,114,105,110,103,73,79,95,95,112,111,115]) (κ 2) (.int pos tp)]⟩ 3,⟨[]⟩⟩
def s_rd1 (w:World) (j1 j2:Nat) (io d:Nat) (κ:Nat → Tok) (buf:List Nat) (tb tp t1:Tok) (pos:Nat) : Sum:=⟨.call (.ref 550) ⟨[.ref io,.int 1 t1],[]⟩,fun n T => .ok (.ret (.str (spart (sx buf) (pos:Int) ((pos:Int) + 1)) (T + 25))),26,4,[(j1,io,ioI d,fun n T => ioI d),(j2,d,ioD w.params κ (sx buf) tb (pos:Int) tp,fun n T => ioD w.params κ (sx buf) tb ((pos:Int) + 1) (T + 20))],[],500⟩
def u_rd1 (w:World) (n T:Nat) (io d:Nat) (κ:Nat → Tok) (buf:List Nat) (tb tp t1:Tok) (pos:Nat) : List Sum:=[]
def r_rd1 (w:World) (n T:Nat) (g:List GenState) (io d:Nat) (κ:Nat → Tok) (buf:List Nat) (tb tp t1:Tok) (pos:Nat) : Out:=runFn (G0 w n T 500) 20000 (digits 215 281262015942823071149185804351896236743958051422509087795962629794463880638253139095882085704992382016018988666438270173489433514903769762959010986778232072529952584976700828054606081747922226742033406002631684346392830249401324527460839783035194807849612091420991833823249630609244205599103489633750465944222294709968438038715585263156732879362958121322176551275740534780162659942928384) (u_rd1 w n T io d κ buf tb tp t1 pos) (.call (.ref 550) ⟨[.ref io,.int 1 t1],[]⟩) [(io,ioI d),(d,ioD w.params κ (sx buf) tb (pos:Int) tp)] g
def b_rd1 (n T:Nat) (io d:Nat) (κ:Nat → Tok) (buf:List Nat) (tb tp t1:Tok) (pos:Nat) : List (Bool × Bool):=[(true,true),(decide ((↑pos : Int) ≤ (fun x1 x2 => x1 + x2) (↑pos : Int) 1),true),(decide ((fun x1 x2 => x1 + x2) (↑pos : Int) 1 ≤ (↑(slen (sx buf)) : Int)),true),(decide ((fun x1 x2 => x1 + x2) (↑pos : Int) 1 - (↑pos : Int) < (↑(slen (sx buf)) : Int)),true),(Nat.ble (slen (sx buf)) 16777216,true),(decide ((fun x1 x2 => x1 + x2) (↑pos : Int) 1 < (↑(slen (sx buf)) : Int)),true),(decide ((↑pos : Int) ≥ (↑(slen (sx buf)) : Int)),false),(Nat.ble (slen (sx buf)) 16777216,true)]
theorem e_rd1 (b:Bool) (w:World) (n T:Nat) (g:List GenState) (io d:Nat) (κ:Nat → Tok) (buf:List Nat) (tb tp t1:Tok) (pos:Nat) : (r_rd1 (W b w) n T g io d κ buf tb tp t1 pos).L 4 [] = (r_rd1 (W b w) n T g io d κ buf tb tp t1 pos).R (b_rd1 n T io d κ buf tb tp t1 pos) (.done (.ok (.ret (.str (spart (sx buf) (pos:Int) ((pos:Int) + 1)) (T + 25))))) 4 26 g [(io,ioI d),(d,ioD w.params κ (sx buf) tb ((pos:Int) + 1) (T + 20))] (newsG n T []):=by cases b <;> kernel_rfl
theorem ok_rd1 {b:Bool} {w:World} {n T lv_:Nat} {j1 j2:Nat} (io d:Nat) (κ:Nat → Tok) (buf:List Nat) (tb tp t1:Tok) (pos:Nat) (hs:∀ n T,∀ y_ ∈ u_rd1 (W b w) n T io d κ buf tb tp t1 pos,y_.Ok (G0 (W b w) n T 500)) (hB:∀ n T,∀ q_ ∈ b_rd1 n T io d κ buf tb tp t1 pos,q_.1 = q_.2) : (s_rd1 (W b w) j1 j2 io d κ buf tb tp t1 pos).Ok (G0 (W b w) n T lv_) :=
  ok_fn2 (fun n T g => r_rd1 (W b w) n T g io d κ buf tb tp t1 pos) 20000 (digits 215 281262015942823071149185804351896236743958051422509087795962629794463880638253139095882085704992382016018988666438270173489433514903769762959010986778232072529952584976700828054606081747922226742033406002631684346392830249401324527460839783035194807849612091420991833823249630609244205599103489633750465944222294709968438038715585263156732879362958121322176551275740534780162659942928384) (fun n T => u_rd1 (W b w) n T io d κ buf tb tp t1 pos) [(io,ioI d),(d,ioD (W b w).params κ (sx buf) tb (pos:Int) tp)] (fun n T => [(io,ioI d),(d,ioD (W b w).params κ (sx buf) tb ((pos:Int) + 1) (T + 20))]) (fun n T => newsG n T []) (fun n T => b_rd1 n T io d κ buf tb tp t1 pos) 4 [] (fun _ _ _ => rfl) rfl (fun _ _ => rfl) (fun _ _ => rfl) (by decide) hs hB fun n T g => e_rd1 b w n T g io d κ buf tb tp t1 pos
def s_rd2 (w:World) (j1 j2:Nat) (io d:Nat) (κ:Nat → Tok) (buf:List Nat) (tb tp t1:Tok) (pos:Nat) : Sum:=⟨.call (.ref 550) ⟨[.ref io,.int 1 t1],[]⟩,fun n T => .ok (.ret (.str (spart (sx buf) (pos:Int) (slen (sx buf))) (T + 23))),24,4,[(j1,io,ioI d,fun n T => ioI d),(j2,d,ioD w.params κ (sx buf) tb (pos:Int) tp,fun n T => ioD w.params κ (sx buf) tb (slen (sx buf) : Int) (T + 16))],[],500⟩
def u_rd2 (w:World) (n T:Nat) (io d:Nat) (κ:Nat → Tok) (buf:List Nat) (tb tp t1:Tok) (pos:Nat) : List Sum:=[]
def r_rd2 (w:World) (n T:Nat) (g:List GenState) (io d:Nat) (κ:Nat → Tok) (buf:List Nat) (tb tp t1:Tok) (pos:Nat) : Out:=runFn (G0 w n T 500) 20000 (digits 210 261945664829409747523428690016173046775123152344030409861321216257721074519914704464266156502992271947417691030793242272298190997192689120381512059987548936705777372427869999068400578729080844665899935188805196192248221080781738537155716157405059099403175011889204611698932386012729390746205447370447532421794888021972984229817771633282079511482986445018865023987236388978561024) (u_rd2 w n T io d κ buf tb tp t1 pos) (.call (.ref 550) ⟨[.ref io,.int 1 t1],[]⟩) [(io,ioI d),(d,ioD w.params κ (sx buf) tb (pos:Int) tp)] g
def b_rd2 (n T:Nat) (io d:Nat) (κ:Nat → Tok) (buf:List Nat) (tb tp t1:Tok) (pos:Nat) : List (Bool × Bool):=[(true,true),(decide ((↑pos : Int) ≤ (↑(slen (sx buf)) : Int)),true),(decide ((↑(slen (sx buf)) : Int) ≤ (↑(slen (sx buf)) : Int)),true),(decide ((↑(slen (sx buf)) : Int) - (↑pos : Int) < (↑(slen (sx buf)) : Int)),true),(Nat.ble (slen (sx buf)) 16777216,true),(decide ((fun x1 x2 => x1 + x2) (↑pos : Int) 1 < (↑(slen (sx buf)) : Int)),false),(decide ((↑pos : Int) ≥ (↑(slen (sx buf)) : Int)),false),(Nat.ble (slen (sx buf)) 16777216,true)]
theorem e_rd2 (b:Bool) (w:World) (n T:Nat) (g:List GenState) (io d:Nat) (κ:Nat → Tok) (buf:List Nat) (tb tp t1:Tok) (pos:Nat) : (r_rd2 (W b w) n T g io d κ buf tb tp t1 pos).L 4 [] = (r_rd2 (W b w) n T g io d κ buf tb tp t1 pos).R (b_rd2 n T io d κ buf tb tp t1 pos) (.done (.ok (.ret (.str (spart (sx buf) (pos:Int) (slen (sx buf))) (T + 23))))) 4 24 g [(io,ioI d),(d,ioD w.params κ (sx buf) tb (slen (sx buf) : Int) (T + 16))] (newsG n T []):=by cases b <;> kernel_rfl
theorem ok_rd2 {b:Bool} {w:World} {n T lv_:Nat} {j1 j2:Nat} (io d:Nat) (κ:Nat → Tok) (buf:List Nat) (tb tp t1:Tok) (pos:Nat) (hs:∀ n T,∀ y_ ∈ u_rd2 (W b w) n T io d κ buf tb tp t1 pos,y_.Ok (G0 (W b w) n T 500)) (hB:∀ n T,∀ q_ ∈ b_rd2 n T io d κ buf tb tp t1 pos,q_.1 = q_.2) : (s_rd2 (W b w) j1 j2 io d κ buf tb tp t1 pos).Ok (G0 (W b w) n T lv_) :=
  ok_fn2 (fun n T g => r_rd2 (W b w) n T g io d κ buf tb tp t1 pos) 20000 (digits 210 261945664829409747523428690016173046775123152344030409861321216257721074519914704464266156502992271947417691030793242272298190997192689120381512059987548936705777372427869999068400578729080844665899935188805196192248221080781738537155716157405059099403175011889204611698932386012729390746205447370447532421794888021972984229817771633282079511482986445018865023987236388978561024) (fun n T => u_rd2 (W b w) n T io d κ buf tb tp t1 pos) [(io,ioI d),(d,ioD (W b w).params κ (sx buf) tb (pos:Int) tp)] (fun n T => [(io,ioI d),(d,ioD (W b w).params κ (sx buf) tb (slen (sx buf) : Int) (T + 16))]) (fun n T => newsG n T []) (fun n T => b_rd2 n T io d κ buf tb tp t1 pos) 4 [] (fun _ _ _ => rfl) rfl (fun _ _ => rfl) (fun _ _ => rfl) (by decide) hs hB fun n T g => e_rd2 b w n T g io d κ buf tb tp t1 pos
def s_rd3 (w:World) (j1 j2:Nat) (io d:Nat) (κ:Nat → Tok) (buf:List Nat) (tb tp t1:Tok) (pos:Nat) : Sum:=⟨.call (.ref 550) ⟨[.ref io,.int 1 t1],[]⟩,fun n T => .ok (.ret (.str (sx []) (T + 18))),19,3,[(j1,io,ioI d,fun n T => ioI d),(j2,d,ioD w.params κ (sx buf) tb (pos:Int) tp,fun n T => ioD w.params κ (sx buf) tb (pos:Int) tp)],[],500⟩
def u_rd3 (w:World) (n T:Nat) (io d:Nat) (κ:Nat → Tok) (buf:List Nat) (tb tp t1:Tok) (pos:Nat) : List Sum:=[]
def r_rd3 (w:World) (n T:Nat) (g:List GenState) (io d:Nat) (κ:Nat → Tok) (buf:List Nat) (tb tp t1:Tok) (pos:Nat) : Out:=runFn (G0 w n T 500) 20000 (digits 148 581937161511737877059017608122767903651240455849913330172041860236706573221092674988437293928756367539105727311657968447338798001180189858575366860515539044550328853267471822309955299275108374730503598974159484291471957839631304653358937268821319778616100880981954560) (u_rd3 w n T io d κ buf tb tp t1 pos) (.call (.ref 550) ⟨[.ref io,.int 1 t1],[]⟩) [(io,ioI d),(d,ioD w.params κ (sx buf) tb (pos:Int) tp)] g
def b_rd3 (n T:Nat) (io d:Nat) (κ:Nat → Tok) (buf:List Nat) (tb tp t1:Tok) (pos:Nat) : List (Bool × Bool):=[(decide ((↑pos : Int) ≥ (↑(slen (sx buf)) : Int)),true),(Nat.ble (slen (sx buf)) 16777216,true)]
theorem e_rd3 (b:Bool) (w:World) (n T:Nat) (g:List GenState) (io d:Nat) (κ:Nat → Tok) (buf:List Nat) (tb tp t1:Tok) (pos:Nat) : (r_rd3 (W b w) n T g io d κ buf tb tp t1 pos).L 3 [] = (r_rd3 (W b w) n T g io d κ buf tb tp t1 pos).R (b_rd3 n T io d κ buf tb tp t1 pos) (.done (.ok (.ret (.str (sx []) (T + 18))))) 3 19 g [(io,ioI d),(d,ioD w.params κ (sx buf) tb (pos:Int) tp)] (newsG n T []):=by cases b <;> kernel_rfl
theorem ok_rd3 {b:Bool} {w:World} {n T lv_:Nat} {j1 j2:Nat} (io d:Nat) (κ:Nat → Tok) (buf:List Nat) (tb tp t1:Tok) (pos:Nat) (hs:∀ n T,∀ y_ ∈ u_rd3 (W b w) n T io d κ buf tb tp t1 pos,y_.Ok (G0 (W b w) n T 500)) (hB:∀ n T,∀ q_ ∈ b_rd3 n T io d κ buf tb tp t1 pos,q_.1 = q_.2) : (s_rd3 (W b w) j1 j2 io d κ buf tb tp t1 pos).Ok (G0 (W b w) n T lv_) :=
  ok_fn2 (fun n T g => r_rd3 (W b w) n T g io d κ buf tb tp t1 pos) 20000 (digits 148 581937161511737877059017608122767903651240455849913330172041860236706573221092674988437293928756367539105727311657968447338798001180189858575366860515539044550328853267471822309955299275108374730503598974159484291471957839631304653358937268821319778616100880981954560) (fun n T => u_rd3 (W b w) n T io d κ buf tb tp t1 pos) [(io,ioI d),(d,ioD (W b w).params κ (sx buf) tb (pos:Int) tp)] (fun n T => [(io,ioI d),(d,ioD (W b w).params κ (sx buf) tb (pos:Int) tp)]) (fun n T => newsG n T []) (fun n T => b_rd3 n T io d κ buf tb tp t1 pos) 3 [] (fun _ _ _ => rfl) rfl (fun _ _ => rfl) (fun _ _ => rfl) (by decide) hs hB fun n T g => e_rd3 b w n T g io d κ buf tb tp t1 pos
def wordcs : Str:=(sx [97,98,99,100,102,101,103,104,105,106,107,108,109,110,111,112,113,114,115,116,117,118,119,120,121,122,65,66,67,68,69,70,71,72,73,74,75,76,77,78,79,80,81,82,83,84,85,86,87,88,89,90,48,49,50,51,52,53,54,55,56,57,95,223,224,225,226,227,228,229,230,231,232,233,234,235,236,237,238,239,240,241,242,243,244,245,246,248,249,250,251,252,253,254,255,192,193,194,195,196,197,198,199,200,201,202,203,204,205,206,207,208,209,210,211,212,213,214,216,217,218,219,220,221,222])
def shI (d:Addr) : Obj:=⟨.ref 739,some d,.plain,⟨[]⟩⟩
def shD (P:Params) (κ τ:Nat → Tok) (io pb fs:Addr) (st tk:Value) : Obj :=
  ⟨.type "dict",none,.dict ⟨[en P (sx [105,110,115,116,114,101,97,109]) (κ 0) (.ref io),en P (sx [105,110,102,105,108,101]) (κ 1) .none,en P (sx [112,111,115,105,120]) (κ 2) (.bool true),en P (sx [101,111,102]) (κ 3) .none,en P (sx [99,111,109,109,101,110,116,101,114,115]) (κ 4) (.str (sx []) (τ 0)),en P (sx [119,111,114,100,99,104,97,114,115]) (κ 5) (.str wordcs (τ 1)),en P (sx [119,104,105,116,101,115,112,97,99,101]) (κ 6) (.str (sx [32,9,13,10]) (τ 2)),en P (sx [119,104,105,116,101,115,112,97,99,101,95,115,112,108,105,116]) (κ 7) (.bool true),en P (sx [113,117,111,116,101,115]) (κ 8) (.str (sx [39,34]) (τ 3)),en P (sx [101,115,99,97,112,101]) (κ 9) (.str (sx [92]) (τ 4)),en P (sx [101,115,99,97,112,101,100,113,117,111,116,101,115]) (κ 10) (.str (sx [34]) (τ 5)),en P (sx [115,116,97,116,101]) (κ 11) st,en P (sx [112,117,115,104,98,97,99,107]) (κ 12) (.ref pb),en P (sx [108,105,110,101,110,111]) (κ 13) (.int 1 (τ 6)),en P (sx [100,101,98,117,103]) (κ 14) (.int 0 (τ 7)),en P (sx [116,111,107,101,110]) (κ 15) tk,en P (sx [102,105,108,101,115,116,97,99,107]) (κ 16) (.ref fs),en P (sx [115,111,117,114,99,101]) (κ 17) .none,en P (sx [95,112,117,110,99,116,117,97,116,105,111,110,95,99,104,97,114,115]) (κ 18) (.str (sx []) (τ 8))]⟩ 19,⟨[]⟩⟩
def dqO : Obj:=⟨.type "collections.deque",none,.fields ⟨[.none,.int 0 0]⟩,⟨[]⟩⟩
def rtF3 (P:Params) (κ:Nat → Tok) (self:Addr) (qu:Bool) (te:Tok) : Obj :=
  ⟨.type "frame",none,.dict ⟨[en P (sx [115,101,108,102]) (κ 0) (.ref self),en P (sx [113,117,111,116,101,100]) (κ 1) (.bool qu),en P (sx [101,115,99,97,112,101,100,115,116,97,116,101]) (κ 2) (.str (sx [32]) te)]⟩ 3,⟨[]⟩⟩
def rtF4 (P:Params) (κ:Nat → Tok) (self:Addr) (qu:Bool) (te:Tok) (k3:Tok) (ch:Str) (tc:Tok) : Obj :=
  ⟨.type "frame",none,.dict ⟨[en P (sx [115,101,108,102]) (κ 0) (.ref self),en P (sx [113,117,111,116,101,100]) (κ 1) (.bool qu),en P (sx [101,115,99,97,112,101,100,115,116,97,116,101]) (κ 2) (.str (sx [32]) te),en P (sx [110,101,120,116,99,104,97,114]) k3 (.str ch tc)]⟩ 4,⟨[]⟩⟩
def rtWhile : Stmt:=match methAt 24 6 with
  | .FunctionDef _ _ b _ _ _ _ _ _ _ => b.getD 2 (.Pass default)
  | s => s
def rtScope : Scope:=match methAt 24 6 with
  | .FunctionDef _ _ _ _ _ _ sc _ _ _ => sc
  | _ => default
def rtEnv (L:Addr) : Env:=⟨rtScope,L,3,[],(sx [115,104,108,101,120,46,114,101,97,100,95,116,111,107,101,110,46,60,108,111,99,97,108,115,62,46]),some 707,.ref 706,some L,0⟩
def rtLoop (L:Addr) : Code:=match rtWhile with
  | .While t b o _ => .whileLoop t b o (rtEnv L)
  | _ => .block [] (rtEnv L)
def s_read (w:World) (j1 j2 io d:Nat) (κ:Nat → Tok) (buf:Str) (tb tp t1:Tok) (pos pos':Int) (ch:Str) (di dm tc:Nat) (tp':Tok → Tok) : Sum :=
  ⟨.call (.ref 550) ⟨[.ref io,.int 1 t1],[]⟩,fun _ T => .ok (.ret (.str ch (T + tc))),di,dm,[(j1,io,ioI d,fun _ _ => ioI d),(j2,d,ioD w.params κ buf tb pos tp,fun _ T => ioD w.params κ buf tb pos' (tp' T))],[],500⟩
def u_f1 (w:World) (n T:Nat) (L sh sd io d pb fs:Nat) (κ κ1 κ2 τ:Nat → Tok) (te k3 tc0 tst ttk tb tp:Tok) (buf c0:Str) (pos pos':Int) (di dm tc:Nat) (tp':Tok → Tok) : List Sum:=[s_read w 4 5 io d κ2 buf tb tp (T + 6) pos pos' (sx [39]) di dm tc tp']
def r_f1 (w:World) (n T:Nat) (g:List GenState) (L sh sd io d pb fs:Nat) (κ κ1 κ2 τ:Nat → Tok) (te k3 tc0 tst ttk tb tp:Tok) (buf c0:Str) (pos pos':Int) (di dm tc:Nat) (tp':Tok → Tok) : Out:=runC (G0 w n T 430) 20000 (digits 296 204905428197604583122334546364590912456681325720937244003700784287603912728364962288012076292302245555934273851483129314855644887448476764460098744999034565936819572443766542527502544493479532793744278046168594238160389307339504988759940515578743351392855712500256409876424360923496616368739941288613737857063324451415182825739816579384111235081159956063280792690912031940207272359413649717895671486290123396106871698371145839572755751186095008286716034367521393074062320919696616652347550167215707496578298495868643223043247391637633) (u_f1 w n T L sh sd io d pb fs κ κ1 κ2 τ te k3 tc0 tst ttk tb tp buf c0 pos pos' di dm tc tp') (rtLoop L) [(L,rtF3 w.params κ sh false te),(sh,shI sd),(sd,shD w.params κ1 τ io pb fs (.str (sx [32]) tst) (.str (sx []) ttk)),(io,ioI d),(d,ioD w.params κ2 buf tb pos tp)] g
def b_f1 (n T:Nat) (L sh sd io d pb fs:Nat) (κ κ1 κ2 τ:Nat → Tok) (te k3 tc0 tst ttk tb tp:Tok) (buf c0:Str) (pos pos':Int) (di dm tc:Nat) (tp':Tok → Tok) : List (Bool × Bool):=[(true,true),(true,true)]
theorem e_f1 (b:Bool) (w:World) (n T:Nat) (g:List GenState) (L sh sd io d pb fs:Nat) (κ κ1 κ2 τ:Nat → Tok) (te k3 tc0 tst ttk tb tp:Tok) (buf c0:Str) (pos pos':Int) (di dm tc:Nat) (tp':Tok → Tok) : (r_f1 (W b w) n T g L sh sd io d pb fs κ κ1 κ2 τ te k3 tc0 tst ttk tb tp buf c0 pos pos' di dm tc tp').M [false,false] = (r_f1 (W b w) n T g L sh sd io d pb fs κ κ1 κ2 τ te k3 tc0 tst ttk tb tp buf c0 pos pos' di dm tc tp').N (b_f1 n T L sh sd io d pb fs κ κ1 κ2 τ te k3 tc0 tst ttk tb tp buf c0 pos pos' di dm tc tp') (.again (rtLoop L)) (1 + dm + 1) (7 + di + 21) g [(L,rtF4 (W b w).params κ sh false te (T + (7 + di)) (sx [39]) (T + 7 + tc)),(sh,shI sd),(sd,shD (W b w).params κ1 τ io pb fs (.str (sx [39]) (T + 7 + tc)) (.str (sx []) ttk)),(io,ioI d),(d,ioD (W b w).params κ2 buf tb pos' (tp' (T + 7)))]:=by cases b <;> kernel_rfl
noncomputable def g_f1 {b:Bool} {w:World} (L sh sd io d pb fs:Nat) (κ κ1 κ2 τ:Nat → Tok) (te k3 tc0 tst ttk tb tp:Tok) (buf c0:Str) (pos pos':Int) (di dm tc:Nat) (tp':Tok → Tok):=mkA (fun n T g => e_f1 b w n T g L sh sd io d pb fs κ κ1 κ2 τ te k3 tc0 tst ttk tb tp buf c0 pos pos' di dm tc tp') (fun _ _ _ => rfl) rfl (by decide)
def u_f2 (w:World) (n T:Nat) (L sh sd io d pb fs:Nat) (κ κ1 κ2 τ:Nat → Tok) (te k3 tc0 tst ttk tb tp:Tok) (buf c0:Str) (pos pos':Int) (di dm tc:Nat) (tp':Tok → Tok) : List Sum:=[s_read w 4 5 io d κ2 buf tb tp (T + 6) pos pos' (sx [45]) di dm tc tp']
def r_f2 (w:World) (n T:Nat) (g:List GenState) (L sh sd io d pb fs:Nat) (κ κ1 κ2 τ:Nat → Tok) (te k3 tc0 tst ttk tb tp:Tok) (buf c0:Str) (pos pos':Int) (di dm tc:Nat) (tp':Tok → Tok) : Out:=runC (G0 w n T 430) 20000 (digits 316 272366031648551926862962751150865643400061730609794278411834111979302274738279492493886293716702333279501729744435442763389299749018068367331106137537770488781549566733245834208079511776500621641260695076529645181364013079006276836498489055736437434746238091227084997587170387976825952422731563812867085913756971859192597560556835704551706711114099043158029106625725428646895908010045033373090571731257644846849017608025455990036664536524379850729375880781916258034612596689043503602835316333558789509253843796972232776161602935235123030129723657958153294717521355604097) (u_f2 w n T L sh sd io d pb fs κ κ1 κ2 τ te k3 tc0 tst ttk tb tp buf c0 pos pos' di dm tc tp') (rtLoop L) [(L,rtF3 w.params κ sh false te),(sh,shI sd),(sd,shD w.params κ1 τ io pb fs (.str (sx [32]) tst) (.str (sx []) ttk)),(io,ioI d),(d,ioD w.params κ2 buf tb pos tp)] g
def b_f2 (n T:Nat) (L sh sd io d pb fs:Nat) (κ κ1 κ2 τ:Nat → Tok) (te k3 tc0 tst ttk tb tp:Tok) (buf c0:Str) (pos pos':Int) (di dm tc:Nat) (tp':Tok → Tok) : List (Bool × Bool):=[(true,true),(true,true)]
theorem e_f2 (b:Bool) (w:World) (n T:Nat) (g:List GenState) (L sh sd io d pb fs:Nat) (κ κ1 κ2 τ:Nat → Tok) (te k3 tc0 tst ttk tb tp:Tok) (buf c0:Str) (pos pos':Int) (di dm tc:Nat) (tp':Tok → Tok) : (r_f2 (W b w) n T g L sh sd io d pb fs κ κ1 κ2 τ te k3 tc0 tst ttk tb tp buf c0 pos pos' di dm tc tp').M [false,false] = (r_f2 (W b w) n T g L sh sd io d pb fs κ κ1 κ2 τ te k3 tc0 tst ttk tb tp buf c0 pos pos' di dm tc tp').N (b_f2 n T L sh sd io d pb fs κ κ1 κ2 τ te k3 tc0 tst ttk tb tp buf c0 pos pos' di dm tc tp') (.again (rtLoop L)) (1 + dm + 1) (7 + di + 24) g [(L,rtF4 (W b w).params κ sh false te (T + (7 + di)) (sx [45]) (T + 7 + tc)),(sh,shI sd),(sd,shD (W b w).params κ1 τ io pb fs (.str (sx [97]) (T + (7 + di + 21))) (.str (sx [45]) (T + 7 + tc))),(io,ioI d),(d,ioD (W b w).params κ2 buf tb pos' (tp' (T + 7)))]:=by cases b <;> kernel_rfl
noncomputable def g_f2 {b:Bool} {w:World} (L sh sd io d pb fs:Nat) (κ κ1 κ2 τ:Nat → Tok) (te k3 tc0 tst ttk tb tp:Tok) (buf c0:Str) (pos pos':Int) (di dm tc:Nat) (tp':Tok → Tok):=mkA (fun n T g => e_f2 b w n T g L sh sd io d pb fs κ κ1 κ2 τ te k3 tc0 tst ttk tb tp buf c0 pos pos' di dm tc tp') (fun _ _ _ => rfl) rfl (by decide)
def u_f3 (w:World) (n T:Nat) (L sh sd io d pb fs:Nat) (κ κ1 κ2 τ:Nat → Tok) (te k3 tc0 tst ttk tb tp:Tok) (buf c0:Str) (pos pos':Int) (di dm tc:Nat) (tp':Tok → Tok) : List Sum:=[s_read w 4 5 io d κ2 buf tb tp (T + 6) pos pos' (sx []) di dm tc tp']
def r_f3 (w:World) (n T:Nat) (g:List GenState) (L sh sd io d pb fs:Nat) (κ κ1 κ2 τ:Nat → Tok) (te k3 tc0 tst ttk tb tp:Tok) (buf c0:Str) (pos pos':Int) (di dm tc:Nat) (tp':Tok → Tok) : Out:=runC (G0 w n T 430) 20000 (digits 130 403751754146113741309530400393681569989422615060737790713574332145534832838004537182960649298586838278728187232366162414136555164873330631451416059625918999213350073026775629182101678821102367317244914740573979257425268927984081830017) (u_f3 w n T L sh sd io d pb fs κ κ1 κ2 τ te k3 tc0 tst ttk tb tp buf c0 pos pos' di dm tc tp') (rtLoop L) [(L,rtF3 w.params κ sh false te),(sh,shI sd),(sd,shD w.params κ1 τ io pb fs .none (.str (sx []) ttk)),(io,ioI d),(d,ioD w.params κ2 buf tb pos tp)] g
def b_f3 (n T:Nat) (L sh sd io d pb fs:Nat) (κ κ1 κ2 τ:Nat → Tok) (te k3 tc0 tst ttk tb tp:Tok) (buf c0:Str) (pos pos':Int) (di dm tc:Nat) (tp':Tok → Tok) : List (Bool × Bool):=[(true,true)]
theorem e_f3 (b:Bool) (w:World) (n T:Nat) (g:List GenState) (L sh sd io d pb fs:Nat) (κ κ1 κ2 τ:Nat → Tok) (te k3 tc0 tst ttk tb tp:Tok) (buf c0:Str) (pos pos':Int) (di dm tc:Nat) (tp':Tok → Tok) : (r_f3 (W b w) n T g L sh sd io d pb fs κ κ1 κ2 τ te k3 tc0 tst ttk tb tp buf c0 pos pos' di dm tc tp').M [false] = (r_f3 (W b w) n T g L sh sd io d pb fs κ κ1 κ2 τ te k3 tc0 tst ttk tb tp buf c0 pos pos' di dm tc tp').N (b_f3 n T L sh sd io d pb fs κ κ1 κ2 τ te k3 tc0 tst ttk tb tp buf c0 pos pos' di dm tc tp') (.done (.ok .next)) (1 + dm) (7 + di + 8) g [(L,rtF4 (W b w).params κ sh false te (T + (7 + di)) (sx []) (T + 7 + tc)),(sh,shI sd),(sd,shD (W b w).params κ1 τ io pb fs .none (.str (sx []) (T + (7 + di + 5)))),(io,ioI d),(d,ioD (W b w).params κ2 buf tb pos' (tp' (T + 7)))]:=by cases b <;> kernel_rfl
noncomputable def g_f3 {b:Bool} {w:World} (L sh sd io d pb fs:Nat) (κ κ1 κ2 τ:Nat → Tok) (te k3 tc0 tst ttk tb tp:Tok) (buf c0:Str) (pos pos':Int) (di dm tc:Nat) (tp':Tok → Tok):=mkD (fun n T g => e_f3 b w n T g L sh sd io d pb fs κ κ1 κ2 τ te k3 tc0 tst ttk tb tp buf c0 pos pos' di dm tc tp') (fun _ _ _ => rfl) rfl (by decide)
def u_q1a (w:World) (n T:Nat) (L sh sd io d pb fs:Nat) (κ κ1 κ2 τ:Nat → Tok) (te k3 tc0 tst ttk tb tp:Tok) (buf c0:Str) (pos pos':Int) (di dm tc:Nat) (tp':Tok → Tok) (c x:Nat) (tok:List Nat) (qu:Bool) : List Sum:=[s_read w 4 5 io d κ2 buf tb tp (T + 6) pos pos' (sx [c]) di dm tc tp']
def r_q1a (w:World) (n T:Nat) (g:List GenState) (L sh sd io d pb fs:Nat) (κ κ1 κ2 τ:Nat → Tok) (te k3 tc0 tst ttk tb tp:Tok) (buf c0:Str) (pos pos':Int) (di dm tc:Nat) (tp':Tok → Tok) (c x:Nat) (tok:List Nat) (qu:Bool) : Out:=runC (G0 w n T 430) 20000 (digits 240 1456231790532203899603909580934725853703565036472897816183673850457904635867831204004174108484641662544165001567009335757567557033244175368815336249842465363879555317068874187952187463250095784843854745991351993188681190254880510224367359826804175826660214383802068270174248470724381075124274228369496269273750769737558834199852337156585140364457720891233578456843859109412070900627540873743421708585494596769103518537504782471397505) (u_q1a w n T L sh sd io d pb fs κ κ1 κ2 τ te k3 tc0 tst ttk tb tp buf c0 pos pos' di dm tc tp' c x tok qu) (rtLoop L) [(L,rtF4 w.params κ sh qu te k3 c0 tc0),(sh,shI sd),(sd,shD w.params κ1 τ io pb fs (.str (sx [39]) tst) (.str (sx []) ttk)),(io,ioI d),(d,ioD w.params κ2 buf tb pos tp)] g
def b_q1a (n T:Nat) (L sh sd io d pb fs:Nat) (κ κ1 κ2 τ:Nat → Tok) (te k3 tc0 tst ttk tb tp:Tok) (buf c0:Str) (pos pos':Int) (di dm tc:Nat) (tp':Tok → Tok) (c x:Nat) (tok:List Nat) (qu:Bool) : List (Bool × Bool):=[(true,true),(sin (sx [92]) (sx [c]),false),(seqs (sx [c]) (sx [39]),false),(true,true),(seqs (sx [c]) (Str.ofString "\n"),false),(true,true)]
theorem e_q1a (b:Bool) (w:World) (n T:Nat) (g:List GenState) (L sh sd io d pb fs:Nat) (κ κ1 κ2 τ:Nat → Tok) (te k3 tc0 tst ttk tb tp:Tok) (buf c0:Str) (pos pos':Int) (di dm tc:Nat) (tp':Tok → Tok) (c x:Nat) (tok:List Nat) (qu:Bool) : (r_q1a (W b w) n T g L sh sd io d pb fs κ κ1 κ2 τ te k3 tc0 tst ttk tb tp buf c0 pos pos' di dm tc tp' c x tok qu).M [false] = (r_q1a (W b w) n T g L sh sd io d pb fs κ κ1 κ2 τ te k3 tc0 tst ttk tb tp buf c0 pos pos' di dm tc tp' c x tok qu).N (b_q1a n T L sh sd io d pb fs κ κ1 κ2 τ te k3 tc0 tst ttk tb tp buf c0 pos pos' di dm tc tp' c x tok qu) (.again (rtLoop L)) (1 + dm) (7 + di + 18) g [(L,rtF4 (W b w).params κ sh true te k3 (sx [c]) (T + 7 + tc)),(sh,shI sd),(sd,shD (W b w).params κ1 τ io pb fs (.str (sx [39]) tst) (.str (sx [c]) (T + 7 + tc))),(io,ioI d),(d,ioD (W b w).params κ2 buf tb pos' (tp' (T + 7)))]:=by cases b <;> kernel_rfl
noncomputable def g_q1a {b:Bool} {w:World} (L sh sd io d pb fs:Nat) (κ κ1 κ2 τ:Nat → Tok) (te k3 tc0 tst ttk tb tp:Tok) (buf c0:Str) (pos pos':Int) (di dm tc:Nat) (tp':Tok → Tok) (c x:Nat) (tok:List Nat) (qu:Bool):=mkA (fun n T g => e_q1a b w n T g L sh sd io d pb fs κ κ1 κ2 τ te k3 tc0 tst ttk tb tp buf c0 pos pos' di dm tc tp' c x tok qu) (fun _ _ _ => rfl) rfl (by decide)
def u_q1b (w:World) (n T:Nat) (L sh sd io d pb fs:Nat) (κ κ1 κ2 τ:Nat → Tok) (te k3 tc0 tst ttk tb tp:Tok) (buf c0:Str) (pos pos':Int) (di dm tc:Nat) (tp':Tok → Tok) (c x:Nat) (tok:List Nat) : List Sum:=[s_read w 4 5 io d κ2 buf tb tp (T + 6) pos pos' (sx [c]) di dm tc tp']
def r_q1b (w:World) (n T:Nat) (g:List GenState) (L sh sd io d pb fs:Nat) (κ κ1 κ2 τ:Nat → Tok) (te k3 tc0 tst ttk tb tp:Tok) (buf c0:Str) (pos pos':Int) (di dm tc:Nat) (tp':Tok → Tok) (c x:Nat) (tok:List Nat) : Out:=runC (G0 w n T 430) 20000 (digits 240 1456231790532203899603909580934725853345951209312345018164783195074151985681438432176382408256388587434299489433416544378468499353551135689070858286825072022616246456041684615073271118739068099998567501414590182628412115690014638089543951478104670646607106574852442003709039844288244664851267367188108344934800668038995945736091211966548387617860421628486781606427298123184280250936566057281491477494988000948218501769704759720149121) (u_q1b w n T L sh sd io d pb fs κ κ1 κ2 τ te k3 tc0 tst ttk tb tp buf c0 pos pos' di dm tc tp' c x tok) (rtLoop L) [(L,rtF4 w.params κ sh true te k3 c0 tc0),(sh,shI sd),(sd,shD w.params κ1 τ io pb fs (.str (sx [39]) tst) (.str (sx (x :: tok)) ttk)),(io,ioI d),(d,ioD w.params κ2 buf tb pos tp)] g
def b_q1b (n T:Nat) (L sh sd io d pb fs:Nat) (κ κ1 κ2 τ:Nat → Tok) (te k3 tc0 tst ttk tb tp:Tok) (buf c0:Str) (pos pos':Int) (di dm tc:Nat) (tp':Tok → Tok) (c x:Nat) (tok:List Nat) : List (Bool × Bool):=[(false,false),(false,false),(Nat.ble (slen (cat (sx (x :: tok)) (sx [c]))) 16777216,true),(sin (sx [92]) (sx [c]),false),(seqs (sx [c]) (sx [39]),false),(true,true),(seqs (sx [c]) (Str.ofString "\n"),false),(true,true)]
theorem e_q1b (b:Bool) (w:World) (n T:Nat) (g:List GenState) (L sh sd io d pb fs:Nat) (κ κ1 κ2 τ:Nat → Tok) (te k3 tc0 tst ttk tb tp:Tok) (buf c0:Str) (pos pos':Int) (di dm tc:Nat) (tp':Tok → Tok) (c x:Nat) (tok:List Nat) : (r_q1b (W b w) n T g L sh sd io d pb fs κ κ1 κ2 τ te k3 tc0 tst ttk tb tp buf c0 pos pos' di dm tc tp' c x tok).M [false] = (r_q1b (W b w) n T g L sh sd io d pb fs κ κ1 κ2 τ te k3 tc0 tst ttk tb tp buf c0 pos pos' di dm tc tp' c x tok).N (b_q1b n T L sh sd io d pb fs κ κ1 κ2 τ te k3 tc0 tst ttk tb tp buf c0 pos pos' di dm tc tp' c x tok) (.again (rtLoop L)) (1 + dm) (7 + di + 19) g [(L,rtF4 (W b w).params κ sh true te k3 (sx [c]) (T + 7 + tc)),(sh,shI sd),(sd,shD (W b w).params κ1 τ io pb fs (.str (sx [39]) tst) (.str (sx (x :: tok ++ [c])) (T + (7 + di + 16)))),(io,ioI d),(d,ioD (W b w).params κ2 buf tb pos' (tp' (T + 7)))]:=by cases b <;> kernel_rfl
noncomputable def g_q1b {b:Bool} {w:World} (L sh sd io d pb fs:Nat) (κ κ1 κ2 τ:Nat → Tok) (te k3 tc0 tst ttk tb tp:Tok) (buf c0:Str) (pos pos':Int) (di dm tc:Nat) (tp':Tok → Tok) (c x:Nat) (tok:List Nat):=mkA (fun n T g => e_q1b b w n T g L sh sd io d pb fs κ κ1 κ2 τ te k3 tc0 tst ttk tb tp buf c0 pos pos' di dm tc tp' c x tok) (fun _ _ _ => rfl) rfl (by decide)
def u_q2 (w:World) (n T:Nat) (L sh sd io d pb fs:Nat) (κ κ1 κ2 τ:Nat → Tok) (te k3 tc0 tst ttk tb tp:Tok) (buf c0:Str) (pos pos':Int) (di dm tc:Nat) (tp':Tok → Tok) (c x:Nat) (tok:List Nat) : List Sum:=[s_read w 4 5 io d κ2 buf tb tp (T + 6) pos pos' (sx [39]) di dm tc tp']
def r_q2 (w:World) (n T:Nat) (g:List GenState) (L sh sd io d pb fs:Nat) (κ κ1 κ2 τ:Nat → Tok) (te k3 tc0 tst ttk tb tp:Tok) (buf c0:Str) (pos pos':Int) (di dm tc:Nat) (tp':Tok → Tok) (c x:Nat) (tok:List Nat) : Out:=runC (G0 w n T 430) 20000 (digits 209 14847430951877002457596662137893670470486675917591722200224655177738800618931508907983923295011218739450440411022386133542102033705642706020359495097071012782500744207899609591957925591745327578044700732750857729996574958282533933145277331126235420085065219854236234483168429888380460226720951791422660240584007213433201824086480058604379060361718716749723560399452968071463041) (u_q2 w n T L sh sd io d pb fs κ κ1 κ2 τ te k3 tc0 tst ttk tb tp buf c0 pos pos' di dm tc tp' c x tok) (rtLoop L) [(L,rtF4 w.params κ sh true te k3 c0 tc0),(sh,shI sd),(sd,shD w.params κ1 τ io pb fs (.str (sx [39]) tst) (.str (sx (x :: tok)) ttk)),(io,ioI d),(d,ioD w.params κ2 buf tb pos tp)] g
def b_q2 (n T:Nat) (L sh sd io d pb fs:Nat) (κ κ1 κ2 τ:Nat → Tok) (te k3 tc0 tst ttk tb tp:Tok) (buf c0:Str) (pos pos':Int) (di dm tc:Nat) (tp':Tok → Tok) (c x:Nat) (tok:List Nat) : List (Bool × Bool):=[(true,true),(true,true)]
theorem e_q2 (b:Bool) (w:World) (n T:Nat) (g:List GenState) (L sh sd io d pb fs:Nat) (κ κ1 κ2 τ:Nat → Tok) (te k3 tc0 tst ttk tb tp:Tok) (buf c0:Str) (pos pos':Int) (di dm tc:Nat) (tp':Tok → Tok) (c x:Nat) (tok:List Nat) : (r_q2 (W b w) n T g L sh sd io d pb fs κ κ1 κ2 τ te k3 tc0 tst ttk tb tp buf c0 pos pos' di dm tc tp' c x tok).M [false] = (r_q2 (W b w) n T g L sh sd io d pb fs κ κ1 κ2 τ te k3 tc0 tst ttk tb tp buf c0 pos pos' di dm tc tp' c x tok).N (b_q2 n T L sh sd io d pb fs κ κ1 κ2 τ te k3 tc0 tst ttk tb tp buf c0 pos pos' di dm tc tp' c x tok) (.again (rtLoop L)) (1 + dm) (7 + di + 17) g [(L,rtF4 (W b w).params κ sh true te k3 (sx [39]) (T + 7 + tc)),(sh,shI sd),(sd,shD (W b w).params κ1 τ io pb fs (.str (sx [97]) (T + (7 + di + 14))) (.str (sx (x :: tok)) ttk)),(io,ioI d),(d,ioD (W b w).params κ2 buf tb pos' (tp' (T + 7)))]:=by cases b <;> kernel_rfl
noncomputable def g_q2 {b:Bool} {w:World} (L sh sd io d pb fs:Nat) (κ κ1 κ2 τ:Nat → Tok) (te k3 tc0 tst ttk tb tp:Tok) (buf c0:Str) (pos pos':Int) (di dm tc:Nat) (tp':Tok → Tok) (c x:Nat) (tok:List Nat):=mkA (fun n T g => e_q2 b w n T g L sh sd io d pb fs κ κ1 κ2 τ te k3 tc0 tst ttk tb tp buf c0 pos pos' di dm tc tp' c x tok) (fun _ _ _ => rfl) rfl (by decide)
def u_a1w (w:World) (n T:Nat) (L sh sd io d pb fs:Nat) (κ κ1 κ2 τ:Nat → Tok) (te k3 tc0 tst ttk tb tp:Tok) (buf c0:Str) (pos pos':Int) (di dm tc:Nat) (tp':Tok → Tok) (c x:Nat) (tok:List Nat) (qu:Bool) : List Sum:=[s_read w 4 5 io d κ2 buf tb tp (T + 6) pos pos' (sx [c]) di dm tc tp']
def r_a1w (w:World) (n T:Nat) (g:List GenState) (L sh sd io d pb fs:Nat) (κ κ1 κ2 τ:Nat → Tok) (te k3 tc0 tst ttk tb tp:Tok) (buf c0:Str) (pos pos':Int) (di dm tc:Nat) (tp':Tok → Tok) (c x:Nat) (tok:List Nat) (qu:Bool) : Out:=runC (G0 w n T 430) 20000 (digits 362 33069813561413139777336579232908808754270055085062855568123267030502206455393154953086515601652898522525081721836365773397163651155481606340194947004826245364885445761618400988782569465850058236616279966050816664172818294516648354625555415127489602678434092206260952593737875819475457460952977145538102265479522687945818048320596807776159361830523580279247597419661216354561937869062021431491203721015393131826170259651954786392483994106244191565123654050107692524008604092014558360093573767477281487529772352653992567732386997845367356842545698709141315267583294919150431922273676867662748488122003762083713956325551617417087654887421943263015190134913) (u_a1w w n T L sh sd io d pb fs κ κ1 κ2 τ te k3 tc0 tst ttk tb tp buf c0 pos pos' di dm tc tp' c x tok qu) (rtLoop L) [(L,rtF4 w.params κ sh qu te k3 c0 tc0),(sh,shI sd),(sd,shD w.params κ1 τ io pb fs (.str (sx [97]) tst) (.str (sx (x :: tok)) ttk)),(io,ioI d),(d,ioD w.params κ2 buf tb pos tp)] g
def b_a1w (n T:Nat) (L sh sd io d pb fs:Nat) (κ κ1 κ2 τ:Nat → Tok) (te k3 tc0 tst ttk tb tp:Tok) (buf c0:Str) (pos pos':Int) (di dm tc:Nat) (tp':Tok → Tok) (c x:Nat) (tok:List Nat) (qu:Bool) : List (Bool × Bool):=[(false,false),(false,false),(Nat.ble (slen (cat (sx (x :: tok)) (sx [c]))) 16777216,true),(sin wordcs (sx [c]),true),(sin (sx [92]) (sx [c]),false),(sin (sx [39,34]) (sx [c]),false),(sin (sx [32,9,13,10]) (sx [c]),false),(true,true),(seqs (sx [c]) (Str.ofString "\n"),false),(true,true)]
theorem e_a1w (b:Bool) (w:World) (n T:Nat) (g:List GenState) (L sh sd io d pb fs:Nat) (κ κ1 κ2 τ:Nat → Tok) (te k3 tc0 tst ttk tb tp:Tok) (buf c0:Str) (pos pos':Int) (di dm tc:Nat) (tp':Tok → Tok) (c x:Nat) (tok:List Nat) (qu:Bool) : (r_a1w (W b w) n T g L sh sd io d pb fs κ κ1 κ2 τ te k3 tc0 tst ttk tb tp buf c0 pos pos' di dm tc tp' c x tok qu).M [false,false] = (r_a1w (W b w) n T g L sh sd io d pb fs κ κ1 κ2 τ te k3 tc0 tst ttk tb tp buf c0 pos pos' di dm tc tp' c x tok qu).N (b_a1w n T L sh sd io d pb fs κ κ1 κ2 τ te k3 tc0 tst ttk tb tp buf c0 pos pos' di dm tc tp' c x tok qu) (.again (rtLoop L)) (1 + dm + 1) (7 + di + 29) g [(L,rtF4 (W b w).params κ sh qu te k3 (sx [c]) (T + 7 + tc)),(sh,shI sd),(sd,shD (W b w).params κ1 τ io pb fs (.str (sx [97]) tst) (.str (sx (x :: tok ++ [c])) (T + (7 + di + 26)))),(io,ioI d),(d,ioD (W b w).params κ2 buf tb pos' (tp' (T + 7)))]:=by cases b <;> kernel_rfl
noncomputable def g_a1w {b:Bool} {w:World} (L sh sd io d pb fs:Nat) (κ κ1 κ2 τ:Nat → Tok) (te k3 tc0 tst ttk tb tp:Tok) (buf c0:Str) (pos pos':Int) (di dm tc:Nat) (tp':Tok → Tok) (c x:Nat) (tok:List Nat) (qu:Bool):=mkA (fun n T g => e_a1w b w n T g L sh sd io d pb fs κ κ1 κ2 τ te k3 tc0 tst ttk tb tp buf c0 pos pos' di dm tc tp' c x tok qu) (fun _ _ _ => rfl) rfl (by decide)
def u_a1n (w:World) (n T:Nat) (L sh sd io d pb fs:Nat) (κ κ1 κ2 τ:Nat → Tok) (te k3 tc0 tst ttk tb tp:Tok) (buf c0:Str) (pos pos':Int) (di dm tc:Nat) (tp':Tok → Tok) (c x:Nat) (tok:List Nat) (qu:Bool) : List Sum:=[s_read w 4 5 io d κ2 buf tb tp (T + 6) pos pos' (sx [c]) di dm tc tp']
def r_a1n (w:World) (n T:Nat) (g:List GenState) (L sh sd io d pb fs:Nat) (κ κ1 κ2 τ:Nat → Tok) (te k3 tc0 tst ttk tb tp:Tok) (buf c0:Str) (pos pos':Int) (di dm tc:Nat) (tp':Tok → Tok) (c x:Nat) (tok:List Nat) (qu:Bool) : Out:=runC (G0 w n T 430) 20000 (digits 431 1406315698182343964606643683437022125954675772415970182428171942417546272018474360752599268019589478368756849283470576602739269109904948793706838351398389522085387899508184085184213795080942878517940792452339169339317284935791673487993705108862308196159720763615352292810439393697611805020415963901622437391365207567756460038889361683345851237684804009194577500598690968058022077339347535576517558410666831532986828023634113577255019280355087950794343916198849803299737855887240269013256953469611373592573724068496526518424038502618220228824743426745602201975499268352623184641323505052521524755599956645867179802058894717707988114187339131033623222880701858442909630628242862293105571294829470037640072966227039660356175419304419637087712514867186031740506172363141046173958273) (u_a1n w n T L sh sd io d pb fs κ κ1 κ2 τ te k3 tc0 tst ttk tb tp buf c0 pos pos' di dm tc tp' c x tok qu) (rtLoop L) [(L,rtF4 w.params κ sh qu te k3 c0 tc0),(sh,shI sd),(sd,shD w.params κ1 τ io pb fs (.str (sx [97]) tst) (.str (sx (x :: tok)) ttk)),(io,ioI d),(d,ioD w.params κ2 buf tb pos tp)] g
def b_a1n (n T:Nat) (L sh sd io d pb fs:Nat) (κ κ1 κ2 τ:Nat → Tok) (te k3 tc0 tst ttk tb tp:Tok) (buf c0:Str) (pos pos':Int) (di dm tc:Nat) (tp':Tok → Tok) (c x:Nat) (tok:List Nat) (qu:Bool) : List (Bool × Bool):=[(false,false),(false,false),(Nat.ble (slen (cat (sx (x :: tok)) (sx [c]))) 16777216,true),(sin (sx [39,34]) (sx [c]),false),(sin wordcs (sx [c]),false),(sin (sx [92]) (sx [c]),false),(sin (sx [39,34]) (sx [c]),false),(sin (sx [32,9,13,10]) (sx [c]),false),(true,true),(seqs (sx [c]) (Str.ofString "\n"),false),(true,true)]
theorem e_a1n (b:Bool) (w:World) (n T:Nat) (g:List GenState) (L sh sd io d pb fs:Nat) (κ κ1 κ2 τ:Nat → Tok) (te k3 tc0 tst ttk tb tp:Tok) (buf c0:Str) (pos pos':Int) (di dm tc:Nat) (tp':Tok → Tok) (c x:Nat) (tok:List Nat) (qu:Bool) : (r_a1n (W b w) n T g L sh sd io d pb fs κ κ1 κ2 τ te k3 tc0 tst ttk tb tp buf c0 pos pos' di dm tc tp' c x tok qu).M [false,false,false] = (r_a1n (W b w) n T g L sh sd io d pb fs κ κ1 κ2 τ te k3 tc0 tst ttk tb tp buf c0 pos pos' di dm tc tp' c x tok qu).N (b_a1n n T L sh sd io d pb fs κ κ1 κ2 τ te k3 tc0 tst ttk tb tp buf c0 pos pos' di dm tc tp' c x tok qu) (.again (rtLoop L)) (1 + dm + 2) (7 + di + 34) g [(L,rtF4 (W b w).params κ sh qu te k3 (sx [c]) (T + 7 + tc)),(sh,shI sd),(sd,shD (W b w).params κ1 τ io pb fs (.str (sx [97]) tst) (.str (sx (x :: tok ++ [c])) (T + (7 + di + 31)))),(io,ioI d),(d,ioD (W b w).params κ2 buf tb pos' (tp' (T + 7)))]:=by cases b <;> kernel_rfl
noncomputable def g_a1n {b:Bool} {w:World} (L sh sd io d pb fs:Nat) (κ κ1 κ2 τ:Nat → Tok) (te k3 tc0 tst ttk tb tp:Tok) (buf c0:Str) (pos pos':Int) (di dm tc:Nat) (tp':Tok → Tok) (c x:Nat) (tok:List Nat) (qu:Bool):=mkA (fun n T g => e_a1n b w n T g L sh sd io d pb fs κ κ1 κ2 τ te k3 tc0 tst ttk tb tp buf c0 pos pos' di dm tc tp' c x tok qu) (fun _ _ _ => rfl) rfl (by decide)
def u_a2 (w:World) (n T:Nat) (L sh sd io d pb fs:Nat) (κ κ1 κ2 τ:Nat → Tok) (te k3 tc0 tst ttk tb tp:Tok) (buf c0:Str) (pos pos':Int) (di dm tc:Nat) (tp':Tok → Tok) (c x:Nat) (tok:List Nat) (qu:Bool) : List Sum:=[s_read w 4 5 io d κ2 buf tb tp (T + 6) pos pos' (sx [32]) di dm tc tp']
def r_a2 (w:World) (n T:Nat) (g:List GenState) (L sh sd io d pb fs:Nat) (κ κ1 κ2 τ:Nat → Tok) (te k3 tc0 tst ttk tb tp:Tok) (buf c0:Str) (pos pos':Int) (di dm tc:Nat) (tp':Tok → Tok) (c x:Nat) (tok:List Nat) (qu:Bool) : Out:=runC (G0 w n T 430) 20000 (digits 269 365125540504981356753528441584016235807051994274281827029860042050802114569685982561307167089179279661380993223506198059627873762489590642760939903406878059419370191294698343694649456944202597751443819322316703104009448704230348285536180199034335189901864375925519472266608184887098198438813666260252553530191382063399605136372177994577619234796110996025053535957785890097957047530175017541076216148421262347289462986960241249234802091197147038387912288054639958602102784146183842431105) (u_a2 w n T L sh sd io d pb fs κ κ1 κ2 τ te k3 tc0 tst ttk tb tp buf c0 pos pos' di dm tc tp' c x tok qu) (rtLoop L) [(L,rtF4 w.params κ sh qu te k3 c0 tc0),(sh,shI sd),(sd,shD w.params κ1 τ io pb fs (.str (sx [97]) tst) (.str (sx (x :: tok)) ttk)),(io,ioI d),(d,ioD w.params κ2 buf tb pos tp)] g
def b_a2 (n T:Nat) (L sh sd io d pb fs:Nat) (κ κ1 κ2 τ:Nat → Tok) (te k3 tc0 tst ttk tb tp:Tok) (buf c0:Str) (pos pos':Int) (di dm tc:Nat) (tp':Tok → Tok) (c x:Nat) (tok:List Nat) (qu:Bool) : List (Bool × Bool):=[(Nat.ble (slen (sx (x :: tok))) 16777216,true),(true,true),(true,true)]
theorem e_a2 (b:Bool) (w:World) (n T:Nat) (g:List GenState) (L sh sd io d pb fs:Nat) (κ κ1 κ2 τ:Nat → Tok) (te k3 tc0 tst ttk tb tp:Tok) (buf c0:Str) (pos pos':Int) (di dm tc:Nat) (tp':Tok → Tok) (c x:Nat) (tok:List Nat) (qu:Bool) : (r_a2 (W b w) n T g L sh sd io d pb fs κ κ1 κ2 τ te k3 tc0 tst ttk tb tp buf c0 pos pos' di dm tc tp' c x tok qu).M [false,false] = (r_a2 (W b w) n T g L sh sd io d pb fs κ κ1 κ2 τ te k3 tc0 tst ttk tb tp buf c0 pos pos' di dm tc tp' c x tok qu).N (b_a2 n T L sh sd io d pb fs κ κ1 κ2 τ te k3 tc0 tst ttk tb tp buf c0 pos pos' di dm tc tp' c x tok qu) (.done (.ok .next)) (1 + dm + 1) (7 + di + 25) g [(L,rtF4 (W b w).params κ sh qu te k3 (sx [32]) (T + 7 + tc)),(sh,shI sd),(sd,shD (W b w).params κ1 τ io pb fs (.str (sx [32]) (T + (7 + di + 19))) (.str (sx (x :: tok)) ttk)),(io,ioI d),(d,ioD (W b w).params κ2 buf tb pos' (tp' (T + 7)))]:=by cases b <;> kernel_rfl
noncomputable def g_a2 {b:Bool} {w:World} (L sh sd io d pb fs:Nat) (κ κ1 κ2 τ:Nat → Tok) (te k3 tc0 tst ttk tb tp:Tok) (buf c0:Str) (pos pos':Int) (di dm tc:Nat) (tp':Tok → Tok) (c x:Nat) (tok:List Nat) (qu:Bool):=mkD (fun n T g => e_a2 b w n T g L sh sd io d pb fs κ κ1 κ2 τ te k3 tc0 tst ttk tb tp buf c0 pos pos' di dm tc tp' c x tok qu) (fun _ _ _ => rfl) rfl (by decide)
def u_a3 (w:World) (n T:Nat) (L sh sd io d pb fs:Nat) (κ κ1 κ2 τ:Nat → Tok) (te k3 tc0 tst ttk tb tp:Tok) (buf c0:Str) (pos pos':Int) (di dm tc:Nat) (tp':Tok → Tok) (c x:Nat) (tok:List Nat) (qu:Bool) : List Sum:=[s_read w 4 5 io d κ2 buf tb tp (T + 6) pos pos' (sx []) di dm tc tp']
def r_a3 (w:World) (n T:Nat) (g:List GenState) (L sh sd io d pb fs:Nat) (κ κ1 κ2 τ:Nat → Tok) (te k3 tc0 tst ttk tb tp:Tok) (buf c0:Str) (pos pos':Int) (di dm tc:Nat) (tp':Tok → Tok) (c x:Nat) (tok:List Nat) (qu:Bool) : Out:=runC (G0 w n T 430) 20000 (digits 223 476169985491684791693233200485789037962105183124164974494799437919171729236715051478578499428608962323111240158132323117638977613802461466235533513391157210354568974011888748711811929152340886594136263822327071302320407762400583901033887568447599449737728406233068352406018813812289341617631796407384913767827910508783734975230053904022900617435874399161143768602817082198823909560665108019970096234625) (u_a3 w n T L sh sd io d pb fs κ κ1 κ2 τ te k3 tc0 tst ttk tb tp buf c0 pos pos' di dm tc tp' c x tok qu) (rtLoop L) [(L,rtF4 w.params κ sh qu te k3 c0 tc0),(sh,shI sd),(sd,shD w.params κ1 τ io pb fs (.str (sx [97]) tst) (.str (sx (x :: tok)) ttk)),(io,ioI d),(d,ioD w.params κ2 buf tb pos tp)] g
def b_a3 (n T:Nat) (L sh sd io d pb fs:Nat) (κ κ1 κ2 τ:Nat → Tok) (te k3 tc0 tst ttk tb tp:Tok) (buf c0:Str) (pos pos':Int) (di dm tc:Nat) (tp':Tok → Tok) (c x:Nat) (tok:List Nat) (qu:Bool) : List (Bool × Bool):=[(true,true),(true,true)]
theorem e_a3 (b:Bool) (w:World) (n T:Nat) (g:List GenState) (L sh sd io d pb fs:Nat) (κ κ1 κ2 τ:Nat → Tok) (te k3 tc0 tst ttk tb tp:Tok) (buf c0:Str) (pos pos':Int) (di dm tc:Nat) (tp':Tok → Tok) (c x:Nat) (tok:List Nat) (qu:Bool) : (r_a3 (W b w) n T g L sh sd io d pb fs κ κ1 κ2 τ te k3 tc0 tst ttk tb tp buf c0 pos pos' di dm tc tp' c x tok qu).M [false,false] = (r_a3 (W b w) n T g L sh sd io d pb fs κ κ1 κ2 τ te k3 tc0 tst ttk tb tp buf c0 pos pos' di dm tc tp' c x tok qu).N (b_a3 n T L sh sd io d pb fs κ κ1 κ2 τ te k3 tc0 tst ttk tb tp buf c0 pos pos' di dm tc tp' c x tok qu) (.done (.ok .next)) (1 + dm + 1) (7 + di + 18) g [(L,rtF4 (W b w).params κ sh qu te k3 (sx []) (T + 7 + tc)),(sh,shI sd),(sd,shD (W b w).params κ1 τ io pb fs .none (.str (sx (x :: tok)) ttk)),(io,ioI d),(d,ioD (W b w).params κ2 buf tb pos' (tp' (T + 7)))]:=by cases b <;> kernel_rfl
noncomputable def g_a3 {b:Bool} {w:World} (L sh sd io d pb fs:Nat) (κ κ1 κ2 τ:Nat → Tok) (te k3 tc0 tst ttk tb tp:Tok) (buf c0:Str) (pos pos':Int) (di dm tc:Nat) (tp':Tok → Tok) (c x:Nat) (tok:List Nat) (qu:Bool):=mkD (fun n T g => e_a3 b w n T g L sh sd io d pb fs κ κ1 κ2 τ te k3 tc0 tst ttk tb tp buf c0 pos pos' di dm tc tp' c x tok qu) (fun _ _ _ => rfl) rfl (by decide)
def kf3 (a b c:Tok) (i:Nat) : Tok:=match i with
  | 0 => a
  | 1 => b
  | _ => c
def u_rt0 (w:World) (n T:Nat) (sh sd io d pb fs:Nat) (κ1 κ2 τ:Nat → Tok) (tst ttk tb tp:Tok) (st:Value) (buf:Str) (pos:Int) : List Sum:=[]
def r_rt0 (w:World) (n T:Nat) (g:List GenState) (sh sd io d pb fs:Nat) (κ1 κ2 τ:Nat → Tok) (tst ttk tb tp:Tok) (st:Value) (buf:Str) (pos:Int) : Out:=runFn (G0 w n T 420) 20000 (digits 8 13263949795392) (u_rt0 w n T sh sd io d pb fs κ1 κ2 τ tst ttk tb tp st buf pos) (.call (.ref 707) ⟨[.ref sh],[]⟩) [(sh,shI sd),(sd,shD w.params κ1 τ io pb fs st (.str (sx []) ttk)),(io,ioI d),(d,ioD w.params κ2 buf tb pos tp)] g
def b_rt0 (n T:Nat) (sh sd io d pb fs:Nat) (κ1 κ2 τ:Nat → Tok) (tst ttk tb tp:Tok) (st:Value) (buf:Str) (pos:Int) : List (Bool × Bool):=[]
theorem e_rt0 (b:Bool) (w:World) (n T:Nat) (g:List GenState) (sh sd io d pb fs:Nat) (κ1 κ2 τ:Nat → Tok) (tst ttk tb tp:Tok) (st:Value) (buf:Str) (pos:Int) : (r_rt0 (W b w) n T g sh sd io d pb fs κ1 κ2 τ tst ttk tb tp st buf pos).M3 [] = (r_rt0 (W b w) n T g sh sd io d pb fs κ1 κ2 τ tst ttk tb tp st buf pos).N3 (b_rt0 n T sh sd io d pb fs κ1 κ2 τ tst ttk tb tp st buf pos) (rtLoop n) (1) (1) (4) g [(n,rtF3 (W b w).params (kf3 T (T + 1) (T + 3)) sh false (T + 2)),(sh,shI sd),(sd,shD (W b w).params κ1 τ io pb fs st (.str (sx []) ttk)),(io,ioI d),(d,ioD (W b w).params κ2 buf tb pos tp)]:=by cases b <;> kernel_rfl
noncomputable def g_rt0 {b:Bool} {w:World} (sh sd io d pb fs:Nat) (κ1 κ2 τ:Nat → Tok) (tst ttk tb tp:Tok) (st:Value) (buf:Str) (pos:Int):=mkFS (fun n T g => e_rt0 b w n T g sh sd io d pb fs κ1 κ2 τ tst ttk tb tp st buf pos) (fun _ _ _ => rfl) (by decide)
def u_rt1 (w:World) (n T:Nat) (n0 T0:Nat) (g0:List GenState) (L:Nat) (κ:Nat → Tok) (te k3 tc0 tk2:Tok) (c0:Str) (st2:Value) (pos2:Int) (tp2:Tok) (sh sd io d pb fs:Nat) (κ1 κ2 τ:Nat → Tok) (tst ttk tb tp:Tok) (st:Value) (buf:Str) (pos:Int) (x:Nat) (tok:List Nat) : List Sum:=[]
def r_rt1 (w:World) (n T:Nat) (g:List GenState) (n0 T0:Nat) (g0:List GenState) (L:Nat) (κ:Nat → Tok) (te k3 tc0 tk2:Tok) (c0:Str) (st2:Value) (pos2:Int) (tp2:Tok) (sh sd io d pb fs:Nat) (κ1 κ2 τ:Nat → Tok) (tst ttk tb tp:Tok) (st:Value) (buf:Str) (pos:Int) (x:Nat) (tok:List Nat) : Out:=runK w n T 420 20000 (digits 67 196813040490864730261584215583031159142622667131117690060119591348460368092177753074332320668994861764993035996279865473) (u_rt1 w n T n0 T0 g0 L κ te k3 tc0 tk2 c0 st2 pos2 tp2 sh sd io d pb fs κ1 κ2 τ tst ttk tb tp st buf pos x tok) (r_rt0 w n0 T0 g0 sh sd io d pb fs κ1 κ2 τ tst ttk tb tp st buf pos) (.ok .next) [(n0,rtF4 w.params κ sh true te k3 c0 tc0),(sh,shI sd),(sd,shD w.params κ1 τ io pb fs st2 (.str (sx (x :: tok)) tk2)),(io,ioI d),(d,ioD w.params κ2 buf tb pos2 tp2)] g
def b_rt1 (n T:Nat) (n0 T0:Nat) (g0:List GenState) (L:Nat) (κ:Nat → Tok) (te k3 tc0 tk2:Tok) (c0:Str) (st2:Value) (pos2:Int) (tp2:Tok) (sh sd io d pb fs:Nat) (κ1 κ2 τ:Nat → Tok) (tst ttk tb tp:Tok) (st:Value) (buf:Str) (pos:Int) (x:Nat) (tok:List Nat) : List (Bool × Bool):=[]
theorem e_rt1 (b:Bool) (w:World) (n T:Nat) (g:List GenState) (n0 T0:Nat) (g0:List GenState) (L:Nat) (κ:Nat → Tok) (te k3 tc0 tk2:Tok) (c0:Str) (st2:Value) (pos2:Int) (tp2:Tok) (sh sd io d pb fs:Nat) (κ1 κ2 τ:Nat → Tok) (tst ttk tb tp:Tok) (st:Value) (buf:Str) (pos:Int) (x:Nat) (tok:List Nat) : (r_rt1 (W b w) n T g n0 T0 g0 L κ te k3 tc0 tk2 c0 st2 pos2 tp2 sh sd io d pb fs κ1 κ2 τ tst ttk tb tp st buf pos x tok).M [false] = (r_rt1 (W b w) n T g n0 T0 g0 L κ te k3 tc0 tk2 c0 st2 pos2 tp2 sh sd io d pb fs κ1 κ2 τ tst ttk tb tp st buf pos x tok).N (b_rt1 n T n0 T0 g0 L κ te k3 tc0 tk2 c0 st2 pos2 tp2 sh sd io d pb fs κ1 κ2 τ tst ttk tb tp st buf pos x tok) (.done (.ok (.ret (.str (sx (x :: tok)) tk2)))) (0) (8) g [(sh,shI sd),(sd,shD (W b w).params κ1 τ io pb fs st2 (.str (sx []) (T + 2))),(io,ioI d),(d,ioD (W b w).params κ2 buf tb pos2 tp2)]:=by cases b <;> kernel_rfl
noncomputable def g_rt1 {b:Bool} {w:World} (n0 T0:Nat) (g0:List GenState) (L:Nat) (κ:Nat → Tok) (te k3 tc0 tk2:Tok) (c0:Str) (st2:Value) (pos2:Int) (tp2:Tok) (sh sd io d pb fs:Nat) (κ1 κ2 τ:Nat → Tok) (tst ttk tb tp:Tok) (st:Value) (buf:Str) (pos:Int) (x:Nat) (tok:List Nat):=mkK (fun n T g => e_rt1 b w n T g n0 T0 g0 L κ te k3 tc0 tk2 c0 st2 pos2 tp2 sh sd io d pb fs κ1 κ2 τ tst ttk tb tp st buf pos x tok) (fun _ _ _ => rfl) (by decide)
def u_rt2 (w:World) (n T:Nat) (n0 T0:Nat) (g0:List GenState) (L:Nat) (κ:Nat → Tok) (te k3 tc0 tk2:Tok) (c0:Str) (st2:Value) (pos2:Int) (tp2:Tok) (sh sd io d pb fs:Nat) (κ1 κ2 τ:Nat → Tok) (tst ttk tb tp:Tok) (st:Value) (buf:Str) (pos:Int) (x:Nat) (tok:List Nat) : List Sum:=[]
def r_rt2 (w:World) (n T:Nat) (g:List GenState) (n0 T0:Nat) (g0:List GenState) (L:Nat) (κ:Nat → Tok) (te k3 tc0 tk2:Tok) (c0:Str) (st2:Value) (pos2:Int) (tp2:Tok) (sh sd io d pb fs:Nat) (κ1 κ2 τ:Nat → Tok) (tst ttk tb tp:Tok) (st:Value) (buf:Str) (pos:Int) (x:Nat) (tok:List Nat) : Out:=runK w n T 420 20000 (digits 69 806146213850581935151448947186367242951267792898887611470005327083856270031097455152083154152137780100114511700530149982337) (u_rt2 w n T n0 T0 g0 L κ te k3 tc0 tk2 c0 st2 pos2 tp2 sh sd io d pb fs κ1 κ2 τ tst ttk tb tp st buf pos x tok) (r_rt0 w n0 T0 g0 sh sd io d pb fs κ1 κ2 τ tst ttk tb tp st buf pos) (.ok .next) [(n0,rtF4 w.params κ sh false te k3 c0 tc0),(sh,shI sd),(sd,shD w.params κ1 τ io pb fs st2 (.str (sx (x :: tok)) tk2)),(io,ioI d),(d,ioD w.params κ2 buf tb pos2 tp2)] g
def b_rt2 (n T:Nat) (n0 T0:Nat) (g0:List GenState) (L:Nat) (κ:Nat → Tok) (te k3 tc0 tk2:Tok) (c0:Str) (st2:Value) (pos2:Int) (tp2:Tok) (sh sd io d pb fs:Nat) (κ1 κ2 τ:Nat → Tok) (tst ttk tb tp:Tok) (st:Value) (buf:Str) (pos:Int) (x:Nat) (tok:List Nat) : List (Bool × Bool):=[]
theorem e_rt2 (b:Bool) (w:World) (n T:Nat) (g:List GenState) (n0 T0:Nat) (g0:List GenState) (L:Nat) (κ:Nat → Tok) (te k3 tc0 tk2:Tok) (c0:Str) (st2:Value) (pos2:Int) (tp2:Tok) (sh sd io d pb fs:Nat) (κ1 κ2 τ:Nat → Tok) (tst ttk tb tp:Tok) (st:Value) (buf:Str) (pos:Int) (x:Nat) (tok:List Nat) : (r_rt2 (W b w) n T g n0 T0 g0 L κ te k3 tc0 tk2 c0 st2 pos2 tp2 sh sd io d pb fs κ1 κ2 τ tst ttk tb tp st buf pos x tok).M [false] = (r_rt2 (W b w) n T g n0 T0 g0 L κ te k3 tc0 tk2 c0 st2 pos2 tp2 sh sd io d pb fs κ1 κ2 τ tst ttk tb tp st buf pos x tok).N (b_rt2 n T n0 T0 g0 L κ te k3 tc0 tk2 c0 st2 pos2 tp2 sh sd io d pb fs κ1 κ2 τ tst ttk tb tp st buf pos x tok) (.done (.ok (.ret (.str (sx (x :: tok)) tk2)))) (0) (9) g [(sh,shI sd),(sd,shD (W b w).params κ1 τ io pb fs st2 (.str (sx []) (T + 2))),(io,ioI d),(d,ioD (W b w).params κ2 buf tb pos2 tp2)]:=by cases b <;> kernel_rfl
noncomputable def g_rt2 {b:Bool} {w:World} (n0 T0:Nat) (g0:List GenState) (L:Nat) (κ:Nat → Tok) (te k3 tc0 tk2:Tok) (c0:Str) (st2:Value) (pos2:Int) (tp2:Tok) (sh sd io d pb fs:Nat) (κ1 κ2 τ:Nat → Tok) (tst ttk tb tp:Tok) (st:Value) (buf:Str) (pos:Int) (x:Nat) (tok:List Nat):=mkK (fun n T g => e_rt2 b w n T g n0 T0 g0 L κ te k3 tc0 tk2 c0 st2 pos2 tp2 sh sd io d pb fs κ1 κ2 τ tst ttk tb tp st buf pos x tok) (fun _ _ _ => rfl) (by decide)
def u_rt3 (w:World) (n T:Nat) (n0 T0:Nat) (g0:List GenState) (L:Nat) (κ:Nat → Tok) (te k3 tc0 tk2:Tok) (c0:Str) (st2:Value) (pos2:Int) (tp2:Tok) (sh sd io d pb fs:Nat) (κ1 κ2 τ:Nat → Tok) (tst ttk tb tp:Tok) (st:Value) (buf:Str) (pos:Int) : List Sum:=[]
def r_rt3 (w:World) (n T:Nat) (g:List GenState) (n0 T0:Nat) (g0:List GenState) (L:Nat) (κ:Nat → Tok) (te k3 tc0 tk2:Tok) (c0:Str) (st2:Value) (pos2:Int) (tp2:Tok) (sh sd io d pb fs:Nat) (κ1 κ2 τ:Nat → Tok) (tst ttk tb tp:Tok) (st:Value) (buf:Str) (pos:Int) : Out:=runK w n T 420 20000 (digits 71 3301974891931983606380334887026178439823539300014086887458581732377173669853278271617591568597893485479065015754650787719938177) (u_rt3 w n T n0 T0 g0 L κ te k3 tc0 tk2 c0 st2 pos2 tp2 sh sd io d pb fs κ1 κ2 τ tst ttk tb tp st buf pos) (r_rt0 w n0 T0 g0 sh sd io d pb fs κ1 κ2 τ tst ttk tb tp st buf pos) (.ok .next) [(n0,rtF4 w.params κ sh false te k3 c0 tc0),(sh,shI sd),(sd,shD w.params κ1 τ io pb fs st2 (.str (sx []) tk2)),(io,ioI d),(d,ioD w.params κ2 buf tb pos2 tp2)] g
def b_rt3 (n T:Nat) (n0 T0:Nat) (g0:List GenState) (L:Nat) (κ:Nat → Tok) (te k3 tc0 tk2:Tok) (c0:Str) (st2:Value) (pos2:Int) (tp2:Tok) (sh sd io d pb fs:Nat) (κ1 κ2 τ:Nat → Tok) (tst ttk tb tp:Tok) (st:Value) (buf:Str) (pos:Int) : List (Bool × Bool):=[]
theorem e_rt3 (b:Bool) (w:World) (n T:Nat) (g:List GenState) (n0 T0:Nat) (g0:List GenState) (L:Nat) (κ:Nat → Tok) (te k3 tc0 tk2:Tok) (c0:Str) (st2:Value) (pos2:Int) (tp2:Tok) (sh sd io d pb fs:Nat) (κ1 κ2 τ:Nat → Tok) (tst ttk tb tp:Tok) (st:Value) (buf:Str) (pos:Int) : (r_rt3 (W b w) n T g n0 T0 g0 L κ te k3 tc0 tk2 c0 st2 pos2 tp2 sh sd io d pb fs κ1 κ2 τ tst ttk tb tp st buf pos).M [false] = (r_rt3 (W b w) n T g n0 T0 g0 L κ te k3 tc0 tk2 c0 st2 pos2 tp2 sh sd io d pb fs κ1 κ2 τ tst ttk tb tp st buf pos).N (b_rt3 n T n0 T0 g0 L κ te k3 tc0 tk2 c0 st2 pos2 tp2 sh sd io d pb fs κ1 κ2 τ tst ttk tb tp st buf pos) (.done (.ok (.ret .none))) (0) (10) g [(sh,shI sd),(sd,shD (W b w).params κ1 τ io pb fs st2 (.str (sx []) (T + 2))),(io,ioI d),(d,ioD (W b w).params κ2 buf tb pos2 tp2)]:=by cases b <;> kernel_rfl
noncomputable def g_rt3 {b:Bool} {w:World} (n0 T0:Nat) (g0:List GenState) (L:Nat) (κ:Nat → Tok) (te k3 tc0 tk2:Tok) (c0:Str) (st2:Value) (pos2:Int) (tp2:Tok) (sh sd io d pb fs:Nat) (κ1 κ2 τ:Nat → Tok) (tst ttk tb tp:Tok) (st:Value) (buf:Str) (pos:Int):=mkK (fun n T g => e_rt3 b w n T g n0 T0 g0 L κ te k3 tc0 tk2 c0 st2 pos2 tp2 sh sd io d pb fs κ1 κ2 τ tst ttk tb tp st buf pos) (fun _ _ _ => rfl) (by decide)
theorem sin_one (l:List Nat) (c:Nat) : sin (sx l) (sx [c]) = decide (c ∈ l):=StrLaws.found_one (sx l) c
theorem seqs_sx (l m:List Nat) : seqs (sx l) (sx m) = (l == m):=rfl
theorem slen_sx (l:List Nat) : slen (sx l) = l.length:=rfl
theorem nl_eq : Str.ofString "\n" = sx [10]:=by kernel_rfl
theorem spart_one {pre rest buf:List Nat} {c:Nat} (h:buf = pre ++ c :: rest) : spart (sx buf) (pre.length : Int) ((pre.length : Int) + 1) = sx [c]:=by
  subst h
  unfold spart
  show (⟨⟨((pre ++ c :: rest).drop ((pre.length : Int)).toNat).take (((pre.length : Int) + 1).toNat - ((pre.length : Int)).toNat)⟩⟩ : Str) = ⟨⟨[c]⟩⟩
  rw [Int.toNat_natCast,show (((pre.length : Int) + 1).toNat - pre.length) = 1 by omega,List.drop_left]
  rfl
theorem spart_end {pre buf:List Nat} {c:Nat} (h:buf = pre ++ [c]) : spart (sx buf) (pre.length : Int) (slen (sx buf)) = sx [c]:=by
  subst h
  unfold spart
  show (⟨⟨((pre ++ [c]).drop ((pre.length : Int)).toNat).take ((((pre ++ [c]).length : Nat) : Int).toNat - ((pre.length : Int)).toNat)⟩⟩ : Str) = ⟨⟨[c]⟩⟩
  rw [Int.toNat_natCast,Int.toNat_natCast,List.length_append,List.length_singleton,Nat.add_sub_cancel_left,List.drop_left]
  rfl
noncomputable def rdCh : List Nat → Str
  | [] => sx []
  | c :: _ => sx [c]
noncomputable def rdPos (pre:List Nat) : List Nat → Int
  | [] => pre.length
  | _ :: _ => (pre.length : Int) + 1
theorem read_ok {b:Bool} {w:World} {pre rest buf:List Nat} (h:buf = pre ++ rest) (hl:buf.length ≤ 16777216) (h1:pre ≠ [] ∨ rest.length ≠ 1) (io d:Nat) (κ:Nat → Tok) (tb tp:Tok) :
    ∃ (di dm tc:Nat) (tp':Tok → Tok),∀ n T lv j1 j2 t1,(s_read (W b w) j1 j2 io d κ (sx buf) tb tp t1 pre.length (rdPos pre rest) (rdCh rest) di dm tc tp').Ok (G0 (W b w) n T lv):=by
  have hsl : slen (sx buf) = buf.length:=rfl
  have hf : Nat.ble (slen (sx buf)) 16777216 = true:=Nat.ble_eq_true_of_le hl
  have e2 : buf.length = pre.length + rest.length:=by rw [h,List.length_append]
  match rest,h,h1,e2 with
  | [],h,h1,e2 =>
    refine ⟨19,3,18,fun _ => tp,fun n T lv j1 j2 t1 => ?_⟩
    refine ok_rd3 (j1:=j1) (j2:=j2) io d κ buf tb tp t1 pre.length (fun _ _ _ hy => nm hy) fun n T q hq => ?_
    simp only [b_rd3,List.mem_cons,List.not_mem_nil,or_false] at hq
    rcases hq with rfl | rfl
    · exact decide_eq_true (by simp only [List.length_nil] at e2; rw [hsl]; omega)
    · exact hf
  | [c],h,h1,e2 =>
    refine ⟨24,4,23,fun T => T + 16,fun n T lv j1 j2 t1 => ?_⟩
    have hp : pre.length ≠ 0:=by
      rcases h1 with h1 | h1
      · intro z; exact h1 (List.length_eq_zero_iff.mp z)
      · exact absurd rfl h1
    simp only [List.length_cons,List.length_nil] at e2
    have z:=ok_rd2 (b:=b) (w:=w) (n:=n) (T:=T) (lv_:=lv) (j1:=j1) (j2:=j2) io d κ buf tb tp t1 pre.length (fun _ _ _ hy => nm hy) fun n T q hq => by
      simp only [b_rd2,List.mem_cons,List.not_mem_nil,or_false] at hq
      rcases hq with rfl | rfl | rfl | rfl | rfl | rfl | rfl | rfl
      · rfl
      · exact decide_eq_true (by rw [hsl]; omega)
      · exact decide_eq_true (Int.le_refl _)
      · exact decide_eq_true (by rw [hsl]; omega)
      · exact hf
      · exact decide_eq_false (by show ¬ ((pre.length : Int) + 1 < _); rw [hsl]; omega)
      · exact decide_eq_false (by rw [hsl]; omega)
      · exact hf
    unfold s_rd2 at z
    rw [spart_end h] at z
    unfold s_read
    have e3 : rdPos pre [c] = (slen (sx buf) : Int):=by show (pre.length : Int) + 1 = _; rw [hsl]; omega
    rw [e3]
    exact z
  | c :: c2 :: r,h,h1,e2 =>
    refine ⟨26,4,25,fun T => T + 20,fun n T lv j1 j2 t1 => ?_⟩
    simp only [List.length_cons] at e2
    have z:=ok_rd1 (b:=b) (w:=w) (n:=n) (T:=T) (lv_:=lv) (j1:=j1) (j2:=j2) io d κ buf tb tp t1 pre.length (fun _ _ _ hy => nm hy) fun n T q hq => by
      simp only [b_rd1,List.mem_cons,List.not_mem_nil,or_false] at hq
      rcases hq with rfl | rfl | rfl | rfl | rfl | rfl | rfl | rfl
      · rfl
      · exact decide_eq_true (by show (pre.length : Int) ≤ (pre.length : Int) + 1; omega)
      · exact decide_eq_true (by show (pre.length : Int) + 1 ≤ _; rw [hsl]; omega)
      · exact decide_eq_true (by show (pre.length : Int) + 1 - pre.length < _; rw [hsl]; omega)
      · exact hf
      · exact decide_eq_true (by show (pre.length : Int) + 1 < _; rw [hsl]; omega)
      · exact decide_eq_false (by rw [hsl]; omega)
      · exact hf
    unfold s_rd1 at z
    rw [spart_one h] at z
    exact z
structure Sm (s s':Shared) : Prop where
  gens : s'.gens = s.gens
  drawn : s'.drawn = s.drawn
  os : s'.os = s.os
theorem Sm.refl (s:Shared) : Sm s s:=⟨rfl,rfl,rfl⟩
theorem Sm.trans {a b c:Shared} (h:Sm a b) (k:Sm b c) : Sm a c:=⟨k.gens.trans h.gens,k.drawn.trans h.drawn,k.os.trans h.os⟩
theorem Nx.sm {w:World} {H:Heap} {s s':Shared} {m i:Nat} {S:List (Addr × Obj)} (N:Nx w H s s' m i S) : Sm s s':=⟨N.gens,N.drawn,N.os⟩
abbrev RS (P:Params) (L sh sd io d pb fs:Nat) (κ κ1 κ2 τ:Nat → Tok) (te tb:Tok) (qu:Bool) (k3 tc0:Tok) (c0:Str) (st tk:Value) (buf:Str) (pos:Int) (tp:Tok) : List (Addr × Obj) :=
  [(L,rtF4 P κ sh qu te k3 c0 tc0),(sh,shI sd),(sd,shD P κ1 τ io pb fs st tk),(io,ioI d),(d,ioD P κ2 buf tb pos tp)]
noncomputable def qOk (c:Nat) : Prop:=c ≠ 39 ∧ c ≠ 10 ∧ c ≠ 92
theorem all_pairs {l:List (Bool × Bool)} (h:(l.all fun q => q.1 == q.2) = true) : ∀ q ∈ l,q.1 = q.2:=fun q hq => by
  have:=List.all_eq_true.mp h q hq
  simpa using this
theorem one_ne {c d:Nat} (h:c ≠ d) : ([c] == [d]) = false:=by
  simp [h]
section
variable {b:Bool} {w:World} {A:Around} {R:Result → Shared → Prop} {v:Nat} {F:List (Addr × Obj)} {H:Heap} (L sh sd io d pb fs:Nat) (κ κ1 κ2 τ:Nat → Tok) (te tb:Tok) (hL:Lv A v) (hv:v ≤ 430)
include hL hv
theorem loop_q : ∀ (q pre rest buf:List Nat) (x:Nat) (tok:List Nat) (k3 tc0 tst ttk tp:Tok) (c0:Str) (s:Shared),buf = pre ++ (q ++ 39 :: rest) → buf.length ≤ 16777216 → pre ≠ [] → (∀ c ∈ q,qOk c) → tok.length + q.length + 1 ≤ 16777216 →
    Hp (W b w) H s.heap (RS (W b w).params L sh sd io d pb fs κ κ1 κ2 τ te tb true k3 tc0 c0 (.str (sx [39]) tst) (.str (sx (x :: tok)) ttk) (sx buf) pre.length tp ++ F) →
    (∀ (s':Shared) (k3 tc0 tst ttk tp:Tok) (c0:Str),Sm s s' → Hp (W b w) H s'.heap (RS (W b w).params L sh sd io d pb fs κ κ1 κ2 τ te tb true k3 tc0 c0 (.str (sx [97]) tst) (.str (sx (x :: (tok ++ q))) ttk) (sx buf) ((pre ++ q).length + 1 : Nat) tp ++ F) → codeAny (model P0 (W b w)) A (rtLoop L) R s') →
    codeAny (model P0 (W b w)) A (rtLoop L) R s:=by
  intro q
  induction q with
  | nil =>
    intro pre rest buf x tok k3 tc0 tst ttk tp c0 s hb hl hp _ ht D post
    obtain ⟨di,dm,tc,tp',ok⟩:=read_ok (b:=b) (w:=w) (rest:=39 :: rest) hb hl (.inl hp) io d κ2 tb tp
    refine g_q2 L sh sd io d pb fs κ κ1 κ2 τ te k3 tc0 tst ttk tb tp (sx buf) c0 pre.length (rdPos pre (39 :: rest)) di dm tc tp' 0 x tok (fun n T y hy => ?_) (fun n T => all_pairs ?_) hL hv D fun s' N => ?_
    · cases hy with
      | head => exact ok _ _ _ _ _ _
      | tail _ hy => cases hy
    · rfl
    · have hp:=N.hp
      have e : (rdPos pre (39 :: rest)) = (((pre ++ []).length + 1 : Nat) : Int):=by rw [List.append_nil]; rfl
      rw [e] at hp
      have post:=post s' k3 (s.toks + 7 + tc) (s.toks + (7 + di + 14)) ttk (tp' (s.toks + 7)) (sx [39]) N.sm
      rw [List.append_nil tok] at post
      exact post hp
  | cons c q ih =>
    intro pre rest buf x tok k3 tc0 tst ttk tp c0 s hb hl hp hq ht D post
    obtain ⟨di,dm,tc,tp',ok⟩:=read_ok (b:=b) (w:=w) (rest:=c :: (q ++ 39 :: rest)) hb hl (.inl hp) io d κ2 tb tp
    have hc : qOk c:=hq c (.head _)
    simp only [List.length_cons] at ht
    refine g_q1b L sh sd io d pb fs κ κ1 κ2 τ te k3 tc0 tst ttk tb tp (sx buf) c0 pre.length (rdPos pre (c :: (q ++ 39 :: rest))) di dm tc tp' c x tok (fun n T y hy => ?_) (fun n T => all_pairs ?_) hL hv D fun s' N => ?_
    · cases hy with
      | head => exact ok _ _ _ _ _ _
      | tail _ hy => cases hy
    · have f1 : Nat.ble (slen (cat (sx (x :: tok)) (sx [c]))) 16777216 = true:=by
        refine Nat.ble_eq_true_of_le ?_
        show (x :: tok ++ [c]).length ≤ _
        simp only [List.length_append,List.length_cons,List.length_nil]; omega
      have f2 : sin (sx [92]) (sx [c]) = false:=by rw [sin_one]; simp [hc.2.2]
      have f3 : seqs (sx [c]) (sx [39]) = false:=by rw [seqs_sx]; exact one_ne hc.1
      have f4 : seqs (sx [c]) (Str.ofString "\n") = false:=by rw [nl_eq,seqs_sx]; exact one_ne hc.2.1
      unfold b_q1b
      simp only [f1,f2,f3,f4]
      rfl
    · refine ih (pre ++ [c]) rest buf x (tok ++ [c]) k3 (s.toks + 7 + tc) tst (s.toks + (7 + di + 16)) (tp' (s.toks + 7)) (sx [c]) s' (by rw [hb]; simp) hl (by simp) (fun z hz => hq z (.tail _ hz)) (by simp; omega) ?_ ?_
      · have hp:=N.hp
        have e : (rdPos pre (c :: (q ++ 39 :: rest))) = (((pre ++ [c]).length : Nat) : Int):=by simp [rdPos]
        rw [e] at hp
        exact hp
      · intro s'' k3 tc0 tst ttk tp c0 S1 D1
        refine post s'' k3 tc0 tst ttk tp c0 (N.sm.trans S1) ?_
        rw [List.append_assoc,List.append_assoc] at D1
        exact D1
end
noncomputable def sgOk (c:Nat) : Prop:=c ∉ [32,9,13,10] ∧ c ∉ [39,34] ∧ c ≠ 92
noncomputable def endSt : List Nat → Tok → Value
  | [],_ => .none
  | _ :: _,t => .str (sx [32]) t
inductive Brk : List Nat → Prop
  | nil : Brk []
  | cons (r:List Nat) : Brk (32 :: r)
section
variable {b:Bool} {w:World} {A:Around} {R:Result → Shared → Prop} {v:Nat} {F:List (Addr × Obj)} {H:Heap} (L sh sd io d pb fs:Nat) (κ κ1 κ2 τ:Nat → Tok) (te tb:Tok) (hL:Lv A v) (hv:v ≤ 430)
include hL hv
theorem loop_a (qu:Bool) : ∀ (q pre rest buf:List Nat) (x:Nat) (tok:List Nat) (k3 tc0 tst ttk tp:Tok) (c0:Str) (s:Shared),buf = pre ++ (q ++ rest) → Brk rest → buf.length ≤ 16777216 → pre ≠ [] → (∀ c ∈ q,sgOk c) → tok.length + q.length + 1 ≤ 16777216 →
    Hp (W b w) H s.heap (RS (W b w).params L sh sd io d pb fs κ κ1 κ2 τ te tb qu k3 tc0 c0 (.str (sx [97]) tst) (.str (sx (x :: tok)) ttk) (sx buf) pre.length tp ++ F) →
    (∀ (s':Shared) (k3 tc0 tst ttk tp:Tok) (c0:Str),Sm s s' → Hp (W b w) H s'.heap (RS (W b w).params L sh sd io d pb fs κ κ1 κ2 τ te tb qu k3 tc0 c0 (endSt rest tst) (.str (sx (x :: (tok ++ q))) ttk) (sx buf) (rdPos (pre ++ q) rest) tp ++ F) → R (.ok .next) s') →
    codeAny (model P0 (W b w)) A (rtLoop L) R s:=by
  intro q
  induction q with
  | nil =>
    intro pre rest buf x tok k3 tc0 tst ttk tp c0 s hb hr hl hp _ ht D post
    have hb : buf = pre ++ rest:=hb
    obtain ⟨di,dm,tc,tp',ok⟩:=read_ok (b:=b) (w:=w) hb hl (.inl hp) io d κ2 tb tp
    rw [List.append_nil,List.append_nil] at post
    cases hr with
    | nil =>
      refine g_a3 L sh sd io d pb fs κ κ1 κ2 τ te k3 tc0 tst ttk tb tp (sx buf) c0 pre.length (rdPos pre []) di dm tc tp' 0 x tok qu (fun n T y hy => ?_) (fun n T => all_pairs ?_) hL hv D fun s' N => ?_
      · cases hy with
        | head => exact ok _ _ _ _ _ _
        | tail _ hy => cases hy
      · rfl
      · exact post s' k3 (s.toks + 7 + tc) tst ttk (tp' (s.toks + 7)) (sx []) N.sm N.hp
    | cons r =>
      refine g_a2 L sh sd io d pb fs κ κ1 κ2 τ te k3 tc0 tst ttk tb tp (sx buf) c0 pre.length (rdPos pre (32 :: r)) di dm tc tp' 0 x tok qu (fun n T y hy => ?_) (fun n T => all_pairs ?_) hL hv D fun s' N => ?_
      · cases hy with
        | head => exact ok _ _ _ _ _ _
        | tail _ hy => cases hy
      · have f1 : Nat.ble (slen (sx (x :: tok))) 16777216 = true:=by
          refine Nat.ble_eq_true_of_le ?_
          show (x :: tok).length ≤ _
          simp only [List.length_cons,List.length_nil] at ht ⊢; omega
        unfold b_a2
        simp only [f1]
        rfl
      · exact post s' k3 (s.toks + 7 + tc) (s.toks + (7 + di + 19)) ttk (tp' (s.toks + 7)) (sx [32]) N.sm N.hp
  | cons c q ih =>
    intro pre rest buf x tok k3 tc0 tst ttk tp c0 s hb hr hl hp hq ht D post
    obtain ⟨di,dm,tc,tp',ok⟩:=read_ok (b:=b) (w:=w) (rest:=c :: (q ++ rest)) hb hl (.inl hp) io d κ2 tb tp
    have hc : sgOk c:=hq c (.head _)
    simp only [List.length_cons] at ht
    have f1 : Nat.ble (slen (cat (sx (x :: tok)) (sx [c]))) 16777216 = true:=by
      refine Nat.ble_eq_true_of_le ?_
      show (x :: tok ++ [c]).length ≤ _
      simp only [List.length_append,List.length_cons,List.length_nil]; omega
    have f2 : sin (sx [92]) (sx [c]) = false:=by rw [sin_one]; simp [hc.2.2]
    have f3 : sin (sx [39,34]) (sx [c]) = false:=by rw [sin_one]; exact decide_eq_false hc.2.1
    have f4 : seqs (sx [c]) (Str.ofString "\n") = false:=by
      rw [nl_eq,seqs_sx]
      refine one_ne fun e => hc.1 ?_
      rw [e]; simp
    have f5 : sin (sx [32,9,13,10]) (sx [c]) = false:=by rw [sin_one]; exact decide_eq_false hc.1
    have step : ∀ (s':Shared) (ttk':Tok),Sm s s' → Hp (W b w) H s'.heap (RS (W b w).params L sh sd io d pb fs κ κ1 κ2 τ te tb qu k3 (s.toks + 7 + tc) (sx [c]) (.str (sx [97]) tst) (.str (sx (x :: tok ++ [c])) ttk') (sx buf) (rdPos pre (c :: (q ++ rest))) (tp' (s.toks + 7)) ++ F) → codeAny (model P0 (W b w)) A (rtLoop L) R s':=by
      intro s' ttk' S0 D0
      refine ih (pre ++ [c]) rest buf x (tok ++ [c]) k3 (s.toks + 7 + tc) tst ttk' (tp' (s.toks + 7)) (sx [c]) s' (by rw [hb]; simp) hr hl (by simp) (fun z hz => hq z (.tail _ hz)) (by simp; omega) ?_ ?_
      · have e : (rdPos pre (c :: (q ++ rest))) = (((pre ++ [c]).length : Nat) : Int):=by simp [rdPos]
        rw [e] at D0
        exact D0
      · intro s'' k3 tc0 tst ttk tp c0 S1 D1
        refine post s'' k3 tc0 tst ttk tp c0 (S0.trans S1) ?_
        rw [List.append_assoc,List.append_assoc] at D1
        exact D1
    cases hw : sin wordcs (sx [c]) with
    | true =>
      refine g_a1w L sh sd io d pb fs κ κ1 κ2 τ te k3 tc0 tst ttk tb tp (sx buf) c0 pre.length (rdPos pre (c :: (q ++ rest))) di dm tc tp' c x tok qu (fun n T y hy => ?_) (fun n T => all_pairs ?_) hL hv D fun s' N => step s' _ N.sm N.hp
      · cases hy with
        | head => exact ok _ _ _ _ _ _
        | tail _ hy => cases hy
      · unfold b_a1w
        simp only [f1,f2,f3,f4,f5,hw]
        rfl
    | false =>
      refine g_a1n L sh sd io d pb fs κ κ1 κ2 τ te k3 tc0 tst ttk tb tp (sx buf) c0 pre.length (rdPos pre (c :: (q ++ rest))) di dm tc tp' c x tok qu (fun n T y hy => ?_) (fun n T => all_pairs ?_) hL hv D fun s' N => step s' _ N.sm N.hp
      · cases hy with
        | head => exact ok _ _ _ _ _ _
        | tail _ hy => cases hy
      · unfold b_a1n
        simp only [f1,f2,f3,f4,f5,hw]
        rfl
end
abbrev LS (P:Params) (sh sd io d pb fs:Nat) (κ1 κ2 τ:Nat → Tok) (tb:Tok) (st tk:Value) (buf:Str) (pos:Int) (tp:Tok) : List (Addr × Obj) :=
  [(sh,shI sd),(sd,shD P κ1 τ io pb fs st tk),(io,ioI d),(d,ioD P κ2 buf tb pos tp)]
section
variable {b:Bool} {w:World} {A:Around} {R:Result → Shared → Prop} {v:Nat} {F:List (Addr × Obj)} {H:Heap} {s:Shared} (sh sd io d pb fs:Nat) (κ1 κ2 τ:Nat → Tok) (tb:Tok) (hL:Lv A v) (hv:v ≤ 420)
include hL hv
theorem rt_quoted {q pre rest buf:List Nat} {x:Nat} {tst ttk tp:Tok} (hb:buf = pre ++ (39 :: x :: (q ++ 39 :: rest))) (hr:Brk rest) (hl:buf.length ≤ 16777216) (hx:qOk x) (hq:∀ c ∈ q,qOk c)
    (D:Hp (W b w) H s.heap (LS (W b w).params sh sd io d pb fs κ1 κ2 τ tb (.str (sx [32]) tst) (.str (sx []) ttk) (sx buf) pre.length tp ++ F))
    (post:∀ (s':Shared) (t1 tst ttk tp:Tok),Sm s s' → Hp (W b w) H s'.heap (LS (W b w).params sh sd io d pb fs κ1 κ2 τ tb (endSt rest tst) (.str (sx []) ttk) (sx buf) (rdPos (pre ++ 39 :: x :: (q ++ [39])) rest) tp ++ F) → R (.ok (.ret (.str (sx (x :: q)) t1))) s') :
    codeAny (model P0 (W b w)) A (.call (.ref 707) ⟨[.ref sh],[]⟩) R s:=by
  have e2 : buf.length = pre.length + (q.length + rest.length + 3):=by rw [hb]; simp; omega
  refine g_rt0 sh sd io d pb fs κ1 κ2 τ tst ttk tb tp (.str (sx [32]) tst) (sx buf) pre.length (fun n T y hy => nm hy) (fun n T => all_pairs rfl) hL hv D fun A' s₁ LA N₁ M₁ => ?_
  obtain ⟨di,dm,tc,tp',ok⟩:=read_ok (b:=b) (w:=w) (rest:=39 :: x :: (q ++ 39 :: rest)) hb hl (.inr (by simp)) io d κ2 tb tp
  refine g_f1 _ sh sd io d pb fs _ κ1 κ2 τ _ 0 0 tst ttk tb tp (sx buf) (sx []) pre.length (rdPos pre (39 :: x :: (q ++ 39 :: rest))) di dm tc tp' (fun n T y hy => ?_) (fun n T => all_pairs rfl) LA (by omega) N₁.hp fun s₂ N₂ => ?_
  · cases hy with
    | head => exact ok _ _ _ _ _ _
    | tail _ hy => cases hy
  have D₂:=N₂.hp
  have ep : (rdPos pre (39 :: x :: (q ++ 39 :: rest))) = (((pre ++ [39]).length : Nat) : Int):=by simp [rdPos]
  rw [ep] at D₂
  obtain ⟨di,dm,tc,tp',ok⟩:=read_ok (b:=b) (w:=w) (pre:=pre ++ [39]) (rest:=x :: (q ++ 39 :: rest)) (buf:=buf) (by rw [hb]; simp) hl (.inl (by simp)) io d κ2 tb (tp' (s₁.toks + 7))
  refine g_q1a _ sh sd io d pb fs _ κ1 κ2 τ _ _ _ _ ttk tb _ (sx buf) _ (pre ++ [39]).length (rdPos (pre ++ [39]) (x :: (q ++ 39 :: rest))) di dm tc tp' x 0 [] false (fun n T y hy => ?_) (fun n T => all_pairs ?_) LA (by omega) D₂ fun s₃ N₃ => ?_
  · cases hy with
    | head => exact ok _ _ _ _ _ _
    | tail _ hy => cases hy
  · have f2 : sin (sx [92]) (sx [x]) = false:=by rw [sin_one]; simp [hx.2.2]
    have f3 : seqs (sx [x]) (sx [39]) = false:=by rw [seqs_sx]; exact one_ne hx.1
    have f4 : seqs (sx [x]) (Str.ofString "\n") = false:=by rw [nl_eq,seqs_sx]; exact one_ne hx.2.1
    unfold b_q1a
    simp only [f2,f3,f4]
    rfl
  have D₃:=N₃.hp
  have ep : (rdPos (pre ++ [39]) (x :: (q ++ 39 :: rest))) = (((pre ++ [39,x]).length : Nat) : Int):=by simp [rdPos]; omega
  rw [ep] at D₃
  refine loop_q _ sh sd io d pb fs _ κ1 κ2 τ _ tb LA (by omega) q (pre ++ [39,x]) rest buf x [] _ _ _ _ _ _ s₃ (by rw [hb]; simp) hl (by simp) hq (by simp; omega) D₃ fun s₄ k3 tc0 tst4 ttk4 tp4 c0 S₄ D₄ => ?_
  have ep : (((pre ++ [39,x] ++ q).length + 1 : Nat) : Int) = (((pre ++ 39 :: x :: (q ++ [39])).length : Nat) : Int):=by simp; omega
  rw [ep] at D₄
  refine loop_a _ sh sd io d pb fs _ κ1 κ2 τ _ tb LA (by omega) true [] (pre ++ 39 :: x :: (q ++ [39])) rest buf x q k3 tc0 tst4 ttk4 tp4 c0 s₄ (by rw [hb]; simp) hr hl (by simp) (fun _ h => nomatch h) (by simp; omega) D₄ fun s₅ k3 tc0 tst5 ttk5 tp5 c0 S₅ D₅ => ?_
  rw [List.append_nil,List.append_nil] at D₅
  have S:=((N₂.sm.trans N₃.sm).trans S₄).trans S₅
  refine g_rt1 s.heap.objs.size s.toks s.gens.toList 0 _ _ k3 tc0 ttk5 c0 (endSt rest tst5) (rdPos (pre ++ 39 :: x :: (q ++ [39])) rest) tp5 sh sd io d pb fs κ1 κ2 τ tst ttk tb tp (.str (sx [32]) tst) (sx buf) pre.length x q (fun n T y hy => nm hy) (fun n T => all_pairs rfl) (M₁.nx S.drawn S.os) hv D₅ fun s₆ N₆ => ?_
  exact post s₆ ttk5 tst5 (s₅.toks + 2) tp5 ((N₁.sm.trans S).trans N₆.sm) N₆.hp
end
section
variable {b:Bool} {w:World} {A:Around} {R:Result → Shared → Prop} {v:Nat} {F:List (Addr × Obj)} {H:Heap} {s:Shared} (sh sd io d pb fs:Nat) (κ1 κ2 τ:Nat → Tok) (tb:Tok) (hL:Lv A v) (hv:v ≤ 420)
include hL hv
theorem rt_plain {q pre rest buf:List Nat} {tst ttk tp:Tok} (hb:buf = pre ++ (45 :: (q ++ rest))) (hr:Brk rest) (hl:buf.length ≤ 16777216) (hq:∀ c ∈ q,sgOk c) (hq0:q ≠ [])
    (D:Hp (W b w) H s.heap (LS (W b w).params sh sd io d pb fs κ1 κ2 τ tb (.str (sx [32]) tst) (.str (sx []) ttk) (sx buf) pre.length tp ++ F))
    (post:∀ (s':Shared) (t1 tst ttk tp:Tok),Sm s s' → Hp (W b w) H s'.heap (LS (W b w).params sh sd io d pb fs κ1 κ2 τ tb (endSt rest tst) (.str (sx []) ttk) (sx buf) (rdPos (pre ++ 45 :: q) rest) tp ++ F) → R (.ok (.ret (.str (sx (45 :: q)) t1))) s') :
    codeAny (model P0 (W b w)) A (.call (.ref 707) ⟨[.ref sh],[]⟩) R s:=by
  have e2 : buf.length = pre.length + (q.length + rest.length + 1):=by rw [hb]; simp
  have hq1 : q.length ≠ 0:=fun z => hq0 (List.length_eq_zero_iff.mp z)
  refine g_rt0 sh sd io d pb fs κ1 κ2 τ tst ttk tb tp (.str (sx [32]) tst) (sx buf) pre.length (fun n T y hy => nm hy) (fun n T => all_pairs rfl) hL hv D fun A' s₁ LA N₁ M₁ => ?_
  obtain ⟨di,dm,tc,tp',ok⟩:=read_ok (b:=b) (w:=w) (rest:=45 :: (q ++ rest)) hb hl (.inr (by simp; intro z; exact absurd z hq0)) io d κ2 tb tp
  refine g_f2 _ sh sd io d pb fs _ κ1 κ2 τ _ 0 0 tst ttk tb tp (sx buf) (sx []) pre.length (rdPos pre (45 :: (q ++ rest))) di dm tc tp' (fun n T y hy => ?_) (fun n T => all_pairs rfl) LA (by omega) N₁.hp fun s₂ N₂ => ?_
  · cases hy with
    | head => exact ok _ _ _ _ _ _
    | tail _ hy => cases hy
  have D₂:=N₂.hp
  have ep : (rdPos pre (45 :: (q ++ rest))) = (((pre ++ [45]).length : Nat) : Int):=by simp [rdPos]
  rw [ep] at D₂
  refine loop_a _ sh sd io d pb fs _ κ1 κ2 τ _ tb LA (by omega) false q (pre ++ [45]) rest buf 45 [] _ _ _ _ _ _ s₂ (by rw [hb]; simp) hr hl (by simp) hq (by simp; omega) D₂ fun s₅ k3 tc0 tst5 ttk5 tp5 c0 S₅ D₅ => ?_
  have el : pre ++ [45] ++ q = pre ++ 45 :: q:=by simp
  rw [el] at D₅
  have S:=N₂.sm.trans S₅
  refine g_rt2 s.heap.objs.size s.toks s.gens.toList 0 _ _ k3 tc0 ttk5 c0 (endSt rest tst5) (rdPos (pre ++ 45 :: q) rest) tp5 sh sd io d pb fs κ1 κ2 τ tst ttk tb tp (.str (sx [32]) tst) (sx buf) pre.length 45 q (fun n T y hy => nm hy) (fun n T => all_pairs rfl) (M₁.nx S.drawn S.os) hv D₅ fun s₆ N₆ => ?_
  exact post s₆ ttk5 tst5 (s₅.toks + 2) tp5 ((N₁.sm.trans S).trans N₆.sm) N₆.hp
theorem rt_end {buf:List Nat} {ttk tp:Tok} (hl:buf.length ≤ 16777216)
    (D:Hp (W b w) H s.heap (LS (W b w).params sh sd io d pb fs κ1 κ2 τ tb .none (.str (sx []) ttk) (sx buf) (buf.length : Nat) tp ++ F))
    (post:∀ (s':Shared) (ttk tp:Tok),Sm s s' → Hp (W b w) H s'.heap (LS (W b w).params sh sd io d pb fs κ1 κ2 τ tb .none (.str (sx []) ttk) (sx buf) (buf.length : Nat) tp ++ F) → R (.ok (.ret .none)) s') :
    codeAny (model P0 (W b w)) A (.call (.ref 707) ⟨[.ref sh],[]⟩) R s:=by
  refine g_rt0 sh sd io d pb fs κ1 κ2 τ 0 ttk tb tp .none (sx buf) (buf.length : Nat) (fun n T y hy => nm hy) (fun n T => all_pairs rfl) hL hv D fun A' s₁ LA N₁ M₁ => ?_
  obtain ⟨di,dm,tc,tp',ok⟩:=read_ok (b:=b) (w:=w) (pre:=buf) (rest:=[]) (buf:=buf) (by simp) hl (.inr (by simp)) io d κ2 tb tp
  refine g_f3 _ sh sd io d pb fs _ κ1 κ2 τ _ 0 0 0 ttk tb tp (sx buf) (sx []) (buf.length : Nat) (rdPos buf []) di dm tc tp' (fun n T y hy => ?_) (fun n T => all_pairs rfl) LA (by omega) N₁.hp fun s₂ N₂ => ?_
  · cases hy with
    | head => exact ok _ _ _ _ _ _
    | tail _ hy => cases hy
  have D₂:=N₂.hp
  refine g_rt3 s.heap.objs.size s.toks s.gens.toList 0 _ _ _ _ _ _ .none (rdPos buf []) _ sh sd io d pb fs κ1 κ2 τ 0 ttk tb tp .none (sx buf) (buf.length : Nat) (fun n T y hy => nm hy) (fun n T => all_pairs rfl) (M₁.nx N₂.sm.drawn N₂.sm.os) hv D₂ fun s₆ N₆ => ?_
  exact post s₆ _ _ ((N₁.sm.trans N₂.sm).trans N₆.sm) N₆.hp
end
def fr1 (P:Params) (k:Tok) (self:Addr) : Obj:=⟨.type "frame",none,.dict ⟨[en P (sx [115,101,108,102]) k (.ref self)]⟩ 1,⟨[]⟩⟩
def u_nx0 (w:World) (n T:Nat) (sh sd io d pb fs:Nat) (κ1 κ2 τ:Nat → Tok) (ttk tb tp:Tok) (st:Value) (buf:Str) (pos:Int) : List Sum:=[]
def r_nx0 (w:World) (n T:Nat) (g:List GenState) (sh sd io d pb fs:Nat) (κ1 κ2 τ:Nat → Tok) (ttk tb tp:Tok) (st:Value) (buf:Str) (pos:Int) : Out:=runFn (G0 w n T 400) 20000 (digits 64 1847577312984936197634168840135476400957021523182543360492143304495105784535048271646203912794316930431460690890816) (u_nx0 w n T sh sd io d pb fs κ1 κ2 τ ttk tb tp st buf pos) (.call (.ref 736) ⟨[.ref sh],[]⟩) [(sh,shI sd),(sd,shD w.params κ1 τ io pb fs st (.str (sx []) ttk)),(io,ioI d),(d,ioD w.params κ2 buf tb pos tp),(pb,dqO),(fs,dqO)] g
def b_nx0 (n T:Nat) (sh sd io d pb fs:Nat) (κ1 κ2 τ:Nat → Tok) (ttk tb tp:Tok) (st:Value) (buf:Str) (pos:Int) : List (Bool × Bool):=[]
theorem e_nx0 (b:Bool) (w:World) (n T:Nat) (g:List GenState) (sh sd io d pb fs:Nat) (κ1 κ2 τ:Nat → Tok) (ttk tb tp:Tok) (st:Value) (buf:Str) (pos:Int) : (r_nx0 (W b w) n T g sh sd io d pb fs κ1 κ2 τ ttk tb tp st buf pos).M3 [] = (r_nx0 (W b w) n T g sh sd io d pb fs κ1 κ2 τ ttk tb tp st buf pos).N3 (b_nx0 n T sh sd io d pb fs κ1 κ2 τ ttk tb tp st buf pos) (.call (.ref 707) ⟨[.ref sh],[]⟩) (2) (2) (5) g [((n + 1),fr1 (W b w).params (T + 1) sh),(n,fr1 (W b w).params T sh),(sh,shI sd),(sd,shD (W b w).params κ1 τ io pb fs st (.str (sx []) ttk)),(io,ioI d),(d,ioD (W b w).params κ2 buf tb pos tp),(pb,dqO),(fs,dqO)]:=by cases b <;> kernel_rfl
noncomputable def g_nx0 {b:Bool} {w:World} (sh sd io d pb fs:Nat) (κ1 κ2 τ:Nat → Tok) (ttk tb tp:Tok) (st:Value) (buf:Str) (pos:Int):=mkFS (fun n T g => e_nx0 b w n T g sh sd io d pb fs κ1 κ2 τ ttk tb tp st buf pos) (fun _ _ _ => rfl) (by decide)
def u_nx1 (w:World) (n T:Nat) (n0 T0:Nat) (g0:List GenState) (ttk2 tp2 t1:Tok) (st2:Value) (pos2:Int) (sh sd io d pb fs:Nat) (κ1 κ2 τ:Nat → Tok) (ttk tb tp:Tok) (st:Value) (buf:Str) (pos:Int) (x:Nat) (tok:List Nat) : List Sum:=[]
def r_nx1 (w:World) (n T:Nat) (g:List GenState) (n0 T0:Nat) (g0:List GenState) (ttk2 tp2 t1:Tok) (st2:Value) (pos2:Int) (sh sd io d pb fs:Nat) (κ1 κ2 τ:Nat → Tok) (ttk tb tp:Tok) (st:Value) (buf:Str) (pos:Int) (x:Nat) (tok:List Nat) : Out:=runK w n T 400 20000 (digits 74 1419606886034572820302924381365806302767783612194453710912819564054629234304723519170564231471386538182538068325883697380463446069313) (u_nx1 w n T n0 T0 g0 ttk2 tp2 t1 st2 pos2 sh sd io d pb fs κ1 κ2 τ ttk tb tp st buf pos x tok) (r_nx0 w n0 T0 g0 sh sd io d pb fs κ1 κ2 τ ttk tb tp st buf pos) (.ok (.ret (.str (sx (x :: tok)) t1))) [((n0 + 1),fr1 w.params (T0 + 1) sh),(n0,fr1 w.params T0 sh),(sh,shI sd),(sd,shD w.params κ1 τ io pb fs st2 (.str (sx []) ttk2)),(io,ioI d),(d,ioD w.params κ2 buf tb pos2 tp2),(pb,dqO),(fs,dqO)] g
def b_nx1 (n T:Nat) (n0 T0:Nat) (g0:List GenState) (ttk2 tp2 t1:Tok) (st2:Value) (pos2:Int) (sh sd io d pb fs:Nat) (κ1 κ2 τ:Nat → Tok) (ttk tb tp:Tok) (st:Value) (buf:Str) (pos:Int) (x:Nat) (tok:List Nat) : List (Bool × Bool):=[]
theorem e_nx1 (b:Bool) (w:World) (n T:Nat) (g:List GenState) (n0 T0:Nat) (g0:List GenState) (ttk2 tp2 t1:Tok) (st2:Value) (pos2:Int) (sh sd io d pb fs:Nat) (κ1 κ2 τ:Nat → Tok) (ttk tb tp:Tok) (st:Value) (buf:Str) (pos:Int) (x:Nat) (tok:List Nat) : (r_nx1 (W b w) n T g n0 T0 g0 ttk2 tp2 t1 st2 pos2 sh sd io d pb fs κ1 κ2 τ ttk tb tp st buf pos x tok).M [false,false] = (r_nx1 (W b w) n T g n0 T0 g0 ttk2 tp2 t1 st2 pos2 sh sd io d pb fs κ1 κ2 τ ttk tb tp st buf pos x tok).N (b_nx1 n T n0 T0 g0 ttk2 tp2 t1 st2 pos2 sh sd io d pb fs κ1 κ2 τ ttk tb tp st buf pos x tok) (.done (.ok (.ret (.str (sx (x :: tok)) t1)))) (0) (7) g [(sh,shI sd),(sd,shD (W b w).params κ1 τ io pb fs st2 (.str (sx []) ttk2)),(io,ioI d),(d,ioD (W b w).params κ2 buf tb pos2 tp2),(pb,dqO),(fs,dqO)]:=by cases b <;> kernel_rfl
noncomputable def g_nx1 {b:Bool} {w:World} (n0 T0:Nat) (g0:List GenState) (ttk2 tp2 t1:Tok) (st2:Value) (pos2:Int) (sh sd io d pb fs:Nat) (κ1 κ2 τ:Nat → Tok) (ttk tb tp:Tok) (st:Value) (buf:Str) (pos:Int) (x:Nat) (tok:List Nat):=mkK (fun n T g => e_nx1 b w n T g n0 T0 g0 ttk2 tp2 t1 st2 pos2 sh sd io d pb fs κ1 κ2 τ ttk tb tp st buf pos x tok) (fun _ _ _ => rfl) (by decide)
noncomputable def tks (T:Tok) (l:List Nat) (i:Nat) : Tok:=T + l.getD i 0
def spF (P:Params) (k0 k1 k2 k3:Tok) (line:List Nat) (tl:Tok) (lx:Addr) : Obj:=⟨.type "frame",none,.dict ⟨[en P (sx [115]) k0 (.str (sx line) tl),en P (sx [99,111,109,109,101,110,116,115]) k1 (.bool false),en P (sx [112,111,115,105,120]) k2 (.bool true),en P (sx [108,101,120]) k3 (.ref lx)]⟩ 4,⟨[]⟩⟩
def spScope : Scope:=match fnAt 25 with
  | .FunctionDef _ _ _ _ _ _ sc _ _ _ => sc
  | _ => default
def spEnv (L:Addr) : Env:=⟨spScope,L,3,[],(sx [115,112,108,105,116,46,60,108,111,99,97,108,115,62,46]),some 751,.ref 750,some L,0⟩
def u_sp0 (w:World) (n T:Nat) (line:List Nat) (tl:Tok) : List Sum:=[]
def r_sp0 (w:World) (n T:Nat) (g:List GenState) (line:List Nat) (tl:Tok) : Out:=runFn (G0 w n T 350) 20000 (digits 892 64853109690508514018014566478491519330934886872959905942056935548883606453044463757183701499165554293039063218082685839373461319069360517739759124863921492820691455333919642156763386567294423152766644646122562135987094527261039342732715191400903006957475781725013325980276562591319260514983170013718907056343781752445809323656959045799875138296003598809980846372724546135759637300211235724831536237331186638039476996803166485385263589633667922810597917826575783203463780929883590872236154157377732791613928637403901014495225948360279741310910983758111944999429525436403720673535987080221646503386243776638877395669641040879422380480771021297204296502865756377755753897015084133806859764636223675038113372006854481677041269377218517376138693599023945124457531912483005132993851983142472971646300243745098884635621147069742320763314965552312367205172833683465748707076268546886607694337790612751054397507616490252626622863062646366518377571385240012063058628058166077315034303657607738401191140780854910403065946308493290231219778042400344579933841690383249126276429711421269066630400077276552326748725461713286817451877608032905604267502505146049509070737773405659755159504103994421933164362556190624517685429466398840873719470988231365018150908335574999630724742360154349150161660578544288391425806495175076492333131859228986951441704050055312825017845292966502199964175480888763319122564653556949426803595916400740548039676959934928517438112384385009089230012182382155649150116335388870653423749098069234749931490717425270594926515079279090747357262489938172853944631111637712111191006024709724686190461063168) (u_sp0 w n T line tl) (.call (.ref 751) ⟨[.str (sx line) tl],[]⟩) [] g
def b_sp0 (n T:Nat) (line:List Nat) (tl:Tok) : List (Bool × Bool):=[(true,true),(false,false),(false,false),(true,true)]
theorem e_sp0 (b:Bool) (w:World) (n T:Nat) (g:List GenState) (line:List Nat) (tl:Tok) : (r_sp0 (W b w) n T g line tl).M3 [true,true,false,false,true,true,false,false,false,false,true,true,true] = (r_sp0 (W b w) n T g line tl).N3 (b_sp0 n T line tl) (.call (.type "list") ⟨[.ref (n + 2)],[]⟩) (1) (13) (99) g [((n + 12),dqO),((n + 11),dqO),((n + 8),ioI (n + 7)),((n + 7),ioD (W b w).params (tks T [19,22,25]) (sx line) tl 0 (T + 23)),((n + 2),shI (n + 1)),((n + 1),shD (W b w).params (tks T [36,38,40,42,45,48,57,59,62,65,68,71,73,76,79,82,84,86,90]) (tks T [96,52,55,60,63,66,74,77,87]) (n + 8) (n + 11) (n + 12) (.str (sx [32]) (T + 69)) (.str (sx []) (T + 80))),(n,spF (W b w).params T (T + 1) (T + 2) (T + 93) line tl (n + 2))]:=by cases b <;> kernel_rfl
theorem ef_sp0 (b:Bool) (w:World) (n T:Nat) (g:List GenState) (line:List Nat) (tl:Tok) : ((r_sp0 (W b w) n T g line tl).fr,plainK (r_sp0 (W b w) n T g line tl).κ) = ([spEnv n],true):=by cases b <;> kernel_rfl
noncomputable def g_sp0 {b:Bool} {w:World} (line:List Nat) (tl:Tok):=mkFSF (fun n T g => e_sp0 b w n T g line tl) (fun n T g => ef_sp0 b w n T g line tl) (fun _ _ _ => rfl) (by decide)
def liO (l:List Value) (k:Nat) : Obj:=⟨.type "list",none,.seq ⟨l⟩ k,⟨[]⟩⟩
def s_lnew (a:Value) : Sum:=⟨.call (.builtin "list.__new__") ⟨[.type "list",a],[]⟩,fun n _ => .ok (.ret (.ref n)),0,1,[],[(0,fun _ _ => liO [] 0)],500⟩
def xlC (li sh:Addr) : Code:=.builtin "list.extend.loop" ⟨[.ref li,.ref sh,.none],[]⟩
def u_ll0 (w:World) (n T:Nat) (sh sd io d pb fs:Nat) (κ1 κ2 τ:Nat → Tok) (ttk tb tp:Tok) (st:Value) (buf:Str) (pos:Int) : List Sum:=[s_lnew (.ref sh)]
def r_ll0 (w:World) (n T:Nat) (g:List GenState) (sh sd io d pb fs:Nat) (κ1 κ2 τ:Nat → Tok) (ttk tb tp:Tok) (st:Value) (buf:Str) (pos:Int) : Out:=runC (G0 w n T 360) 20000 (digits 5 50598016) (u_ll0 w n T sh sd io d pb fs κ1 κ2 τ ttk tb tp st buf pos) (.call (.type "list") ⟨[.ref sh],[]⟩) [(sh,shI sd),(sd,shD w.params κ1 τ io pb fs st (.str (sx []) ttk)),(io,ioI d),(d,ioD w.params κ2 buf tb pos tp),(pb,dqO),(fs,dqO)] g
def b_ll0 (n T:Nat) (sh sd io d pb fs:Nat) (κ1 κ2 τ:Nat → Tok) (ttk tb tp:Tok) (st:Value) (buf:Str) (pos:Int) : List (Bool × Bool):=[]
theorem e_ll0 (b:Bool) (w:World) (n T:Nat) (g:List GenState) (sh sd io d pb fs:Nat) (κ1 κ2 τ:Nat → Tok) (ttk tb tp:Tok) (st:Value) (buf:Str) (pos:Int) : (r_ll0 (W b w) n T g sh sd io d pb fs κ1 κ2 τ ttk tb tp st buf pos).M3 [] = (r_ll0 (W b w) n T g sh sd io d pb fs κ1 κ2 τ ttk tb tp st buf pos).N3 (b_ll0 n T sh sd io d pb fs κ1 κ2 τ ttk tb tp st buf pos) (.call (.builtin "list.__init__") ⟨[.ref n,.ref sh],[]⟩) (5) (1) (0) g [(n,liO [] 0),(sh,shI sd),(sd,shD (W b w).params κ1 τ io pb fs st (.str (sx []) ttk)),(io,ioI d),(d,ioD (W b w).params κ2 buf tb pos tp),(pb,dqO),(fs,dqO)]:=by cases b <;> kernel_rfl
theorem ef_ll0 (b:Bool) (w:World) (n T:Nat) (g:List GenState) (sh sd io d pb fs:Nat) (κ1 κ2 τ:Nat → Tok) (ttk tb tp:Tok) (st:Value) (buf:Str) (pos:Int) : ((r_ll0 (W b w) n T g sh sd io d pb fs κ1 κ2 τ ttk tb tp st buf pos).fr,plainK (r_ll0 (W b w) n T g sh sd io d pb fs κ1 κ2 τ ttk tb tp st buf pos).κ) = ([],true):=by cases b <;> kernel_rfl
noncomputable def g_ll0 {b:Bool} {w:World} (sh sd io d pb fs:Nat) (κ1 κ2 τ:Nat → Tok) (ttk tb tp:Tok) (st:Value) (buf:Str) (pos:Int):=mkCSF (fun n T g => e_ll0 b w n T g sh sd io d pb fs κ1 κ2 τ ttk tb tp st buf pos) (fun n T g => ef_ll0 b w n T g sh sd io d pb fs κ1 κ2 τ ttk tb tp st buf pos) (fun _ _ _ => rfl) rfl (by decide)
def u_ll0b (w:World) (n T:Nat) (li sh:Nat) : List Sum:=[]
def r_ll0b (w:World) (n T:Nat) (g:List GenState) (li sh:Nat) : Out:=runC (G0 w n T 370) 20000 (digits 2 193) (u_ll0b w n T li sh) (.call (.builtin "list.__init__") ⟨[.ref li,.ref sh],[]⟩) [(li,liO [] 0)] g
def b_ll0b (n T:Nat) (li sh:Nat) : List (Bool × Bool):=[]
theorem e_ll0b (b:Bool) (w:World) (n T:Nat) (g:List GenState) (li sh:Nat) : (r_ll0b (W b w) n T g li sh).M [] = (r_ll0b (W b w) n T g li sh).N (b_ll0b n T li sh) (.again (.builtin "list.__init__" ⟨[.ref li,.ref sh],[]⟩)) (0) (0) g [(li,liO [] 0)]:=by cases b <;> kernel_rfl
noncomputable def g_ll0b {b:Bool} {w:World} (li sh:Nat):=mkA (fun n T g => e_ll0b b w n T g li sh) (fun _ _ _ => rfl) rfl (by decide)
def u_li0 (w:World) (n T:Nat) (li k:Nat) (sh sd io d pb fs:Nat) (κ1 κ2 τ:Nat → Tok) (ttk tb tp:Tok) (st:Value) (buf:Str) (pos:Int) : List Sum:=[]
def r_li0 (w:World) (n T:Nat) (g:List GenState) (li k:Nat) (sh sd io d pb fs:Nat) (κ1 κ2 τ:Nat → Tok) (ttk tb tp:Tok) (st:Value) (buf:Str) (pos:Int) : Out:=runT w n T 370 20000 (digits 18 58335466967879420706029570) (u_li0 w n T li k sh sd io d pb fs κ1 κ2 τ ttk tb tp st buf pos) (.builtin "list.__init__" ⟨[.ref li,.ref sh],[]⟩) (partT (Sem.bind (pyIter (.ref sh)) fun v => .pure (.ret v))) [(li,liO [] k),(sh,shI sd),(sd,shD w.params κ1 τ io pb fs st (.str (sx []) ttk)),(io,ioI d),(d,ioD w.params κ2 buf tb pos tp),(pb,dqO),(fs,dqO)] g
def b_li0 (n T:Nat) (li k:Nat) (sh sd io d pb fs:Nat) (κ1 κ2 τ:Nat → Tok) (ttk tb tp:Tok) (st:Value) (buf:Str) (pos:Int) : List (Bool × Bool):=[]
theorem e_li0 (b:Bool) (w:World) (n T:Nat) (g:List GenState) (li k:Nat) (sh sd io d pb fs:Nat) (κ1 κ2 τ:Nat → Tok) (ttk tb tp:Tok) (st:Value) (buf:Str) (pos:Int) : (r_li0 (W b w) n T g li k sh sd io d pb fs κ1 κ2 τ ttk tb tp st buf pos).M [false] = (r_li0 (W b w) n T g li k sh sd io d pb fs κ1 κ2 τ ttk tb tp st buf pos).N (b_li0 n T li k sh sd io d pb fs κ1 κ2 τ ttk tb tp st buf pos) (.done (.ok (.ret (.ref sh)))) (1) (1) g [(li,liO [] k),(sh,shI sd),(sd,shD (W b w).params κ1 τ io pb fs st (.str (sx []) ttk)),(io,ioI d),(d,ioD (W b w).params κ2 buf tb pos tp),(pb,dqO),(fs,dqO)]:=by cases b <;> kernel_rfl
noncomputable def g_li0 {b:Bool} {w:World} (li k:Nat) (sh sd io d pb fs:Nat) (κ1 κ2 τ:Nat → Tok) (ttk tb tp:Tok) (st:Value) (buf:Str) (pos:Int):=mkP (fun n T g => e_li0 b w n T g li k sh sd io d pb fs κ1 κ2 τ ttk tb tp st buf pos) (fun _ _ _ => rfl) rfl (by decide)
def u_li1 (w:World) (n T:Nat) (li k:Nat) (sh sd io d pb fs:Nat) (κ1 κ2 τ:Nat → Tok) (ttk tb tp:Tok) (st:Value) (buf:Str) (pos:Int) : List Sum:=[]
def r_li1 (w:World) (n T:Nat) (g:List GenState) (li k:Nat) (sh sd io d pb fs:Nat) (κ1 κ2 τ:Nat → Tok) (ttk tb tp:Tok) (st:Value) (buf:Str) (pos:Int) : Out:=runT w n T 370 20000 (digits 8 33554434) (u_li1 w n T li k sh sd io d pb fs κ1 κ2 τ ttk tb tp st buf pos) (.builtin "list.__init__" ⟨[.ref li,.ref sh],[]⟩) (partT (Sem.bind (holding [.ref sh] (Builtin.List.listLengthHint (.ref sh))) fun b => .pure (.ret (.bool b)))) [(li,liO [] k),(sh,shI sd),(sd,shD w.params κ1 τ io pb fs st (.str (sx []) ttk)),(io,ioI d),(d,ioD w.params κ2 buf tb pos tp),(pb,dqO),(fs,dqO)] g
def b_li1 (n T:Nat) (li k:Nat) (sh sd io d pb fs:Nat) (κ1 κ2 τ:Nat → Tok) (ttk tb tp:Tok) (st:Value) (buf:Str) (pos:Int) : List (Bool × Bool):=[]
theorem e_li1 (b:Bool) (w:World) (n T:Nat) (g:List GenState) (li k:Nat) (sh sd io d pb fs:Nat) (κ1 κ2 τ:Nat → Tok) (ttk tb tp:Tok) (st:Value) (buf:Str) (pos:Int) : (r_li1 (W b w) n T g li k sh sd io d pb fs κ1 κ2 τ ttk tb tp st buf pos).M [] = (r_li1 (W b w) n T g li k sh sd io d pb fs κ1 κ2 τ ttk tb tp st buf pos).N (b_li1 n T li k sh sd io d pb fs κ1 κ2 τ ttk tb tp st buf pos) (.done (.ok (.ret (.bool true)))) (0) (0) g [(li,liO [] k),(sh,shI sd),(sd,shD (W b w).params κ1 τ io pb fs st (.str (sx []) ttk)),(io,ioI d),(d,ioD (W b w).params κ2 buf tb pos tp),(pb,dqO),(fs,dqO)]:=by cases b <;> kernel_rfl
noncomputable def g_li1 {b:Bool} {w:World} (li k:Nat) (sh sd io d pb fs:Nat) (κ1 κ2 τ:Nat → Tok) (ttk tb tp:Tok) (st:Value) (buf:Str) (pos:Int):=mkP (fun n T g => e_li1 b w n T g li k sh sd io d pb fs κ1 κ2 τ ttk tb tp st buf pos) (fun _ _ _ => rfl) rfl (by decide)
def u_ll2 (w:World) (n T:Nat) (n0 T0:Nat) (g0:List GenState) (l:List Value) (k:Nat) (sh sd io d pb fs:Nat) (κ1 κ2 τ:Nat → Tok) (ttk tb tp:Tok) (st:Value) (buf:Str) (pos:Int) : List Sum:=[]
def r_ll2 (w:World) (n T:Nat) (g:List GenState) (n0 T0:Nat) (g0:List GenState) (l:List Value) (k:Nat) (sh sd io d pb fs:Nat) (κ1 κ2 τ:Nat → Tok) (ttk tb tp:Tok) (st:Value) (buf:Str) (pos:Int) : Out:=runK w n T 360 20000 (digits 0 0) (u_ll2 w n T n0 T0 g0 l k sh sd io d pb fs κ1 κ2 τ ttk tb tp st buf pos) (r_ll0 w n0 T0 g0 sh sd io d pb fs κ1 κ2 τ ttk tb tp st buf pos) (.ok (.ret .none)) [(n0,liO l k)] g
def b_ll2 (n T:Nat) (n0 T0:Nat) (g0:List GenState) (l:List Value) (k:Nat) (sh sd io d pb fs:Nat) (κ1 κ2 τ:Nat → Tok) (ttk tb tp:Tok) (st:Value) (buf:Str) (pos:Int) : List (Bool × Bool):=[]
theorem e_ll2 (b:Bool) (w:World) (n T:Nat) (g:List GenState) (n0 T0:Nat) (g0:List GenState) (l:List Value) (k:Nat) (sh sd io d pb fs:Nat) (κ1 κ2 τ:Nat → Tok) (ttk tb tp:Tok) (st:Value) (buf:Str) (pos:Int) : (r_ll2 (W b w) n T g n0 T0 g0 l k sh sd io d pb fs κ1 κ2 τ ttk tb tp st buf pos).M [] = (r_ll2 (W b w) n T g n0 T0 g0 l k sh sd io d pb fs κ1 κ2 τ ttk tb tp st buf pos).N (b_ll2 n T n0 T0 g0 l k sh sd io d pb fs κ1 κ2 τ ttk tb tp st buf pos) (.done (.ok (.ret (.ref n0)))) (0) (0) g [(n0,liO l k)]:=by cases b <;> kernel_rfl
noncomputable def g_ll2 {b:Bool} {w:World} (n0 T0:Nat) (g0:List GenState) (l:List Value) (k:Nat) (sh sd io d pb fs:Nat) (κ1 κ2 τ:Nat → Tok) (ttk tb tp:Tok) (st:Value) (buf:Str) (pos:Int):=mkK (fun n T g => e_ll2 b w n T g n0 T0 g0 l k sh sd io d pb fs κ1 κ2 τ ttk tb tp st buf pos) (fun _ _ _ => rfl) (by decide)
def u_lt0 (w:World) (n T:Nat) (li:Nat) (l:List Value) (k:Nat) (sh sd io d pb fs:Nat) (κ1 κ2 τ:Nat → Tok) (ttk tb tp:Tok) (st:Value) (buf:Str) (pos:Int) : List Sum:=[]
def r_lt0 (w:World) (n T:Nat) (g:List GenState) (li:Nat) (l:List Value) (k:Nat) (sh sd io d pb fs:Nat) (κ1 κ2 τ:Nat → Tok) (ttk tb tp:Tok) (st:Value) (buf:Str) (pos:Int) : Out:=runC (G0 w n T 380) 20000 (digits 70 126975036567759592124645297524851659164302110075416640416212255087191671734404020763049193742472137320873743443695538574196738) (u_lt0 w n T li l k sh sd io d pb fs κ1 κ2 τ ttk tb tp st buf pos) (xlC li sh) [(li,liO l k),(sh,shI sd),(sd,shD w.params κ1 τ io pb fs st (.str (sx []) ttk)),(io,ioI d),(d,ioD w.params κ2 buf tb pos tp),(pb,dqO),(fs,dqO)] g
def b_lt0 (n T:Nat) (li:Nat) (l:List Value) (k:Nat) (sh sd io d pb fs:Nat) (κ1 κ2 τ:Nat → Tok) (ttk tb tp:Tok) (st:Value) (buf:Str) (pos:Int) : List (Bool × Bool):=[]
theorem e_lt0 (b:Bool) (w:World) (n T:Nat) (g:List GenState) (li:Nat) (l:List Value) (k:Nat) (sh sd io d pb fs:Nat) (κ1 κ2 τ:Nat → Tok) (ttk tb tp:Tok) (st:Value) (buf:Str) (pos:Int) : (r_lt0 (W b w) n T g li l k sh sd io d pb fs κ1 κ2 τ ttk tb tp st buf pos).M3 [] = (r_lt0 (W b w) n T g li l k sh sd io d pb fs κ1 κ2 τ ttk tb tp st buf pos).N3 (b_lt0 n T li l k sh sd io d pb fs κ1 κ2 τ ttk tb tp st buf pos) (.call (.ref 707) ⟨[.ref sh],[]⟩) (7) (2) (5) g [((n + 1),fr1 (W b w).params (T + 1) sh),(n,fr1 (W b w).params T sh),(li,liO l k),(sh,shI sd),(sd,shD (W b w).params κ1 τ io pb fs st (.str (sx []) ttk)),(io,ioI d),(d,ioD (W b w).params κ2 buf tb pos tp),(pb,dqO),(fs,dqO)]:=by cases b <;> kernel_rfl
noncomputable def g_lt0 {b:Bool} {w:World} (li:Nat) (l:List Value) (k:Nat) (sh sd io d pb fs:Nat) (κ1 κ2 τ:Nat → Tok) (ttk tb tp:Tok) (st:Value) (buf:Str) (pos:Int):=mkCS (fun n T g => e_lt0 b w n T g li l k sh sd io d pb fs κ1 κ2 τ ttk tb tp st buf pos) (fun _ _ _ => rfl) rfl (by decide)
def u_lt1_0 (w:World) (n T:Nat) (n0 T0:Nat) (g0:List GenState) (ttk2 tp2 t1:Tok) (st2:Value) (pos2:Int) (li:Nat) (k:Nat) (sh sd io d pb fs:Nat) (κ1 κ2 τ:Nat → Tok) (ttk tb tp:Tok) (st:Value) (buf:Str) (pos:Int) (x:Nat) (tok:List Nat) : List Sum:=[]
def r_lt1_0 (w:World) (n T:Nat) (g:List GenState) (n0 T0:Nat) (g0:List GenState) (ttk2 tp2 t1:Tok) (st2:Value) (pos2:Int) (li:Nat) (k:Nat) (sh sd io d pb fs:Nat) (κ1 κ2 τ:Nat → Tok) (ttk tb tp:Tok) (st:Value) (buf:Str) (pos:Int) (x:Nat) (tok:List Nat) : Out:=runK w n T 380 20000 (digits 78 36292648883395935380993515812778109486878412709936615072332777317902646231020580438490662565756828775777567897677875732605497063221362692161) (u_lt1_0 w n T n0 T0 g0 ttk2 tp2 t1 st2 pos2 li k sh sd io d pb fs κ1 κ2 τ ttk tb tp st buf pos x tok) (r_lt0 w n0 T0 g0 li [] k sh sd io d pb fs κ1 κ2 τ ttk tb tp st buf pos) (.ok (.ret (.str (sx (x :: tok)) t1))) [((n0 + 1),fr1 w.params (T0 + 1) sh),(n0,fr1 w.params T0 sh),(li,liO [] k),(sh,shI sd),(sd,shD w.params κ1 τ io pb fs st2 (.str (sx []) ttk2)),(io,ioI d),(d,ioD w.params κ2 buf tb pos2 tp2),(pb,dqO),(fs,dqO)] g
def b_lt1_0 (n T:Nat) (n0 T0:Nat) (g0:List GenState) (ttk2 tp2 t1:Tok) (st2:Value) (pos2:Int) (li:Nat) (k:Nat) (sh sd io d pb fs:Nat) (κ1 κ2 τ:Nat → Tok) (ttk tb tp:Tok) (st:Value) (buf:Str) (pos:Int) (x:Nat) (tok:List Nat) : List (Bool × Bool):=[]
theorem e_lt1_0 (b:Bool) (w:World) (n T:Nat) (g:List GenState) (n0 T0:Nat) (g0:List GenState) (ttk2 tp2 t1:Tok) (st2:Value) (pos2:Int) (li:Nat) (k:Nat) (sh sd io d pb fs:Nat) (κ1 κ2 τ:Nat → Tok) (ttk tb tp:Tok) (st:Value) (buf:Str) (pos:Int) (x:Nat) (tok:List Nat) : (r_lt1_0 (W b w) n T g n0 T0 g0 ttk2 tp2 t1 st2 pos2 li k sh sd io d pb fs κ1 κ2 τ ttk tb tp st buf pos x tok).M [false,false] = (r_lt1_0 (W b w) n T g n0 T0 g0 ttk2 tp2 t1 st2 pos2 li k sh sd io d pb fs κ1 κ2 τ ttk tb tp st buf pos x tok).N (b_lt1_0 n T n0 T0 g0 ttk2 tp2 t1 st2 pos2 li k sh sd io d pb fs κ1 κ2 τ ttk tb tp st buf pos x tok) (.again (xlC li sh)) (0) (7) g [(li,liO [.str (sx (x :: tok)) t1] (k + 1)),(sh,shI sd),(sd,shD (W b w).params κ1 τ io pb fs st2 (.str (sx []) ttk2)),(io,ioI d),(d,ioD (W b w).params κ2 buf tb pos2 tp2),(pb,dqO),(fs,dqO)]:=by cases b <;> kernel_rfl
noncomputable def g_lt1_0 {b:Bool} {w:World} (n0 T0:Nat) (g0:List GenState) (ttk2 tp2 t1:Tok) (st2:Value) (pos2:Int) (li:Nat) (k:Nat) (sh sd io d pb fs:Nat) (κ1 κ2 τ:Nat → Tok) (ttk tb tp:Tok) (st:Value) (buf:Str) (pos:Int) (x:Nat) (tok:List Nat):=mkKA (fun n T g => e_lt1_0 b w n T g n0 T0 g0 ttk2 tp2 t1 st2 pos2 li k sh sd io d pb fs κ1 κ2 τ ttk tb tp st buf pos x tok) (fun _ _ _ => rfl) (by decide)
def u_lt1_1 (w:World) (n T:Nat) (n0 T0:Nat) (g0:List GenState) (ttk2 tp2 t1:Tok) (st2:Value) (pos2:Int) (li:Nat) (v0:Value) (k:Nat) (sh sd io d pb fs:Nat) (κ1 κ2 τ:Nat → Tok) (ttk tb tp:Tok) (st:Value) (buf:Str) (pos:Int) (x:Nat) (tok:List Nat) : List Sum:=[]
def r_lt1_1 (w:World) (n T:Nat) (g:List GenState) (n0 T0:Nat) (g0:List GenState) (ttk2 tp2 t1:Tok) (st2:Value) (pos2:Int) (li:Nat) (v0:Value) (k:Nat) (sh sd io d pb fs:Nat) (κ1 κ2 τ:Nat → Tok) (ttk tb tp:Tok) (st:Value) (buf:Str) (pos:Int) (x:Nat) (tok:List Nat) : Out:=runK w n T 380 20000 (digits 78 36292648883395935380993515812778109486878412709936615072332777317902646231020580438490662565756828775777567897677875732605497063221362692161) (u_lt1_1 w n T n0 T0 g0 ttk2 tp2 t1 st2 pos2 li v0 k sh sd io d pb fs κ1 κ2 τ ttk tb tp st buf pos x tok) (r_lt0 w n0 T0 g0 li [v0] k sh sd io d pb fs κ1 κ2 τ ttk tb tp st buf pos) (.ok (.ret (.str (sx (x :: tok)) t1))) [((n0 + 1),fr1 w.params (T0 + 1) sh),(n0,fr1 w.params T0 sh),(li,liO [v0] k),(sh,shI sd),(sd,shD w.params κ1 τ io pb fs st2 (.str (sx []) ttk2)),(io,ioI d),(d,ioD w.params κ2 buf tb pos2 tp2),(pb,dqO),(fs,dqO)] g
def b_lt1_1 (n T:Nat) (n0 T0:Nat) (g0:List GenState) (ttk2 tp2 t1:Tok) (st2:Value) (pos2:Int) (li:Nat) (v0:Value) (k:Nat) (sh sd io d pb fs:Nat) (κ1 κ2 τ:Nat → Tok) (ttk tb tp:Tok) (st:Value) (buf:Str) (pos:Int) (x:Nat) (tok:List Nat) : List (Bool × Bool):=[]
theorem e_lt1_1 (b:Bool) (w:World) (n T:Nat) (g:List GenState) (n0 T0:Nat) (g0:List GenState) (ttk2 tp2 t1:Tok) (st2:Value) (pos2:Int) (li:Nat) (v0:Value) (k:Nat) (sh sd io d pb fs:Nat) (κ1 κ2 τ:Nat → Tok) (ttk tb tp:Tok) (st:Value) (buf:Str) (pos:Int) (x:Nat) (tok:List Nat) : (r_lt1_1 (W b w) n T g n0 T0 g0 ttk2 tp2 t1 st2 pos2 li v0 k sh sd io d pb fs κ1 κ2 τ ttk tb tp st buf pos x tok).M [false,false] = (r_lt1_1 (W b w) n T g n0 T0 g0 ttk2 tp2 t1 st2 pos2 li v0 k sh sd io d pb fs κ1 κ2 τ ttk tb tp st buf pos x tok).N (b_lt1_1 n T n0 T0 g0 ttk2 tp2 t1 st2 pos2 li v0 k sh sd io d pb fs κ1 κ2 τ ttk tb tp st buf pos x tok) (.again (xlC li sh)) (0) (7) g [(li,liO [v0,.str (sx (x :: tok)) t1] (k + 1)),(sh,shI sd),(sd,shD (W b w).params κ1 τ io pb fs st2 (.str (sx []) ttk2)),(io,ioI d),(d,ioD (W b w).params κ2 buf tb pos2 tp2),(pb,dqO),(fs,dqO)]:=by cases b <;> kernel_rfl
noncomputable def g_lt1_1 {b:Bool} {w:World} (n0 T0:Nat) (g0:List GenState) (ttk2 tp2 t1:Tok) (st2:Value) (pos2:Int) (li:Nat) (v0:Value) (k:Nat) (sh sd io d pb fs:Nat) (κ1 κ2 τ:Nat → Tok) (ttk tb tp:Tok) (st:Value) (buf:Str) (pos:Int) (x:Nat) (tok:List Nat):=mkKA (fun n T g => e_lt1_1 b w n T g n0 T0 g0 ttk2 tp2 t1 st2 pos2 li v0 k sh sd io d pb fs κ1 κ2 τ ttk tb tp st buf pos x tok) (fun _ _ _ => rfl) (by decide)
def u_lt1_2 (w:World) (n T:Nat) (n0 T0:Nat) (g0:List GenState) (ttk2 tp2 t1:Tok) (st2:Value) (pos2:Int) (li:Nat) (v0 v1:Value) (k:Nat) (sh sd io d pb fs:Nat) (κ1 κ2 τ:Nat → Tok) (ttk tb tp:Tok) (st:Value) (buf:Str) (pos:Int) (x:Nat) (tok:List Nat) : List Sum:=[]
def r_lt1_2 (w:World) (n T:Nat) (g:List GenState) (n0 T0:Nat) (g0:List GenState) (ttk2 tp2 t1:Tok) (st2:Value) (pos2:Int) (li:Nat) (v0 v1:Value) (k:Nat) (sh sd io d pb fs:Nat) (κ1 κ2 τ:Nat → Tok) (ttk tb tp:Tok) (st:Value) (buf:Str) (pos:Int) (x:Nat) (tok:List Nat) : Out:=runK w n T 380 20000 (digits 78 36292648883395935380993515812778109486878412709936615072332777317902646231020580438490662565756828775777567897677875732605497063221362692161) (u_lt1_2 w n T n0 T0 g0 ttk2 tp2 t1 st2 pos2 li v0 v1 k sh sd io d pb fs κ1 κ2 τ ttk tb tp st buf pos x tok) (r_lt0 w n0 T0 g0 li [v0,v1] k sh sd io d pb fs κ1 κ2 τ ttk tb tp st buf pos) (.ok (.ret (.str (sx (x :: tok)) t1))) [((n0 + 1),fr1 w.params (T0 + 1) sh),(n0,fr1 w.params T0 sh),(li,liO [v0,v1] k),(sh,shI sd),(sd,shD w.params κ1 τ io pb fs st2 (.str (sx []) ttk2)),(io,ioI d),(d,ioD w.params κ2 buf tb pos2 tp2),(pb,dqO),(fs,dqO)] g
def b_lt1_2 (n T:Nat) (n0 T0:Nat) (g0:List GenState) (ttk2 tp2 t1:Tok) (st2:Value) (pos2:Int) (li:Nat) (v0 v1:Value) (k:Nat) (sh sd io d pb fs:Nat) (κ1 κ2 τ:Nat → Tok) (ttk tb tp:Tok) (st:Value) (buf:Str) (pos:Int) (x:Nat) (tok:List Nat) : List (Bool × Bool):=[]
theorem e_lt1_2 (b:Bool) (w:World) (n T:Nat) (g:List GenState) (n0 T0:Nat) (g0:List GenState) (ttk2 tp2 t1:Tok) (st2:Value) (pos2:Int) (li:Nat) (v0 v1:Value) (k:Nat) (sh sd io d pb fs:Nat) (κ1 κ2 τ:Nat → Tok) (ttk tb tp:Tok) (st:Value) (buf:Str) (pos:Int) (x:Nat) (tok:List Nat) : (r_lt1_2 (W b w) n T g n0 T0 g0 ttk2 tp2 t1 st2 pos2 li v0 v1 k sh sd io d pb fs κ1 κ2 τ ttk tb tp st buf pos x tok).M [false,false] = (r_lt1_2 (W b w) n T g n0 T0 g0 ttk2 tp2 t1 st2 pos2 li v0 v1 k sh sd io d pb fs κ1 κ2 τ ttk tb tp st buf pos x tok).N (b_lt1_2 n T n0 T0 g0 ttk2 tp2 t1 st2 pos2 li v0 v1 k sh sd io d pb fs κ1 κ2 τ ttk tb tp st buf pos x tok) (.again (xlC li sh)) (0) (7) g [(li,liO [v0,v1,.str (sx (x :: tok)) t1] (k + 1)),(sh,shI sd),(sd,shD (W b w).params κ1 τ io pb fs st2 (.str (sx []) ttk2)),(io,ioI d),(d,ioD (W b w).params κ2 buf tb pos2 tp2),(pb,dqO),(fs,dqO)]:=by cases b <;> kernel_rfl
noncomputable def g_lt1_2 {b:Bool} {w:World} (n0 T0:Nat) (g0:List GenState) (ttk2 tp2 t1:Tok) (st2:Value) (pos2:Int) (li:Nat) (v0 v1:Value) (k:Nat) (sh sd io d pb fs:Nat) (κ1 κ2 τ:Nat → Tok) (ttk tb tp:Tok) (st:Value) (buf:Str) (pos:Int) (x:Nat) (tok:List Nat):=mkKA (fun n T g => e_lt1_2 b w n T g n0 T0 g0 ttk2 tp2 t1 st2 pos2 li v0 v1 k sh sd io d pb fs κ1 κ2 τ ttk tb tp st buf pos x tok) (fun _ _ _ => rfl) (by decide)
def u_lt1_3 (w:World) (n T:Nat) (n0 T0:Nat) (g0:List GenState) (ttk2 tp2 t1:Tok) (st2:Value) (pos2:Int) (li:Nat) (v0 v1 v2:Value) (k:Nat) (sh sd io d pb fs:Nat) (κ1 κ2 τ:Nat → Tok) (ttk tb tp:Tok) (st:Value) (buf:Str) (pos:Int) (x:Nat) (tok:List Nat) : List Sum:=[]
def r_lt1_3 (w:World) (n T:Nat) (g:List GenState) (n0 T0:Nat) (g0:List GenState) (ttk2 tp2 t1:Tok) (st2:Value) (pos2:Int) (li:Nat) (v0 v1 v2:Value) (k:Nat) (sh sd io d pb fs:Nat) (κ1 κ2 τ:Nat → Tok) (ttk tb tp:Tok) (st:Value) (buf:Str) (pos:Int) (x:Nat) (tok:List Nat) : Out:=runK w n T 380 20000 (digits 78 36292648883395935380993515812778109486878412709936615072332777317902646231020580438490662565756828775777567897677875732605497063221362692161) (u_lt1_3 w n T n0 T0 g0 ttk2 tp2 t1 st2 pos2 li v0 v1 v2 k sh sd io d pb fs κ1 κ2 τ ttk tb tp st buf pos x tok) (r_lt0 w n0 T0 g0 li [v0,v1,v2] k sh sd io d pb fs κ1 κ2 τ ttk tb tp st buf pos) (.ok (.ret (.str (sx (x :: tok)) t1))) [((n0 + 1),fr1 w.params (T0 + 1) sh),(n0,fr1 w.params T0 sh),(li,liO [v0,v1,v2] k),(sh,shI sd),(sd,shD w.params κ1 τ io pb fs st2 (.str (sx []) ttk2)),(io,ioI d),(d,ioD w.params κ2 buf tb pos2 tp2),(pb,dqO),(fs,dqO)] g
def b_lt1_3 (n T:Nat) (n0 T0:Nat) (g0:List GenState) (ttk2 tp2 t1:Tok) (st2:Value) (pos2:Int) (li:Nat) (v0 v1 v2:Value) (k:Nat) (sh sd io d pb fs:Nat) (κ1 κ2 τ:Nat → Tok) (ttk tb tp:Tok) (st:Value) (buf:Str) (pos:Int) (x:Nat) (tok:List Nat) : List (Bool × Bool):=[]
theorem e_lt1_3 (b:Bool) (w:World) (n T:Nat) (g:List GenState) (n0 T0:Nat) (g0:List GenState) (ttk2 tp2 t1:Tok) (st2:Value) (pos2:Int) (li:Nat) (v0 v1 v2:Value) (k:Nat) (sh sd io d pb fs:Nat) (κ1 κ2 τ:Nat → Tok) (ttk tb tp:Tok) (st:Value) (buf:Str) (pos:Int) (x:Nat) (tok:List Nat) : (r_lt1_3 (W b w) n T g n0 T0 g0 ttk2 tp2 t1 st2 pos2 li v0 v1 v2 k sh sd io d pb fs κ1 κ2 τ ttk tb tp st buf pos x tok).M [false,false] = (r_lt1_3 (W b w) n T g n0 T0 g0 ttk2 tp2 t1 st2 pos2 li v0 v1 v2 k sh sd io d pb fs κ1 κ2 τ ttk tb tp st buf pos x tok).N (b_lt1_3 n T n0 T0 g0 ttk2 tp2 t1 st2 pos2 li v0 v1 v2 k sh sd io d pb fs κ1 κ2 τ ttk tb tp st buf pos x tok) (.again (xlC li sh)) (0) (7) g [(li,liO [v0,v1,v2,.str (sx (x :: tok)) t1] (k + 1)),(sh,shI sd),(sd,shD (W b w).params κ1 τ io pb fs st2 (.str (sx []) ttk2)),(io,ioI d),(d,ioD (W b w).params κ2 buf tb pos2 tp2),(pb,dqO),(fs,dqO)]:=by cases b <;> kernel_rfl
noncomputable def g_lt1_3 {b:Bool} {w:World} (n0 T0:Nat) (g0:List GenState) (ttk2 tp2 t1:Tok) (st2:Value) (pos2:Int) (li:Nat) (v0 v1 v2:Value) (k:Nat) (sh sd io d pb fs:Nat) (κ1 κ2 τ:Nat → Tok) (ttk tb tp:Tok) (st:Value) (buf:Str) (pos:Int) (x:Nat) (tok:List Nat):=mkKA (fun n T g => e_lt1_3 b w n T g n0 T0 g0 ttk2 tp2 t1 st2 pos2 li v0 v1 v2 k sh sd io d pb fs κ1 κ2 τ ttk tb tp st buf pos x tok) (fun _ _ _ => rfl) (by decide)
def u_lt1_4 (w:World) (n T:Nat) (n0 T0:Nat) (g0:List GenState) (ttk2 tp2 t1:Tok) (st2:Value) (pos2:Int) (li:Nat) (v0 v1 v2 v3:Value) (k:Nat) (sh sd io d pb fs:Nat) (κ1 κ2 τ:Nat → Tok) (ttk tb tp:Tok) (st:Value) (buf:Str) (pos:Int) (x:Nat) (tok:List Nat) : List Sum:=[]
def r_lt1_4 (w:World) (n T:Nat) (g:List GenState) (n0 T0:Nat) (g0:List GenState) (ttk2 tp2 t1:Tok) (st2:Value) (pos2:Int) (li:Nat) (v0 v1 v2 v3:Value) (k:Nat) (sh sd io d pb fs:Nat) (κ1 κ2 τ:Nat → Tok) (ttk tb tp:Tok) (st:Value) (buf:Str) (pos:Int) (x:Nat) (tok:List Nat) : Out:=runK w n T 380 20000 (digits 78 36292648883395935380993515812778109486878412709936615072332777317902646231020580438490662565756828775777567897677875732605497063221362692161) (u_lt1_4 w n T n0 T0 g0 ttk2 tp2 t1 st2 pos2 li v0 v1 v2 v3 k sh sd io d pb fs κ1 κ2 τ ttk tb tp st buf pos x tok) (r_lt0 w n0 T0 g0 li [v0,v1,v2,v3] k sh sd io d pb fs κ1 κ2 τ ttk tb tp st buf pos) (.ok (.ret (.str (sx (x :: tok)) t1))) [((n0 + 1),fr1 w.params (T0 + 1) sh),(n0,fr1 w.params T0 sh),(li,liO [v0,v1,v2,v3] k),(sh,shI sd),(sd,shD w.params κ1 τ io pb fs st2 (.str (sx []) ttk2)),(io,ioI d),(d,ioD w.params κ2 buf tb pos2 tp2),(pb,dqO),(fs,dqO)] g
def b_lt1_4 (n T:Nat) (n0 T0:Nat) (g0:List GenState) (ttk2 tp2 t1:Tok) (st2:Value) (pos2:Int) (li:Nat) (v0 v1 v2 v3:Value) (k:Nat) (sh sd io d pb fs:Nat) (κ1 κ2 τ:Nat → Tok) (ttk tb tp:Tok) (st:Value) (buf:Str) (pos:Int) (x:Nat) (tok:List Nat) : List (Bool × Bool):=[]
theorem e_lt1_4 (b:Bool) (w:World) (n T:Nat) (g:List GenState) (n0 T0:Nat) (g0:List GenState) (ttk2 tp2 t1:Tok) (st2:Value) (pos2:Int) (li:Nat) (v0 v1 v2 v3:Value) (k:Nat) (sh sd io d pb fs:Nat) (κ1 κ2 τ:Nat → Tok) (ttk tb tp:Tok) (st:Value) (buf:Str) (pos:Int) (x:Nat) (tok:List Nat) : (r_lt1_4 (W b w) n T g n0 T0 g0 ttk2 tp2 t1 st2 pos2 li v0 v1 v2 v3 k sh sd io d pb fs κ1 κ2 τ ttk tb tp st buf pos x tok).M [false,false] = (r_lt1_4 (W b w) n T g n0 T0 g0 ttk2 tp2 t1 st2 pos2 li v0 v1 v2 v3 k sh sd io d pb fs κ1 κ2 τ ttk tb tp st buf pos x tok).N (b_lt1_4 n T n0 T0 g0 ttk2 tp2 t1 st2 pos2 li v0 v1 v2 v3 k sh sd io d pb fs κ1 κ2 τ ttk tb tp st buf pos x tok) (.again (xlC li sh)) (0) (7) g [(li,liO [v0,v1,v2,v3,.str (sx (x :: tok)) t1] (k + 1)),(sh,shI sd),(sd,shD (W b w).params κ1 τ io pb fs st2 (.str (sx []) ttk2)),(io,ioI d),(d,ioD (W b w).params κ2 buf tb pos2 tp2),(pb,dqO),(fs,dqO)]:=by cases b <;> kernel_rfl
noncomputable def g_lt1_4 {b:Bool} {w:World} (n0 T0:Nat) (g0:List GenState) (ttk2 tp2 t1:Tok) (st2:Value) (pos2:Int) (li:Nat) (v0 v1 v2 v3:Value) (k:Nat) (sh sd io d pb fs:Nat) (κ1 κ2 τ:Nat → Tok) (ttk tb tp:Tok) (st:Value) (buf:Str) (pos:Int) (x:Nat) (tok:List Nat):=mkKA (fun n T g => e_lt1_4 b w n T g n0 T0 g0 ttk2 tp2 t1 st2 pos2 li v0 v1 v2 v3 k sh sd io d pb fs κ1 κ2 τ ttk tb tp st buf pos x tok) (fun _ _ _ => rfl) (by decide)
def u_lt1_5 (w:World) (n T:Nat) (n0 T0:Nat) (g0:List GenState) (ttk2 tp2 t1:Tok) (st2:Value) (pos2:Int) (li:Nat) (v0 v1 v2 v3 v4:Value) (k:Nat) (sh sd io d pb fs:Nat) (κ1 κ2 τ:Nat → Tok) (ttk tb tp:Tok) (st:Value) (buf:Str) (pos:Int) (x:Nat) (tok:List Nat) : List Sum:=[]
def r_lt1_5 (w:World) (n T:Nat) (g:List GenState) (n0 T0:Nat) (g0:List GenState) (ttk2 tp2 t1:Tok) (st2:Value) (pos2:Int) (li:Nat) (v0 v1 v2 v3 v4:Value) (k:Nat) (sh sd io d pb fs:Nat) (κ1 κ2 τ:Nat → Tok) (ttk tb tp:Tok) (st:Value) (buf:Str) (pos:Int) (x:Nat) (tok:List Nat) : Out:=runK w n T 380 20000 (digits 78 36292648883395935380993515812778109486878412709936615072332777317902646231020580438490662565756828775777567897677875732605497063221362692161) (u_lt1_5 w n T n0 T0 g0 ttk2 tp2 t1 st2 pos2 li v0 v1 v2 v3 v4 k sh sd io d pb fs κ1 κ2 τ ttk tb tp st buf pos x tok) (r_lt0 w n0 T0 g0 li [v0,v1,v2,v3,v4] k sh sd io d pb fs κ1 κ2 τ ttk tb tp st buf pos) (.ok (.ret (.str (sx (x :: tok)) t1))) [((n0 + 1),fr1 w.params (T0 + 1) sh),(n0,fr1 w.params T0 sh),(li,liO [v0,v1,v2,v3,v4] k),(sh,shI sd),(sd,shD w.params κ1 τ io pb fs st2 (.str (sx []) ttk2)),(io,ioI d),(d,ioD w.params κ2 buf tb pos2 tp2),(pb,dqO),(fs,dqO)] g
def b_lt1_5 (n T:Nat) (n0 T0:Nat) (g0:List GenState) (ttk2 tp2 t1:Tok) (st2:Value) (pos2:Int) (li:Nat) (v0 v1 v2 v3 v4:Value) (k:Nat) (sh sd io d pb fs:Nat) (κ1 κ2 τ:Nat → Tok) (ttk tb tp:Tok) (st:Value) (buf:Str) (pos:Int) (x:Nat) (tok:List Nat) : List (Bool × Bool):=[]
theorem e_lt1_5 (b:Bool) (w:World) (n T:Nat) (g:List GenState) (n0 T0:Nat) (g0:List GenState) (ttk2 tp2 t1:Tok) (st2:Value) (pos2:Int) (li:Nat) (v0 v1 v2 v3 v4:Value) (k:Nat) (sh sd io d pb fs:Nat) (κ1 κ2 τ:Nat → Tok) (ttk tb tp:Tok) (st:Value) (buf:Str) (pos:Int) (x:Nat) (tok:List Nat) : (r_lt1_5 (W b w) n T g n0 T0 g0 ttk2 tp2 t1 st2 pos2 li v0 v1 v2 v3 v4 k sh sd io d pb fs κ1 κ2 τ ttk tb tp st buf pos x tok).M [false,false] = (r_lt1_5 (W b w) n T g n0 T0 g0 ttk2 tp2 t1 st2 pos2 li v0 v1 v2 v3 v4 k sh sd io d pb fs κ1 κ2 τ ttk tb tp st buf pos x tok).N (b_lt1_5 n T n0 T0 g0 ttk2 tp2 t1 st2 pos2 li v0 v1 v2 v3 v4 k sh sd io d pb fs κ1 κ2 τ ttk tb tp st buf pos x tok) (.again (xlC li sh)) (0) (7) g [(li,liO [v0,v1,v2,v3,v4,.str (sx (x :: tok)) t1] (k + 1)),(sh,shI sd),(sd,shD (W b w).params κ1 τ io pb fs st2 (.str (sx []) ttk2)),(io,ioI d),(d,ioD (W b w).params κ2 buf tb pos2 tp2),(pb,dqO),(fs,dqO)]:=by cases b <;> kernel_rfl
noncomputable def g_lt1_5 {b:Bool} {w:World} (n0 T0:Nat) (g0:List GenState) (ttk2 tp2 t1:Tok) (st2:Value) (pos2:Int) (li:Nat) (v0 v1 v2 v3 v4:Value) (k:Nat) (sh sd io d pb fs:Nat) (κ1 κ2 τ:Nat → Tok) (ttk tb tp:Tok) (st:Value) (buf:Str) (pos:Int) (x:Nat) (tok:List Nat):=mkKA (fun n T g => e_lt1_5 b w n T g n0 T0 g0 ttk2 tp2 t1 st2 pos2 li v0 v1 v2 v3 v4 k sh sd io d pb fs κ1 κ2 τ ttk tb tp st buf pos x tok) (fun _ _ _ => rfl) (by decide)
def u_lt1_6 (w:World) (n T:Nat) (n0 T0:Nat) (g0:List GenState) (ttk2 tp2 t1:Tok) (st2:Value) (pos2:Int) (li:Nat) (v0 v1 v2 v3 v4 v5:Value) (k:Nat) (sh sd io d pb fs:Nat) (κ1 κ2 τ:Nat → Tok) (ttk tb tp:Tok) (st:Value) (buf:Str) (pos:Int) (x:Nat) (tok:List Nat) : List Sum:=[]
def r_lt1_6 (w:World) (n T:Nat) (g:List GenState) (n0 T0:Nat) (g0:List GenState) (ttk2 tp2 t1:Tok) (st2:Value) (pos2:Int) (li:Nat) (v0 v1 v2 v3 v4 v5:Value) (k:Nat) (sh sd io d pb fs:Nat) (κ1 κ2 τ:Nat → Tok) (ttk tb tp:Tok) (st:Value) (buf:Str) (pos:Int) (x:Nat) (tok:List Nat) : Out:=runK w n T 380 20000 (digits 78 36292648883395935380993515812778109486878412709936615072332777317902646231020580438490662565756828775777567897677875732605497063221362692161) (u_lt1_6 w n T n0 T0 g0 ttk2 tp2 t1 st2 pos2 li v0 v1 v2 v3 v4 v5 k sh sd io d pb fs κ1 κ2 τ ttk tb tp st buf pos x tok) (r_lt0 w n0 T0 g0 li [v0,v1,v2,v3,v4,v5] k sh sd io d pb fs κ1 κ2 τ ttk tb tp st buf pos) (.ok (.ret (.str (sx (x :: tok)) t1))) [((n0 + 1),fr1 w.params (T0 + 1) sh),(n0,fr1 w.params T0 sh),(li,liO [v0,v1,v2,v3,v4,v5] k),(sh,shI sd),(sd,shD w.params κ1 τ io pb fs st2 (.str (sx []) ttk2)),(io,ioI d),(d,ioD w.params κ2 buf tb pos2 tp2),(pb,dqO),(fs,dqO)] g
def b_lt1_6 (n T:Nat) (n0 T0:Nat) (g0:List GenState) (ttk2 tp2 t1:Tok) (st2:Value) (pos2:Int) (li:Nat) (v0 v1 v2 v3 v4 v5:Value) (k:Nat) (sh sd io d pb fs:Nat) (κ1 κ2 τ:Nat → Tok) (ttk tb tp:Tok) (st:Value) (buf:Str) (pos:Int) (x:Nat) (tok:List Nat) : List (Bool × Bool):=[]
theorem e_lt1_6 (b:Bool) (w:World) (n T:Nat) (g:List GenState) (n0 T0:Nat) (g0:List GenState) (ttk2 tp2 t1:Tok) (st2:Value) (pos2:Int) (li:Nat) (v0 v1 v2 v3 v4 v5:Value) (k:Nat) (sh sd io d pb fs:Nat) (κ1 κ2 τ:Nat → Tok) (ttk tb tp:Tok) (st:Value) (buf:Str) (pos:Int) (x:Nat) (tok:List Nat) : (r_lt1_6 (W b w) n T g n0 T0 g0 ttk2 tp2 t1 st2 pos2 li v0 v1 v2 v3 v4 v5 k sh sd io d pb fs κ1 κ2 τ ttk tb tp st buf pos x tok).M [false,false] = (r_lt1_6 (W b w) n T g n0 T0 g0 ttk2 tp2 t1 st2 pos2 li v0 v1 v2 v3 v4 v5 k sh sd io d pb fs κ1 κ2 τ ttk tb tp st buf pos x tok).N (b_lt1_6 n T n0 T0 g0 ttk2 tp2 t1 st2 pos2 li v0 v1 v2 v3 v4 v5 k sh sd io d pb fs κ1 κ2 τ ttk tb tp st buf pos x tok) (.again (xlC li sh)) (0) (7) g [(li,liO [v0,v1,v2,v3,v4,v5,.str (sx (x :: tok)) t1] (k + 1)),(sh,shI sd),(sd,shD (W b w).params κ1 τ io pb fs st2 (.str (sx []) ttk2)),(io,ioI d),(d,ioD (W b w).params κ2 buf tb pos2 tp2),(pb,dqO),(fs,dqO)]:=by cases b <;> kernel_rfl
noncomputable def g_lt1_6 {b:Bool} {w:World} (n0 T0:Nat) (g0:List GenState) (ttk2 tp2 t1:Tok) (st2:Value) (pos2:Int) (li:Nat) (v0 v1 v2 v3 v4 v5:Value) (k:Nat) (sh sd io d pb fs:Nat) (κ1 κ2 τ:Nat → Tok) (ttk tb tp:Tok) (st:Value) (buf:Str) (pos:Int) (x:Nat) (tok:List Nat):=mkKA (fun n T g => e_lt1_6 b w n T g n0 T0 g0 ttk2 tp2 t1 st2 pos2 li v0 v1 v2 v3 v4 v5 k sh sd io d pb fs κ1 κ2 τ ttk tb tp st buf pos x tok) (fun _ _ _ => rfl) (by decide)
def u_lt1_7 (w:World) (n T:Nat) (n0 T0:Nat) (g0:List GenState) (ttk2 tp2 t1:Tok) (st2:Value) (pos2:Int) (li:Nat) (v0 v1 v2 v3 v4 v5 v6:Value) (k:Nat) (sh sd io d pb fs:Nat) (κ1 κ2 τ:Nat → Tok) (ttk tb tp:Tok) (st:Value) (buf:Str) (pos:Int) (x:Nat) (tok:List Nat) : List Sum:=[]
def r_lt1_7 (w:World) (n T:Nat) (g:List GenState) (n0 T0:Nat) (g0:List GenState) (ttk2 tp2 t1:Tok) (st2:Value) (pos2:Int) (li:Nat) (v0 v1 v2 v3 v4 v5 v6:Value) (k:Nat) (sh sd io d pb fs:Nat) (κ1 κ2 τ:Nat → Tok) (ttk tb tp:Tok) (st:Value) (buf:Str) (pos:Int) (x:Nat) (tok:List Nat) : Out:=runK w n T 380 20000 (digits 78 36292648883395935380993515812778109486878412709936615072332777317902646231020580438490662565756828775777567897677875732605497063221362692161) (u_lt1_7 w n T n0 T0 g0 ttk2 tp2 t1 st2 pos2 li v0 v1 v2 v3 v4 v5 v6 k sh sd io d pb fs κ1 κ2 τ ttk tb tp st buf pos x tok) (r_lt0 w n0 T0 g0 li [v0,v1,v2,v3,v4,v5,v6] k sh sd io d pb fs κ1 κ2 τ ttk tb tp st buf pos) (.ok (.ret (.str (sx (x :: tok)) t1))) [((n0 + 1),fr1 w.params (T0 + 1) sh),(n0,fr1 w.params T0 sh),(li,liO [v0,v1,v2,v3,v4,v5,v6] k),(sh,shI sd),(sd,shD w.params κ1 τ io pb fs st2 (.str (sx []) ttk2)),(io,ioI d),(d,ioD w.params κ2 buf tb pos2 tp2),(pb,dqO),(fs,dqO)] g
def b_lt1_7 (n T:Nat) (n0 T0:Nat) (g0:List GenState) (ttk2 tp2 t1:Tok) (st2:Value) (pos2:Int) (li:Nat) (v0 v1 v2 v3 v4 v5 v6:Value) (k:Nat) (sh sd io d pb fs:Nat) (κ1 κ2 τ:Nat → Tok) (ttk tb tp:Tok) (st:Value) (buf:Str) (pos:Int) (x:Nat) (tok:List Nat) : List (Bool × Bool):=[]
theorem e_lt1_7 (b:Bool) (w:World) (n T:Nat) (g:List GenState) (n0 T0:Nat) (g0:List GenState) (ttk2 tp2 t1:Tok) (st2:Value) (pos2:Int) (li:Nat) (v0 v1 v2 v3 v4 v5 v6:Value) (k:Nat) (sh sd io d pb fs:Nat) (κ1 κ2 τ:Nat → Tok) (ttk tb tp:Tok) (st:Value) (buf:Str) (pos:Int) (x:Nat) (tok:List Nat) : (r_lt1_7 (W b w) n T g n0 T0 g0 ttk2 tp2 t1 st2 pos2 li v0 v1 v2 v3 v4 v5 v6 k sh sd io d pb fs κ1 κ2 τ ttk tb tp st buf pos x tok).M [false,false] = (r_lt1_7 (W b w) n T g n0 T0 g0 ttk2 tp2 t1 st2 pos2 li v0 v1 v2 v3 v4 v5 v6 k sh sd io d pb fs κ1 κ2 τ ttk tb tp st buf pos x tok).N (b_lt1_7 n T n0 T0 g0 ttk2 tp2 t1 st2 pos2 li v0 v1 v2 v3 v4 v5 v6 k sh sd io d pb fs κ1 κ2 τ ttk tb tp st buf pos x tok) (.again (xlC li sh)) (0) (7) g [(li,liO [v0,v1,v2,v3,v4,v5,v6,.str (sx (x :: tok)) t1] (k + 1)),(sh,shI sd),(sd,shD (W b w).params κ1 τ io pb fs st2 (.str (sx []) ttk2)),(io,ioI d),(d,ioD (W b w).params κ2 buf tb pos2 tp2),(pb,dqO),(fs,dqO)]:=by cases b <;> kernel_rfl
noncomputable def g_lt1_7 {b:Bool} {w:World} (n0 T0:Nat) (g0:List GenState) (ttk2 tp2 t1:Tok) (st2:Value) (pos2:Int) (li:Nat) (v0 v1 v2 v3 v4 v5 v6:Value) (k:Nat) (sh sd io d pb fs:Nat) (κ1 κ2 τ:Nat → Tok) (ttk tb tp:Tok) (st:Value) (buf:Str) (pos:Int) (x:Nat) (tok:List Nat):=mkKA (fun n T g => e_lt1_7 b w n T g n0 T0 g0 ttk2 tp2 t1 st2 pos2 li v0 v1 v2 v3 v4 v5 v6 k sh sd io d pb fs κ1 κ2 τ ttk tb tp st buf pos x tok) (fun _ _ _ => rfl) (by decide)
def u_lt1_8 (w:World) (n T:Nat) (n0 T0:Nat) (g0:List GenState) (ttk2 tp2 t1:Tok) (st2:Value) (pos2:Int) (li:Nat) (v0 v1 v2 v3 v4 v5 v6 v7:Value) (k:Nat) (sh sd io d pb fs:Nat) (κ1 κ2 τ:Nat → Tok) (ttk tb tp:Tok) (st:Value) (buf:Str) (pos:Int) (x:Nat) (tok:List Nat) : List Sum:=[]
def r_lt1_8 (w:World) (n T:Nat) (g:List GenState) (n0 T0:Nat) (g0:List GenState) (ttk2 tp2 t1:Tok) (st2:Value) (pos2:Int) (li:Nat) (v0 v1 v2 v3 v4 v5 v6 v7:Value) (k:Nat) (sh sd io d pb fs:Nat) (κ1 κ2 τ:Nat → Tok) (ttk tb tp:Tok) (st:Value) (buf:Str) (pos:Int) (x:Nat) (tok:List Nat) : Out:=runK w n T 380 20000 (digits 78 36292648883395935380993515812778109486878412709936615072332777317902646231020580438490662565756828775777567897677875732605497063221362692161) (u_lt1_8 w n T n0 T0 g0 ttk2 tp2 t1 st2 pos2 li v0 v1 v2 v3 v4 v5 v6 v7 k sh sd io d pb fs κ1 κ2 τ ttk tb tp st buf pos x tok) (r_lt0 w n0 T0 g0 li [v0,v1,v2,v3,v4,v5,v6,v7] k sh sd io d pb fs κ1 κ2 τ ttk tb tp st buf pos) (.ok (.ret (.str (sx (x :: tok)) t1))) [((n0 + 1),fr1 w.params (T0 + 1) sh),(n0,fr1 w.params T0 sh),(li,liO [v0,v1,v2,v3,v4,v5,v6,v7] k),(sh,shI sd),(sd,shD w.params κ1 τ io pb fs st2 (.str (sx []) ttk2)),(io,ioI d),(d,ioD w.params κ2 buf tb pos2 tp2),(pb,dqO),(fs,dqO)] g
def b_lt1_8 (n T:Nat) (n0 T0:Nat) (g0:List GenState) (ttk2 tp2 t1:Tok) (st2:Value) (pos2:Int) (li:Nat) (v0 v1 v2 v3 v4 v5 v6 v7:Value) (k:Nat) (sh sd io d pb fs:Nat) (κ1 κ2 τ:Nat → Tok) (ttk tb tp:Tok) (st:Value) (buf:Str) (pos:Int) (x:Nat) (tok:List Nat) : List (Bool × Bool):=[]
theorem e_lt1_8 (b:Bool) (w:World) (n T:Nat) (g:List GenState) (n0 T0:Nat) (g0:List GenState) (ttk2 tp2 t1:Tok) (st2:Value) (pos2:Int) (li:Nat) (v0 v1 v2 v3 v4 v5 v6 v7:Value) (k:Nat) (sh sd io d pb fs:Nat) (κ1 κ2 τ:Nat → Tok) (ttk tb tp:Tok) (st:Value) (buf:Str) (pos:Int) (x:Nat) (tok:List Nat) : (r_lt1_8 (W b w) n T g n0 T0 g0 ttk2 tp2 t1 st2 pos2 li v0 v1 v2 v3 v4 v5 v6 v7 k sh sd io d pb fs κ1 κ2 τ ttk tb tp st buf pos x tok).M [false,false] = (r_lt1_8 (W b w) n T g n0 T0 g0 ttk2 tp2 t1 st2 pos2 li v0 v1 v2 v3 v4 v5 v6 v7 k sh sd io d pb fs κ1 κ2 τ ttk tb tp st buf pos x tok).N (b_lt1_8 n T n0 T0 g0 ttk2 tp2 t1 st2 pos2 li v0 v1 v2 v3 v4 v5 v6 v7 k sh sd io d pb fs κ1 κ2 τ ttk tb tp st buf pos x tok) (.again (xlC li sh)) (0) (7) g [(li,liO [v0,v1,v2,v3,v4,v5,v6,v7,.str (sx (x :: tok)) t1] (k + 1)),(sh,shI sd),(sd,shD (W b w).params κ1 τ io pb fs st2 (.str (sx []) ttk2)),(io,ioI d),(d,ioD (W b w).params κ2 buf tb pos2 tp2),(pb,dqO),(fs,dqO)]:=by cases b <;> kernel_rfl
noncomputable def g_lt1_8 {b:Bool} {w:World} (n0 T0:Nat) (g0:List GenState) (ttk2 tp2 t1:Tok) (st2:Value) (pos2:Int) (li:Nat) (v0 v1 v2 v3 v4 v5 v6 v7:Value) (k:Nat) (sh sd io d pb fs:Nat) (κ1 κ2 τ:Nat → Tok) (ttk tb tp:Tok) (st:Value) (buf:Str) (pos:Int) (x:Nat) (tok:List Nat):=mkKA (fun n T g => e_lt1_8 b w n T g n0 T0 g0 ttk2 tp2 t1 st2 pos2 li v0 v1 v2 v3 v4 v5 v6 v7 k sh sd io d pb fs κ1 κ2 τ ttk tb tp st buf pos x tok) (fun _ _ _ => rfl) (by decide)
def nxBody : List Stmt:=match methAt 24 10 with
  | .FunctionDef _ _ b _ _ _ _ _ _ _ => b
  | _ => []
def nxScope : Scope:=match methAt 24 10 with
  | .FunctionDef _ _ _ _ _ _ sc _ _ _ => sc
  | _ => default
def nxEnv (L:Addr) : Env:=⟨nxScope,L,3,[],(sx [115,104,108,101,120,46,95,95,110,101,120,116,95,95,46,60,108,111,99,97,108,115,62,46]),some 736,.ref 735,some L,0⟩
def nxS0 : Stmt:=nxBody.getD 0 (.Pass default)
def nxS2 : Stmt:=nxBody.getD 2 (.Pass default)
def nxT : Expr:=match nxBody.getD 1 (.Pass default) with
  | .If t _ _ _ => t
  | _ => default
def nxP : Pos:=match nxBody.getD 1 (.Pass default) with
  | .If _ _ _ p => p
  | _ => default
def nxN : Str:=match nxBody.getD 1 (.Pass default) with
  | .If _ [.Raise (some (.Name x _)) _ _] _ _ => x
  | _ => default
def nxNp : Pos:=match nxBody.getD 1 (.Pass default) with
  | .If _ [.Raise (some (.Name _ p)) _ _] _ _ => p
  | _ => default
def nxRp : Pos:=match nxBody.getD 1 (.Pass default) with
  | .If _ [.Raise _ _ p] _ _ => p
  | _ => default
def fr2 (P:Params) (k1 k2:Tok) (self:Addr) : Obj:=⟨.type "frame",none,.dict ⟨[en P (sx [115,101,108,102]) k1 (.ref self),en P (sx [116,111,107,101,110]) k2 .none]⟩ 2,⟨[]⟩⟩
theorem nx_body : nxBody = [nxS0,.If nxT [.Raise (some (.Name nxN nxNp)) none nxRp] [] nxP,nxS2]:=by kernel_rfl
theorem nx_name : nxN = Str.ofString "StopIteration":=by kernel_rfl
def u_ne0 (w:World) (n T:Nat) (sh:Nat) : List Sum:=[]
def r_ne0 (w:World) (n T:Nat) (g:List GenState) (sh:Nat) : Out:=runE w n T 400 20000 (digits 3 4160) (.call (.ref 736) ⟨[.ref sh],[]⟩) [] g
def b_ne0 (n T:Nat) (sh:Nat) : List (Bool × Bool):=[]
theorem e_ne0 (b:Bool) (w:World) (n T:Nat) (g:List GenState) (sh:Nat) : (r_ne0 (W b w) n T g sh).M [] = (r_ne0 (W b w) n T g sh).N (b_ne0 n T sh) (.again (.func nxBody (nxEnv n))) (1) (1) g [(n,fr1 (W b w).params T sh)]:=by cases b <;> kernel_rfl
noncomputable def g_ne0 {b:Bool} {w:World} (sh:Nat):=mkE (fun n T g => e_ne0 b w n T g sh) (fun _ _ _ => rfl) (by decide)
def u_np0 (w:World) (n T:Nat) (L:Nat) (kf:Tok) (sh sd io d pb fs:Nat) (κ1 κ2 τ:Nat → Tok) (ttk tb tp:Tok) (st:Value) (buf:Str) (pos:Int) : List Sum:=[]
def r_np0 (w:World) (n T:Nat) (g:List GenState) (L:Nat) (kf:Tok) (sh sd io d pb fs:Nat) (κ1 κ2 τ:Nat → Tok) (ttk tb tp:Tok) (st:Value) (buf:Str) (pos:Int) : Out:=runT w n T 400 20000 (digits 61 7047948123874420919930148468534379581287466137628720705002377717953131807460969053826156283547656747556536449) (u_np0 w n T L kf sh sd io d pb fs κ1 κ2 τ ttk tb tp st buf pos) (.func nxBody (nxEnv L)) (partT (exec nxS0 (nxEnv L))) [(L,fr1 w.params kf sh),(sh,shI sd),(sd,shD w.params κ1 τ io pb fs st (.str (sx []) ttk)),(io,ioI d),(d,ioD w.params κ2 buf tb pos tp),(pb,dqO),(fs,dqO)] g
def b_np0 (n T:Nat) (L:Nat) (kf:Tok) (sh sd io d pb fs:Nat) (κ1 κ2 τ:Nat → Tok) (ttk tb tp:Tok) (st:Value) (buf:Str) (pos:Int) : List (Bool × Bool):=[]
theorem e_np0 (b:Bool) (w:World) (n T:Nat) (g:List GenState) (L:Nat) (kf:Tok) (sh sd io d pb fs:Nat) (κ1 κ2 τ:Nat → Tok) (ttk tb tp:Tok) (st:Value) (buf:Str) (pos:Int) : (r_np0 (W b w) n T g L kf sh sd io d pb fs κ1 κ2 τ ttk tb tp st buf pos).M3 [] = (r_np0 (W b w) n T g L kf sh sd io d pb fs κ1 κ2 τ ttk tb tp st buf pos).N3 (b_np0 n T L kf sh sd io d pb fs κ1 κ2 τ ttk tb tp st buf pos) (.call (.ref 707) ⟨[.ref sh],[]⟩) (2) (1) (4) g [(n,fr1 (W b w).params T sh),(L,fr1 (W b w).params kf sh),(sh,shI sd),(sd,shD (W b w).params κ1 τ io pb fs st (.str (sx []) ttk)),(io,ioI d),(d,ioD (W b w).params κ2 buf tb pos tp),(pb,dqO),(fs,dqO)]:=by cases b <;> kernel_rfl
noncomputable def g_np0 {b:Bool} {w:World} (L:Nat) (kf:Tok) (sh sd io d pb fs:Nat) (κ1 κ2 τ:Nat → Tok) (ttk tb tp:Tok) (st:Value) (buf:Str) (pos:Int):=mkPS (fun n T g => e_np0 b w n T g L kf sh sd io d pb fs κ1 κ2 τ ttk tb tp st buf pos) (fun _ _ _ => rfl) rfl (by decide)
def u_np1 (w:World) (n T:Nat) (n0 T0:Nat) (g0:List GenState) (ttk2 tp2:Tok) (st2:Value) (pos2:Int) (L:Nat) (kf:Tok) (sh sd io d pb fs:Nat) (κ1 κ2 τ:Nat → Tok) (ttk tb tp:Tok) (st:Value) (buf:Str) (pos:Int) : List Sum:=[]
def r_np1 (w:World) (n T:Nat) (g:List GenState) (n0 T0:Nat) (g0:List GenState) (ttk2 tp2:Tok) (st2:Value) (pos2:Int) (L:Nat) (kf:Tok) (sh sd io d pb fs:Nat) (κ1 κ2 τ:Nat → Tok) (ttk tb tp:Tok) (st:Value) (buf:Str) (pos:Int) : Out:=runK w n T 400 20000 (digits 72 352168344060612295654337274130947157101990075043286961287645290698675210044506072666120135425375998969572916882127734248592642113) (u_np1 w n T n0 T0 g0 ttk2 tp2 st2 pos2 L kf sh sd io d pb fs κ1 κ2 τ ttk tb tp st buf pos) (r_np0 w n0 T0 g0 L kf sh sd io d pb fs κ1 κ2 τ ttk tb tp st buf pos) (.ok (.ret .none)) [(n0,fr1 w.params T0 sh),(L,fr1 w.params kf sh),(sh,shI sd),(sd,shD w.params κ1 τ io pb fs st2 (.str (sx []) ttk2)),(io,ioI d),(d,ioD w.params κ2 buf tb pos2 tp2),(pb,dqO),(fs,dqO)] g
def b_np1 (n T:Nat) (n0 T0:Nat) (g0:List GenState) (ttk2 tp2:Tok) (st2:Value) (pos2:Int) (L:Nat) (kf:Tok) (sh sd io d pb fs:Nat) (κ1 κ2 τ:Nat → Tok) (ttk tb tp:Tok) (st:Value) (buf:Str) (pos:Int) : List (Bool × Bool):=[]
theorem e_np1 (b:Bool) (w:World) (n T:Nat) (g:List GenState) (n0 T0:Nat) (g0:List GenState) (ttk2 tp2:Tok) (st2:Value) (pos2:Int) (L:Nat) (kf:Tok) (sh sd io d pb fs:Nat) (κ1 κ2 τ:Nat → Tok) (ttk tb tp:Tok) (st:Value) (buf:Str) (pos:Int) : (r_np1 (W b w) n T g n0 T0 g0 ttk2 tp2 st2 pos2 L kf sh sd io d pb fs κ1 κ2 τ ttk tb tp st buf pos).M [false] = (r_np1 (W b w) n T g n0 T0 g0 ttk2 tp2 st2 pos2 L kf sh sd io d pb fs κ1 κ2 τ ttk tb tp st buf pos).N (b_np1 n T n0 T0 g0 ttk2 tp2 st2 pos2 L kf sh sd io d pb fs κ1 κ2 τ ttk tb tp st buf pos) (.done (.ok .next)) (0) (8) g [(L,fr2 (W b w).params kf (T + 7) sh),(sh,shI sd),(sd,shD (W b w).params κ1 τ io pb fs st2 (.str (sx []) ttk2)),(io,ioI d),(d,ioD (W b w).params κ2 buf tb pos2 tp2),(pb,dqO),(fs,dqO)]:=by cases b <;> kernel_rfl
noncomputable def g_np1 {b:Bool} {w:World} (n0 T0:Nat) (g0:List GenState) (ttk2 tp2:Tok) (st2:Value) (pos2:Int) (L:Nat) (kf:Tok) (sh sd io d pb fs:Nat) (κ1 κ2 τ:Nat → Tok) (ttk tb tp:Tok) (st:Value) (buf:Str) (pos:Int):=mkK (fun n T g => e_np1 b w n T g n0 T0 g0 ttk2 tp2 st2 pos2 L kf sh sd io d pb fs κ1 κ2 τ ttk tb tp st buf pos) (fun _ _ _ => rfl) (by decide)
def u_np2 (w:World) (n T:Nat) (kg:Tok) (L:Nat) (kf:Tok) (sh sd io d pb fs:Nat) (κ1 κ2 τ:Nat → Tok) (ttk tb tp:Tok) (st:Value) (buf:Str) (pos:Int) : List Sum:=[]
def r_np2 (w:World) (n T:Nat) (g:List GenState) (kg:Tok) (L:Nat) (kf:Tok) (sh sd io d pb fs:Nat) (κ1 κ2 τ:Nat → Tok) (ttk tb tp:Tok) (st:Value) (buf:Str) (pos:Int) : Out:=runT w n T 400 20000 (digits 17 58038031648429325445767233) (u_np2 w n T kg L kf sh sd io d pb fs κ1 κ2 τ ttk tb tp st buf pos) (.func nxBody (nxEnv L)) (partT (Sem.bind (isTrue nxT (nxEnv L) (eval nxT (nxEnv L))) fun b => .pure (.ret (.bool b)))) [(L,fr2 w.params kf kg sh),(sh,shI sd),(sd,shD w.params κ1 τ io pb fs st (.str (sx []) ttk)),(io,ioI d),(d,ioD w.params κ2 buf tb pos tp),(pb,dqO),(fs,dqO)] g
def b_np2 (n T:Nat) (kg:Tok) (L:Nat) (kf:Tok) (sh sd io d pb fs:Nat) (κ1 κ2 τ:Nat → Tok) (ttk tb tp:Tok) (st:Value) (buf:Str) (pos:Int) : List (Bool × Bool):=[]
theorem e_np2 (b:Bool) (w:World) (n T:Nat) (g:List GenState) (kg:Tok) (L:Nat) (kf:Tok) (sh sd io d pb fs:Nat) (κ1 κ2 τ:Nat → Tok) (ttk tb tp:Tok) (st:Value) (buf:Str) (pos:Int) : (r_np2 (W b w) n T g kg L kf sh sd io d pb fs κ1 κ2 τ ttk tb tp st buf pos).M [] = (r_np2 (W b w) n T g kg L kf sh sd io d pb fs κ1 κ2 τ ttk tb tp st buf pos).N (b_np2 n T kg L kf sh sd io d pb fs κ1 κ2 τ ttk tb tp st buf pos) (.done (.ok (.ret (.bool true)))) (0) (1) g [(L,fr2 (W b w).params kf kg sh),(sh,shI sd),(sd,shD (W b w).params κ1 τ io pb fs st (.str (sx []) ttk)),(io,ioI d),(d,ioD (W b w).params κ2 buf tb pos tp),(pb,dqO),(fs,dqO)]:=by cases b <;> kernel_rfl
noncomputable def g_np2 {b:Bool} {w:World} (kg:Tok) (L:Nat) (kf:Tok) (sh sd io d pb fs:Nat) (κ1 κ2 τ:Nat → Tok) (ttk tb tp:Tok) (st:Value) (buf:Str) (pos:Int):=mkP (fun n T g => e_np2 b w n T g kg L kf sh sd io d pb fs κ1 κ2 τ ttk tb tp st buf pos) (fun _ _ _ => rfl) rfl (by decide)
def u_xt0 (w:World) (n T:Nat) (li:Nat) (l:List Value) (k:Nat) (sh sd io d pb fs:Nat) (κ1 κ2 τ:Nat → Tok) (ttk tb tp:Tok) (st:Value) (buf:Str) (pos:Int) : List Sum:=[]
def r_xt0 (w:World) (n T:Nat) (g:List GenState) (li:Nat) (l:List Value) (k:Nat) (sh sd io d pb fs:Nat) (κ1 κ2 τ:Nat → Tok) (ttk tb tp:Tok) (st:Value) (buf:Str) (pos:Int) : Out:=runC (G0 w n T 380) 20000 (digits 6 3221225474) (u_xt0 w n T li l k sh sd io d pb fs κ1 κ2 τ ttk tb tp st buf pos) (xlC li sh) [(li,liO l k),(sh,shI sd),(sd,shD w.params κ1 τ io pb fs st (.str (sx []) ttk)),(io,ioI d),(d,ioD w.params κ2 buf tb pos tp),(pb,dqO),(fs,dqO)] g
def b_xt0 (n T:Nat) (li:Nat) (l:List Value) (k:Nat) (sh sd io d pb fs:Nat) (κ1 κ2 τ:Nat → Tok) (ttk tb tp:Tok) (st:Value) (buf:Str) (pos:Int) : List (Bool × Bool):=[]
theorem e_xt0 (b:Bool) (w:World) (n T:Nat) (g:List GenState) (li:Nat) (l:List Value) (k:Nat) (sh sd io d pb fs:Nat) (κ1 κ2 τ:Nat → Tok) (ttk tb tp:Tok) (st:Value) (buf:Str) (pos:Int) : (r_xt0 (W b w) n T g li l k sh sd io d pb fs κ1 κ2 τ ttk tb tp st buf pos).M3 [] = (r_xt0 (W b w) n T g li l k sh sd io d pb fs κ1 κ2 τ ttk tb tp st buf pos).N3 (b_xt0 n T li l k sh sd io d pb fs κ1 κ2 τ ttk tb tp st buf pos) (.call (.ref 736) ⟨[.ref sh],[]⟩) (5) (0) (0) g [(li,liO l k),(sh,shI sd),(sd,shD (W b w).params κ1 τ io pb fs st (.str (sx []) ttk)),(io,ioI d),(d,ioD (W b w).params κ2 buf tb pos tp),(pb,dqO),(fs,dqO)]:=by cases b <;> kernel_rfl
theorem ef_xt0 (b:Bool) (w:World) (n T:Nat) (g:List GenState) (li:Nat) (l:List Value) (k:Nat) (sh sd io d pb fs:Nat) (κ1 κ2 τ:Nat → Tok) (ttk tb tp:Tok) (st:Value) (buf:Str) (pos:Int) : ((r_xt0 (W b w) n T g li l k sh sd io d pb fs κ1 κ2 τ ttk tb tp st buf pos).fr,plainK (r_xt0 (W b w) n T g li l k sh sd io d pb fs κ1 κ2 τ ttk tb tp st buf pos).κ) = ([],true):=by cases b <;> kernel_rfl
noncomputable def g_xt0 {b:Bool} {w:World} (li:Nat) (l:List Value) (k:Nat) (sh sd io d pb fs:Nat) (κ1 κ2 τ:Nat → Tok) (ttk tb tp:Tok) (st:Value) (buf:Str) (pos:Int):=mkCSF (fun n T g => e_xt0 b w n T g li l k sh sd io d pb fs κ1 κ2 τ ttk tb tp st buf pos) (fun n T g => ef_xt0 b w n T g li l k sh sd io d pb fs κ1 κ2 τ ttk tb tp st buf pos) (fun _ _ _ => rfl) rfl (by decide)
def u_xt1 (w:World) (n T:Nat) (n0 T0:Nat) (g0:List GenState) (ttk2 tp2:Tok) (st2:Value) (pos2:Int) (e:Nat) (od:Option Addr) (dt:Data) (sl:Array (Option Value)) (li:Nat) (l:List Value) (k:Nat) (sh sd io d pb fs:Nat) (κ1 κ2 τ:Nat → Tok) (ttk tb tp:Tok) (st:Value) (buf:Str) (pos:Int) : List Sum:=[]
def r_xt1 (w:World) (n T:Nat) (g:List GenState) (n0 T0:Nat) (g0:List GenState) (ttk2 tp2:Tok) (st2:Value) (pos2:Int) (e:Nat) (od:Option Addr) (dt:Data) (sl:Array (Option Value)) (li:Nat) (l:List Value) (k:Nat) (sh sd io d pb fs:Nat) (κ1 κ2 τ:Nat → Tok) (ttk tb tp:Tok) (st:Value) (buf:Str) (pos:Int) : Out:=runK w n T 380 20000 (digits 1 1) (u_xt1 w n T n0 T0 g0 ttk2 tp2 st2 pos2 e od dt sl li l k sh sd io d pb fs κ1 κ2 τ ttk tb tp st buf pos) (r_xt0 w n0 T0 g0 li l k sh sd io d pb fs κ1 κ2 τ ttk tb tp st buf pos) (.error (.ref e)) [(e,⟨.type "StopIteration",od,dt,sl⟩),(li,liO l k),(sh,shI sd),(sd,shD w.params κ1 τ io pb fs st2 (.str (sx []) ttk2)),(io,ioI d),(d,ioD w.params κ2 buf tb pos2 tp2),(pb,dqO),(fs,dqO)] g
def b_xt1 (n T:Nat) (n0 T0:Nat) (g0:List GenState) (ttk2 tp2:Tok) (st2:Value) (pos2:Int) (e:Nat) (od:Option Addr) (dt:Data) (sl:Array (Option Value)) (li:Nat) (l:List Value) (k:Nat) (sh sd io d pb fs:Nat) (κ1 κ2 τ:Nat → Tok) (ttk tb tp:Tok) (st:Value) (buf:Str) (pos:Int) : List (Bool × Bool):=[]
theorem e_xt1 (b:Bool) (w:World) (n T:Nat) (g:List GenState) (n0 T0:Nat) (g0:List GenState) (ttk2 tp2:Tok) (st2:Value) (pos2:Int) (e:Nat) (od:Option Addr) (dt:Data) (sl:Array (Option Value)) (li:Nat) (l:List Value) (k:Nat) (sh sd io d pb fs:Nat) (κ1 κ2 τ:Nat → Tok) (ttk tb tp:Tok) (st:Value) (buf:Str) (pos:Int) : (r_xt1 (W b w) n T g n0 T0 g0 ttk2 tp2 st2 pos2 e od dt sl li l k sh sd io d pb fs κ1 κ2 τ ttk tb tp st buf pos).M [false] = (r_xt1 (W b w) n T g n0 T0 g0 ttk2 tp2 st2 pos2 e od dt sl li l k sh sd io d pb fs κ1 κ2 τ ttk tb tp st buf pos).N (b_xt1 n T n0 T0 g0 ttk2 tp2 st2 pos2 e od dt sl li l k sh sd io d pb fs κ1 κ2 τ ttk tb tp st buf pos) (.done (.ok (.ret .none))) (0) (0) g [(li,liO l k),(sh,shI sd),(sd,shD (W b w).params κ1 τ io pb fs st2 (.str (sx []) ttk2)),(io,ioI d),(d,ioD (W b w).params κ2 buf tb pos2 tp2),(pb,dqO),(fs,dqO)]:=by cases b <;> kernel_rfl
noncomputable def g_xt1 {b:Bool} {w:World} (n0 T0:Nat) (g0:List GenState) (ttk2 tp2:Tok) (st2:Value) (pos2:Int) (e:Nat) (od:Option Addr) (dt:Data) (sl:Array (Option Value)) (li:Nat) (l:List Value) (k:Nat) (sh sd io d pb fs:Nat) (κ1 κ2 τ:Nat → Tok) (ttk tb tp:Tok) (st:Value) (buf:Str) (pos:Int):=mkK (fun n T g => e_xt1 b w n T g n0 T0 g0 ttk2 tp2 st2 pos2 e od dt sl li l k sh sd io d pb fs κ1 κ2 τ ttk tb tp st buf pos) (fun _ _ _ => rfl) (by decide)
def u_sp1 (w:World) (n T:Nat) (n0 T0:Nat) (g0:List GenState) (li:Nat) (line:List Nat) (tl:Tok) : List Sum:=[]
def r_sp1 (w:World) (n T:Nat) (g:List GenState) (n0 T0:Nat) (g0:List GenState) (li:Nat) (line:List Nat) (tl:Tok) : Out:=runK w n T 350 20000 (digits 0 0) (u_sp1 w n T n0 T0 g0 li line tl) (r_sp0 w n0 T0 g0 line tl) (.ok (.ret (.ref li))) [] g
def b_sp1 (n T:Nat) (n0 T0:Nat) (g0:List GenState) (li:Nat) (line:List Nat) (tl:Tok) : List (Bool × Bool):=[]
theorem e_sp1 (b:Bool) (w:World) (n T:Nat) (g:List GenState) (n0 T0:Nat) (g0:List GenState) (li:Nat) (line:List Nat) (tl:Tok) : (r_sp1 (W b w) n T g n0 T0 g0 li line tl).M [] = (r_sp1 (W b w) n T g n0 T0 g0 li line tl).N (b_sp1 n T n0 T0 g0 li line tl) (.done (.ok (.ret (.ref li)))) (0) (0) g []:=by cases b <;> kernel_rfl
noncomputable def g_sp1 {b:Bool} {w:World} (n0 T0:Nat) (g0:List GenState) (li:Nat) (line:List Nat) (tl:Tok):=mkK (fun n T g => e_sp1 b w n T g n0 T0 g0 li line tl) (fun _ _ _ => rfl) (by decide)
structure Sl (fr:List Addr) (h h':Heap) : Prop where
  keep : ∀ b o,b ∉ fr → h.get? b = some o → h'.get? b = some o
  slot : ∀ b o,h.get? b = some o → ∃ sl,h'.get? b = some { o with slots:=sl }
theorem Sl.trans {fr:List Addr} {h₁ h₂ h₃:Heap} (x:Sl fr h₁ h₂) (y:Sl fr h₂ h₃) : Sl fr h₁ h₃ :=
  ⟨fun b o hb e => y.keep b o hb (x.keep b o hb e),fun b o e => let ⟨_,e₁⟩:=x.slot b o e; let ⟨sl,e₂⟩:=y.slot b _ e₁; ⟨sl,e₂⟩⟩
theorem Sl.mono {fr fr':List Addr} {h h':Heap} (x:Sl fr h h') (hs:∀ b ∈ fr,b ∈ fr') : Sl fr' h h':=⟨fun b o hb e => x.keep b o (fun z => hb (hs b z)) e,x.slot⟩
theorem Sl.of_keeps {fr:List Addr} {h h':Heap} (k:∀ b o,h.get? b = some o → h'.get? b = some o) : Sl fr h h':=⟨fun b o _ e => k b o e,fun b o e => ⟨o.slots,k b o e⟩⟩
theorem get_empty (a:Addr) : ({} : Heap).get? a = none:=by
  cases q : ({} : Heap).get? a with
  | none => rfl
  | some o => exact absurd (Heap.lt_size q) (Nat.not_lt_zero _)
inductive SlS : List (Addr × Obj) → List (Addr × Obj) → Prop
  | nil : SlS [] []
  | cons {a:Addr} {o:Obj} {l l':List (Addr × Obj)} (sl:Array (Option Value)) : SlS l l' → SlS ((a,o) :: l) ((a,{ o with slots:=sl }) :: l')
theorem SlS.addr {l l':List (Addr × Obj)} (h:SlS l l') : l'.map (·.1) = l.map (·.1):=by
  induction h with
  | nil => rfl
  | cons sl h ih => simp only [List.map_cons,ih]
theorem sls_of {h':Heap} : ∀ {l:List (Addr × Obj)},(∀ p ∈ l,∃ sl,h'.get? p.1 = some { p.2 with slots:=sl }) → ∃ l',SlS l l' ∧ ∀ p ∈ l',h'.get? p.1 = some p.2
  | [],_ => ⟨[],.nil,fun _ hp => nomatch hp⟩
  | (a,o) :: l,h => by
    obtain ⟨sl,e⟩:=h (a,o) (.head _)
    obtain ⟨l',x,y⟩:=sls_of fun p hp => h p (.tail _ hp)
    refine ⟨_,.cons sl x,fun p hp => ?_⟩
    rcases List.mem_cons.mp hp with rfl | hp
    · exact e
    · exact y p hp
theorem Hp.sl {w:World} {H h h':Heap} {Fo S:List (Addr × Obj)} (D:Hp w H h (S ++ Fo)) (x:Sl (Fo.map (·.1)) h h') : ∃ Fo',SlS Fo Fo' ∧ Hp w H h' (S ++ Fo'):=by
  obtain ⟨Fo',y,z⟩:=sls_of (h':=h') (l:=Fo) fun p hp => x.slot _ _ (D.own p (List.mem_append_right _ hp))
  have nd:=D.nd
  rw [List.map_append] at nd
  obtain ⟨n1,n2,n3⟩:=List.nodup_append.mp nd
  have em:=y.addr
  have new' : ∀ a ∈ Fo.map (·.1),H.get? a = none ∨ a = 753:=fun a ha => by
    obtain ⟨p,hp,rfl⟩:=List.mem_map.mp ha
    exact D.new p (List.mem_append_right _ hp)
  have ap' : ∀ a ∈ Fo.map (·.1),(kt0 w.params).get a = none:=fun a ha => by
    obtain ⟨p,hp,rfl⟩:=List.mem_map.mp ha
    exact D.apart p (List.mem_append_right _ hp)
  refine ⟨Fo',y,fun p hp => ?_,?_,?_,fun p hp => ?_,fun b o e q => ?_,fun p hp => ?_⟩
  · rcases List.mem_append.mp hp with hp | hp
    · exact x.keep _ _ (fun hm => n3 _ (List.mem_map_of_mem hp) _ hm rfl) (D.own p (List.mem_append_left _ hp))
    · exact z p hp
  · rw [List.map_append,em]; exact nd
  · exact holds_of_keeps D.base fun a o e q => x.keep a o (fun hm => by rw [ap' a hm] at e; cases e) q
  · rcases List.mem_append.mp hp with hp | hp
    · exact D.apart p (List.mem_append_left _ hp)
    · exact ap' _ (em ▸ List.mem_map_of_mem hp)
  · exact x.keep b o (fun hm => by
      rcases new' b hm with z | z
      · rw [z] at e; cases e
      · exact q z) (D.keep b o e q)
  · rcases List.mem_append.mp hp with hp | hp
    · exact D.new p (List.mem_append_left _ hp)
    · exact new' _ (em ▸ List.mem_map_of_mem hp)
section
variable {M:Model} {A:Around} {c:Code} {E:Value → Shared → Prop} {s:Shared} {α : Type}
theorem wpOwn_onRaise {m:Sem α} {k:Value → Sem Unit} {Q:α → Shared → Prop} (h:wpOwn M A c m Q (fun e s' => wpOwn M A c (k e) (fun _ s'' => E e s'') E s') s) : wpOwn M A c (m.onRaise k) Q E s:=fun Γ p hc hΓ => by
  rw [Sem.wp_onRaise]
  exact Sem.wp_mono M Γ m (fun _ _ _ h' => h') (fun e p' s' h' => h' Γ p' hc hΓ) p s (h Γ p hc hΓ)
theorem leave_new {env:Env} {outer:List Env} {L e:Addr} {oe:Obj} {vs:Array Value} {Q:Unit → Shared → Prop} (hfr:A.frames = some (env :: outer)) (hl:s.heap.FunFrames {} (env :: outer)) (hf:env.frame = some L)
    (he:s.heap.get? e = some oe) (hd:oe.data = .fields vs) (h1:vs[1]? = some .none)
    (h:∀ h',(∀ b o,b ≠ e → b ∉ (env :: outer).filterMap (·.frame) → s.heap.get? b = some o → h'.get? b = some o) → (∀ b o,b ≠ e → s.heap.get? b = some o → ∃ sl,h'.get? b = some { o with slots:=sl }) → s.heap.objs.size ≤ h'.objs.size →
      (∃ od dt sl,h'.get? e = some ⟨oe.cls,od,dt,sl⟩) → Q () { s with heap:=h' }) : wpAny M A (leaving env (.ref e)) Q E s:=by
  have hene : e ∉ (env :: outer).filterMap (·.frame):=fun hm => by
    obtain ⟨_,o,ho,hnf⟩:=hl.mem hm
    rw [he] at ho; injection ho with ho; subst ho; exact hnf vs hd
  have hsz:=(Array.getElem?_eq_some_iff.mp h1).1
  unfold leaving noteFrame
  simp only [hf]
  refine wpAny_bind (wpAny_bind (wpAny_field he hd h1 ?_))
  rw [if_neg (by decide)]
  refine wpAny_bind (wpAny_frameOf_fun hfr hl hf fun h₁ hs₁ => ?_)
  refine wpAny_bind (wpAny_entryPlaceOf fun pl hpl => ?_)
  unfold EntryCells.newEntry newFields
  refine wpAny_bind (wpAny_newObj_type ?_ (hpl.sizeOk5 _ _ _ _ _))
  have he₁ : h₁.get? e = some oe:=(hs₁.2.1 e hene).trans he
  have he₂:=Heap.get?_push_of_some (h:=h₁) { cls:=.type "traceback",dict:=none,data:=.fields ([Value.none,.ref L,.none,rawInt L,.none] ++ (if pl.isEmpty then List.replicate 6 Value.none else pl)).toArray } he₁
  refine wpAny_setField he₂ hd hsz ?_
  have hTe : h₁.objs.size ≠ e:=Nat.ne_of_gt (Heap.lt_size he₁)
  have hd₃:=Obj.data_mapFields hd (·.setIfInBounds 1 (Value.ref h₁.objs.size))
  have he₃:=Heap.get?_update_self (Obj.mapFields (·.setIfInBounds 1 (Value.ref h₁.objs.size))) he₂ (Obj.isFreed_of_fields hd₃)
  have hT₃:=(Heap.get?_update_other (h₁.push { cls:=.type "traceback",dict:=none,data:=.fields ([Value.none,.ref L,.none,rawInt L,.none] ++ (if pl.isEmpty then List.replicate 6 Value.none else pl)).toArray })
    (Obj.mapFields (·.setIfInBounds 1 (Value.ref h₁.objs.size))) (Ne.symm hTe)).trans (Heap.get?_push_size h₁ rfl)
  unfold setFlight
  refine wpAny_bind (wpAny_field he₃ hd₃ (x:=.ref h₁.objs.size) (by simp [hsz]) ?_)
  rw [if_pos (show (Value.ref h₁.objs.size != Value.none) = true from by simp)]
  refine wpAny_setField hT₃ rfl (by simp only [List.size_toArray,List.length_append,List.length_cons,List.length_nil] <;> omega) (h _ ?_ ?_ ?_ ?_)
  · intro b o hbe hbf hb
    have hb₁:=(hs₁.2.1 b hbf).trans hb
    rw [Heap.get?_update_other _ _ (Nat.ne_of_gt (Heap.lt_size hb₁)),Heap.get?_update_other _ _ (Ne.symm hbe)]
    exact Heap.get?_push_of_some _ hb₁
  · intro b o hbe hb
    obtain ⟨sl,hb₁⟩:=hs₁.2.2 b o hb
    refine ⟨sl,?_⟩
    rw [Heap.get?_update_other _ _ (Nat.ne_of_gt (Heap.lt_size hb₁)),Heap.get?_update_other _ _ (Ne.symm hbe)]
    exact Heap.get?_push_of_some _ hb₁
  · rw [(Heap.SameBut.update ..).1,(Heap.SameBut.update ..).1,Heap.size_push,hs₁.1]
    exact Nat.le_succ _
  · rw [Heap.get?_update_other _ _ hTe,he₃]
    have hc:=Obj.cls_mapFields oe (·.setIfInBounds 1 (Value.ref h₁.objs.size))
    generalize Obj.mapFields (·.setIfInBounds 1 (Value.ref h₁.objs.size)) oe = q at hc
    obtain ⟨qc,qd,qt,qs⟩:=q
    exact ⟨qd,qt,qs,by rw [← hc]⟩
end
theorem funFrames_of {h:Heap} : ∀ {l:List Env},(∀ env ∈ l,env.scope.kind ≠ .module ∧ ∃ L o,env.frame = some L ∧ h.get? L = some o ∧ ∀ vs,o.data ≠ .fields vs) → h.FunFrames {} l
  | [],_ => trivial
  | env :: l,k => by
    obtain ⟨k1,L,o,k2,k3,k4⟩:=k env (.head _)
    exact ⟨k1,⟨L,o,k2,get_empty _,k3,k4⟩,funFrames_of fun e he => k e (.tail _ he)⟩
theorem Hp.cons_new {w:World} {H h h':Heap} {S:List (Addr × Obj)} {e:Addr} {oe:Obj} (D:Hp w H h S) (k:∀ b o,h.get? b = some o → h'.get? b = some o) (hn:h.get? e = none) (he:h'.get? e = some oe) (h7:e ≠ 753) : Hp w H h' ((e,oe) :: S):=by
  refine ⟨fun p hp => ?_,?_,?_,fun p hp => ?_,fun b o x q => k b o (D.keep b o x q),fun p hp => ?_⟩
  · rcases List.mem_cons.mp hp with rfl | hp
    · exact he
    · exact k _ _ (D.own p hp)
  · rw [List.map_cons,List.nodup_cons]
    refine ⟨fun hm => ?_,D.nd⟩
    obtain ⟨p,hp,e'⟩:=List.mem_map.mp hm
    have:=D.own p hp
    have e' : p.1 = e:=e'
    rw [e',hn] at this; cases this
  · exact holds_of_keeps D.base fun a o _ q => k a o q
  · rcases List.mem_cons.mp hp with rfl | hp
    · cases q : (kt0 w.params).get e with
      | none => rfl
      | some o => have:=holds_at D.base q; rw [hn] at this; cases this
    · exact D.apart p hp
  · rcases List.mem_cons.mp hp with rfl | hp
    · refine .inl ?_
      cases q : H.get? e with
      | none => rfl
      | some o => have:=D.keep _ _ q h7; rw [hn] at this; cases this
    · exact D.new p hp
theorem Hp.cons' {w:World} {H h:Heap} {S:List (Addr × Obj)} {e:Addr} {oe:Obj} (D:Hp w H h S) (hS:e ∉ S.map (·.1)) (hk:(kt0 w.params).get e = none) (hH:H.get? e = none ∨ e = 753) (he:h.get? e = some oe) : Hp w H h ((e,oe) :: S):=by
  refine ⟨fun p hp => ?_,?_,D.base,fun p hp => ?_,D.keep,fun p hp => ?_⟩
  · rcases List.mem_cons.mp hp with rfl | hp
    · exact he
    · exact D.own p hp
  · rw [List.map_cons,List.nodup_cons]
    exact ⟨hS,D.nd⟩
  · rcases List.mem_cons.mp hp with rfl | hp
    · exact hk
    · exact D.apart p hp
  · rcases List.mem_cons.mp hp with rfl | hp
    · exact hH
    · exact D.new p hp
theorem si_name {b:Bool} {w:World} {M:Model} {A:Around} {E:Value → Shared → Prop} {s:Shared} {L:Addr} (K:KT.Holds s.heap 1 0 (kt0 (W b w).params)) :
    wpAny M A (eval (.Name nxN nxNp) (nxEnv L)) (fun v s₁ => v = .type "StopIteration" ∧ s₁ = s) E s:=by
  have e3 : s.heap.get? 3 = some (o3 (W b w).params):=holds_at K (by rfl)
  have e0 : s.heap.get? 0 = some (o0 (W b w).params):=holds_at K (by rfl)
  have c3 : s.heap.isNs 3 = true:=by
    unfold Heap.isNs; rw [e3]; kernel_rfl
  have c0 : s.heap.isNs 0 = true:=by
    unfold Heap.isNs; rw [e0]; kernel_rfl
  refine Calls.Name_function_global (by kernel_rfl) (by kernel_rfl) (Calls.loadGlobal_builtin (env:=nxEnv L) (mg:=s.heap.nsMap 3) (mb:=s.heap.nsMap 0) (v:=.type "StopIteration") (.of_isNs c3) ?_ (.of_isNs c0) ?_ ⟨rfl,rfl⟩) (by kernel_rfl)
  · unfold Heap.nsMap; rw [e3]; kernel_rfl
  · unfold Heap.nsMap; rw [e0]; kernel_rfl
theorem own_bool {M:Model} {A:Around} {c:Code} {E:Value → Shared → Prop} {s:Shared} {m:Sem Bool} {Q:Flow → Shared → Prop} (h:wpOwn M A c (Sem.bind m fun b => .pure (.ret (.bool b))) Q E s) : wpOwn M A c m (fun b s' => Q (.ret (.bool b)) s') E s:=by
  intro Γ p hc hΓ
  have z:=h Γ p hc hΓ
  change Sem.wp _ Γ (m >>= fun b => _) _ _ p s at z
  rw [Sem.wp_bind'] at z
  exact z
abbrev LS6 (P:Params) (sh sd io d pb fs:Nat) (κ1 κ2 τ:Nat → Tok) (tb:Tok) (st tk:Value) (buf:Str) (pos:Int) (tp:Tok) : List (Addr × Obj) :=
  [(sh,shI sd),(sd,shD P κ1 τ io pb fs st tk),(io,ioI d),(d,ioD P κ2 buf tb pos tp),(pb,dqO),(fs,dqO)]
section
variable {b:Bool} {w:World} {A:Around} {R:Result → Shared → Prop} {v:Nat} {F Fo:List (Addr × Obj)} {H:Heap} {s:Shared} (sh sd io d pb fs:Nat) (κ1 κ2 τ:Nat → Tok) (tb:Tok) (hL:Lv A v) (hv:v ≤ 400)
include hL hv
theorem next_end {buf:List Nat} {ttk tp:Tok} {outer:List Env} (hl:buf.length ≤ 16777216) (hF:A.frames = some outer) (hfo:outer.filterMap (·.frame) = Fo.map (·.1)) (hk:∀ env ∈ outer,env.scope.kind ≠ .module ∧ ∃ L,env.frame = some L)
    (hfd:∀ p ∈ Fo,∀ vs,p.2.data ≠ .fields vs) (h7:∃ o,(753,o) ∈ F)
    (D:Hp (W b w) H s.heap (LS6 (W b w).params sh sd io d pb fs κ1 κ2 τ tb .none (.str (sx []) ttk) (sx buf) (buf.length : Nat) tp ++ F ++ Fo))
    (post:∀ (s':Shared) (e:Addr) (od:Option Addr) (dt:Data) (sl:Array (Option Value)) (Fo':List (Addr × Obj)) (ttk tp:Tok),Sm s s' → SlS Fo Fo' →
      Hp (W b w) H s'.heap ((e,⟨.type "StopIteration",od,dt,sl⟩) :: (LS6 (W b w).params sh sd io d pb fs κ1 κ2 τ tb .none (.str (sx []) ttk) (sx buf) (buf.length : Nat) tp ++ F ++ Fo')) → R (.error (.ref e)) s') :
    codeAny (model P0 (W b w)) A (.call (.ref 736) ⟨[.ref sh],[]⟩) R s:=by
  obtain ⟨o7,h7⟩:=h7
  refine g_ne0 (F_:=_) sh (fun n T y hy => nm hy) (fun n T q hq => nm hq) hL hv D fun s₁ N₁ => ?_
  generalize hLd : s.heap.objs.size = L at N₁
  generalize hkd : s.toks = kf at N₁
  have D₁ : Hp (W b w) H s₁.heap ((L,fr1 (W b w).params kf sh) :: (LS6 (W b w).params sh sd io d pb fs κ1 κ2 τ tb .none (.str (sx []) ttk) (sx buf) (buf.length : Nat) tp ++ F ++ Fo)):=N₁.hp
  show codeAny (model P0 (W b w)) A (.func nxBody (nxEnv L)) R s₁
  refine y_code _ _ _ _ _ _ ?_
  show wpOwn _ A (.func nxBody (nxEnv L)) (point >>= fun _ => ((execs nxBody (nxEnv L)).onRaise (leaving (nxEnv L)) >>= fun f => match f with | .ret v => ret v | _ => ret .none)) _ _ s₁
  refine wpOwn_bind (wpOwn_of_wpAny (wpAny_point ?_))
  refine wpOwn_bind (wpOwn_onRaise ?_)
  generalize hE : (fun (e:Value) (s':Shared) => wpOwn (model P0 (W b w)) A (.func nxBody (nxEnv L)) (leaving (nxEnv L) e) (fun _ s'' => postE R e s'') (postE R) s') = E'
  generalize (fun (a:Flow) (s':Shared) => wpOwn (model P0 (W b w)) A (.func nxBody (nxEnv L)) (match a with | .ret v => ret v | _ => ret .none) (postC P0 (W b w) A R) (postE R) s') = Q'
  generalize hcd : Code.func nxBody (nxEnv L) = cd
  have hx : execs nxBody (nxEnv L) = (exec nxS0 (nxEnv L) >>= fun f => match f with | .next => execs [.If nxT [.Raise (some (.Name nxN nxNp)) none nxRp] [] nxP,nxS2] (nxEnv L) | f => pure f):=by
    rw [nx_body]; rfl
  rw [hx]
  refine wpOwn_bind ?_
  have g:=g_np0 (b:=b) (w:=w) (A_:=A) (s_:=s₁) (H_:=H) (R_:=fun r s' => match r with
    | .ok f => wpOwn (model P0 (W b w)) A cd (match f with | .next => execs [.If nxT [.Raise (some (.Name nxN nxNp)) none nxRp] [] nxP,nxS2] (nxEnv L) | f => pure f) Q' E' s'
    | .error e => E' e s') L kf sh sd io d pb fs κ1 κ2 τ ttk tb tp .none (sx buf) (buf.length : Nat) (v_:=v) (F_:=F ++ Fo) (fun n T y hy => nm hy) (fun n T q hq => nm hq) hL hv
    (by rw [List.append_assoc] at D₁; exact D₁)
  rw [hcd] at g
  refine g fun A' s₂ LA N₂ M₂ => ?_
  clear g
  have D₂:=N₂.hp
  generalize s₁.heap.objs.size = n1 at D₂ M₂ ⊢
  generalize s₁.toks = t1 at D₂ M₂ ⊢
  generalize s₁.gens.toList = g1 at M₂ ⊢
  refine rt_end (F:=[(pb,dqO),(fs,dqO)] ++ ([(n1,fr1 (W b w).params t1 sh),(L,fr1 (W b w).params kf sh)] ++ (F ++ Fo))) sh sd io d pb fs κ1 κ2 τ tb (ttk:=ttk) (tp:=tp) LA (by omega) hl (D₂.perm ?_) fun s₃ ttk3 tp3 S₃ D₃ => ?_
  · refine List.Perm.trans ?_ (List.perm_append_comm_assoc (LS6 (W b w).params sh sd io d pb fs κ1 κ2 τ tb .none (.str (sx []) ttk) (sx buf) (buf.length : Nat) tp) [(n1,fr1 (W b w).params t1 sh),(L,fr1 (W b w).params kf sh)] (F ++ Fo))
    exact List.Perm.refl _
  refine g_np1 n1 t1 g1 ttk3 tp3 .none (buf.length : Nat) L kf sh sd io d pb fs κ1 κ2 τ ttk tb tp .none (sx buf) (buf.length : Nat) (F_:=F ++ Fo) (fun n T y hy => nm hy) (fun n T q hq => nm hq) (M₂.nx S₃.drawn S₃.os) hv (D₃.perm ?_) fun s₄ N₄ => ?_
  · exact List.perm_append_comm_assoc [(n1,fr1 (W b w).params t1 sh),(L,fr1 (W b w).params kf sh)] (LS6 (W b w).params sh sd io d pb fs κ1 κ2 τ tb .none (.str (sx []) ttk3) (sx buf) (buf.length : Nat) tp3) (F ++ Fo)
  obtain ⟨kg,hkg⟩ : ∃ kg,kg = s₃.toks + 7:=⟨_,rfl⟩
  have D₄ : Hp (W b w) H s₄.heap ((L,fr2 (W b w).params kf kg sh) :: (LS6 (W b w).params sh sd io d pb fs κ1 κ2 τ tb .none (.str (sx []) ttk3) (sx buf) (buf.length : Nat) tp3 ++ (F ++ Fo))):=hkg ▸ N₄.hp
  show wpOwn (model P0 (W b w)) A cd (exec (.If nxT [.Raise (some (.Name nxN nxNp)) none nxRp] [] nxP) (nxEnv L) >>= fun f => match f with | .next => execs [nxS2] (nxEnv L) | f => pure f) Q' E' s₄
  refine wpOwn_bind ?_
  generalize (fun (a:Flow) (s':Shared) => wpOwn (model P0 (W b w)) A cd (match a with | .next => execs [nxS2] (nxEnv L) | f => pure f) Q' E' s') = Q2
  show wpOwn (model P0 (W b w)) A cd (standAt nxP >>= fun _ => isTrue nxT (nxEnv L) (eval nxT (nxEnv L)) >>= fun b => if b = true then execs [.Raise (some (.Name nxN nxNp)) none nxRp] (nxEnv L) else execs [] (nxEnv L)) Q2 E' s₄
  refine wpOwn_bind (wpOwn_of_wpAny (wpAny_standAt ?_))
  refine wpOwn_bind ?_
  have g:=g_np2 (b:=b) (w:=w) (A_:=A) (s_:=s₄) (H_:=H) (R_:=fun r s' => match r with
    | .ok (.ret (.bool b')) => wpOwn (model P0 (W b w)) A cd (if b' = true then execs [.Raise (some (.Name nxN nxNp)) none nxRp] (nxEnv L) else execs [] (nxEnv L)) Q2 E' s'
    | .ok _ => True
    | .error e => E' e s') kg L kf sh sd io d pb fs κ1 κ2 τ ttk3 tb tp3 .none (sx buf) (buf.length : Nat) (v_:=v) (F_:=F ++ Fo) (fun n T y hy => nm hy) (fun n T q hq => nm hq) hL hv D₄
  rw [hcd] at g
  refine own_bool (g fun s₅ N₅ => ?_)
  clear g
  have D₅:=N₅.hp
  show wpOwn (model P0 (W b w)) A cd (exec (.Raise (some (.Name nxN nxNp)) none nxRp) (nxEnv L) >>= fun f => match f with | .next => execs [] (nxEnv L) | f => pure f) Q2 E' s₅
  refine wpOwn_bind (wpOwn_of_wpAny (owsi_raiseC hL.handled (si_name D₅.base) fun h' e hm => ?_))
  subst hE
  subst hcd
  have D₆ : Hp (W b w) H h' ((e,_) :: ((L,fr2 (W b w).params kf kg sh) :: (LS6 (W b w).params sh sd io d pb fs κ1 κ2 τ tb .none (.str (sx []) ttk3) (sx buf) (buf.length : Nat) tp3 ++ (F ++ Fo)))) :=
    D₅.cons_new hm.keeps hm.new hm.there.choose_spec.1 (fun q => by
      have:=D₅.own (753,o7) (List.mem_append_right _ (List.mem_append_left _ h7))
      have n:=hm.new
      rw [q,this] at n
      cases n)
  have fF : ∀ env ∈ nxEnv L :: outer,env.scope.kind ≠ .module ∧ ∃ L o,env.frame = some L ∧ h'.get? L = some o ∧ ∀ vs,o.data ≠ .fields vs:=by
    intro env he
    rcases List.mem_cons.mp he with rfl | he
    · refine ⟨(by kernel_rfl:(nxEnv L).scope.kind = .function) ▸ (fun q => nomatch q),L,_,rfl,D₆.own (L,_) (.tail _ (.head _)),fun vs q => by cases q⟩
    · obtain ⟨k1,L',k2⟩:=hk env he
      have hm : L' ∈ outer.filterMap (·.frame):=List.mem_filterMap.mpr ⟨env,he,k2⟩
      rw [hfo] at hm
      obtain ⟨p,hp,e'⟩:=List.mem_map.mp hm
      have e' : p.1 = L':=e'
      exact ⟨k1,L',p.2,k2,e' ▸ D₆.own p (.tail _ (.tail _ (List.mem_append_right _ (List.mem_append_right _ hp)))),hfd p hp⟩
  have efr : (nxEnv L :: outer).filterMap (·.frame) = L :: Fo.map (·.1):=by
    rw [List.filterMap_cons]
    show L :: outer.filterMap _ = _
    rw [hfo]
  refine wpOwn_of_wpAny (leave_new (outer:=outer) (L:=L) (frames_under (c:=.func nxBody (nxEnv L)) hF) (funFrames_of fF) rfl hm.there.choose_spec.1 rfl rfl fun h'' k1 k2 k3 k4 => ?_)
  rw [efr] at k1
  obtain ⟨od,dt,sl,he⟩:=k4
  have ene : ∀ b o,s₅.heap.get? b = some o → b ≠ e:=fun b o q z => by
    have n:=hm.new
    rw [← z,q] at n
    cases n
  have D₅' : Hp (W b w) H s₅.heap ((LS6 (W b w).params sh sd io d pb fs κ1 κ2 τ tb .none (.str (sx []) ttk3) (sx buf) (buf.length : Nat) tp3 ++ F) ++ ((L,fr2 (W b w).params kf kg sh) :: Fo)):=by
    refine D₅.perm ?_
    refine List.perm_middle.trans ?_
    rw [List.append_assoc]
    exact List.Perm.refl _
  obtain ⟨Fo2,y,D₇⟩:=D₅'.sl (h':=h'') ⟨fun b o hb q => k1 b o (ene b o q) hb (hm.keeps b o q),fun b o q => k2 b o (ene b o q) (hm.keeps b o q)⟩
  cases y with
  | cons sl' y =>
    rename_i Fo'
    have D₈:=D₇.subl (S':=(LS6 (W b w).params sh sd io d pb fs κ1 κ2 τ tb .none (.str (sx []) ttk3) (sx buf) (buf.length : Nat) tp3 ++ F) ++ Fo') (List.Sublist.append (List.Sublist.refl _) (List.sublist_cons_self _ _))
    have nd:=D₆.nd
    rw [List.map_cons,List.nodup_cons] at nd
    refine post _ e od dt sl Fo' ttk3 tp3 ((((N₁.sm.trans N₂.sm).trans S₃).trans N₄.sm).trans (N₅.sm.trans ⟨rfl,rfl,rfl⟩)) y (D₈.cons' (fun hm' => nd.1 ?_) (D₆.apart _ (.head _)) (D₆.new _ (.head _)) he)
    rw [List.map_append,y.addr,← List.map_append] at hm'
    refine List.mem_cons_of_mem _ ?_
    rw [← List.append_assoc]
    exact hm'
end
structure Fd where
  pl : Bool
  x : Nat
  q : List Nat
noncomputable def Fd.cs (f:Fd) : List Nat:=f.x :: f.q
noncomputable def Fd.text (f:Fd) : List Nat:=match f.pl with
  | true => f.x :: f.q
  | false => 39 :: f.x :: (f.q ++ [39])
noncomputable def Fd.Ok (f:Fd) : Prop:=match f.pl with
  | true => f.x = 45 ∧ f.q ≠ [] ∧ ∀ c ∈ f.q,sgOk c
  | false => qOk f.x ∧ ∀ c ∈ f.q,qOk c
noncomputable def tailOf : List Fd → List Nat
  | [] => []
  | f :: l => 32 :: (f.text ++ tailOf l)
inductive StrsV : List (List Nat) → List Value → Prop
  | nil : StrsV [] []
  | cons {f:List Nat} {t:Tok} {l:List (List Nat)} {vs:List Value} : StrsV l vs → StrsV (f :: l) (.str (sx f) t :: vs)
theorem tail_brk : ∀ (l:List Fd),Brk (tailOf l)
  | [] => .nil
  | _ :: _ => .cons _
section
variable {b:Bool} {w:World} {v:Nat} {F:List (Addr × Obj)} {H:Heap} {s:Shared} {V:XV}
theorem lt1 {n0 T0:Nat} {g0:List GenState} (ttk2 tp2 t1:Tok) (st2:Value) (pos2:Int) (li:Nat) : ∀ (l:List Value) (k:Nat) (sh sd io d pb fs:Nat) (κ1 κ2 τ:Nat → Tok) (ttk tb tp:Tok) (st:Value) (buf:Str) (pos:Int) (x:Nat) (tok:List Nat),l.length ≤ 8 →
    Mid (W b w) V v (r_lt0 (W b w) n0 T0 g0 li l k sh sd io d pb fs κ1 κ2 τ ttk tb tp st buf pos) s → v ≤ 380 →
    Hp (W b w) H s.heap ([(n0 + 1,fr1 (W b w).params (T0 + 1) sh),(n0,fr1 (W b w).params T0 sh),(li,liO l k)] ++ (LS6 (W b w).params sh sd io d pb fs κ1 κ2 τ tb st2 (.str (sx []) ttk2) buf pos2 tp2 ++ F)) →
    (∀ s',Sm s s' → Hp (W b w) H s'.heap ((li,liO (l ++ [.str (sx (x :: tok)) t1]) (k + 1)) :: (LS6 (W b w).params sh sd io d pb fs κ1 κ2 τ tb st2 (.str (sx []) ttk2) buf pos2 tp2 ++ F)) → codeAny (model P0 (W b w)) V.A₀ (xlC li sh) V.R₀ s') →
    Cont V (r_lt0 (W b w) n0 T0 g0 li l k sh sd io d pb fs κ1 κ2 τ ttk tb tp st buf pos) (.ok (.ret (.str (sx (x :: tok)) t1))) s:=by
  intro l k sh sd io d pb fs κ1 κ2 τ ttk tb tp st buf pos x tok hl M hv D post
  rcases l with _ | ⟨v0,_ | ⟨v1,_ | ⟨v2,_ | ⟨v3,_ | ⟨v4,_ | ⟨v5,_ | ⟨v6,_ | ⟨v7,_ | ⟨v8,_⟩⟩⟩⟩⟩⟩⟩⟩⟩
  · exact g_lt1_0 (F_:=F) n0 T0 g0 ttk2 tp2 t1 st2 pos2 li k sh sd io d pb fs κ1 κ2 τ ttk tb tp st buf pos x tok (fun n T y hy => nm hy) (fun n T q hq => nm hq) M hv D fun s' N => post s' N.sm N.hp
  · exact g_lt1_1 (F_:=F) n0 T0 g0 ttk2 tp2 t1 st2 pos2 li v0 k sh sd io d pb fs κ1 κ2 τ ttk tb tp st buf pos x tok (fun n T y hy => nm hy) (fun n T q hq => nm hq) M hv D fun s' N => post s' N.sm N.hp
  · exact g_lt1_2 (F_:=F) n0 T0 g0 ttk2 tp2 t1 st2 pos2 li v0 v1 k sh sd io d pb fs κ1 κ2 τ ttk tb tp st buf pos x tok (fun n T y hy => nm hy) (fun n T q hq => nm hq) M hv D fun s' N => post s' N.sm N.hp
  · exact g_lt1_3 (F_:=F) n0 T0 g0 ttk2 tp2 t1 st2 pos2 li v0 v1 v2 k sh sd io d pb fs κ1 κ2 τ ttk tb tp st buf pos x tok (fun n T y hy => nm hy) (fun n T q hq => nm hq) M hv D fun s' N => post s' N.sm N.hp
  · exact g_lt1_4 (F_:=F) n0 T0 g0 ttk2 tp2 t1 st2 pos2 li v0 v1 v2 v3 k sh sd io d pb fs κ1 κ2 τ ttk tb tp st buf pos x tok (fun n T y hy => nm hy) (fun n T q hq => nm hq) M hv D fun s' N => post s' N.sm N.hp
  · exact g_lt1_5 (F_:=F) n0 T0 g0 ttk2 tp2 t1 st2 pos2 li v0 v1 v2 v3 v4 k sh sd io d pb fs κ1 κ2 τ ttk tb tp st buf pos x tok (fun n T y hy => nm hy) (fun n T q hq => nm hq) M hv D fun s' N => post s' N.sm N.hp
  · exact g_lt1_6 (F_:=F) n0 T0 g0 ttk2 tp2 t1 st2 pos2 li v0 v1 v2 v3 v4 v5 k sh sd io d pb fs κ1 κ2 τ ttk tb tp st buf pos x tok (fun n T y hy => nm hy) (fun n T q hq => nm hq) M hv D fun s' N => post s' N.sm N.hp
  · exact g_lt1_7 (F_:=F) n0 T0 g0 ttk2 tp2 t1 st2 pos2 li v0 v1 v2 v3 v4 v5 v6 k sh sd io d pb fs κ1 κ2 τ ttk tb tp st buf pos x tok (fun n T y hy => nm hy) (fun n T q hq => nm hq) M hv D fun s' N => post s' N.sm N.hp
  · exact g_lt1_8 (F_:=F) n0 T0 g0 ttk2 tp2 t1 st2 pos2 li v0 v1 v2 v3 v4 v5 v6 v7 k sh sd io d pb fs κ1 κ2 τ ttk tb tp st buf pos x tok (fun n T y hy => nm hy) (fun n T q hq => nm hq) M hv D fun s' N => post s' N.sm N.hp
  · simp only [List.length_cons] at hl; omega
end
section
variable {b:Bool} {w:World} {A:Around} {R:Result → Shared → Prop} {v:Nat} {F Fo:List (Addr × Obj)} {H:Heap} (li sh sd io d pb fs:Nat) (κ1 κ2 τ:Nat → Tok) (tb:Tok) (hL:Lv A v) (hv:v ≤ 380)
include hL hv
theorem loop_end {buf:List Nat} {ttk tp:Tok} {outer:List Env} {l:List Value} {k:Nat} {s:Shared} (hl:buf.length ≤ 16777216) (hF:A.frames = some outer) (hfo:outer.filterMap (·.frame) = Fo.map (·.1)) (hk:∀ env ∈ outer,env.scope.kind ≠ .module ∧ ∃ L,env.frame = some L)
    (hfd:∀ p ∈ Fo,∀ vs,p.2.data ≠ .fields vs) (h7:∃ o,(753,o) ∈ F)
    (D:Hp (W b w) H s.heap ((li,liO l k) :: (LS6 (W b w).params sh sd io d pb fs κ1 κ2 τ tb .none (.str (sx []) ttk) (sx buf) (buf.length : Nat) tp ++ (F ++ Fo))))
    (post:∀ (s':Shared) (Fo':List (Addr × Obj)),Sm s s' → SlS Fo Fo' → Hp (W b w) H s'.heap ((li,liO l k) :: (F ++ Fo')) → R (.ok (.ret .none)) s') :
    codeAny (model P0 (W b w)) A (xlC li sh) R s:=by
  refine g_xt0 (F_:=F ++ Fo) li l k sh sd io d pb fs κ1 κ2 τ ttk tb tp .none (sx buf) (buf.length : Nat) (fun n T y hy => nm hy) (fun n T q hq => nm hq) hL hv D fun A' s₁ hA LA N₁ M₁ => ?_
  obtain ⟨o7,h7⟩:=h7
  refine next_end (F:=(li,liO l k) :: F) (Fo:=Fo) (ttk:=ttk) (tp:=tp) sh sd io d pb fs κ1 κ2 τ tb LA (by omega) hl (hA outer hF) hfo hk hfd ⟨o7,.tail _ h7⟩ (N₁.hp.perm ?_) fun s₂ e od dt sl Fo' ttk2 tp2 S₂ y D₂ => ?_
  · show List.Perm (LS6 (W b w).params sh sd io d pb fs κ1 κ2 τ tb .none (.str (sx []) ttk) (sx buf) (buf.length : Nat) tp ++ (li,liO l k) :: F ++ Fo) ((li,liO l k) :: (LS6 (W b w).params sh sd io d pb fs κ1 κ2 τ tb .none (.str (sx []) ttk) (sx buf) (buf.length : Nat) tp ++ (F ++ Fo)))
    rw [List.append_assoc]
    exact List.perm_middle
  refine g_xt1 s.heap.objs.size s.toks s.gens.toList ttk2 tp2 .none (buf.length : Nat) e od dt sl li l k sh sd io d pb fs κ1 κ2 τ ttk tb tp .none (sx buf) (buf.length : Nat) (F_:=F ++ Fo') (fun n T y hy => nm hy) (fun n T q hq => nm hq) (M₁.nx S₂.drawn S₂.os) hv (D₂.perm ?_) fun s₃ N₃ => ?_
  · refine List.Perm.cons _ ?_
    rw [List.append_assoc]
    exact List.perm_middle.symm
  refine post s₃ Fo' ((N₁.sm.trans S₂).trans N₃.sm) y (N₃.hp.subl ?_)
  exact List.Sublist.cons₂ _ (List.sublist_append_right _ _)
theorem lex_turn {f:Fd} {pre rest buf:List Nat} {l:List Value} {k:Nat} {ttk tp tst:Tok} {s:Shared} (hOk:f.Ok) (hr:Brk rest) (hb:buf = pre ++ (f.text ++ rest)) (hl:buf.length ≤ 16777216) (hn:l.length ≤ 8)
    (D:Hp (W b w) H s.heap ((li,liO l k) :: (LS6 (W b w).params sh sd io d pb fs κ1 κ2 τ tb (.str (sx [32]) tst) (.str (sx []) ttk) (sx buf) (pre.length : Nat) tp ++ F)))
    (post:∀ (s':Shared) (t1 tst ttk tp:Tok),Sm s s' → Hp (W b w) H s'.heap ((li,liO (l ++ [.str (sx f.cs) t1]) (k + 1)) :: (LS6 (W b w).params sh sd io d pb fs κ1 κ2 τ tb (endSt rest tst) (.str (sx []) ttk) (sx buf) (rdPos (pre ++ f.text) rest) tp ++ F)) → codeAny (model P0 (W b w)) A (xlC li sh) R s') :
    codeAny (model P0 (W b w)) A (xlC li sh) R s:=by
  refine g_lt0 (F_:=F) li l k sh sd io d pb fs κ1 κ2 τ ttk tb tp (.str (sx [32]) tst) (sx buf) (pre.length : Nat) (fun n T y hy => nm hy) (fun n T q hq => nm hq) hL hv D fun A' s₁ LA N₁ M₁ => ?_
  have D₁:=N₁.hp
  generalize s.heap.objs.size = n1 at D₁ M₁ ⊢
  generalize s.toks = t1 at D₁ M₁ ⊢
  generalize s.gens.toList = g1 at M₁ ⊢
  have D₂:=D₁.perm (S':=[(sh,shI sd),(sd,shD (W b w).params κ1 τ io pb fs (.str (sx [32]) tst) (.str (sx []) ttk)),(io,ioI d),(d,ioD (W b w).params κ2 (sx buf) tb (pre.length : Nat) tp)] ++ ([(n1 + 1,fr1 (W b w).params (t1 + 1) sh),(n1,fr1 (W b w).params t1 sh),(li,liO l k)] ++ ([(pb,dqO),(fs,dqO)] ++ F)))
    (List.perm_append_comm_assoc [(sh,shI sd),(sd,shD (W b w).params κ1 τ io pb fs (.str (sx [32]) tst) (.str (sx []) ttk)),(io,ioI d),(d,ioD (W b w).params κ2 (sx buf) tb (pre.length : Nat) tp)] [(n1 + 1,fr1 (W b w).params (t1 + 1) sh),(n1,fr1 (W b w).params t1 sh),(li,liO l k)] ([(pb,dqO),(fs,dqO)] ++ F))
  have go : ∀ (s':Shared) (t9 tst9 ttk9 tp9:Tok),Sm s₁ s' → Hp (W b w) H s'.heap (LS (W b w).params sh sd io d pb fs κ1 κ2 τ tb (endSt rest tst9) (.str (sx []) ttk9) (sx buf) (rdPos (pre ++ f.text) rest) tp9 ++ ([(n1 + 1,fr1 (W b w).params (t1 + 1) sh),(n1,fr1 (W b w).params t1 sh),(li,liO l k)] ++ ([(pb,dqO),(fs,dqO)] ++ F))) →
      Cont (V0 (W b w) A R s) (r_lt0 (W b w) n1 t1 g1 li l k sh sd io d pb fs κ1 κ2 τ ttk tb tp (.str (sx [32]) tst) (sx buf) (pre.length : Nat)) (.ok (.ret (.str (sx (f.x :: f.q)) t9))) s':=by
    intro s' t9 tst9 ttk9 tp9 S9 D9
    refine lt1 (F:=F) ttk9 tp9 t9 (endSt rest tst9) (rdPos (pre ++ f.text) rest) li l k sh sd io d pb fs κ1 κ2 τ ttk tb tp (.str (sx [32]) tst) (sx buf) (pre.length : Nat) f.x f.q hn (M₁.nx S9.drawn S9.os) hv (D9.perm ?_) fun s₂ S₂ D₃ => ?_
    · exact List.perm_append_comm_assoc [(n1 + 1,fr1 (W b w).params (t1 + 1) sh),(n1,fr1 (W b w).params t1 sh),(li,liO l k)] (LS (W b w).params sh sd io d pb fs κ1 κ2 τ tb (endSt rest tst9) (.str (sx []) ttk9) (sx buf) (rdPos (pre ++ f.text) rest) tp9) ([(pb,dqO),(fs,dqO)] ++ F)
    · exact post s₂ t9 tst9 ttk9 tp9 ((N₁.sm.trans S9).trans S₂) D₃
  obtain ⟨pl,x,q⟩:=f
  cases pl with
  | true =>
    obtain ⟨rfl,h2,h3⟩:=hOk
    refine rt_plain sh sd io d pb fs κ1 κ2 τ tb LA (by omega) (q:=q) (pre:=pre) (rest:=rest) (buf:=buf) (tst:=tst) (ttk:=ttk) (tp:=tp) hb hr hl h3 h2 D₂ fun s' t9 tst9 ttk9 tp9 S9 D9 => go s' t9 tst9 ttk9 tp9 S9 D9
  | false =>
    obtain ⟨h1,h2⟩:=hOk
    refine rt_quoted sh sd io d pb fs κ1 κ2 τ tb LA (by omega) (q:=q) (x:=x) (pre:=pre) (rest:=rest) (buf:=buf) (tst:=tst) (ttk:=ttk) (tp:=tp) ?_ hr hl h1 h2 D₂ fun s' t9 tst9 ttk9 tp9 S9 D9 => go s' t9 tst9 ttk9 tp9 S9 D9
    rw [hb]
    show pre ++ (39 :: x :: (q ++ [39]) ++ rest) = _
    simp
theorem lex_loop {outer:List Env} (hF:A.frames = some outer) (hfo:outer.filterMap (·.frame) = Fo.map (·.1)) (hk:∀ env ∈ outer,env.scope.kind ≠ .module ∧ ∃ L,env.frame = some L)
    (hfd:∀ p ∈ Fo,∀ vs,p.2.data ≠ .fields vs) (h7:∃ o,(753,o) ∈ F) : ∀ (l2:List Fd) (f:Fd) (pre buf:List Nat) (l:List Value) (k:Nat) (ttk tp tst:Tok) (s:Shared),buf = pre ++ (f.text ++ tailOf l2) → buf.length ≤ 16777216 → (∀ g ∈ f :: l2,g.Ok) → l.length + l2.length ≤ 8 →
    Hp (W b w) H s.heap ((li,liO l k) :: (LS6 (W b w).params sh sd io d pb fs κ1 κ2 τ tb (.str (sx [32]) tst) (.str (sx []) ttk) (sx buf) (pre.length : Nat) tp ++ (F ++ Fo))) →
    (∀ (s':Shared) (Fo':List (Addr × Obj)) (vs:List Value) (k':Nat),Sm s s' → SlS Fo Fo' → StrsV ((f :: l2).map Fd.cs) vs → Hp (W b w) H s'.heap ((li,liO (l ++ vs) k') :: (F ++ Fo')) → R (.ok (.ret .none)) s') →
    codeAny (model P0 (W b w)) A (xlC li sh) R s:=by
  intro l2
  induction l2 with
  | nil =>
    intro f pre buf l k ttk tp tst s hb hl hOk hn D post
    refine lex_turn li sh sd io d pb fs κ1 κ2 τ tb hL hv (F:=F ++ Fo) (hOk f (.head _)) (tail_brk []) hb hl (by simpa using hn) D fun s₁ t1 tst1 ttk1 tp1 S₁ D₁ => ?_
    have e : (rdPos (pre ++ f.text) (tailOf [])) = ((buf.length : Nat) : Int):=by rw [hb]; simp [rdPos,tailOf]
    rw [e] at D₁
    refine loop_end li sh sd io d pb fs κ1 κ2 τ tb hL hv hl hF hfo hk hfd h7 D₁ fun s₂ Fo' S₂ y D₂ => ?_
    exact post s₂ Fo' [.str (sx f.cs) t1] (k + 1) (S₁.trans S₂) y (.cons .nil) D₂
  | cons f2 l2 ih =>
    intro f pre buf l k ttk tp tst s hb hl hOk hn D post
    simp only [List.length_cons] at hn
    refine lex_turn li sh sd io d pb fs κ1 κ2 τ tb hL hv (F:=F ++ Fo) (hOk f (.head _)) (tail_brk (f2 :: l2)) hb hl (by omega) D fun s₁ t1 tst1 ttk1 tp1 S₁ D₁ => ?_
    have e : (rdPos (pre ++ f.text) (tailOf (f2 :: l2))) = (((pre ++ f.text ++ [32]).length : Nat) : Int):=by simp [rdPos,tailOf]; try omega
    rw [e] at D₁
    refine ih f2 (pre ++ f.text ++ [32]) buf (l ++ [.str (sx f.cs) t1]) (k + 1) ttk1 tp1 tst1 s₁ (by rw [hb]; simp [tailOf]) hl (fun g hg => hOk g (.tail _ hg)) (by simp; omega) D₁ fun s₂ Fo' vs k' S₂ y z D₂ => ?_
    rw [List.append_assoc] at D₂
    exact post s₂ Fo' (.str (sx f.cs) t1 :: vs) k' (S₁.trans S₂) y (.cons z) D₂
end
theorem Hp.upd {w:World} {H h:Heap} {S:List (Addr × Obj)} {a:Addr} {o:Obj} {u:Obj → Obj} (D:Hp w H h ((a,o) :: S)) (hf:(u o).isFreed = false) : Hp w H (h.update a u) ((a,u o) :: S):=by
  have ho:=D.own (a,o) (.head _)
  have hs : Heap.SameBut a h (h.update a u):=Heap.SameBut.update ..
  have nd:=D.nd
  rw [List.map_cons,List.nodup_cons] at nd
  have ap:=D.apart (a,o) (.head _)
  refine ⟨fun p hp => ?_,D.nd,?_,fun p hp => ?_,fun b o' e q => ?_,fun p hp => ?_⟩
  · rcases List.mem_cons.mp hp with rfl | hp
    · first | exact Heap.get?_update_self u ho hf | exact Heap.get?_update_self _ ho hf
    · rw [hs.2 _ fun z => nd.1 (List.mem_map.mpr ⟨p,hp,z⟩)]
      exact D.own p (.tail _ hp)
  · refine holds_of_keeps D.base fun b o' e q => ?_
    rw [hs.2 _ fun z => by rw [z] at e; rw [show (kt0 w.params).get a = none from ap] at e; cases e]
    exact q
  · rcases List.mem_cons.mp hp with rfl | hp
    · exact ap
    · exact D.apart p (.tail _ hp)
  · rw [hs.2 _ fun z => by
      rcases D.new (a,o) (.head _) with y | y
      · rw [← z] at y; rw [show H.get? b = none from y] at e; cases e
      · exact q (z.trans y)]
    exact D.keep b o' e q
  · rcases List.mem_cons.mp hp with rfl | hp
    · exact D.new (a,o) (.head _)
    · exact D.new p (.tail _ hp)
theorem den_builtin {id:String} {args:Args} {bi:Builtin} (hb:entryFor table id = some bi) : denote table (.builtin id args) = bi args:=by
  have q : denote table (.builtin id args) = (match entryFor table id with | some b => b args | none => unsupported ((withoutEnding? id "#data").getD id)):=rfl
  rw [q,hb]
noncomputable def resV (Q E:Value → Shared → Prop) (r:Result) (s:Shared) : Prop:=match r with
  | .ok (.ret v) => Q v s
  | .ok _ => True
  | .error e => E e s
noncomputable def resB (Q:Bool → Shared → Prop) (E:Value → Shared → Prop) (r:Result) (s:Shared) : Prop:=match r with
  | .ok (.ret (.bool v)) => Q v s
  | .ok _ => True
  | .error e => E e s
theorem own_val {M:Model} {A:Around} {c:Code} {Q E:Value → Shared → Prop} {s:Shared} {m:Sem Value} (h:wpOwn M A c (Sem.bind m fun b => .pure (.ret b)) (fun f s' => resV Q E (.ok f) s') (fun e s' => resV Q E (.error e) s') s) : wpOwn M A c m Q E s:=by
  intro Γ p hc hΓ
  have z:=h Γ p hc hΓ
  change Sem.wp _ Γ (m >>= fun b => _) _ _ p s at z
  rw [Sem.wp_bind'] at z
  exact z
theorem own_boo {M:Model} {A:Around} {c:Code} {Q:Bool → Shared → Prop} {E:Value → Shared → Prop} {s:Shared} {m:Sem Bool} (h:wpOwn M A c (Sem.bind m fun b => .pure (.ret (.bool b))) (fun f s' => resB Q E (.ok f) s') (fun e s' => resB Q E (.error e) s') s) : wpOwn M A c m Q E s:=by
  intro Γ p hc hΓ
  have z:=h Γ p hc hΓ
  change Sem.wp _ Γ (m >>= fun b => _) _ _ p s at z
  rw [Sem.wp_bind'] at z
  exact z
section
variable {b:Bool} {w:World} {A:Around} {R:Result → Shared → Prop} {v:Nat} {F:List (Addr × Obj)} {H:Heap} {s:Shared} (li sh sd io d pb fs:Nat) (κ1 κ2 τ:Nat → Tok) (tb:Tok) (hL:Lv A v) (hv:v ≤ 370)
include hL hv
theorem list_init {buf:Str} {st:Value} {pos:Int} {ttk tp:Tok} (hne:li ≠ sh)
    (D:Hp (W b w) H s.heap ((li,liO [] 0) :: (LS6 (W b w).params sh sd io d pb fs κ1 κ2 τ tb st (.str (sx []) ttk) buf pos tp ++ F)))
    (post:∀ (s':Shared) (k:Nat),Sm s s' → Hp (W b w) H s'.heap ((li,liO [] k) :: (LS6 (W b w).params sh sd io d pb fs κ1 κ2 τ tb st (.str (sx []) ttk) buf pos tp ++ F)) → codeAny (model P0 (W b w)) A (xlC li sh) R s') :
    codeAny (model P0 (W b w)) A (.builtin "list.__init__" ⟨[.ref li,.ref sh],[]⟩) R s:=by
  refine y_code _ _ _ _ _ _ ?_
  rw [den_builtin _root_.PySem.F.entry_list_init]
  generalize hcd : Code.builtin "list.__init__" ⟨[.ref li,.ref sh],[]⟩ = cd
  show wpOwn _ A cd (Builtin.List.listItems (.ref li) >>= fun old => Builtin.List.listUpdate (.ref li) (fun _ => #[]) >>= fun _ => letGo old.toList.reverse >>= fun _ => Builtin.List.listExtendWith (.ref li) (.ref sh) .none) _ _ s
  have h0:=D.own (li,liO [] 0) (.head _)
  refine wpOwn_bind (wpOwn_of_wpAny ?_)
  unfold Builtin.List.listItems
  refine wpAny_bind (wpAny_seqItems h0 rfl (wpAny_pure ?_))
  refine wpOwn_bind (wpOwn_of_wpAny ?_)
  show wpAny _ _ (updateSeq li (fun _ => #[])) _ _ _
  refine wpAny_updateSeq h0 rfl ?_
  have D₁:=D.upd (u:=Obj.mapSeq (fun _ => (#[] : Array Value))) rfl
  obtain ⟨k1,e1⟩ : ∃ k,Obj.mapSeq (fun _ => (#[] : Array Value)) (liO [] 0) = liO [] k:=⟨_,rfl⟩
  rw [e1] at D₁
  generalize s.heap.update li (Obj.mapSeq (fun _ => (#[] : Array Value))) = h1 at D₁ ⊢
  refine wpOwn_bind (wpOwn_of_wpAny (wpAny_letGo ?_))
  unfold Builtin.List.listExtendWith
  refine wpOwn_bind (wpOwn_of_wpAny ?_)
  have hs1:=D₁.own (sh,shI sd) (.tail _ (.head _))
  refine wpAny_typeOf_ref hs1 ?_
  have t1 : Builtin.List.listSameRef (.ref li) (.ref sh) = false:=by simp [Builtin.List.listSameRef,hne]
  have t2 : ((shI sd).cls == Value.type "list") = false:=by kernel_rfl
  have t3 : ((shI sd).cls == Value.type "tuple") = false:=by kernel_rfl
  simp only [t1,t2,t3,Bool.or_false,Bool.false_eq_true,if_false]
  subst hcd
  refine wpOwn_bind (own_val (g_li0 (b:=b) (w:=w) (A_:=A) (F_:=F) (R_:=resV _ _) li k1 sh sd io d pb fs κ1 κ2 τ ttk tb tp st buf pos (fun n T y hy => nm hy) (fun n T q hq => nm hq) hL hv D₁ fun s₂ N₂ => ?_))
  dsimp only [resV]
  refine wpOwn_bind (own_boo (g_li1 (b:=b) (w:=w) (A_:=A) (F_:=F) (R_:=resB _ _) li k1 sh sd io d pb fs κ1 κ2 τ ttk tb tp st buf pos (fun n T y hy => nm hy) (fun n T q hq => nm hq) hL hv N₂.hp fun s₃ N₃ => ?_))
  dsimp only [resB]
  simp only [Bool.true_or,if_true]
  have D₃:=N₃.hp
  have h3:=D₃.own (li,liO [] k1) (.head _)
  refine wpOwn_of_wpAny ?_
  refine wpAny_bind (wpAny_rule ?_)
  refine wpAny_bind ?_
  show wpAny _ _ (updateSeq li (·.push .none) >>= fun _ => updateSeq li (·.pop)) _ _ _
  refine wpAny_bind (wpAny_updateSeq h3 rfl ?_)
  have D₄:=D₃.upd (u:=Obj.mapSeq (·.push Value.none)) rfl
  refine wpAny_updateSeq (D₄.own (li,_) (.head _)) rfl ?_
  have D₅:=D₄.upd (u:=Obj.mapSeq (·.pop)) rfl
  refine wpAny_pure ⟨Code.quiet_builtin _ (by decide +kernel),?_⟩
  refine post _ _ ⟨N₃.gens.trans N₂.gens,N₃.drawn.trans N₂.drawn,N₃.os.trans N₂.os⟩ D₅
end
theorem pm0 {α : Type} {a:α} {l m:List α} (h:l.Perm (m)) : (a :: l).Perm (a :: m):=(h.cons a).trans (List.perm_middle (l₁:=[])).symm
theorem pm1 {α : Type} {a b0:α} {l m:List α} (h:l.Perm (b0 :: m)) : (a :: l).Perm (b0 :: a :: m):=(h.cons a).trans (List.perm_middle (l₁:=[b0])).symm
theorem pm2 {α : Type} {a b0 b1:α} {l m:List α} (h:l.Perm (b0 :: b1 :: m)) : (a :: l).Perm (b0 :: b1 :: a :: m):=(h.cons a).trans (List.perm_middle (l₁:=[b0,b1])).symm
theorem pm3 {α : Type} {a b0 b1 b2:α} {l m:List α} (h:l.Perm (b0 :: b1 :: b2 :: m)) : (a :: l).Perm (b0 :: b1 :: b2 :: a :: m):=(h.cons a).trans (List.perm_middle (l₁:=[b0,b1,b2])).symm
theorem pm4 {α : Type} {a b0 b1 b2 b3:α} {l m:List α} (h:l.Perm (b0 :: b1 :: b2 :: b3 :: m)) : (a :: l).Perm (b0 :: b1 :: b2 :: b3 :: a :: m):=(h.cons a).trans (List.perm_middle (l₁:=[b0,b1,b2,b3])).symm
theorem pm5 {α : Type} {a b0 b1 b2 b3 b4:α} {l m:List α} (h:l.Perm (b0 :: b1 :: b2 :: b3 :: b4 :: m)) : (a :: l).Perm (b0 :: b1 :: b2 :: b3 :: b4 :: a :: m):=(h.cons a).trans (List.perm_middle (l₁:=[b0,b1,b2,b3,b4])).symm
theorem pm6 {α : Type} {a b0 b1 b2 b3 b4 b5:α} {l m:List α} (h:l.Perm (b0 :: b1 :: b2 :: b3 :: b4 :: b5 :: m)) : (a :: l).Perm (b0 :: b1 :: b2 :: b3 :: b4 :: b5 :: a :: m):=(h.cons a).trans (List.perm_middle (l₁:=[b0,b1,b2,b3,b4,b5])).symm
theorem pm7 {α : Type} {a b0 b1 b2 b3 b4 b5 b6:α} {l m:List α} (h:l.Perm (b0 :: b1 :: b2 :: b3 :: b4 :: b5 :: b6 :: m)) : (a :: l).Perm (b0 :: b1 :: b2 :: b3 :: b4 :: b5 :: b6 :: a :: m):=(h.cons a).trans (List.perm_middle (l₁:=[b0,b1,b2,b3,b4,b5,b6])).symm
theorem pm8 {α : Type} {a b0 b1 b2 b3 b4 b5 b6 b7:α} {l m:List α} (h:l.Perm (b0 :: b1 :: b2 :: b3 :: b4 :: b5 :: b6 :: b7 :: m)) : (a :: l).Perm (b0 :: b1 :: b2 :: b3 :: b4 :: b5 :: b6 :: b7 :: a :: m):=(h.cons a).trans (List.perm_middle (l₁:=[b0,b1,b2,b3,b4,b5,b6,b7])).symm
theorem pm9 {α : Type} {a b0 b1 b2 b3 b4 b5 b6 b7 b8:α} {l m:List α} (h:l.Perm (b0 :: b1 :: b2 :: b3 :: b4 :: b5 :: b6 :: b7 :: b8 :: m)) : (a :: l).Perm (b0 :: b1 :: b2 :: b3 :: b4 :: b5 :: b6 :: b7 :: b8 :: a :: m):=(h.cons a).trans (List.perm_middle (l₁:=[b0,b1,b2,b3,b4,b5,b6,b7,b8])).symm
theorem pm10 {α : Type} {a b0 b1 b2 b3 b4 b5 b6 b7 b8 b9:α} {l m:List α} (h:l.Perm (b0 :: b1 :: b2 :: b3 :: b4 :: b5 :: b6 :: b7 :: b8 :: b9 :: m)) : (a :: l).Perm (b0 :: b1 :: b2 :: b3 :: b4 :: b5 :: b6 :: b7 :: b8 :: b9 :: a :: m):=(h.cons a).trans (List.perm_middle (l₁:=[b0,b1,b2,b3,b4,b5,b6,b7,b8,b9])).symm
theorem pm11 {α : Type} {a b0 b1 b2 b3 b4 b5 b6 b7 b8 b9 b10:α} {l m:List α} (h:l.Perm (b0 :: b1 :: b2 :: b3 :: b4 :: b5 :: b6 :: b7 :: b8 :: b9 :: b10 :: m)) : (a :: l).Perm (b0 :: b1 :: b2 :: b3 :: b4 :: b5 :: b6 :: b7 :: b8 :: b9 :: b10 :: a :: m):=(h.cons a).trans (List.perm_middle (l₁:=[b0,b1,b2,b3,b4,b5,b6,b7,b8,b9,b10])).symm
theorem pm12 {α : Type} {a b0 b1 b2 b3 b4 b5 b6 b7 b8 b9 b10 b11:α} {l m:List α} (h:l.Perm (b0 :: b1 :: b2 :: b3 :: b4 :: b5 :: b6 :: b7 :: b8 :: b9 :: b10 :: b11 :: m)) : (a :: l).Perm (b0 :: b1 :: b2 :: b3 :: b4 :: b5 :: b6 :: b7 :: b8 :: b9 :: b10 :: b11 :: a :: m):=(h.cons a).trans (List.perm_middle (l₁:=[b0,b1,b2,b3,b4,b5,b6,b7,b8,b9,b10,b11])).symm
theorem Hp.pm {w:World} {H h:Heap} {S S':List (Addr × Obj)} (D:Hp w H h S) (hs:S'.Perm S:=by repeat first | exact .refl _ | refine pm0 ?_ | refine pm1 ?_ | refine pm2 ?_ | refine pm3 ?_ | refine pm4 ?_ | refine pm5 ?_ | refine pm6 ?_ | refine pm7 ?_ | refine pm8 ?_ | refine pm9 ?_ | refine pm10 ?_ | refine pm11 ?_ | refine pm12 ?_) : Hp w H h S':=D.perm hs
theorem perm_by {α : Type} {l m:List α} (h:∀ (p:α → Bool),l.countP p = m.countP p) : l.Perm m:=by
  classical
  refine List.perm_iff_count.mpr fun a => ?_
  exact h _
theorem wants_mono {R:Result → Shared → Prop} {r:Result} {s:Shared} {Q:Value → Shared → Prop} (h:wants Q (fun _ _ => False) r s) (k:∀ v,Q v s → R (.ok (.ret v)) s) : R r s:=by
  cases r with
  | error e => exact h.elim
  | ok f => cases f <;> first | exact h.elim | exact k _ h
theorem ok_lnew {w:World} {n T lv:Nat} (a:Value) : (s_lnew a).Ok (G0 w n T lv):=by
  intro A b R s hd hu hh hb K hn nd ap post
  refine codeAny_mono (code_list_new (Q₁:=fun v s' => v = .ref s.heap.objs.size ∧ s' = { s with heap:=s.heap.push { cls:=.type "list",data:=.seq #[] } }) (E:=fun _ _ => False) a ⟨rfl,rfl⟩) fun r s' h => wants_mono h fun v hq => ?_
  obtain ⟨rfl,rfl⟩:=hq
  refine post _ (by rw [Heap.size_push]; rfl) (fun b o e _ => Heap.get?_push_of_some _ e) (fun _ hy => nm hy) fun p hp => ?_
  have hp : p ∈ [(s.heap.objs.size + 0,liO [] 0)]:=hp
  cases List.mem_singleton.mp hp
  exact Heap.get?_push_size _ rfl
section
variable {b:Bool} {w:World} {A:Around} {R:Result → Shared → Prop} {v:Nat} {F Fo:List (Addr × Obj)} {H:Heap} {s:Shared} (hL:Lv A v) (hv:v ≤ 350)
include hL hv
theorem split_ok {outer:List Env} {f:Fd} {l2:List Fd} {tl:Tok} (hF:A.frames = some outer) (hfo:outer.filterMap (·.frame) = Fo.map (·.1)) (hk:∀ env ∈ outer,env.scope.kind ≠ .module ∧ ∃ L,env.frame = some L)
    (hfd:∀ p ∈ Fo,∀ vs,p.2.data ≠ .fields vs) (h7:∃ o,(753,o) ∈ F) (hl:(f.text ++ tailOf l2).length ≤ 16777216) (hOk:∀ g ∈ f :: l2,g.Ok) (hn:l2.length ≤ 8)
    (D:Hp (W b w) H s.heap (F ++ Fo))
    (post:∀ (s':Shared) (li:Nat) (Fo':List (Addr × Obj)) (vs:List Value) (k':Nat),Sm s s' → SlS Fo Fo' → StrsV ((f :: l2).map Fd.cs) vs → Hp (W b w) H s'.heap ((li,liO vs k') :: (F ++ Fo')) → R (.ok (.ret (.ref li))) s') :
    codeAny (model P0 (W b w)) A (.call (.ref 751) ⟨[.str (sx (f.text ++ tailOf l2)) tl],[]⟩) R s:=by
  refine g_sp0 (F_:=F ++ Fo) (f.text ++ tailOf l2) tl (fun n T y hy => nm hy) (fun n T => all_pairs rfl) hL hv D fun A₁ s₁ hA₁ LA₁ N₁ M₁ => ?_
  have D₁:=N₁.hp
  have hA₁:=hA₁ outer hF
  generalize s.heap.objs.size = n1 at D₁ M₁ hA₁ ⊢
  generalize s.toks = t1 at D₁ M₁ hA₁ ⊢
  generalize s.gens.toList = g1 at M₁ ⊢
  obtain ⟨κ1,hκ1⟩ : ∃ κ,κ = tks t1 [36,38,40,42,45,48,57,59,62,65,68,71,73,76,79,82,84,86,90]:=⟨_,rfl⟩
  obtain ⟨τ,hτ⟩ : ∃ κ,κ = tks t1 [96,52,55,60,63,66,74,77,87]:=⟨_,rfl⟩
  obtain ⟨κ2,hκ2⟩ : ∃ κ,κ = tks t1 [19,22,25]:=⟨_,rfl⟩
  obtain ⟨fr,hfr⟩ : ∃ o,o = spF (W b w).params t1 (t1 + 1) (t1 + 2) (t1 + 93) (f.text ++ tailOf l2) tl (n1 + 2):=⟨_,rfl⟩
  have hfrd : ∀ vs,fr.data ≠ .fields vs:=fun vs q => by rw [hfr] at q; cases q
  have D₂ : Hp (W b w) H s₁.heap (LS6 (W b w).params (n1 + 2) (n1 + 1) (n1 + 8) (n1 + 7) (n1 + 11) (n1 + 12) κ1 κ2 τ tl (.str (sx [32]) (t1 + 69)) (.str (sx []) (t1 + 80)) (sx (f.text ++ tailOf l2)) 0 (t1 + 23) ++ (F ++ ((n1,fr) :: Fo))):=by
    subst hκ1 hτ hκ2 hfr
    exact D₁.perm (perm_by fun p => by simp only [List.countP_append,List.countP_cons,List.countP_nil]; omega)
  refine g_ll0 (F_:=F ++ ((n1,fr) :: Fo)) (n1 + 2) (n1 + 1) (n1 + 8) (n1 + 7) (n1 + 11) (n1 + 12) κ1 κ2 τ (t1 + 80) tl (t1 + 23) (.str (sx [32]) (t1 + 69)) (sx (f.text ++ tailOf l2)) 0 (fun n T y hy => ?_) (fun n T q hq => nm hq) LA₁ (by omega) D₂ fun A₂ s₂ hA₂ LA₂ N₂ M₂ => ?_
  · cases hy with
    | head => exact ok_lnew _
    | tail _ hy => cases hy
  have hA₂:=hA₂ _ hA₁
  have D₃:=N₂.hp
  generalize s₁.heap.objs.size = n2 at D₃ M₂ hA₂ ⊢
  generalize s₁.toks = t2 at M₂ hA₂ ⊢
  generalize s₁.gens.toList = g2 at M₂ ⊢
  refine g_ll0b (F_:=LS6 (W b w).params (n1 + 2) (n1 + 1) (n1 + 8) (n1 + 7) (n1 + 11) (n1 + 12) κ1 κ2 τ tl (.str (sx [32]) (t1 + 69)) (.str (sx []) (t1 + 80)) (sx (f.text ++ tailOf l2)) 0 (t1 + 23) ++ (F ++ ((n1,fr) :: Fo))) n2 (n1 + 2) (fun n T y hy => nm hy) (fun n T q hq => nm hq) LA₂ (by omega) D₃ fun s₃ N₃ => ?_
  have hne : n2 ≠ n1 + 2:=by
    have nd:=N₃.hp.nd
    intro z
    rw [List.map_append,List.map_cons,List.nodup_append] at nd
    exact nd.2.2 n2 (.head _) (n1 + 2) (.head _) z
  refine list_init n2 (n1 + 2) (n1 + 1) (n1 + 8) (n1 + 7) (n1 + 11) (n1 + 12) κ1 κ2 τ tl LA₂ (by omega) hne N₃.hp fun s₄ k4 S₄ D₄ => ?_
  refine lex_loop (F:=F) (Fo:=(n1,fr) :: Fo) (outer:=spEnv n1 :: outer) n2 (n1 + 2) (n1 + 1) (n1 + 8) (n1 + 7) (n1 + 11) (n1 + 12) κ1 κ2 τ tl LA₂ (by omega) hA₂ ?_ ?_ ?_ h7 l2 f [] (f.text ++ tailOf l2) [] k4 _ _ _ s₄ rfl hl hOk (by simpa using hn) D₄ fun s₅ Fo2 vs k5 S₅ y z D₅ => ?_
  · rw [List.filterMap_cons]
    show n1 :: outer.filterMap _ = _
    rw [hfo]; rfl
  · intro env he
    rcases List.mem_cons.mp he with rfl | he
    · exact ⟨(by kernel_rfl:(spEnv n1).scope.kind = .function) ▸ (fun q => nomatch q),n1,rfl⟩
    · exact hk env he
  · intro p hp
    rcases List.mem_cons.mp hp with rfl | hp
    · exact hfrd
    · exact hfd p hp
  cases y with
  | cons sl y =>
    rename_i Fo'
    have D₆:=D₅.subl (S':=(n2,liO vs k5) :: (F ++ Fo')) (List.Sublist.cons₂ _ (List.Sublist.append (List.Sublist.refl _) (List.sublist_cons_self _ _)))
    have S25 : Sm s₂ s₅:=(N₃.sm.trans S₄).trans S₅
    refine g_ll2 (F_:=F ++ Fo') n2 t2 g2 vs k5 (n1 + 2) (n1 + 1) (n1 + 8) (n1 + 7) (n1 + 11) (n1 + 12) κ1 κ2 τ (t1 + 80) tl (t1 + 23) (.str (sx [32]) (t1 + 69)) (sx (f.text ++ tailOf l2)) 0 (fun n T y hy => nm hy) (fun n T q hq => nm hq) (M₂.nx S25.drawn S25.os) (by omega) D₆ fun s₆ N₆ => ?_
    have S16 : Sm s₁ s₆:=(N₂.sm.trans S25).trans N₆.sm
    refine g_sp1 (F_:=(n2,liO vs k5) :: (F ++ Fo')) n1 t1 g1 n2 (f.text ++ tailOf l2) tl (fun n T y hy => nm hy) (fun n T q hq => nm hq) (M₁.nx S16.drawn S16.os) (by omega) N₆.hp fun s₇ N₇ => ?_
    exact post s₇ n2 Fo' vs k5 ((N₁.sm.trans S16).trans N₇.sm) y z N₇.hp
end
noncomputable def code0 : Array Nat:=#[14,17,4,1,1,21,9,0,604043296,1,0,0,0,0,0,8,4,0,13,14,21,9,0,604043296,1,0,0,0,0,0,8,4,0,1]
noncomputable def safe8 : List Nat:=[45,114,119,120,115,83,116,84]
theorem inSet_safe {c:Nat} (h:c ∈ safe8) (sn:Sre.Seen) : ∃ sn',Sre.inSet code0 c 34 5 true sn = .ok (false,sn'):=by
  simp only [safe8,List.mem_cons,List.not_mem_nil,or_false] at h
  rcases h with rfl | rfl | rfl | rfl | rfl | rfl | rfl | rfl <;> exact ⟨_,rfl⟩
theorem inSet_blank (sn:Sre.Seen) : ∃ sn',Sre.inSet code0 32 34 5 true sn = .ok (true,sn'):=⟨_,rfl⟩
theorem accepts_blank (sn:Sre.Seen) : ∃ sn',Sre.accepts code0 18 32 sn = .ok (true,sn'):=⟨_,rfl⟩
open Sre in
theorem adm_none {m:Sre.M} (hc:m.code = code0) {s:List Nat} (ht:m.text = ⟨s⟩) (hl:m.lim = s.length) (hs:∀ c ∈ s,c ∈ safe8) : ∀ (fuel p:Nat) (sn:Sre.Seen),∃ sn',M.admitted m fuel p sn = .ok (none,sn')
  | 0,_,sn => ⟨sn,rfl⟩
  | fuel + 1,p,sn => by
    unfold M.admitted
    by_cases h : p ≥ m.lim
    · rw [if_pos h]; exact ⟨sn,rfl⟩
    · rw [if_neg h,hc]
      have hp : p < s.length:=by omega
      have e : m.text.getD p 0 = s[p]:=by rw [ht]; simp [Array.getD,hp]
      obtain ⟨sn',e'⟩:=inSet_safe (hs _ (List.getElem_mem hp)) sn
      rw [e]
      have z : Sre.inSet code0 s[p] code0.size 5 true sn = .ok (false,sn'):=e'
      rw [z]
      exact adm_none hc ht hl hs fuel (p + 1) sn'
open Sre in
theorem adm_some {m:Sre.M} (hc:m.code = code0) {pre post:List Nat} (ht:m.text = ⟨pre ++ 32 :: post⟩) (hl:m.lim = (pre ++ 32 :: post).length) (hs:∀ c ∈ pre,c ∈ safe8) : ∀ (fuel p:Nat) (sn:Sre.Seen),p ≤ pre.length → pre.length < p + fuel → ∃ sn',M.admitted m fuel p sn = .ok (some pre.length,sn')
  | 0,p,sn,h1,h2 => by omega
  | fuel + 1,p,sn,h1,h2 => by
    unfold M.admitted
    have hlen : (pre ++ 32 :: post).length = pre.length + (post.length + 1):=by simp
    rw [if_neg (by omega),hc]
    by_cases h : p < pre.length
    · have e : m.text.getD p 0 = pre[p]:=by rw [ht]; simp [Array.getD,hlen,show p < pre.length + (post.length + 1) by omega,h]
      obtain ⟨sn',e'⟩:=inSet_safe (hs _ (List.getElem_mem h)) sn
      rw [e]
      have z : Sre.inSet code0 pre[p] code0.size 5 true sn = .ok (false,sn'):=e'
      rw [z]
      exact adm_some hc ht hl hs fuel (p + 1) sn' (by omega) (by omega)
    · have hp : p = pre.length:=by omega
      subst hp
      have e : m.text.getD pre.length 0 = 32:=by rw [ht]; simp [Array.getD]
      obtain ⟨sn',e'⟩:=inSet_blank sn
      rw [e]
      have z : Sre.inSet code0 32 code0.size 5 true sn = .ok (true,sn'):=e'
      rw [z]
      exact ⟨sn',rfl⟩
noncomputable def m0 (s:List Nat) : Sre.M:={ code:=code0,text:=⟨s⟩,lim:=s.length,start:=0,lastStart:=s.length,pc:=18,pos:=0,handed:=0,marks:=#[],seen:=({} : Sre.Seen).add 14 }
theorem search_eq (x:Nat) (r:List Nat) : Sre.forSearch code0 ⟨x :: r⟩ 0 0 (x :: r).length false = (m0 (x :: r)).attemptFrom 0 true:=by kernel_rfl
theorem search_none {x:Nat} {r:List Nat} (hs:∀ c ∈ x :: r,c ∈ safe8) : ∃ m,(Sre.forSearch code0 ⟨x :: r⟩ 0 0 (x :: r).length false).runFor 4 = m ∧ m.outcome = some .failed:=by
  rw [search_eq]
  unfold Sre.M.attemptFrom
  have h1 : (m0 (x :: r)).hasFirstSet = true:=by kernel_rfl
  rw [h1]
  obtain ⟨sn,e⟩:=adm_none (m:=m0 (x :: r)) rfl rfl rfl hs ((m0 (x :: r)).lim + 1 - 0) 0 (m0 (x :: r)).seen
  rw [e]
  exact ⟨_,rfl,by kernel_rfl⟩
theorem search_some0 (r:List Nat) : ∃ m,(Sre.forSearch code0 ⟨32 :: r⟩ 0 0 (32 :: r).length false).runFor 4 = m ∧ m.outcome = some .matched:=by
  rw [search_eq]
  unfold Sre.M.attemptFrom
  have h1 : (m0 (32 :: r)).hasFirstSet = true:=by kernel_rfl
  rw [h1]
  obtain ⟨sn,e⟩:=adm_some (m:=m0 (32 :: r)) rfl (pre:=[]) (post:=r) rfl rfl (fun _ h => nomatch h) ((m0 (32 :: r)).lim + 1 - 0) 0 (m0 (32 :: r)).seen (Nat.le_refl _) (by show 0 < 0 + (r.length + 1 + 1 - 0); omega)
  rw [e]
  exact ⟨_,rfl,by kernel_rfl⟩
theorem search_some10 (a b c d e f g h i j:Nat) (r:List Nat) (hs:∀ z ∈ [a,b,c,d,e,f,g,h,i,j],z ∈ safe8) : ∃ m,(Sre.forSearch code0 ⟨[a,b,c,d,e,f,g,h,i,j] ++ 32 :: r⟩ 0 0 ([a,b,c,d,e,f,g,h,i,j] ++ 32 :: r).length false).runFor 4 = m ∧ m.outcome = some .matched:=by
  have q:=search_eq a ([b,c,d,e,f,g,h,i,j] ++ 32 :: r)
  have q : Sre.forSearch code0 ⟨[a,b,c,d,e,f,g,h,i,j] ++ 32 :: r⟩ 0 0 ([a,b,c,d,e,f,g,h,i,j] ++ 32 :: r).length false = (m0 ([a,b,c,d,e,f,g,h,i,j] ++ 32 :: r)).attemptFrom 0 true:=q
  rw [q]
  unfold Sre.M.attemptFrom
  have h1 : (m0 ([a,b,c,d,e,f,g,h,i,j] ++ 32 :: r)).hasFirstSet = true:=by kernel_rfl
  rw [h1]
  obtain ⟨sn,e'⟩:=adm_some (m:=m0 ([a,b,c,d,e,f,g,h,i,j] ++ 32 :: r)) rfl (pre:=[a,b,c,d,e,f,g,h,i,j]) (post:=r) rfl rfl hs ((m0 ([a,b,c,d,e,f,g,h,i,j] ++ 32 :: r)).lim + 1 - 0) 0 (m0 ([a,b,c,d,e,f,g,h,i,j] ++ 32 :: r)).seen (Nat.zero_le _) (by show 10 < 0 + (([a,b,c,d,e,f,g,h,i,j] ++ 32 :: r).length + 1 - 0); simp)
  rw [e']
  exact ⟨_,rfl,by kernel_rfl⟩
theorem entry_search : entryFor table "re.Pattern.search" = some Builtin.«re.Pattern.search»:=entryFor_of_tree (by kernel_rfl)
theorem named_search (v:Value) : Builtin.Re.reNamed "re.Pattern.search" "search" ["string","pos","endpos"] 1 [v] [] = pure [some v,none,none]:=by kernel_rfl
section
variable {b:Bool} {w:World} {A:Around} {E:Value → Shared → Prop} {R:Result → Shared → Prop} {s:Shared}
theorem drive_one {m m':Sre.M} (n:Nat) (e:m.runFor 4 = m') (ho:m'.outcome.isSome = true) : Builtin.Re.reDrive (n + 1) m = pure m':=by
  unfold Builtin.Re.reDrive
  show (if (m.runFor 4).outcome.isSome = true then pure (m.runFor 4) else _) = _
  rw [e,if_pos ho]
theorem run_end {m m':Sre.M} {o:Sre.Outcome} {Q:Option Sre.M → Shared → Prop} (e:m.runFor 4 = m') (ho:m'.outcome = some o) (h:wpAny (model P0 w) A (match some o with | some .matched => pure (some m') | some .failed => pure none | some (.stuck why) => unsupported s!"_sre:{why}" | none => unsupported "internal:sre:no-outcome") Q E s) :
    wpAny (model P0 w) A (Builtin.Re.reRunToEnd m) Q E s:=by
  unfold Builtin.Re.reRunToEnd
  refine wpAny_bind ?_
  have hp : (2 : Nat) ^ 64 = (2 ^ 64 - 1) + 1:=by decide
  rw [hp,drive_one _ e (by rw [ho]; rfl)]
  refine wpAny_pure ?_
  refine wpAny_bind (wpAny_forIn_list _ (fun _ _ s' => s' = s) _ (fun x rest _ s' hs' => ?_) (fun _ s' hs' => ?_) _ _ rfl)
  · subst hs'
    by_cases hx : m'.seen.has x = true
    · rw [if_pos hx]; exact wpAny_bind (wpAny_rule (wpAny_pure rfl))
    · rw [if_neg hx]; first | exact wpAny_pure rfl | exact wpAny_bind (wpAny_pure (wpAny_pure rfl))
  · subst hs'
    rw [ho]
    exact h
theorem re_head {x:List Nat} {t:Tok} {Q:Fin → Shared → Prop} (K:KT.Holds s.heap 1 0 (kt0 (W b w).params))
    (h:wpAny (model P0 (W b w)) A (Builtin.Re.reAnswer { pattern:=.ref 56,string:=.str (sx x) t,code:=code0,text:=⟨x⟩,kind:=0,groups:=0,pos:=0,lim:=x.length } (Sre.forSearch code0 ⟨x⟩ 0 0 x.length false)) Q E s) (hx:x.length ≤ 16777216) :
    wpAny (model P0 (W b w)) A (Builtin.«re.Pattern.search» ⟨[.ref 56,.str (sx x) t],[]⟩) Q E s:=by
  have h56 : s.heap.get? 56 = some (o56 (W b w).params):=holds_at K (by rfl)
  have h55 : s.heap.get? 55 = some (o55 (W b w).params):=holds_at K (by rfl)
  unfold Builtin.«re.Pattern.search» Builtin.Re.reTarget
  refine wpAny_bind ?_
  show wpAny _ _ (Builtin.Re.reNamed "re.Pattern.search" "search" ["string","pos","endpos"] 1 [.str (sx x) t] [] >>= _) _ _ _
  refine wpAny_bind (wpAny_of_eq (named_search _) ?_)
  dsimp only
  refine wpAny_bind (wpAny_pure ?_)
  refine wpAny_bind (wpAny_pure ?_)
  refine wpAny_bind (wpAny_fieldsOf h56 rfl ?_)
  refine wpAny_bind (wpAny_of_eq (a:=(⟨x⟩,0)) rfl ?_)
  dsimp only
  rw [if_neg (by decide)]
  refine wpAny_bind (wpAny_pure ?_)
  have hlim : min ((2 : Int) ^ 63 - 1).toNat (⟨x⟩ : Array Nat).size = x.length:=by
    have e : (⟨x⟩ : Array Nat).size = x.length:=rfl
    rw [e]
    have e2 : ((2 : Int) ^ 63 - 1).toNat = 9223372036854775807:=by decide
    rw [e2]
    omega
  rw [hlim]
  show wpAny _ _ (Builtin.Re.reRawItems (.ref 55) >>= _) _ _ _
  refine wpAny_bind ?_
  unfold Builtin.Re.reRawItems
  refine wpAny_bind (wpAny_seqItems h55 rfl (wpAny_pure ?_))
  refine wpAny_pure ?_
  have hc : Array.map (fun x:Int => x.toNat) (Array.map Builtin.Re.reRawOf ((some (⟨[(.int 14 0),(.int 17 0),(.int 4 0),(.int 1 0),(.int 1 0),(.int 21 0),(.int 9 0),(.int 0 0),(.int 604043296 0),(.int 1 0),(.int 0 0),(.int 0 0),(.int 0 0),(.int 0 0),(.int 0 0),(.int 8 0),(.int 4 0),(.int 0 0),(.int 13 0),(.int 14 0),(.int 21 0),(.int 9 0),(.int 0 0),(.int 604043296 0),(.int 1 0),(.int 0 0),(.int 0 0),(.int 0 0),(.int 0 0),(.int 0 0),(.int 8 0),(.int 4 0),(.int 0 0),(.int 1 0)]⟩ : Array Value)).getD #[])) = code0:=by kernel_rfl
  rw [hc]
  have hm : min (Int.toNat 0) (⟨x⟩ : Array Nat).size = 0:=Nat.min_eq_left (Nat.zero_le _)
  rw [hm]
  exact h
theorem re_none {x:Nat} {r:List Nat} {t:Tok} (K:KT.Holds s.heap 1 0 (kt0 (W b w).params)) (hs:∀ c ∈ x :: r,c ∈ safe8) (hx:(x :: r).length ≤ 16777216) (h:R (.ok (.ret .none)) s) :
    codeAny (model P0 (W b w)) A (.builtin "re.Pattern.search" ⟨[.ref 56,.str (sx (x :: r)) t],[]⟩) R s:=by
  obtain ⟨m,e,ho⟩:=search_none hs
  refine codeAny_builtin entry_search (re_head K ?_ hx)
  unfold Builtin.Re.reAnswer
  refine wpAny_bind (run_end e ho ?_)
  exact wpAny_pure (wpAny_pure h)
theorem re_some {x:List Nat} {t:Tok} {m:Sre.M} (K:KT.Holds s.heap 1 0 (kt0 (W b w).params)) (e:(Sre.forSearch code0 ⟨x⟩ 0 0 x.length false).runFor 4 = m) (ho:m.outcome = some .matched) (hx:x.length ≤ 16777216)
    (h:∀ o1 o2 : Obj,R (.ok (.ret (.ref (s.heap.objs.size + 1)))) { s with heap:=(s.heap.push o1).push o2 }) :
    codeAny (model P0 (W b w)) A (.builtin "re.Pattern.search" ⟨[.ref 56,.str (sx x) t],[]⟩) R s:=by
  refine codeAny_builtin entry_search (re_head K ?_ hx)
  unfold Builtin.Re.reAnswer
  refine wpAny_bind (run_end e ho ?_)
  refine wpAny_pure ?_
  dsimp only
  unfold Builtin.Re.reNewMatch
  refine wpAny_bind ?_
  dsimp only
  rw [if_neg (by simp)]
  refine wpAny_bind (wpAny_newTuple ?_ (by show 2 ≤ sizeLine; decide))
  unfold newFields
  refine wpAny_newObj_type ?_
  refine wpAny_pure ?_
  rw [Heap.size_push]
  exact h _ _
end
def s_srN (x:List Nat) (t:Tok) : Sum:=⟨.call (.ref 759) ⟨[.str (sx x) t],[]⟩,fun _ _ => .ok (.ret .none),0,0,[],[],500⟩
def s_srS (x:List Nat) (t:Tok) : Sum:=⟨.call (.ref 759) ⟨[.str (sx x) t],[]⟩,fun n _ => .ok (.ret (.ref (n + 1))),0,2,[],[],500⟩
def u_sr0 (w:World) (n T:Nat) (s:List Nat) (ts:Tok) : List Sum:=[]
def r_sr0 (w:World) (n T:Nat) (g:List GenState) (s:List Nat) (ts:Tok) : Out:=runC (G0 w n T 500) 20000 (digits 5 50331648) (u_sr0 w n T s ts) (.call (.ref 759) ⟨[.str (sx s) ts],[]⟩) [] g
def b_sr0 (n T:Nat) (s:List Nat) (ts:Tok) : List (Bool × Bool):=[]
theorem e_sr0 (b:Bool) (w:World) (n T:Nat) (g:List GenState) (s:List Nat) (ts:Tok) : (r_sr0 (W b w) n T g s ts).M [] = (r_sr0 (W b w) n T g s ts).N (b_sr0 n T s ts) (.again (.builtin "re.Pattern.search" ⟨[.ref 56,.str (sx s) ts],[]⟩)) (0) (0) g []:=by cases b <;> kernel_rfl
noncomputable def g_sr0 {b:Bool} {w:World} (s:List Nat) (ts:Tok):=mkA (fun n T g => e_sr0 b w n T g s ts) (fun _ _ _ => rfl) rfl (by decide)
def s_qtN (w:World) (x:Nat) (s:List Nat) (ts:Tok) : Sum:=⟨.call (.ref 766) ⟨[.str (sx (x :: s)) ts],[]⟩,fun n T => .ok (.ret (.str (sx (x :: s)) ts)),3,1,[],[],470⟩
def u_qtN (w:World) (n T:Nat) (x:Nat) (s:List Nat) (ts:Tok) : List Sum:=[s_srN (x :: s) ts]
def r_qtN (w:World) (n T:Nat) (g:List GenState) (x:Nat) (s:List Nat) (ts:Tok) : Out:=runFn (G0 w n T 470) 20000 (digits 10 18577417719517248) (u_qtN w n T x s ts) (.call (.ref 766) ⟨[.str (sx (x :: s)) ts],[]⟩) [] g
def b_qtN (n T:Nat) (x:Nat) (s:List Nat) (ts:Tok) : List (Bool × Bool):=[(Nat.ble (slen (sx (x :: s))) 16777216,true)]
theorem e_qtN (b:Bool) (w:World) (n T:Nat) (g:List GenState) (x:Nat) (s:List Nat) (ts:Tok) : (r_qtN (W b w) n T g x s ts).L 1 [] = (r_qtN (W b w) n T g x s ts).R (b_qtN n T x s ts) (.done (.ok (.ret (.str (sx (x :: s)) ts)))) 1 3 g [] (newsG n T []):=by cases b <;> kernel_rfl
theorem ok_qtN {b:Bool} {w:World} {n T lv_:Nat} (x:Nat) (s:List Nat) (ts:Tok) (hs:∀ n T,∀ y_ ∈ u_qtN (W b w) n T x s ts,y_.Ok (G0 (W b w) n T 470)) (hB:∀ n T,∀ q_ ∈ b_qtN n T x s ts,q_.1 = q_.2) : (s_qtN (W b w)  x s ts).Ok (G0 (W b w) n T lv_) :=
  ok_fn2 (fun n T g => r_qtN (W b w) n T g x s ts) 20000 (digits 10 18577417719517248) (fun n T => u_qtN (W b w) n T x s ts) [] (fun n T => []) (fun n T => newsG n T []) (fun n T => b_qtN n T x s ts) 1 [] (fun _ _ _ => rfl) rfl (fun _ _ => rfl) (fun _ _ => rfl) (by decide) hs hB fun n T g => e_qtN b w n T g x s ts
def s_qtS (w:World) (x:Nat) (s:List Nat) (ts:Tok) : Sum:=⟨.call (.ref 766) ⟨[.str (sx (x :: s)) ts],[]⟩,fun n T => .ok (.ret (.str (sx (39 :: x :: (s ++ [39]))) (T + 8))),9,3,[],[],470⟩
def u_qtS (w:World) (n T:Nat) (x:Nat) (s:List Nat) (ts:Tok) : List Sum:=[s_srS (x :: s) ts]
def r_qtS (w:World) (n T:Nat) (g:List GenState) (x:Nat) (s:List Nat) (ts:Tok) : Out:=runFn (G0 w n T 470) 20000 (digits 13 129538820070529225199680) (u_qtS w n T x s ts) (.call (.ref 766) ⟨[.str (sx (x :: s)) ts],[]⟩) [] g
def b_qtS (n T:Nat) (x:Nat) (s:List Nat) (ts:Tok) : List (Bool × Bool):=[(false,false),(false,false),(Nat.ble (slen (cat (cat (Str.ofString "'") (sx (x :: s))) (Str.ofString "'"))) 16777216,true),(false,false),(false,false),(Nat.ble (slen (cat (Str.ofString "'") (sx (x :: s)))) 16777216,true),(sfree (sx (x :: s)) (Str.ofString "'"),true),(Nat.ble (slen (sx (x :: s))) 16777216,true)]
theorem e_qtS (b:Bool) (w:World) (n T:Nat) (g:List GenState) (x:Nat) (s:List Nat) (ts:Tok) : (r_qtS (W b w) n T g x s ts).L 1 [] = (r_qtS (W b w) n T g x s ts).R (b_qtS n T x s ts) (.done (.ok (.ret (.str (sx (39 :: x :: (s ++ [39]))) (T + 8))))) 3 9 g [] (newsG n T []):=by cases b <;> kernel_rfl
theorem ok_qtS {b:Bool} {w:World} {n T lv_:Nat} (x:Nat) (s:List Nat) (ts:Tok) (hs:∀ n T,∀ y_ ∈ u_qtS (W b w) n T x s ts,y_.Ok (G0 (W b w) n T 470)) (hB:∀ n T,∀ q_ ∈ b_qtS n T x s ts,q_.1 = q_.2) : (s_qtS (W b w)  x s ts).Ok (G0 (W b w) n T lv_) :=
  ok_fn2 (fun n T g => r_qtS (W b w) n T g x s ts) 20000 (digits 13 129538820070529225199680) (fun n T => u_qtS (W b w) n T x s ts) [] (fun n T => []) (fun n T => newsG n T []) (fun n T => b_qtS n T x s ts) 1 [] (fun _ _ _ => rfl) rfl (fun _ _ => rfl) (fun _ _ => rfl) (by decide) hs hB fun n T g => e_qtS b w n T g x s ts
def stBody : List Stmt:=match fnAt 4 with
  | .FunctionDef _ _ b _ _ _ _ _ _ _ => b
  | _ => []
def stScope : Scope:=match fnAt 4 with
  | .FunctionDef _ _ _ _ _ _ sc _ _ _ => sc
  | _ => default
def stEnv (L:Addr) : Env:=⟨stScope,L,3,[],(sx [95,115,116,114,105,112,95,112,97,100,100,105,110,103,46,60,108,111,99,97,108,115,62,46]),some 51,.ref 50,some L,0⟩
def stL1 (L:Addr) : Code:=match stBody.getD 1 (.Pass default) with
  | .While t b o _ => .whileLoop t b o (stEnv L)
  | _ => .block [] (stEnv L)
def stL2 (L:Addr) : Code:=match stBody.getD 3 (.Pass default) with
  | .While t b o _ => .whileLoop t b o (stEnv L)
  | _ => .block [] (stEnv L)
def stF3 (P:Params) (k0 k1 k2:Tok) (s:List Nat) (ts:Tok) (a:Int) (ta:Tok) (lp:Int) (tl:Tok) : Obj :=
  ⟨.type "frame",none,.dict ⟨[en P (sx [115]) k0 (.str (sx s) ts),en P (sx [97,109,111,117,110,116]) k1 (.int a ta),en P (sx [108,112,111,115]) k2 (.int lp tl)]⟩ 3,⟨[]⟩⟩
def stF4 (P:Params) (k0 k1 k2 k3:Tok) (s:List Nat) (ts:Tok) (a:Int) (ta:Tok) (lp:Int) (tl:Tok) (rp:Int) (tr:Tok) : Obj :=
  ⟨.type "frame",none,.dict ⟨[en P (sx [115]) k0 (.str (sx s) ts),en P (sx [97,109,111,117,110,116]) k1 (.int a ta),en P (sx [108,112,111,115]) k2 (.int lp tl),en P (sx [114,112,111,115]) k3 (.int rp tr)]⟩ 4,⟨[]⟩⟩
def u_st0 (w:World) (n T:Nat) (s:List Nat) (ts:Tok) (a:Int) (ta:Tok) : List Sum:=[]
def r_st0 (w:World) (n T:Nat) (g:List GenState) (s:List Nat) (ts:Tok) (a:Int) (ta:Tok) : Out:=runFn (G0 w n T 450) 20000 (digits 8 13263949795392) (u_st0 w n T s ts a ta) (.call (.ref 51) ⟨[.str (sx s) ts,.int a ta],[]⟩) [] g
def b_st0 (n T:Nat) (s:List Nat) (ts:Tok) (a:Int) (ta:Tok) : List (Bool × Bool):=[]
theorem e_st0 (b:Bool) (w:World) (n T:Nat) (g:List GenState) (s:List Nat) (ts:Tok) (a:Int) (ta:Tok) : (r_st0 (W b w) n T g s ts a ta).M3 [] = (r_st0 (W b w) n T g s ts a ta).N3 (b_st0 n T s ts a ta) (stL1 n) (1) (1) (4) g [(n,stF3 (W b w).params T (T + 1) (T + 3) s ts a ta 0 (T + 2))]:=by cases b <;> kernel_rfl
noncomputable def g_st0 {b:Bool} {w:World} (s:List Nat) (ts:Tok) (a:Int) (ta:Tok):=mkFS (fun n T g => e_st0 b w n T g s ts a ta) (fun _ _ _ => rfl) (by decide)
def u_sa1 (w:World) (n T:Nat) (L:Nat) (k0 k1 k2:Tok) (s:List Nat) (ts:Tok) (k:Nat) (ta:Tok) (lp:Int) (tl:Tok) : List Sum:=[]
def r_sa1 (w:World) (n T:Nat) (g:List GenState) (L:Nat) (k0 k1 k2:Tok) (s:List Nat) (ts:Tok) (k:Nat) (ta:Tok) (lp:Int) (tl:Tok) : Out:=runC (G0 w n T 460) 20000 (digits 16 3733488849216336868258611201) (u_sa1 w n T L k0 k1 k2 s ts k ta lp tl) (stL1 L) [(L,stF3 w.params k0 k1 k2 s ts (Int.ofNat (k + 1)) ta lp tl)] g
def b_sa1 (n T:Nat) (L:Nat) (k0 k1 k2:Tok) (s:List Nat) (ts:Tok) (k:Nat) (ta:Tok) (lp:Int) (tl:Tok) : List (Bool × Bool):=[(seqs { cps:={ toList:=[sat (sx s) (Int.toNat lp)] } } (Str.ofString " "),true),(decide (0 ≤ lp),true),(decide (lp < (↑(slen (sx s)) : Int)),true),(Nat.ble (slen (sx s)) 16777216,true)]
theorem e_sa1 (b:Bool) (w:World) (n T:Nat) (g:List GenState) (L:Nat) (k0 k1 k2:Tok) (s:List Nat) (ts:Tok) (k:Nat) (ta:Tok) (lp:Int) (tl:Tok) : (r_sa1 (W b w) n T g L k0 k1 k2 s ts k ta lp tl).M [] = (r_sa1 (W b w) n T g L k0 k1 k2 s ts k ta lp tl).N (b_sa1 n T L k0 k1 k2 s ts k ta lp tl) (.again (stL1 L)) (0) (8) g [(L,stF3 (W b w).params k0 k1 k2 s ts (Int.ofNat (k + 1) - 1) (T + 6) (lp + 1) (T + 3))]:=by cases b <;> kernel_rfl
noncomputable def g_sa1 {b:Bool} {w:World} (L:Nat) (k0 k1 k2:Tok) (s:List Nat) (ts:Tok) (k:Nat) (ta:Tok) (lp:Int) (tl:Tok):=mkA (fun n T g => e_sa1 b w n T g L k0 k1 k2 s ts k ta lp tl) (fun _ _ _ => rfl) rfl (by decide)
def u_sa2 (w:World) (n T:Nat) (L:Nat) (k0 k1 k2:Tok) (s:List Nat) (ts:Tok) (k:Nat) (ta:Tok) (lp:Int) (tl:Tok) : List Sum:=[]
def r_sa2 (w:World) (n T:Nat) (g:List GenState) (L:Nat) (k0 k1 k2:Tok) (s:List Nat) (ts:Tok) (k:Nat) (ta:Tok) (lp:Int) (tl:Tok) : Out:=runC (G0 w n T 460) 20000 (digits 7 1544057782273) (u_sa2 w n T L k0 k1 k2 s ts k ta lp tl) (stL1 L) [(L,stF3 w.params k0 k1 k2 s ts (Int.ofNat (k + 1)) ta lp tl)] g
def b_sa2 (n T:Nat) (L:Nat) (k0 k1 k2:Tok) (s:List Nat) (ts:Tok) (k:Nat) (ta:Tok) (lp:Int) (tl:Tok) : List (Bool × Bool):=[(seqs { cps:={ toList:=[sat (sx s) (Int.toNat lp)] } } (Str.ofString " "),false),(decide (0 ≤ lp),true),(decide (lp < (↑(slen (sx s)) : Int)),true),(Nat.ble (slen (sx s)) 16777216,true)]
theorem e_sa2 (b:Bool) (w:World) (n T:Nat) (g:List GenState) (L:Nat) (k0 k1 k2:Tok) (s:List Nat) (ts:Tok) (k:Nat) (ta:Tok) (lp:Int) (tl:Tok) : (r_sa2 (W b w) n T g L k0 k1 k2 s ts k ta lp tl).M [] = (r_sa2 (W b w) n T g L k0 k1 k2 s ts k ta lp tl).N (b_sa2 n T L k0 k1 k2 s ts k ta lp tl) (.done (.ok .next)) (0) (2) g [(L,stF3 (W b w).params k0 k1 k2 s ts (Int.ofNat (k + 1)) ta lp tl)]:=by cases b <;> kernel_rfl
noncomputable def g_sa2 {b:Bool} {w:World} (L:Nat) (k0 k1 k2:Tok) (s:List Nat) (ts:Tok) (k:Nat) (ta:Tok) (lp:Int) (tl:Tok):=mkD (fun n T g => e_sa2 b w n T g L k0 k1 k2 s ts k ta lp tl) (fun _ _ _ => rfl) rfl (by decide)
def u_sa3 (w:World) (n T:Nat) (L:Nat) (k0 k1 k2:Tok) (s:List Nat) (ts:Tok) (ta:Tok) (lp:Int) (tl:Tok) : List Sum:=[]
def r_sa3 (w:World) (n T:Nat) (g:List GenState) (L:Nat) (k0 k1 k2:Tok) (s:List Nat) (ts:Tok) (ta:Tok) (lp:Int) (tl:Tok) : Out:=runC (G0 w n T 460) 20000 (digits 3 1) (u_sa3 w n T L k0 k1 k2 s ts ta lp tl) (stL1 L) [(L,stF3 w.params k0 k1 k2 s ts 0 ta lp tl)] g
def b_sa3 (n T:Nat) (L:Nat) (k0 k1 k2:Tok) (s:List Nat) (ts:Tok) (ta:Tok) (lp:Int) (tl:Tok) : List (Bool × Bool):=[]
theorem e_sa3 (b:Bool) (w:World) (n T:Nat) (g:List GenState) (L:Nat) (k0 k1 k2:Tok) (s:List Nat) (ts:Tok) (ta:Tok) (lp:Int) (tl:Tok) : (r_sa3 (W b w) n T g L k0 k1 k2 s ts ta lp tl).M [] = (r_sa3 (W b w) n T g L k0 k1 k2 s ts ta lp tl).N (b_sa3 n T L k0 k1 k2 s ts ta lp tl) (.done (.ok .next)) (0) (0) g [(L,stF3 (W b w).params k0 k1 k2 s ts 0 ta lp tl)]:=by cases b <;> kernel_rfl
noncomputable def g_sa3 {b:Bool} {w:World} (L:Nat) (k0 k1 k2:Tok) (s:List Nat) (ts:Tok) (ta:Tok) (lp:Int) (tl:Tok):=mkD (fun n T g => e_sa3 b w n T g L k0 k1 k2 s ts ta lp tl) (fun _ _ _ => rfl) rfl (by decide)
def u_st1 (w:World) (n T:Nat) (n0 T0:Nat) (g0:List GenState) (k0 k1 k2 ta2:Tok) (a2 lp:Int) (tl:Tok) (s:List Nat) (ts:Tok) (a:Int) (ta:Tok) : List Sum:=[]
def r_st1 (w:World) (n T:Nat) (g:List GenState) (n0 T0:Nat) (g0:List GenState) (k0 k1 k2 ta2:Tok) (a2 lp:Int) (tl:Tok) (s:List Nat) (ts:Tok) (a:Int) (ta:Tok) : Out:=runK w n T 450 20000 (digits 8 13264023457792) (u_st1 w n T n0 T0 g0 k0 k1 k2 ta2 a2 lp tl s ts a ta) (r_st0 w n0 T0 g0 s ts a ta) (.ok .next) [(n0,stF3 w.params k0 k1 k2 s ts a2 ta2 lp tl)] g
def b_st1 (n T:Nat) (n0 T0:Nat) (g0:List GenState) (k0 k1 k2 ta2:Tok) (a2 lp:Int) (tl:Tok) (s:List Nat) (ts:Tok) (a:Int) (ta:Tok) : List (Bool × Bool):=[(Nat.ble (slen (sx s)) 16777216,true)]
theorem e_st1 (b:Bool) (w:World) (n T:Nat) (g:List GenState) (n0 T0:Nat) (g0:List GenState) (k0 k1 k2 ta2:Tok) (a2 lp:Int) (tl:Tok) (s:List Nat) (ts:Tok) (a:Int) (ta:Tok) : (r_st1 (W b w) n T g n0 T0 g0 k0 k1 k2 ta2 a2 lp tl s ts a ta).M3 [] = (r_st1 (W b w) n T g n0 T0 g0 k0 k1 k2 ta2 a2 lp tl s ts a ta).N3 (b_st1 n T n0 T0 g0 k0 k1 k2 ta2 a2 lp tl s ts a ta) (stL2 n0) (1) (0) (5) g [(n0,stF4 (W b w).params k0 k1 k2 (T + 4) s ts a2 ta2 lp tl ((slen (sx s) : Int) - 1) (T + 3))]:=by cases b <;> kernel_rfl
noncomputable def g_st1 {b:Bool} {w:World} (n0 T0:Nat) (g0:List GenState) (k0 k1 k2 ta2:Tok) (a2 lp:Int) (tl:Tok) (s:List Nat) (ts:Tok) (a:Int) (ta:Tok):=mkKS (fun n T g => e_st1 b w n T g n0 T0 g0 k0 k1 k2 ta2 a2 lp tl s ts a ta) (fun _ _ _ => rfl) (by decide)
def u_sb1 (w:World) (n T:Nat) (L:Nat) (k0 k1 k2 k3:Tok) (s:List Nat) (ts:Tok) (k:Nat) (ta:Tok) (lp:Int) (tl:Tok) (rp:Int) (tr:Tok) : List Sum:=[]
def r_sb1 (w:World) (n T:Nat) (g:List GenState) (L:Nat) (k0 k1 k2 k3:Tok) (s:List Nat) (ts:Tok) (k:Nat) (ta:Tok) (lp:Int) (tl:Tok) (rp:Int) (tr:Tok) : Out:=runC (G0 w n T 460) 20000 (digits 16 3733488849216618343235321857) (u_sb1 w n T L k0 k1 k2 k3 s ts k ta lp tl rp tr) (stL2 L) [(L,stF4 w.params k0 k1 k2 k3 s ts (Int.ofNat (k + 1)) ta lp tl rp tr)] g
def b_sb1 (n T:Nat) (L:Nat) (k0 k1 k2 k3:Tok) (s:List Nat) (ts:Tok) (k:Nat) (ta:Tok) (lp:Int) (tl:Tok) (rp:Int) (tr:Tok) : List (Bool × Bool):=[(seqs { cps:={ toList:=[sat (sx s) (Int.toNat rp)] } } (Str.ofString " "),true),(decide (0 ≤ rp),true),(decide (rp < (↑(slen (sx s)) : Int)),true),(Nat.ble (slen (sx s)) 16777216,true)]
theorem e_sb1 (b:Bool) (w:World) (n T:Nat) (g:List GenState) (L:Nat) (k0 k1 k2 k3:Tok) (s:List Nat) (ts:Tok) (k:Nat) (ta:Tok) (lp:Int) (tl:Tok) (rp:Int) (tr:Tok) : (r_sb1 (W b w) n T g L k0 k1 k2 k3 s ts k ta lp tl rp tr).M [] = (r_sb1 (W b w) n T g L k0 k1 k2 k3 s ts k ta lp tl rp tr).N (b_sb1 n T L k0 k1 k2 k3 s ts k ta lp tl rp tr) (.again (stL2 L)) (0) (8) g [(L,stF4 (W b w).params k0 k1 k2 k3 s ts (Int.ofNat (k + 1) - 1) (T + 6) lp tl (rp - 1) (T + 3))]:=by cases b <;> kernel_rfl
noncomputable def g_sb1 {b:Bool} {w:World} (L:Nat) (k0 k1 k2 k3:Tok) (s:List Nat) (ts:Tok) (k:Nat) (ta:Tok) (lp:Int) (tl:Tok) (rp:Int) (tr:Tok):=mkA (fun n T g => e_sb1 b w n T g L k0 k1 k2 k3 s ts k ta lp tl rp tr) (fun _ _ _ => rfl) rfl (by decide)
def u_sb2 (w:World) (n T:Nat) (L:Nat) (k0 k1 k2 k3:Tok) (s:List Nat) (ts:Tok) (k:Nat) (ta:Tok) (lp:Int) (tl:Tok) (rp:Int) (tr:Tok) : List Sum:=[]
def r_sb2 (w:World) (n T:Nat) (g:List GenState) (L:Nat) (k0 k1 k2 k3:Tok) (s:List Nat) (ts:Tok) (k:Nat) (ta:Tok) (lp:Int) (tl:Tok) (rp:Int) (tr:Tok) : Out:=runC (G0 w n T 460) 20000 (digits 7 1544057782273) (u_sb2 w n T L k0 k1 k2 k3 s ts k ta lp tl rp tr) (stL2 L) [(L,stF4 w.params k0 k1 k2 k3 s ts (Int.ofNat (k + 1)) ta lp tl rp tr)] g
def b_sb2 (n T:Nat) (L:Nat) (k0 k1 k2 k3:Tok) (s:List Nat) (ts:Tok) (k:Nat) (ta:Tok) (lp:Int) (tl:Tok) (rp:Int) (tr:Tok) : List (Bool × Bool):=[(seqs { cps:={ toList:=[sat (sx s) (Int.toNat rp)] } } (Str.ofString " "),false),(decide (0 ≤ rp),true),(decide (rp < (↑(slen (sx s)) : Int)),true),(Nat.ble (slen (sx s)) 16777216,true)]
theorem e_sb2 (b:Bool) (w:World) (n T:Nat) (g:List GenState) (L:Nat) (k0 k1 k2 k3:Tok) (s:List Nat) (ts:Tok) (k:Nat) (ta:Tok) (lp:Int) (tl:Tok) (rp:Int) (tr:Tok) : (r_sb2 (W b w) n T g L k0 k1 k2 k3 s ts k ta lp tl rp tr).M [] = (r_sb2 (W b w) n T g L k0 k1 k2 k3 s ts k ta lp tl rp tr).N (b_sb2 n T L k0 k1 k2 k3 s ts k ta lp tl rp tr) (.done (.ok .next)) (0) (2) g [(L,stF4 (W b w).params k0 k1 k2 k3 s ts (Int.ofNat (k + 1)) ta lp tl rp tr)]:=by cases b <;> kernel_rfl
noncomputable def g_sb2 {b:Bool} {w:World} (L:Nat) (k0 k1 k2 k3:Tok) (s:List Nat) (ts:Tok) (k:Nat) (ta:Tok) (lp:Int) (tl:Tok) (rp:Int) (tr:Tok):=mkD (fun n T g => e_sb2 b w n T g L k0 k1 k2 k3 s ts k ta lp tl rp tr) (fun _ _ _ => rfl) rfl (by decide)
def u_sb3 (w:World) (n T:Nat) (L:Nat) (k0 k1 k2 k3:Tok) (s:List Nat) (ts:Tok) (ta:Tok) (lp:Int) (tl:Tok) (rp:Int) (tr:Tok) : List Sum:=[]
def r_sb3 (w:World) (n T:Nat) (g:List GenState) (L:Nat) (k0 k1 k2 k3:Tok) (s:List Nat) (ts:Tok) (ta:Tok) (lp:Int) (tl:Tok) (rp:Int) (tr:Tok) : Out:=runC (G0 w n T 460) 20000 (digits 3 1) (u_sb3 w n T L k0 k1 k2 k3 s ts ta lp tl rp tr) (stL2 L) [(L,stF4 w.params k0 k1 k2 k3 s ts 0 ta lp tl rp tr)] g
def b_sb3 (n T:Nat) (L:Nat) (k0 k1 k2 k3:Tok) (s:List Nat) (ts:Tok) (ta:Tok) (lp:Int) (tl:Tok) (rp:Int) (tr:Tok) : List (Bool × Bool):=[]
theorem e_sb3 (b:Bool) (w:World) (n T:Nat) (g:List GenState) (L:Nat) (k0 k1 k2 k3:Tok) (s:List Nat) (ts:Tok) (ta:Tok) (lp:Int) (tl:Tok) (rp:Int) (tr:Tok) : (r_sb3 (W b w) n T g L k0 k1 k2 k3 s ts ta lp tl rp tr).M [] = (r_sb3 (W b w) n T g L k0 k1 k2 k3 s ts ta lp tl rp tr).N (b_sb3 n T L k0 k1 k2 k3 s ts ta lp tl rp tr) (.done (.ok .next)) (0) (0) g [(L,stF4 (W b w).params k0 k1 k2 k3 s ts 0 ta lp tl rp tr)]:=by cases b <;> kernel_rfl
noncomputable def g_sb3 {b:Bool} {w:World} (L:Nat) (k0 k1 k2 k3:Tok) (s:List Nat) (ts:Tok) (ta:Tok) (lp:Int) (tl:Tok) (rp:Int) (tr:Tok):=mkD (fun n T g => e_sb3 b w n T g L k0 k1 k2 k3 s ts ta lp tl rp tr) (fun _ _ _ => rfl) rfl (by decide)
def u_st2 (w:World) (n T:Nat) (n0 T0:Nat) (g0:List GenState) (n1 T1:Nat) (g1:List GenState) (k3 ta3:Tok) (a3 rp:Int) (tr:Tok) (k0 k1 k2 ta2:Tok) (a2 lp:Int) (tl:Tok) (s:List Nat) (ts:Tok) (a:Int) (ta:Tok) : List Sum:=[]
def r_st2 (w:World) (n T:Nat) (g:List GenState) (n0 T0:Nat) (g0:List GenState) (n1 T1:Nat) (g1:List GenState) (k3 ta3:Tok) (a3 rp:Int) (tr:Tok) (k0 k1 k2 ta2:Tok) (a2 lp:Int) (tl:Tok) (s:List Nat) (ts:Tok) (a:Int) (ta:Tok) : Out:=runK w n T 450 20000 (digits 6 907022401) (u_st2 w n T n0 T0 g0 n1 T1 g1 k3 ta3 a3 rp tr k0 k1 k2 ta2 a2 lp tl s ts a ta) (r_st1 w n1 T1 g1 n0 T0 g0 k0 k1 k2 ta2 a2 lp tl s ts a ta) (.ok .next) [(n0,stF4 w.params k0 k1 k2 k3 s ts a3 ta3 lp tl rp tr)] g
def b_st2 (n T:Nat) (n0 T0:Nat) (g0:List GenState) (n1 T1:Nat) (g1:List GenState) (k3 ta3:Tok) (a3 rp:Int) (tr:Tok) (k0 k1 k2 ta2:Tok) (a2 lp:Int) (tl:Tok) (s:List Nat) (ts:Tok) (a:Int) (ta:Tok) : List (Bool × Bool):=[(decide (0 ≤ lp),true),(decide (lp ≤ (fun x1 x2 => x1 + x2) rp 1),true),(decide ((fun x1 x2 => x1 + x2) rp 1 ≤ (↑(slen (sx s)) : Int)),true),(decide ((fun x1 x2 => x1 + x2) rp 1 - lp < (↑(slen (sx s)) : Int)),true),(Nat.ble (slen (sx s)) 16777216,true)]
theorem e_st2 (b:Bool) (w:World) (n T:Nat) (g:List GenState) (n0 T0:Nat) (g0:List GenState) (n1 T1:Nat) (g1:List GenState) (k3 ta3:Tok) (a3 rp:Int) (tr:Tok) (k0 k1 k2 ta2:Tok) (a2 lp:Int) (tl:Tok) (s:List Nat) (ts:Tok) (a:Int) (ta:Tok) : (r_st2 (W b w) n T g n0 T0 g0 n1 T1 g1 k3 ta3 a3 rp tr k0 k1 k2 ta2 a2 lp tl s ts a ta).M [false,false] = (r_st2 (W b w) n T g n0 T0 g0 n1 T1 g1 k3 ta3 a3 rp tr k0 k1 k2 ta2 a2 lp tl s ts a ta).N (b_st2 n T n0 T0 g0 n1 T1 g1 k3 ta3 a3 rp tr k0 k1 k2 ta2 a2 lp tl s ts a ta) (.done (.ok (.ret (.str (spart (sx s) lp (rp + 1)) (T + 2))))) (1) (3) g []:=by cases b <;> kernel_rfl
noncomputable def g_st2 {b:Bool} {w:World} (n0 T0:Nat) (g0:List GenState) (n1 T1:Nat) (g1:List GenState) (k3 ta3:Tok) (a3 rp:Int) (tr:Tok) (k0 k1 k2 ta2:Tok) (a2 lp:Int) (tl:Tok) (s:List Nat) (ts:Tok) (a:Int) (ta:Tok):=mkK (fun n T g => e_st2 b w n T g n0 T0 g0 n1 T1 g1 k3 ta3 a3 rp tr k0 k1 k2 ta2 a2 lp tl s ts a ta) (fun _ _ _ => rfl) (by decide)
def u_st3 (w:World) (n T:Nat) (n0 T0:Nat) (g0:List GenState) (n1 T1:Nat) (g1:List GenState) (k3 ta3:Tok) (a3 rp:Int) (tr:Tok) (k0 k1 k2 ta2:Tok) (a2 lp:Int) (tl:Tok) (s:List Nat) (ts:Tok) (a:Int) (ta:Tok) : List Sum:=[]
def r_st3 (w:World) (n T:Nat) (g:List GenState) (n0 T0:Nat) (g0:List GenState) (n1 T1:Nat) (g1:List GenState) (k3 ta3:Tok) (a3 rp:Int) (tr:Tok) (k0 k1 k2 ta2:Tok) (a2 lp:Int) (tl:Tok) (s:List Nat) (ts:Tok) (a:Int) (ta:Tok) : Out:=runK w n T 450 20000 (digits 6 923799617) (u_st3 w n T n0 T0 g0 n1 T1 g1 k3 ta3 a3 rp tr k0 k1 k2 ta2 a2 lp tl s ts a ta) (r_st1 w n1 T1 g1 n0 T0 g0 k0 k1 k2 ta2 a2 lp tl s ts a ta) (.ok .next) [(n0,stF4 w.params k0 k1 k2 k3 s ts a3 ta3 lp tl rp tr)] g
def b_st3 (n T:Nat) (n0 T0:Nat) (g0:List GenState) (n1 T1:Nat) (g1:List GenState) (k3 ta3:Tok) (a3 rp:Int) (tr:Tok) (k0 k1 k2 ta2:Tok) (a2 lp:Int) (tl:Tok) (s:List Nat) (ts:Tok) (a:Int) (ta:Tok) : List (Bool × Bool):=[(decide (lp = 0),true),(decide ((fun x1 x2 => x1 + x2) rp 1 = (↑(slen (sx s)) : Int)),true),(Nat.ble (slen (sx s)) 16777216,true)]
theorem e_st3 (b:Bool) (w:World) (n T:Nat) (g:List GenState) (n0 T0:Nat) (g0:List GenState) (n1 T1:Nat) (g1:List GenState) (k3 ta3:Tok) (a3 rp:Int) (tr:Tok) (k0 k1 k2 ta2:Tok) (a2 lp:Int) (tl:Tok) (s:List Nat) (ts:Tok) (a:Int) (ta:Tok) : (r_st3 (W b w) n T g n0 T0 g0 n1 T1 g1 k3 ta3 a3 rp tr k0 k1 k2 ta2 a2 lp tl s ts a ta).M [false,false] = (r_st3 (W b w) n T g n0 T0 g0 n1 T1 g1 k3 ta3 a3 rp tr k0 k1 k2 ta2 a2 lp tl s ts a ta).N (b_st3 n T n0 T0 g0 n1 T1 g1 k3 ta3 a3 rp tr k0 k1 k2 ta2 a2 lp tl s ts a ta) (.done (.ok (.ret (.str (sx s) ts)))) (1) (2) g []:=by cases b <;> kernel_rfl
noncomputable def g_st3 {b:Bool} {w:World} (n0 T0:Nat) (g0:List GenState) (n1 T1:Nat) (g1:List GenState) (k3 ta3:Tok) (a3 rp:Int) (tr:Tok) (k0 k1 k2 ta2:Tok) (a2 lp:Int) (tl:Tok) (s:List Nat) (ts:Tok) (a:Int) (ta:Tok):=mkK (fun n T g => e_st3 b w n T g n0 T0 g0 n1 T1 g1 k3 ta3 a3 rp tr k0 k1 k2 ta2 a2 lp tl s ts a ta) (fun _ _ _ => rfl) (by decide)
theorem ok_hp {w:World} {x:Sum} {n T lv:Nat} (hneed:x.need = []) (h:∀ (A:Around) (b:Nat) (R:Result → Shared → Prop) (s:Shared) (F:List (Addr × Obj)) (H:Heap),Lv A b → b ≤ x.lv → Hp w H s.heap F →
    (∀ s',Nx w H s s' x.dm x.di (newsG s.heap.objs.size s.toks x.news ++ F) → R (x.r s.heap.objs.size s.toks) s') → codeAny (model P0 w) A x.c R s) : x.Ok (G0 w n T lv):=by
  intro A b R s hd hu hh hb K hn nd ap post
  have fin : ∀ (F:List (Addr × Obj)),Hp w s.heap s.heap F → (∀ o,s.heap.get? 753 = some o → (753,o) ∈ F) → codeAny (model P0 w) A x.c R s:=by
    intro F D h7
    refine h A b R s F s.heap ⟨hd,hu,hh⟩ hb D fun s' N => ?_
    have q:=post s'.heap N.size (fun b o e _ => ?_) (fun y hy => by rw [hneed] at hy; cases hy) fun p hp => N.hp.own p (List.mem_append_left _ hp)
    · obtain ⟨h',g',d',t',o'⟩:=s'
      have e1:=N.gens
      have e2:=N.drawn
      have e3:=N.os
      have e4:=N.toks
      dsimp only at e1 e2 e3 e4
      subst e1 e2 e3 e4
      exact q
    · by_cases z : b = 753
      · subst z
        exact N.hp.own _ (List.mem_append_right _ (h7 o e))
      · exact N.hp.keep b o e z
  cases q : s.heap.get? 753 with
  | none => exact fin [] ⟨fun _ hp => (nomatch hp),List.nodup_nil,K,fun _ hp => (nomatch hp),fun _ _ e _ => e,fun _ hp => (nomatch hp)⟩ (fun o e => by rw [q] at e; cases e)
  | some o7 =>
    refine fin [(753,o7)] ⟨fun p hp => ?_,by simp,K,fun p hp => ?_,fun _ _ e _ => e,fun p hp => ?_⟩ (fun o e => by rw [q] at e; cases e; exact .head _)
    · cases List.mem_singleton.mp hp; exact q
    · cases List.mem_singleton.mp hp; kernel_rfl
    · cases List.mem_singleton.mp hp; exact .inr rfl
section
variable {b:Bool} {w:World} {n T lv:Nat}
theorem ok_srN {x:Nat} {r:List Nat} {t:Tok} (hs:∀ c ∈ x :: r,c ∈ safe8) (hx:(x :: r).length ≤ 16777216) : (s_srN (x :: r) t).Ok (G0 (W b w) n T lv):=by
  refine ok_hp rfl fun A v R s F H L hv D post => ?_
  refine g_sr0 (F_:=F) (x :: r) t (fun n T y hy => nm hy) (fun n T q hq => nm hq) L hv D fun s' N => ?_
  exact re_none N.hp.base hs hx (post s' ⟨N.hp,N.gens,N.drawn,N.os,N.toks,N.size⟩)
theorem ok_srS {x:List Nat} {t:Tok} {m:Sre.M} (e:(Sre.forSearch code0 ⟨x⟩ 0 0 x.length false).runFor 4 = m) (ho:m.outcome = some .matched) (hx:x.length ≤ 16777216) : (s_srS x t).Ok (G0 (W b w) n T lv):=by
  refine ok_hp rfl fun A v R s F H L hv D post => ?_
  refine g_sr0 (F_:=F) x t (fun n T y hy => nm hy) (fun n T q hq => nm hq) L hv D fun s' N => ?_
  refine re_some N.hp.base e ho hx fun o1 o2 => ?_
  have z:=post { s' with heap:=(s'.heap.push o1).push o2 } ⟨?_,N.gens,N.drawn,N.os,N.toks,by show _ = _ + 2; rw [Heap.size_push,Heap.size_push,N.size]⟩
  · have e : s'.heap.objs.size + 1 = s.heap.objs.size + 1:=by rw [N.size]
    rw [e]; exact z
  · have k : ∀ b o,s'.heap.get? b = some o → ((s'.heap.push o1).push o2).get? b = some o:=fun b o e => Heap.get?_push_of_some _ (Heap.get?_push_of_some _ e)
    have D' : Hp (W b w) H s'.heap F:=N.hp
    exact ⟨fun p hp => k _ _ (D'.own p hp),D'.nd,holds_of_keeps D'.base fun a o _ q => k a o q,D'.apart,fun b o e q => k b o (D'.keep b o e q),D'.new⟩
theorem quote_plain {x:Nat} {r:List Nat} {t:Tok} (hs:∀ c ∈ x :: r,c ∈ safe8) (hx:(x :: r).length ≤ 16777216) : (s_qtN (W b w) x r t).Ok (G0 (W b w) n T lv):=by
  refine ok_qtN x r t (fun n T y hy => ?_) fun n T q hq => ?_
  · cases hy with
    | head => exact ok_srN hs hx
    | tail _ hy => cases hy
  · simp only [b_qtN,List.mem_cons,List.not_mem_nil,or_false] at hq
    subst hq
    exact Nat.ble_eq_true_of_le hx
theorem sfree_one {l:List Nat} (h:39 ∉ l) : sfree (sx l) (Str.ofString "'") = true:=by
  have e : Str.ofString "'" = (⟨#[39]⟩ : Str):=by kernel_rfl
  rw [e]
  unfold sfree
  obtain ⟨f,hc⟩:=StrLaws.occ_chain (sx l) ⟨#[39]⟩ ((sx l).length + 1)
  cases q : Builtin.Str.occurrences (sx l) ⟨#[39]⟩ 0 (sx l).length ((sx l).length + 1) with
  | nil => rfl
  | cons c r =>
    rw [q] at hc
    have:=(StrLaws.subAt_one (sx l) 39 c).mp hc.2.1
    exact absurd (List.mem_of_getElem? this) h
theorem quote_quoted {x:Nat} {r:List Nat} {t:Tok} {m:Sre.M} (e:(Sre.forSearch code0 ⟨x :: r⟩ 0 0 (x :: r).length false).runFor 4 = m) (ho:m.outcome = some .matched) (hx:(x :: r).length + 2 ≤ 16777216) (hq:39 ∉ x :: r) : (s_qtS (W b w) x r t).Ok (G0 (W b w) n T lv):=by
  refine ok_qtS x r t (fun n T y hy => ?_) fun n T => all_pairs ?_
  · cases hy with
    | head => exact ok_srS e ho (by omega)
    | tail _ hy => cases hy
  · have f1 : Nat.ble (slen (sx (x :: r))) 16777216 = true:=Nat.ble_eq_true_of_le (by show (x :: r).length ≤ _; omega)
    have f2 : Nat.ble (slen (cat (Str.ofString "'") (sx (x :: r)))) 16777216 = true:=Nat.ble_eq_true_of_le (by show (x :: r).length + 1 ≤ _; omega)
    have f3 : Nat.ble (slen (cat (cat (Str.ofString "'") (sx (x :: r))) (Str.ofString "'"))) 16777216 = true:=Nat.ble_eq_true_of_le (by
      show ((39 :: x :: r) ++ [39]).length ≤ _
      simp at hx ⊢; omega)
    unfold b_qtS
    simp only [f1,f2,f3,sfree_one hq]
    rfl
end
theorem Nx.trans {w:World} {H:Heap} {s s₁ s₂:Shared} {m m' i i':Nat} {S S':List (Addr × Obj)} (N:Nx w H s s₁ m i S) (N':Nx w H s₁ s₂ m' i' S') : Nx w H s s₂ (m + m') (i + i') S' :=
  ⟨N'.hp,N'.gens.trans N.gens,N'.drawn.trans N.drawn,N'.os.trans N.os,by rw [N'.toks,N.toks,Nat.add_assoc],by rw [N'.size,N.size,Nat.add_assoc]⟩
theorem Nx.at {w:World} {H:Heap} {s s₁:Shared} {m m' i i':Nat} {S S':List (Addr × Obj)} (N:Nx w H s s₁ m i S) (hm:m = m') (hi:i = i') (hS:S = S') : Nx w H s s₁ m' i' S':=by
  subst hm hi hS; exact N
theorem bl_eq : Str.ofString " " = sx [32]:=by kernel_rfl
theorem seqs_bl (c:Nat) : seqs ⟨⟨[c]⟩⟩ (Str.ofString " ") = (c == 32):=by
  rw [bl_eq]
  show ([c] == [32]) = _
  by_cases h : c = 32 <;> simp [h]
section
variable {b:Bool} {w:World} {A:Around} {R:Result → Shared → Prop} {v:Nat} {F:List (Addr × Obj)} {H:Heap} (L:Nat) (k0 k1 k2:Tok) (x:List Nat) (ts:Tok) (hL:Lv A v) (hv:v ≤ 460) (hx:x.length ≤ 16777216)
include hL hv hx
theorem strip_l1 : ∀ (t a lp:Nat) (ta tl:Tok) (s:Shared),(∀ i,i < t → x[lp + i]? = some 32) → lp + t < x.length → t ≤ a → (a = t ∨ x[lp + t]? ≠ some 32) →
    Hp (W b w) H s.heap ((L,stF3 (W b w).params k0 k1 k2 x ts (a:Int) ta (lp:Int) tl) :: F) →
    (∀ (s':Shared) (ta tl:Tok),Nx (W b w) H s s' 0 (8 * t + (if a = t then 0 else 2)) ((L,stF3 (W b w).params k0 k1 k2 x ts ((a - t : Nat) : Int) ta ((lp + t : Nat) : Int) tl) :: F) → R (.ok .next) s') →
    codeAny (model P0 (W b w)) A (stL1 L) R s:=by
  have hf : Nat.ble (slen (sx x)) 16777216 = true:=Nat.ble_eq_true_of_le hx
  have sat_eq : ∀ i c,x[i]? = some c → sat (sx x) i = c:=fun i c e => by show x.getD i 0 = c; rw [List.getD_eq_getElem?_getD,e]; rfl
  intro t
  induction t with
  | zero =>
    intro a lp ta tl s h1 h2 h3 h4 D post
    cases a with
    | zero =>
      refine g_sa3 (F_:=F) L k0 k1 k2 x ts ta lp tl (fun n T y hy => nm hy) (fun n T q hq => nm hq) hL hv D fun s' N => ?_
      exact post s' ta tl N
    | succ k =>
      refine g_sa2 (F_:=F) L k0 k1 k2 x ts k ta lp tl (fun n T y hy => nm hy) (fun n T => all_pairs ?_) hL hv D fun s' N => ?_
      · rcases h4 with h4 | h4
        · omega
        · have hlt : lp < x.length:=by omega
          have e:=sat_eq lp x[lp] (List.getElem?_eq_getElem hlt)
          have hne : x[lp] ≠ 32:=fun z => h4 (by rw [Nat.add_zero,List.getElem?_eq_getElem hlt,z])
          unfold b_sa2
          simp only [hf,Int.toNat_natCast,e,seqs_bl]
          have e1 : (x[lp] == 32) = false:=by simp [hne]
          have e2 : decide ((0 : Int) ≤ (lp:Int)) = true:=decide_eq_true (by omega)
          have e3 : decide ((lp:Int) < ((slen (sx x) : Nat) : Int)) = true:=decide_eq_true (by rw [slen_sx]; omega)
          rw [e1,e2,e3]
          rfl
      · exact post s' ta tl (N.at rfl (by simp) (by simp))
  | succ t ih =>
    intro a lp ta tl s h1 h2 h3 h4 D post
    obtain ⟨k,rfl⟩ : ∃ k,a = k + 1:=⟨a - 1,by omega⟩
    have h0:=h1 0 (by omega)
    rw [Nat.add_zero] at h0
    refine g_sa1 (F_:=F) L k0 k1 k2 x ts k ta lp tl (fun n T y hy => nm hy) (fun n T => all_pairs ?_) hL hv D fun s₁ N₁ => ?_
    · unfold b_sa1
      simp only [hf,Int.toNat_natCast,sat_eq lp 32 h0,seqs_bl]
      have e2 : decide ((0 : Int) ≤ (lp:Int)) = true:=decide_eq_true (by omega)
      have e3 : decide ((lp:Int) < ((slen (sx x) : Nat) : Int)) = true:=decide_eq_true (by rw [slen_sx]; omega)
      rw [e2,e3]
      rfl
    · have D₁:=N₁.hp
      refine ih k (lp + 1) (s.toks + 6) (s.toks + 3) s₁ (fun i hi => by have:=h1 (i + 1) (by omega); rw [← this]; congr 1; omega) (by omega) (by omega) (by
        rcases h4 with h4 | h4
        · exact .inl (by omega)
        · exact .inr (by rw [show lp + 1 + t = lp + (t + 1) by omega]; exact h4)) (by
        have e : (Int.ofNat (k + 1) - 1 : Int) = (k:Int):=by simp
        have e' : ((lp:Int) + 1) = ((lp + 1 : Nat) : Int):=by simp
        simp only [e,e'] at D₁
        exact D₁) fun s₂ ta2 tl2 N₂ => ?_
      refine post s₂ ta2 tl2 ((N₁.trans N₂).at rfl ?_ ?_)
      · by_cases z : k = t
        · subst z; simp; omega
        · have z' : ¬ (k + 1 = t + 1):=by omega
          rw [if_neg z,if_neg z']; omega
      · have e : k + 1 - (t + 1) = k - t:=by omega
        have e' : lp + (t + 1) = lp + 1 + t:=by omega
        rw [e,e']
theorem strip_l2 (k3:Tok) (lp:Int) (tl:Tok) : ∀ (t a rp:Nat) (ta tr:Tok) (s:Shared),(∀ i,i < t → x[rp - i]? = some 32) → rp < x.length → t ≤ rp → t ≤ a → (a = t ∨ x[rp - t]? ≠ some 32) →
    Hp (W b w) H s.heap ((L,stF4 (W b w).params k0 k1 k2 k3 x ts (a:Int) ta lp tl (rp:Int) tr) :: F) →
    (∀ (s':Shared) (ta tr:Tok),Nx (W b w) H s s' 0 (8 * t + (if a = t then 0 else 2)) ((L,stF4 (W b w).params k0 k1 k2 k3 x ts ((a - t : Nat) : Int) ta lp tl ((rp - t : Nat) : Int) tr) :: F) → R (.ok .next) s') →
    codeAny (model P0 (W b w)) A (stL2 L) R s:=by
  have hf : Nat.ble (slen (sx x)) 16777216 = true:=Nat.ble_eq_true_of_le hx
  have sat_eq : ∀ i c,x[i]? = some c → sat (sx x) i = c:=fun i c e => by show x.getD i 0 = c; rw [List.getD_eq_getElem?_getD,e]; rfl
  intro t
  induction t with
  | zero =>
    intro a rp ta tr s h1 h2 h5 h3 h4 D post
    cases a with
    | zero =>
      refine g_sb3 (F_:=F) L k0 k1 k2 k3 x ts ta lp tl rp tr (fun n T y hy => nm hy) (fun n T q hq => nm hq) hL hv D fun s' N => ?_
      exact post s' ta tr N
    | succ k =>
      refine g_sb2 (F_:=F) L k0 k1 k2 k3 x ts k ta lp tl rp tr (fun n T y hy => nm hy) (fun n T => all_pairs ?_) hL hv D fun s' N => ?_
      · rcases h4 with h4 | h4
        · omega
        · have e:=sat_eq rp x[rp] (List.getElem?_eq_getElem h2)
          have hne : x[rp] ≠ 32:=fun z => h4 (by rw [Nat.sub_zero,List.getElem?_eq_getElem h2,z])
          unfold b_sb2
          simp only [hf,Int.toNat_natCast,e,seqs_bl]
          have e1 : (x[rp] == 32) = false:=by simp [hne]
          have e2 : decide ((0 : Int) ≤ (rp:Int)) = true:=decide_eq_true (by omega)
          have e3 : decide ((rp:Int) < ((slen (sx x) : Nat) : Int)) = true:=decide_eq_true (by rw [slen_sx]; omega)
          rw [e1,e2,e3]
          rfl
      · exact post s' ta tr (N.at rfl (by simp) (by simp))
  | succ t ih =>
    intro a rp ta tr s h1 h2 h5 h3 h4 D post
    obtain ⟨k,rfl⟩ : ∃ k,a = k + 1:=⟨a - 1,by omega⟩
    have h0:=h1 0 (by omega)
    rw [Nat.sub_zero] at h0
    refine g_sb1 (F_:=F) L k0 k1 k2 k3 x ts k ta lp tl rp tr (fun n T y hy => nm hy) (fun n T => all_pairs ?_) hL hv D fun s₁ N₁ => ?_
    · unfold b_sb1
      simp only [hf,Int.toNat_natCast,sat_eq rp 32 h0,seqs_bl]
      have e2 : decide ((0 : Int) ≤ (rp:Int)) = true:=decide_eq_true (by omega)
      have e3 : decide ((rp:Int) < ((slen (sx x) : Nat) : Int)) = true:=decide_eq_true (by rw [slen_sx]; omega)
      rw [e2,e3]
      rfl
    · have D₁:=N₁.hp
      refine ih k (rp - 1) (s.toks + 6) (s.toks + 3) s₁ (fun i hi => by have:=h1 (i + 1) (by omega); rw [← this]; congr 1; omega) (by omega) (by omega) (by omega) (by
        rcases h4 with h4 | h4
        · exact .inl (by omega)
        · exact .inr (by rw [show rp - 1 - t = rp - (t + 1) by omega]; exact h4)) (by
        have e : (Int.ofNat (k + 1) - 1 : Int) = (k:Int):=by simp
        have e' : ((rp:Int) - 1) = ((rp - 1 : Nat) : Int):=by omega
        simp only [e,e'] at D₁
        exact D₁) fun s₂ ta2 tr2 N₂ => ?_
      refine post s₂ ta2 tr2 ((N₁.trans N₂).at rfl ?_ ?_)
      · by_cases z : k = t
        · subst z; simp; omega
        · have z' : ¬ (k + 1 = t + 1):=by omega
          rw [if_neg z,if_neg z']; omega
      · have e : k + 1 - (t + 1) = k - t:=by omega
        have e' : rp - (t + 1) = rp - 1 - t:=by omega
        rw [e,e']
end
def s_strip (x:List Nat) (ts:Tok) (a:Nat) (ta:Tok) (res:List Nat) (di:Nat) (tk:Tok → Tok) : Sum :=
  ⟨.call (.ref 51) ⟨[.str (sx x) ts,.int (a:Int) ta],[]⟩,fun _ T => .ok (.ret (.str (sx res) (tk T))),di,2,[],[],450⟩
theorem strip_ok {b:Bool} {w:World} {x:List Nat} {ts:Tok} {a t1 t2:Nat} (hx:x.length ≤ 16777216) (ha:a = t1 + t2) (h1:∀ i,i < t1 → x[i]? = some 32) (h2:∀ i,i < t2 → x[x.length - 1 - i]? = some 32) (h3:t1 + t2 < x.length) (h4:t2 = 0 ∨ x[t1]? ≠ some 32) :
    ∃ (di:Nat) (tk:Tok → Tok),∀ n T lv ta,(s_strip x ts a ta ((x.drop t1).take (x.length - t1 - t2)) di tk).Ok (G0 (W b w) n T lv):=by
  have hf : Nat.ble (slen (sx x)) 16777216 = true:=Nat.ble_eq_true_of_le hx
  have go : ∀ (di:Nat) (tk:Tok → Tok),di = 4 + (8 * t1 + (if a = t1 then 0 else 2)) + (5 + (8 * t2 + 0)) + (if a = 0 then 2 else 3) → (∀ T,tk T = if a = 0 then ts else T + (4 + (8 * t1 + (if a = t1 then 0 else 2)) + (5 + (8 * t2 + 0)) + 2)) → ∀ n T lv ta,(s_strip x ts a ta ((x.drop t1).take (x.length - t1 - t2)) di tk).Ok (G0 (W b w) n T lv):=by
    intro di tk hdi htk n T lv ta
    refine ok_hp rfl fun A v R s F H L hv D post => ?_
    have hv : v ≤ 450:=hv
    refine g_st0 (F_:=F) x ts a ta (fun n T y hy => nm hy) (fun n T q hq => nm hq) L hv D fun A₁ s₁ L₁ N₁ M₁ => ?_
    have D₁:=N₁.hp
    generalize hn0 : s.heap.objs.size = n0 at D₁ M₁ ⊢
    generalize hT0 : s.toks = T0 at D₁ M₁ ⊢
    generalize s.gens.toList = g0 at M₁ ⊢
    refine strip_l1 (F:=F) n0 T0 (T0 + 1) (T0 + 3) x ts L₁ (by omega) hx t1 a 0 ta (T0 + 2) s₁ (fun i hi => by rw [Nat.zero_add]; exact h1 i hi) (by omega) (by omega) (by
      rcases h4 with h4 | h4
      · exact .inl (by omega)
      · exact .inr (by rw [Nat.zero_add]; exact h4)) D₁ fun s₂ ta2 tl2 N₂ => ?_
    have D₂:=N₂.hp
    rw [Nat.zero_add,show a - t1 = t2 by omega] at D₂
    refine g_st1 (F_:=F) n0 T0 g0 T0 (T0 + 1) (T0 + 3) ta2 (t2:Nat) (t1:Nat) tl2 x ts a ta (fun n T y hy => nm hy) (fun n T q hq => ?_) (M₁.nx N₂.drawn N₂.os) hv D₂ fun A₃ s₃ L₃ N₃ M₃ => ?_
    · simp only [b_st1,List.mem_cons,List.not_mem_nil,or_false] at hq
      subst hq
      exact hf
    have D₃:=N₃.hp
    generalize hn2 : s₂.heap.objs.size = n2 at D₃ M₃ ⊢
    generalize hT2 : s₂.toks = T2 at D₃ M₃ ⊢
    generalize s₂.gens.toList = g2 at M₃ ⊢
    have er : ((slen (sx x) : Nat) : Int) - 1 = ((x.length - 1 : Nat) : Int):=by rw [slen_sx]; omega
    simp only [er] at D₃
    refine strip_l2 (F:=F) n0 T0 (T0 + 1) (T0 + 3) x ts L₃ (by omega) hx (T2 + 4) (t1:Nat) tl2 t2 t2 (x.length - 1) ta2 (T2 + 3) s₃ h2 (by omega) (by omega) (by omega) (.inl rfl) D₃ fun s₄ ta4 tr4 N₄ => ?_
    have D₄:=N₄.hp
    have N14:=((N₁.trans N₂).trans (N₃.trans N₄))
    rw [if_pos rfl] at N14
    have S34:=N₄.sm
    by_cases ha0 : a = 0
    · have e1 : t1 = 0:=by omega
      have e2 : t2 = 0:=by omega
      subst e1 e2
      refine g_st3 (F_:=F) n0 T0 g0 n2 T2 g2 (T2 + 4) ta4 ((0 - 0 : Nat) : Int) ((x.length - 1 - 0 : Nat) : Int) tr4 T0 (T0 + 1) (T0 + 3) ta2 ((0 : Nat) : Int) ((0 : Nat) : Int) tl2 x ts a ta (fun n T y hy => nm hy) (fun n T => all_pairs ?_) (M₃.nx S34.drawn S34.os) hv D₄ fun s₅ N₅ => ?_
      · unfold b_st3
        simp only [hf]
        have e3 : decide (((0 : Nat) : Int) = 0) = true:=rfl
        have e4 : decide (((x.length - 1 - 0 : Nat) : Int) + 1 = ((slen (sx x) : Nat) : Int)) = true:=decide_eq_true (by rw [slen_sx]; omega)
        rw [e3,e4]
        rfl
      · have z : R (.ok (.ret (.str (sx ((x.drop 0).take (x.length - 0 - 0))) (tk s.toks)))) s₅:=post s₅ ((N14.trans N₅).at rfl (by show _ = di; rw [hdi,if_pos ha0,if_pos ha0]) rfl)
        rw [htk,if_pos ha0,List.drop_zero,Nat.sub_zero,Nat.sub_zero,List.take_length] at z
        exact z
    · refine g_st2 (F_:=F) n0 T0 g0 n2 T2 g2 (T2 + 4) ta4 ((t2 - t2 : Nat) : Int) ((x.length - 1 - t2 : Nat) : Int) tr4 T0 (T0 + 1) (T0 + 3) ta2 ((t2:Nat) : Int) ((t1:Nat) : Int) tl2 x ts a ta (fun n T y hy => nm hy) (fun n T => all_pairs ?_) (M₃.nx S34.drawn S34.os) hv D₄ fun s₅ N₅ => ?_
      · unfold b_st2
        simp only [hf]
        have e3 : decide ((0 : Int) ≤ ((t1:Nat) : Int)) = true:=decide_eq_true (by omega)
        have e4 : decide (((t1:Nat) : Int) ≤ ((x.length - 1 - t2 : Nat) : Int) + 1) = true:=decide_eq_true (by omega)
        have e5 : decide (((x.length - 1 - t2 : Nat) : Int) + 1 ≤ ((slen (sx x) : Nat) : Int)) = true:=decide_eq_true (by rw [slen_sx]; omega)
        have e6 : decide (((x.length - 1 - t2 : Nat) : Int) + 1 - ((t1:Nat) : Int) < ((slen (sx x) : Nat) : Int)) = true:=decide_eq_true (by rw [slen_sx]; omega)
        rw [e3,e4,e5,e6]
        rfl
      · have z : R (.ok (.ret (.str (sx ((x.drop t1).take (x.length - t1 - t2))) (tk s.toks)))) s₅:=post s₅ ((N14.trans N₅).at rfl (by show _ = di; rw [hdi,if_neg ha0]) rfl)
        rw [htk,if_neg ha0] at z
        have e7 : spart (sx x) ((t1:Nat) : Int) (((x.length - 1 - t2 : Nat) : Int) + 1) = sx ((x.drop t1).take (x.length - t1 - t2)):=by
          unfold spart
          show (⟨⟨(x.drop ((t1:Nat) : Int).toNat).take ((((x.length - 1 - t2 : Nat) : Int) + 1).toNat - ((t1:Nat) : Int).toNat)⟩⟩ : Str) = _
          rw [Int.toNat_natCast,show ((((x.length - 1 - t2 : Nat) : Int) + 1).toNat - t1) = x.length - t1 - t2 by omega]
        show R (.ok (.ret (.str (spart (sx x) ((t1:Nat) : Int) (((x.length - 1 - t2 : Nat) : Int) + 1)) (s₄.toks + 2)))) s₅
        rw [e7,N14.toks]
        rw [show s.toks + (4 + (8 * t1 + if a = t1 then 0 else 2) + (5 + (8 * t2 + 0))) + 2 = s.toks + (4 + (8 * t1 + if a = t1 then 0 else 2) + (5 + (8 * t2 + 0)) + 2) by rw [Nat.add_assoc]]
        exact z
  exact ⟨_,_,go _ _ rfl fun _ => rfl⟩
end Mine
end
noncomputable section
open PySem PySem.W PySem.W.X PyProof.Rows PySem.Calls
open AutoSeq1 (wpAny_loadPart')
set_option maxRecDepth 100000
set_option maxHeartbeats 0
namespace Mine
def tiO (t:Addr) (i:Nat) : Obj:=⟨.type "tuple_iterator",none,.fields ⟨[.ref t,.int (Int.ofNat i) 0]⟩,⟨[]⟩⟩
def enO (it:Addr) (i:Nat) (own:Value) (fl:Bool) : Obj:=⟨.type "enumerate",none,.fields ⟨[own,.bool fl,.ref it,.int (Int.ofNat i) 0,.none,.none]⟩,⟨[]⟩⟩
def s_enew : Sum:=⟨.call (.builtin "enumerate.__new__") ⟨[.type "enumerate",.ref 806],[]⟩,fun n _ => .ok (.ret (.ref (n + 1))),0,2,[],[(1,fun n _ => enO n 0 .none false),(0,fun _ _ => tiO 806 0)],500⟩
theorem ok_enew {b:Bool} {w:World} {n T lv:Nat} : s_enew.Ok (G0 (W b w) n T lv):=by
  intro A v R s hd hu hh hb K hn nd ap post
  have h806 : s.heap.get? 806 = some (o806 (W b w).params):=holds_at K (by rfl)
  refine codeAny_of_tree ?_
  show wpAny _ A.in1 (do checkBuiltinCall "enumerate.__new__" ⟨[.type "enumerate",.ref 806],[]⟩; again (.builtin "enumerate.__new__" ⟨[.type "enumerate",.ref 806],[]⟩)) _ _ s
  refine wpAny_bind (wpAny_of_eq (F.newCall_enumerate_1 _) (wpAny_pure ⟨Code.quiet_builtin _ (by decide +kernel),codeAny_builtin F.entry_enumerate_new ?_⟩))
  have key : ∀ h',h' = (s.heap.push (tiO 806 0)).push (enO s.heap.objs.size 0 .none false) → R (.ok (.ret (.ref (s.heap.objs.size + 1)))) { s with heap:=h' }:=by
    rintro h' rfl
    refine post _ (by rw [Heap.size_push,Heap.size_push]; rfl) (fun b o e _ => Heap.get?_push_of_some _ (Heap.get?_push_of_some _ e)) (fun _ hy => nm hy) fun p hp => ?_
    have hp : p ∈ [(s.heap.objs.size + 1,enO s.heap.objs.size 0 .none false),(s.heap.objs.size + 0,tiO 806 0)]:=hp
    rcases List.mem_cons.mp hp with rfl | hp
    · have e : s.heap.objs.size + 1 = (s.heap.push (tiO 806 0)).objs.size:=(Heap.size_push ..).symm
      show Heap.get? _ (s.heap.objs.size + 1) = _
      rw [e]
      exact Heap.get?_push_size _ rfl
    · cases List.mem_singleton.mp hp
      exact Heap.get?_push_of_some _ (Heap.get?_push_size _ rfl)
  obtain ⟨hp,g,d,tk,os⟩:=s
  have hsub:=sub_enumerate
  have hT : Heap.IsTuple (Shared.heap ⟨hp,g,d,tk,os⟩) 806 _:=⟨_,h806,rfl,0,rfl⟩
  have hz : (hp.push (tiO 806 0)).objs.size = hp.objs.size + 1:=Heap.size_push ..
  have key2 : R (.ok (.ret (.ref (hp.push { cls:=.type "tuple_iterator",data:=.fields #[.ref 806,.int 0 0] }).objs.size))) ⟨(hp.push { cls:=.type "tuple_iterator",data:=.fields #[.ref 806,.int 0 0] }).push { cls:=.type "enumerate",data:=.fields #[.none,.bool false,.ref hp.objs.size,rawInt 0,.none,.none] },g,d,tk,os⟩:=by
    have z:=key _ rfl
    rw [← hz] at z
    exact z
  unfold Builtin.«enumerate.__new__»
  wp_walk using wpAny_loadPart' h806
  refine wpAny_stack_any fun st => wpAny_pure ?_
  split
  · rename_i c _ _ _ _ _
    cases (c == Value.type "enumerate")
    · wp_walk using wpAny_loadPart' h806,wpAny_pyIter_tuple hT
      exact key2
    · wp_walk using wpAny_loadPart' h806,wpAny_pyIter_tuple hT
      exact key2
  · wp_walk using wpAny_loadPart' h806,wpAny_pyIter_tuple hT
    exact key2
end Mine
end
noncomputable section
open PySem PySem.W PySem.W.X PyProof.Rows PySem.Calls
set_option maxRecDepth 100000
set_option maxHeartbeats 0
namespace Mine
abbrev twAssign:=@PySem.W.Fast.tw17772580674575903948
abbrev twExecs:=@PySem.W.Fast.tw12563942051412417395
abbrev twNext:=@PySem.W.Fast.tw9404975358583537561
abbrev twIter:=@PySem.W.Fast.tw8711993805878244202
def fmBody : List Stmt:=match fnAt 52 with
  | .FunctionDef _ _ b _ _ _ _ _ _ _ => b
  | _ => []
def fmScope : Scope:=match fnAt 52 with
  | .FunctionDef _ _ _ _ _ _ sc _ _ _ => sc
  | _ => default
def fmEnv (L:Addr) : Env:=⟨fmScope,L,3,[],(sx [102,105,108,101,109,111,100,101,46,60,108,111,99,97,108,115,62,46]),some 813,.ref 812,some L,0⟩
def fmT : PySem.Expr:=match fmBody.getD 1 (.Pass default) with
  | .For t _ _ _ _ => t
  | _ => default
def fmB : List Stmt:=match fmBody.getD 1 (.Pass default) with
  | .For _ _ b _ _ => b
  | _ => []
def fmO : List Stmt:=match fmBody.getD 1 (.Pass default) with
  | .For _ _ _ o _ => o
  | _ => []
def fmLoop (L en:Addr) : Code:=.forLoop fmT (.ref en) fmB fmO (fmEnv L)
def enP (it:Addr) (i:Nat) (own last:Value) : Obj:=⟨.type "enumerate",none,.fields ⟨[own,.bool false,.ref it,.int (Int.ofNat i) 0,.none,last]⟩,⟨[]⟩⟩
def fmF2 (P:Params) (k0 k1:Tok) (m:Int) (tm:Tok) (pl:Addr) : Obj :=
  ⟨.type "frame",none,.dict ⟨[en P (sx [109,111,100,101]) k0 (.int m tm),en P (sx [112,101,114,109]) k1 (.ref pl)]⟩ 2,⟨[]⟩⟩
def fmF6 (P:Params) (k0 k1 k2 k3 k4 k5:Tok) (m:Int) (tm:Tok) (pl:Addr) (v2 v3 v4 v5:Value) : Obj :=
  ⟨.type "frame",none,.dict ⟨[en P (sx [109,111,100,101]) k0 (.int m tm),en P (sx [112,101,114,109]) k1 (.ref pl),en P (sx [105,110,100,101,120]) k2 v2,en P (sx [116,97,98,108,101]) k3 v3,en P (sx [98,105,116]) k4 v4,en P (sx [99,104,97,114]) k5 v5]⟩ 6,⟨[]⟩⟩
def tup2 (a b:Value) : Obj:=⟨.type "tuple",none,.seq ⟨[a,b]⟩ 0,⟨[]⟩⟩
def u_fm0 (w:World) (n T:Nat) (m:Int) (tm:Tok) : List Sum:=[s_enew]
def r_fm0 (w:World) (n T:Nat) (g:List GenState) (m:Int) (tm:Tok) : Out:=runFn (G0 w n T 450) 20000 (digits 24 1050793278609522163660239173419337421164608) (u_fm0 w n T m tm) (.call (.ref 813) ⟨[.int m tm],[]⟩) [] g
def b_fm0 (n T:Nat) (m:Int) (tm:Tok) : List (Bool × Bool):=[]
theorem e_fm0 (b:Bool) (w:World) (n T:Nat) (g:List GenState) (m:Int) (tm:Tok) : (r_fm0 (W b w) n T g m tm).M3 [] = (r_fm0 (W b w) n T g m tm).N3 (b_fm0 n T m tm) (fmLoop n (n + 2 + 1)) (1) (4) (2) g [((n + 2 + 1),enP (n + 2) 0 .none .none),((n + 2),tiO 806 0),((n + 1),liO [] 0),(n,fmF2 (W b w).params T (T + 1) m tm (n + 1))]:=by cases b <;> kernel_rfl
noncomputable def g_fm0 {b:Bool} {w:World} (m:Int) (tm:Tok):=mkFS (fun n T g => e_fm0 b w n T g m tm) (fun _ _ _ => rfl) (by decide)
def u_fn0 (w:World) (n T:Nat) (L en ti:Nat) (la:Value) : List Sum:=[]
def r_fn0 (w:World) (n T:Nat) (g:List GenState) (L en ti:Nat) (la:Value) : Out:=runT w n T 460 20000 (digits 28 11877600608149539125274458234418728914336310366209) (u_fn0 w n T L en ti la) (fmLoop L en) (partT (Sem.bind ((twNext (.ref en)).onRaise (fun _ => standAt { fmT.pos with line:=0 })) fun o => .pure (match o with | some v => Flow.ret v | none => Flow.next))) [(en,enP ti 0 .none la),(ti,tiO 806 0)] g
def b_fn0 (n T:Nat) (L en ti:Nat) (la:Value) : List (Bool × Bool):=[]
theorem e_fn0 (b:Bool) (w:World) (n T:Nat) (g:List GenState) (L en ti:Nat) (la:Value) : (r_fn0 (W b w) n T g L en ti la).M [] = (r_fn0 (W b w) n T g L en ti la).N (b_fn0 n T L en ti la) (.done (.ok (.ret (.ref n)))) (1) (1) g [(n,tup2 (.int (Int.ofNat 0) T) (.ref 781)),(en,enP ti 1 (.int (Int.ofNat n) 0) (.ref 781)),(ti,tiO 806 1)]:=by cases b <;> kernel_rfl
noncomputable def g_fn0 {b:Bool} {w:World} (L en ti:Nat) (la:Value):=mkP (fun n T g => e_fn0 b w n T g L en ti la) (fun _ _ _ => rfl) rfl (by decide)
def u_fn1 (w:World) (n T:Nat) (L en ti:Nat) (la:Value) : List Sum:=[]
def r_fn1 (w:World) (n T:Nat) (g:List GenState) (L en ti:Nat) (la:Value) : Out:=runT w n T 460 20000 (digits 28 11877600608149539125274458234418728914336310366209) (u_fn1 w n T L en ti la) (fmLoop L en) (partT (Sem.bind ((twNext (.ref en)).onRaise (fun _ => standAt { fmT.pos with line:=0 })) fun o => .pure (match o with | some v => Flow.ret v | none => Flow.next))) [(en,enP ti 1 .none la),(ti,tiO 806 1)] g
def b_fn1 (n T:Nat) (L en ti:Nat) (la:Value) : List (Bool × Bool):=[]
theorem e_fn1 (b:Bool) (w:World) (n T:Nat) (g:List GenState) (L en ti:Nat) (la:Value) : (r_fn1 (W b w) n T g L en ti la).M [] = (r_fn1 (W b w) n T g L en ti la).N (b_fn1 n T L en ti la) (.done (.ok (.ret (.ref n)))) (1) (1) g [(n,tup2 (.int (Int.ofNat 1) T) (.ref 783)),(en,enP ti 2 (.int (Int.ofNat n) 0) (.ref 783)),(ti,tiO 806 2)]:=by cases b <;> kernel_rfl
noncomputable def g_fn1 {b:Bool} {w:World} (L en ti:Nat) (la:Value):=mkP (fun n T g => e_fn1 b w n T g L en ti la) (fun _ _ _ => rfl) rfl (by decide)
def u_fn2 (w:World) (n T:Nat) (L en ti:Nat) (la:Value) : List Sum:=[]
def r_fn2 (w:World) (n T:Nat) (g:List GenState) (L en ti:Nat) (la:Value) : Out:=runT w n T 460 20000 (digits 28 11877600608149539125274458234418728914336310366209) (u_fn2 w n T L en ti la) (fmLoop L en) (partT (Sem.bind ((twNext (.ref en)).onRaise (fun _ => standAt { fmT.pos with line:=0 })) fun o => .pure (match o with | some v => Flow.ret v | none => Flow.next))) [(en,enP ti 2 .none la),(ti,tiO 806 2)] g
def b_fn2 (n T:Nat) (L en ti:Nat) (la:Value) : List (Bool × Bool):=[]
theorem e_fn2 (b:Bool) (w:World) (n T:Nat) (g:List GenState) (L en ti:Nat) (la:Value) : (r_fn2 (W b w) n T g L en ti la).M [] = (r_fn2 (W b w) n T g L en ti la).N (b_fn2 n T L en ti la) (.done (.ok (.ret (.ref n)))) (1) (1) g [(n,tup2 (.int (Int.ofNat 2) T) (.ref 785)),(en,enP ti 3 (.int (Int.ofNat n) 0) (.ref 785)),(ti,tiO 806 3)]:=by cases b <;> kernel_rfl
noncomputable def g_fn2 {b:Bool} {w:World} (L en ti:Nat) (la:Value):=mkP (fun n T g => e_fn2 b w n T g L en ti la) (fun _ _ _ => rfl) rfl (by decide)
def u_fn3 (w:World) (n T:Nat) (L en ti:Nat) (la:Value) : List Sum:=[]
def r_fn3 (w:World) (n T:Nat) (g:List GenState) (L en ti:Nat) (la:Value) : Out:=runT w n T 460 20000 (digits 28 11877600608149539125274458234418728914336310366209) (u_fn3 w n T L en ti la) (fmLoop L en) (partT (Sem.bind ((twNext (.ref en)).onRaise (fun _ => standAt { fmT.pos with line:=0 })) fun o => .pure (match o with | some v => Flow.ret v | none => Flow.next))) [(en,enP ti 3 .none la),(ti,tiO 806 3)] g
def b_fn3 (n T:Nat) (L en ti:Nat) (la:Value) : List (Bool × Bool):=[]
theorem e_fn3 (b:Bool) (w:World) (n T:Nat) (g:List GenState) (L en ti:Nat) (la:Value) : (r_fn3 (W b w) n T g L en ti la).M [] = (r_fn3 (W b w) n T g L en ti la).N (b_fn3 n T L en ti la) (.done (.ok (.ret (.ref n)))) (1) (1) g [(n,tup2 (.int (Int.ofNat 3) T) (.ref 789)),(en,enP ti 4 (.int (Int.ofNat n) 0) (.ref 789)),(ti,tiO 806 4)]:=by cases b <;> kernel_rfl
noncomputable def g_fn3 {b:Bool} {w:World} (L en ti:Nat) (la:Value):=mkP (fun n T g => e_fn3 b w n T g L en ti la) (fun _ _ _ => rfl) rfl (by decide)
def u_fn4 (w:World) (n T:Nat) (L en ti:Nat) (la:Value) : List Sum:=[]
def r_fn4 (w:World) (n T:Nat) (g:List GenState) (L en ti:Nat) (la:Value) : Out:=runT w n T 460 20000 (digits 28 11877600608149539125274458234418728914336310366209) (u_fn4 w n T L en ti la) (fmLoop L en) (partT (Sem.bind ((twNext (.ref en)).onRaise (fun _ => standAt { fmT.pos with line:=0 })) fun o => .pure (match o with | some v => Flow.ret v | none => Flow.next))) [(en,enP ti 4 .none la),(ti,tiO 806 4)] g
def b_fn4 (n T:Nat) (L en ti:Nat) (la:Value) : List (Bool × Bool):=[]
theorem e_fn4 (b:Bool) (w:World) (n T:Nat) (g:List GenState) (L en ti:Nat) (la:Value) : (r_fn4 (W b w) n T g L en ti la).M [] = (r_fn4 (W b w) n T g L en ti la).N (b_fn4 n T L en ti la) (.done (.ok (.ret (.ref n)))) (1) (1) g [(n,tup2 (.int (Int.ofNat 4) T) (.ref 791)),(en,enP ti 5 (.int (Int.ofNat n) 0) (.ref 791)),(ti,tiO 806 5)]:=by cases b <;> kernel_rfl
noncomputable def g_fn4 {b:Bool} {w:World} (L en ti:Nat) (la:Value):=mkP (fun n T g => e_fn4 b w n T g L en ti la) (fun _ _ _ => rfl) rfl (by decide)
def u_fn5 (w:World) (n T:Nat) (L en ti:Nat) (la:Value) : List Sum:=[]
def r_fn5 (w:World) (n T:Nat) (g:List GenState) (L en ti:Nat) (la:Value) : Out:=runT w n T 460 20000 (digits 28 11877600608149539125274458234418728914336310366209) (u_fn5 w n T L en ti la) (fmLoop L en) (partT (Sem.bind ((twNext (.ref en)).onRaise (fun _ => standAt { fmT.pos with line:=0 })) fun o => .pure (match o with | some v => Flow.ret v | none => Flow.next))) [(en,enP ti 5 .none la),(ti,tiO 806 5)] g
def b_fn5 (n T:Nat) (L en ti:Nat) (la:Value) : List (Bool × Bool):=[]
theorem e_fn5 (b:Bool) (w:World) (n T:Nat) (g:List GenState) (L en ti:Nat) (la:Value) : (r_fn5 (W b w) n T g L en ti la).M [] = (r_fn5 (W b w) n T g L en ti la).N (b_fn5 n T L en ti la) (.done (.ok (.ret (.ref n)))) (1) (1) g [(n,tup2 (.int (Int.ofNat 5) T) (.ref 793)),(en,enP ti 6 (.int (Int.ofNat n) 0) (.ref 793)),(ti,tiO 806 6)]:=by cases b <;> kernel_rfl
noncomputable def g_fn5 {b:Bool} {w:World} (L en ti:Nat) (la:Value):=mkP (fun n T g => e_fn5 b w n T g L en ti la) (fun _ _ _ => rfl) rfl (by decide)
def u_fn6 (w:World) (n T:Nat) (L en ti:Nat) (la:Value) : List Sum:=[]
def r_fn6 (w:World) (n T:Nat) (g:List GenState) (L en ti:Nat) (la:Value) : Out:=runT w n T 460 20000 (digits 28 11877600608149539125274458234418728914336310366209) (u_fn6 w n T L en ti la) (fmLoop L en) (partT (Sem.bind ((twNext (.ref en)).onRaise (fun _ => standAt { fmT.pos with line:=0 })) fun o => .pure (match o with | some v => Flow.ret v | none => Flow.next))) [(en,enP ti 6 .none la),(ti,tiO 806 6)] g
def b_fn6 (n T:Nat) (L en ti:Nat) (la:Value) : List (Bool × Bool):=[]
theorem e_fn6 (b:Bool) (w:World) (n T:Nat) (g:List GenState) (L en ti:Nat) (la:Value) : (r_fn6 (W b w) n T g L en ti la).M [] = (r_fn6 (W b w) n T g L en ti la).N (b_fn6 n T L en ti la) (.done (.ok (.ret (.ref n)))) (1) (1) g [(n,tup2 (.int (Int.ofNat 6) T) (.ref 797)),(en,enP ti 7 (.int (Int.ofNat n) 0) (.ref 797)),(ti,tiO 806 7)]:=by cases b <;> kernel_rfl
noncomputable def g_fn6 {b:Bool} {w:World} (L en ti:Nat) (la:Value):=mkP (fun n T g => e_fn6 b w n T g L en ti la) (fun _ _ _ => rfl) rfl (by decide)
def u_fn7 (w:World) (n T:Nat) (L en ti:Nat) (la:Value) : List Sum:=[]
def r_fn7 (w:World) (n T:Nat) (g:List GenState) (L en ti:Nat) (la:Value) : Out:=runT w n T 460 20000 (digits 28 11877600608149539125274458234418728914336310366209) (u_fn7 w n T L en ti la) (fmLoop L en) (partT (Sem.bind ((twNext (.ref en)).onRaise (fun _ => standAt { fmT.pos with line:=0 })) fun o => .pure (match o with | some v => Flow.ret v | none => Flow.next))) [(en,enP ti 7 .none la),(ti,tiO 806 7)] g
def b_fn7 (n T:Nat) (L en ti:Nat) (la:Value) : List (Bool × Bool):=[]
theorem e_fn7 (b:Bool) (w:World) (n T:Nat) (g:List GenState) (L en ti:Nat) (la:Value) : (r_fn7 (W b w) n T g L en ti la).M [] = (r_fn7 (W b w) n T g L en ti la).N (b_fn7 n T L en ti la) (.done (.ok (.ret (.ref n)))) (1) (1) g [(n,tup2 (.int (Int.ofNat 7) T) (.ref 799)),(en,enP ti 8 (.int (Int.ofNat n) 0) (.ref 799)),(ti,tiO 806 8)]:=by cases b <;> kernel_rfl
noncomputable def g_fn7 {b:Bool} {w:World} (L en ti:Nat) (la:Value):=mkP (fun n T g => e_fn7 b w n T g L en ti la) (fun _ _ _ => rfl) rfl (by decide)
def u_fn8 (w:World) (n T:Nat) (L en ti:Nat) (la:Value) : List Sum:=[]
def r_fn8 (w:World) (n T:Nat) (g:List GenState) (L en ti:Nat) (la:Value) : Out:=runT w n T 460 20000 (digits 28 11877600608149539125274458234418728914336310366209) (u_fn8 w n T L en ti la) (fmLoop L en) (partT (Sem.bind ((twNext (.ref en)).onRaise (fun _ => standAt { fmT.pos with line:=0 })) fun o => .pure (match o with | some v => Flow.ret v | none => Flow.next))) [(en,enP ti 8 .none la),(ti,tiO 806 8)] g
def b_fn8 (n T:Nat) (L en ti:Nat) (la:Value) : List (Bool × Bool):=[]
theorem e_fn8 (b:Bool) (w:World) (n T:Nat) (g:List GenState) (L en ti:Nat) (la:Value) : (r_fn8 (W b w) n T g L en ti la).M [] = (r_fn8 (W b w) n T g L en ti la).N (b_fn8 n T L en ti la) (.done (.ok (.ret (.ref n)))) (1) (1) g [(n,tup2 (.int (Int.ofNat 8) T) (.ref 801)),(en,enP ti 9 (.int (Int.ofNat n) 0) (.ref 801)),(ti,tiO 806 9)]:=by cases b <;> kernel_rfl
noncomputable def g_fn8 {b:Bool} {w:World} (L en ti:Nat) (la:Value):=mkP (fun n T g => e_fn8 b w n T g L en ti la) (fun _ _ _ => rfl) rfl (by decide)
def u_fn9 (w:World) (n T:Nat) (L en ti:Nat) (la:Value) : List Sum:=[]
def r_fn9 (w:World) (n T:Nat) (g:List GenState) (L en ti:Nat) (la:Value) : Out:=runT w n T 460 20000 (digits 28 11877600608149539125274458234418728914336310366209) (u_fn9 w n T L en ti la) (fmLoop L en) (partT (Sem.bind ((twNext (.ref en)).onRaise (fun _ => standAt { fmT.pos with line:=0 })) fun o => .pure (match o with | some v => Flow.ret v | none => Flow.next))) [(en,enP ti 9 .none la),(ti,tiO 806 9)] g
def b_fn9 (n T:Nat) (L en ti:Nat) (la:Value) : List (Bool × Bool):=[]
theorem e_fn9 (b:Bool) (w:World) (n T:Nat) (g:List GenState) (L en ti:Nat) (la:Value) : (r_fn9 (W b w) n T g L en ti la).M [] = (r_fn9 (W b w) n T g L en ti la).N (b_fn9 n T L en ti la) (.done (.ok (.ret (.ref n)))) (1) (1) g [(n,tup2 (.int (Int.ofNat 9) T) (.ref 805)),(en,enP ti 10 (.int (Int.ofNat n) 0) (.ref 805)),(ti,tiO 806 10)]:=by cases b <;> kernel_rfl
noncomputable def g_fn9 {b:Bool} {w:World} (L en ti:Nat) (la:Value):=mkP (fun n T g => e_fn9 b w n T g L en ti la) (fun _ _ _ => rfl) rfl (by decide)
def u_fn10 (w:World) (n T:Nat) (L en ti:Nat) (la:Value) : List Sum:=[]
def r_fn10 (w:World) (n T:Nat) (g:List GenState) (L en ti:Nat) (la:Value) : Out:=runT w n T 460 20000 (digits 15 19956723098487725163024385) (u_fn10 w n T L en ti la) (fmLoop L en) (partT (Sem.bind ((twNext (.ref en)).onRaise (fun _ => standAt { fmT.pos with line:=0 })) fun o => .pure (match o with | some v => Flow.ret v | none => Flow.next))) [(en,enP ti 10 .none la),(ti,tiO 806 10)] g
def b_fn10 (n T:Nat) (L en ti:Nat) (la:Value) : List (Bool × Bool):=[]
theorem e_fn10 (b:Bool) (w:World) (n T:Nat) (g:List GenState) (L en ti:Nat) (la:Value) : (r_fn10 (W b w) n T g L en ti la).M [false,false,false,false] = (r_fn10 (W b w) n T g L en ti la).N (b_fn10 n T L en ti la) (.done (.ok .next)) (2) (0) g []:=by cases b <;> kernel_rfl
noncomputable def g_fn10 {b:Bool} {w:World} (L en ti:Nat) (la:Value):=mkP (fun n T g => e_fn10 b w n T g L en ti la) (fun _ _ _ => rfl) rfl (by decide)
def fmRest (L tp:Addr) : Sem Flow:=Sem.bind (twAssign fmT (fmEnv L) (.ref tp)) fun _ => twExecs fmB (fmEnv L)
def u_fb0 (w:World) (n T:Nat) (L en pl tp:Nat) (k:Nat) (k0 k1 k2 k3 k4 k5 tm ti:Tok) (m:Int) (v2 v3 v4 v5:Value) : List Sum:=[]
def r_fb0 (w:World) (n T:Nat) (g:List GenState) (L en pl tp:Nat) (k:Nat) (k0 k1 k2 k3 k4 k5 tm ti:Tok) (m:Int) (v2 v3 v4 v5:Value) : Out:=runT w n T 460 20000 (digits 247 40351993441100273897950166256727502012431825157941495301760173595761279056142255827970212866126566004839112721955011046223799600272423540158675416604617027079023064707429141230143168745770681781566929419850661187550497640016024793202214848787602696047837584797543066855597901214731876090808060964471714312061577780135591259722993318697892267493928351218825962467191151720598155128247803771236433506363902981453077745094720785538079049982530293825) (u_fb0 w n T L en pl tp k k0 k1 k2 k3 k4 k5 tm ti m v2 v3 v4 v5) (fmLoop L en) (partT (fmRest L tp)) [(tp,tup2 (.int (Int.ofNat 0) ti) (.ref 781)),(L,fmF2 w.params k0 k1 m tm pl),(pl,liO [] k)] g
def b_fb0 (n T:Nat) (L en pl tp:Nat) (k:Nat) (k0 k1 k2 k3 k4 k5 tm ti:Tok) (m:Int) (v2 v3 v4 v5:Value) : List (Bool × Bool):=[(Builtin.bitAnd m 61440 == 32768,true),(Builtin.bitAnd m 61440 == 49152,false),(Builtin.bitAnd m 61440 == 40960,false)]
theorem e_fb0 (b:Bool) (w:World) (n T:Nat) (g:List GenState) (L en pl tp:Nat) (k:Nat) (k0 k1 k2 k3 k4 k5 tm ti:Tok) (m:Int) (v2 v3 v4 v5:Value) : (r_fb0 (W b w) n T g L en pl tp k k0 k1 k2 k3 k4 k5 tm ti m v2 v3 v4 v5).M [false,false,false,false,false,false,false,false,false,false,false,false,false,false,false,false,false] = (r_fb0 (W b w) n T g L en pl tp k k0 k1 k2 k3 k4 k5 tm ti m v2 v3 v4 v5).N (b_fb0 n T L en pl tp k k0 k1 k2 k3 k4 k5 tm ti m v2 v3 v4 v5) (.done (.ok .next)) (16) (20) g [(L,fmF6 (W b w).params k0 k1 T (T + 1) (T + 2) (T + 3) m tm pl (.int (Int.ofNat 0) ti) (.ref 781) (.int (Int.ofNat 32768) 1282) (.str (sx [45]) 1316)),(pl,liO [.str (sx [45]) 1316] (k + 1))]:=by cases b <;> kernel_rfl
noncomputable def g_fb0 {b:Bool} {w:World} (L en pl tp:Nat) (k:Nat) (k0 k1 k2 k3 k4 k5 tm ti:Tok) (m:Int) (v2 v3 v4 v5:Value):=mkP (fun n T g => e_fb0 b w n T g L en pl tp k k0 k1 k2 k3 k4 k5 tm ti m v2 v3 v4 v5) (fun _ _ _ => rfl) rfl (by decide)
def u_fb1t (w:World) (n T:Nat) (L en pl tp:Nat) (k:Nat) (k0 k1 k2 k3 k4 k5 tm ti:Tok) (m:Int) (v2 v3 v4 v5:Value) (p0:Value) : List Sum:=[]
def r_fb1t (w:World) (n T:Nat) (g:List GenState) (L en pl tp:Nat) (k:Nat) (k0 k1 k2 k3 k4 k5 tm ti:Tok) (m:Int) (v2 v3 v4 v5:Value) (p0:Value) : Out:=runT w n T 460 20000 (digits 115 815370186077162663438005194125051464860710472162480659360777159542313135964763017481737321762454108758968167119740946567802203935922253200434467845365456228435655658677092773128458660566377148288763036700737) (u_fb1t w n T L en pl tp k k0 k1 k2 k3 k4 k5 tm ti m v2 v3 v4 v5 p0) (fmLoop L en) (partT (fmRest L tp)) [(tp,tup2 (.int (Int.ofNat 1) ti) (.ref 783)),(L,fmF6 w.params k0 k1 k2 k3 k4 k5 m tm pl v2 v3 v4 v5),(pl,liO [p0] k)] g
def b_fb1t (n T:Nat) (L en pl tp:Nat) (k:Nat) (k0 k1 k2 k3 k4 k5 tm ti:Tok) (m:Int) (v2 v3 v4 v5:Value) (p0:Value) : List (Bool × Bool):=[(Builtin.bitAnd m 256 == 256,true)]
theorem e_fb1t (b:Bool) (w:World) (n T:Nat) (g:List GenState) (L en pl tp:Nat) (k:Nat) (k0 k1 k2 k3 k4 k5 tm ti:Tok) (m:Int) (v2 v3 v4 v5:Value) (p0:Value) : (r_fb1t (W b w) n T g L en pl tp k k0 k1 k2 k3 k4 k5 tm ti m v2 v3 v4 v5 p0).M [false,false,false,false,false,false,false,false] = (r_fb1t (W b w) n T g L en pl tp k k0 k1 k2 k3 k4 k5 tm ti m v2 v3 v4 v5 p0).N (b_fb1t n T L en pl tp k k0 k1 k2 k3 k4 k5 tm ti m v2 v3 v4 v5 p0) (.done (.ok .next)) (7) (6) g [(L,fmF6 (W b w).params k0 k1 k2 k3 k4 k5 m tm pl (.int (Int.ofNat 1) ti) (.ref 783) (.int (Int.ofNat 256) 1296) (.str (sx [114]) 1321)),(pl,liO [p0,.str (sx [114]) 1321] (k + 1))]:=by cases b <;> kernel_rfl
noncomputable def g_fb1t {b:Bool} {w:World} (L en pl tp:Nat) (k:Nat) (k0 k1 k2 k3 k4 k5 tm ti:Tok) (m:Int) (v2 v3 v4 v5:Value) (p0:Value):=mkP (fun n T g => e_fb1t b w n T g L en pl tp k k0 k1 k2 k3 k4 k5 tm ti m v2 v3 v4 v5 p0) (fun _ _ _ => rfl) rfl (by decide)
def u_fb1f (w:World) (n T:Nat) (L en pl tp:Nat) (k:Nat) (k0 k1 k2 k3 k4 k5 tm ti:Tok) (m:Int) (v2 v3 v4 v5:Value) (p0:Value) : List Sum:=[]
def r_fb1f (w:World) (n T:Nat) (g:List GenState) (L en pl tp:Nat) (k:Nat) (k0 k1 k2 k3 k4 k5 tm ti:Tok) (m:Int) (v2 v3 v4 v5:Value) (p0:Value) : Out:=runT w n T 460 20000 (digits 128 295716621148223574464337098588212863134613142678477586030392407126453515226198918551940026261457050123308264241833293919602684638328505894686100577226386246800689938425083906453868605570750182373691180198365512298209680461928599617) (u_fb1f w n T L en pl tp k k0 k1 k2 k3 k4 k5 tm ti m v2 v3 v4 v5 p0) (fmLoop L en) (partT (fmRest L tp)) [(tp,tup2 (.int (Int.ofNat 1) ti) (.ref 783)),(L,fmF6 w.params k0 k1 k2 k3 k4 k5 m tm pl v2 v3 v4 v5),(pl,liO [p0] k)] g
def b_fb1f (n T:Nat) (L en pl tp:Nat) (k:Nat) (k0 k1 k2 k3 k4 k5 tm ti:Tok) (m:Int) (v2 v3 v4 v5:Value) (p0:Value) : List (Bool × Bool):=[(Builtin.bitAnd m 256 == 256,false)]
theorem e_fb1f (b:Bool) (w:World) (n T:Nat) (g:List GenState) (L en pl tp:Nat) (k:Nat) (k0 k1 k2 k3 k4 k5 tm ti:Tok) (m:Int) (v2 v3 v4 v5:Value) (p0:Value) : (r_fb1f (W b w) n T g L en pl tp k k0 k1 k2 k3 k4 k5 tm ti m v2 v3 v4 v5 p0).M [false,false,false,false,false,false,false,false,false,false] = (r_fb1f (W b w) n T g L en pl tp k k0 k1 k2 k3 k4 k5 tm ti m v2 v3 v4 v5 p0).N (b_fb1f n T L en pl tp k k0 k1 k2 k3 k4 k5 tm ti m v2 v3 v4 v5 p0) (.done (.ok .next)) (9) (8) g [(L,fmF6 (W b w).params k0 k1 k2 k3 k4 k5 m tm pl (.int (Int.ofNat 1) ti) (.ref 783) (.int (Int.ofNat 256) 1296) (.str (sx [114]) 1321)),(pl,liO [p0,.str (sx [45]) (T + 7)] (k + 1))]:=by cases b <;> kernel_rfl
noncomputable def g_fb1f {b:Bool} {w:World} (L en pl tp:Nat) (k:Nat) (k0 k1 k2 k3 k4 k5 tm ti:Tok) (m:Int) (v2 v3 v4 v5:Value) (p0:Value):=mkP (fun n T g => e_fb1f b w n T g L en pl tp k k0 k1 k2 k3 k4 k5 tm ti m v2 v3 v4 v5 p0) (fun _ _ _ => rfl) rfl (by decide)
def u_fb2t (w:World) (n T:Nat) (L en pl tp:Nat) (k:Nat) (k0 k1 k2 k3 k4 k5 tm ti:Tok) (m:Int) (v2 v3 v4 v5:Value) (p0 p1:Value) : List Sum:=[]
def r_fb2t (w:World) (n T:Nat) (g:List GenState) (L en pl tp:Nat) (k:Nat) (k0 k1 k2 k3 k4 k5 tm ti:Tok) (m:Int) (v2 v3 v4 v5:Value) (p0 p1:Value) : Out:=runT w n T 460 20000 (digits 115 815370186077162663438005194125051464860710472162480659360777159542313135964763017481737321762454108758968167119740946567802203935922253200434467845365456228435655658677092773128458660566377148288763036700737) (u_fb2t w n T L en pl tp k k0 k1 k2 k3 k4 k5 tm ti m v2 v3 v4 v5 p0 p1) (fmLoop L en) (partT (fmRest L tp)) [(tp,tup2 (.int (Int.ofNat 2) ti) (.ref 785)),(L,fmF6 w.params k0 k1 k2 k3 k4 k5 m tm pl v2 v3 v4 v5),(pl,liO [p0,p1] k)] g
def b_fb2t (n T:Nat) (L en pl tp:Nat) (k:Nat) (k0 k1 k2 k3 k4 k5 tm ti:Tok) (m:Int) (v2 v3 v4 v5:Value) (p0 p1:Value) : List (Bool × Bool):=[(Builtin.bitAnd m 128 == 128,true)]
theorem e_fb2t (b:Bool) (w:World) (n T:Nat) (g:List GenState) (L en pl tp:Nat) (k:Nat) (k0 k1 k2 k3 k4 k5 tm ti:Tok) (m:Int) (v2 v3 v4 v5:Value) (p0 p1:Value) : (r_fb2t (W b w) n T g L en pl tp k k0 k1 k2 k3 k4 k5 tm ti m v2 v3 v4 v5 p0 p1).M [false,false,false,false,false,false,false,false] = (r_fb2t (W b w) n T g L en pl tp k k0 k1 k2 k3 k4 k5 tm ti m v2 v3 v4 v5 p0 p1).N (b_fb2t n T L en pl tp k k0 k1 k2 k3 k4 k5 tm ti m v2 v3 v4 v5 p0 p1) (.done (.ok .next)) (7) (6) g [(L,fmF6 (W b w).params k0 k1 k2 k3 k4 k5 m tm pl (.int (Int.ofNat 2) ti) (.ref 785) (.int (Int.ofNat 128) 1298) (.str (sx [119]) 1322)),(pl,liO [p0,p1,.str (sx [119]) 1322] (k + 1))]:=by cases b <;> kernel_rfl
noncomputable def g_fb2t {b:Bool} {w:World} (L en pl tp:Nat) (k:Nat) (k0 k1 k2 k3 k4 k5 tm ti:Tok) (m:Int) (v2 v3 v4 v5:Value) (p0 p1:Value):=mkP (fun n T g => e_fb2t b w n T g L en pl tp k k0 k1 k2 k3 k4 k5 tm ti m v2 v3 v4 v5 p0 p1) (fun _ _ _ => rfl) rfl (by decide)
def u_fb2f (w:World) (n T:Nat) (L en pl tp:Nat) (k:Nat) (k0 k1 k2 k3 k4 k5 tm ti:Tok) (m:Int) (v2 v3 v4 v5:Value) (p0 p1:Value) : List Sum:=[]
def r_fb2f (w:World) (n T:Nat) (g:List GenState) (L en pl tp:Nat) (k:Nat) (k0 k1 k2 k3 k4 k5 tm ti:Tok) (m:Int) (v2 v3 v4 v5:Value) (p0 p1:Value) : Out:=runT w n T 460 20000 (digits 128 295716621148223574464337098588212863134613142678477586030392407126453515226198918551940026261457050123308264241833293919602684638328505894686100577226386246800689938425083906453868605570750182373691180198365512298209680461928599617) (u_fb2f w n T L en pl tp k k0 k1 k2 k3 k4 k5 tm ti m v2 v3 v4 v5 p0 p1) (fmLoop L en) (partT (fmRest L tp)) [(tp,tup2 (.int (Int.ofNat 2) ti) (.ref 785)),(L,fmF6 w.params k0 k1 k2 k3 k4 k5 m tm pl v2 v3 v4 v5),(pl,liO [p0,p1] k)] g
def b_fb2f (n T:Nat) (L en pl tp:Nat) (k:Nat) (k0 k1 k2 k3 k4 k5 tm ti:Tok) (m:Int) (v2 v3 v4 v5:Value) (p0 p1:Value) : List (Bool × Bool):=[(Builtin.bitAnd m 128 == 128,false)]
theorem e_fb2f (b:Bool) (w:World) (n T:Nat) (g:List GenState) (L en pl tp:Nat) (k:Nat) (k0 k1 k2 k3 k4 k5 tm ti:Tok) (m:Int) (v2 v3 v4 v5:Value) (p0 p1:Value) : (r_fb2f (W b w) n T g L en pl tp k k0 k1 k2 k3 k4 k5 tm ti m v2 v3 v4 v5 p0 p1).M [false,false,false,false,false,false,false,false,false,false] = (r_fb2f (W b w) n T g L en pl tp k k0 k1 k2 k3 k4 k5 tm ti m v2 v3 v4 v5 p0 p1).N (b_fb2f n T L en pl tp k k0 k1 k2 k3 k4 k5 tm ti m v2 v3 v4 v5 p0 p1) (.done (.ok .next)) (9) (8) g [(L,fmF6 (W b w).params k0 k1 k2 k3 k4 k5 m tm pl (.int (Int.ofNat 2) ti) (.ref 785) (.int (Int.ofNat 128) 1298) (.str (sx [119]) 1322)),(pl,liO [p0,p1,.str (sx [45]) (T + 7)] (k + 1))]:=by cases b <;> kernel_rfl
noncomputable def g_fb2f {b:Bool} {w:World} (L en pl tp:Nat) (k:Nat) (k0 k1 k2 k3 k4 k5 tm ti:Tok) (m:Int) (v2 v3 v4 v5:Value) (p0 p1:Value):=mkP (fun n T g => e_fb2f b w n T g L en pl tp k k0 k1 k2 k3 k4 k5 tm ti m v2 v3 v4 v5 p0 p1) (fun _ _ _ => rfl) rfl (by decide)
def u_fb3t (w:World) (n T:Nat) (L en pl tp:Nat) (k:Nat) (k0 k1 k2 k3 k4 k5 tm ti:Tok) (m:Int) (v2 v3 v4 v5:Value) (p0 p1 p2:Value) : List Sum:=[]
def r_fb3t (w:World) (n T:Nat) (g:List GenState) (L en pl tp:Nat) (k:Nat) (k0 k1 k2 k3 k4 k5 tm ti:Tok) (m:Int) (v2 v3 v4 v5:Value) (p0 p1 p2:Value) : Out:=runT w n T 460 20000 (digits 115 815370186077162663438005194125051464860710472162480659360777159542313135964763017481737321762454108758968167119740946567802203935922253200434467845365456228435655658677092773128458660566377148288763036700737) (u_fb3t w n T L en pl tp k k0 k1 k2 k3 k4 k5 tm ti m v2 v3 v4 v5 p0 p1 p2) (fmLoop L en) (partT (fmRest L tp)) [(tp,tup2 (.int (Int.ofNat 3) ti) (.ref 789)),(L,fmF6 w.params k0 k1 k2 k3 k4 k5 m tm pl v2 v3 v4 v5),(pl,liO [p0,p1,p2] k)] g
def b_fb3t (n T:Nat) (L en pl tp:Nat) (k:Nat) (k0 k1 k2 k3 k4 k5 tm ti:Tok) (m:Int) (v2 v3 v4 v5:Value) (p0 p1 p2:Value) : List (Bool × Bool):=[(Builtin.bitAnd m 2112 == 2112,true)]
theorem e_fb3t (b:Bool) (w:World) (n T:Nat) (g:List GenState) (L en pl tp:Nat) (k:Nat) (k0 k1 k2 k3 k4 k5 tm ti:Tok) (m:Int) (v2 v3 v4 v5:Value) (p0 p1 p2:Value) : (r_fb3t (W b w) n T g L en pl tp k k0 k1 k2 k3 k4 k5 tm ti m v2 v3 v4 v5 p0 p1 p2).M [false,false,false,false,false,false,false,false] = (r_fb3t (W b w) n T g L en pl tp k k0 k1 k2 k3 k4 k5 tm ti m v2 v3 v4 v5 p0 p1 p2).N (b_fb3t n T L en pl tp k k0 k1 k2 k3 k4 k5 tm ti m v2 v3 v4 v5 p0 p1 p2) (.done (.ok .next)) (7) (6) g [(L,fmF6 (W b w).params k0 k1 k2 k3 k4 k5 m tm pl (.int (Int.ofNat 3) ti) (.ref 789) (.int (Int.ofNat 2112) 1323) (.str (sx [115]) 1324)),(pl,liO [p0,p1,p2,.str (sx [115]) 1324] (k + 1))]:=by cases b <;> kernel_rfl
noncomputable def g_fb3t {b:Bool} {w:World} (L en pl tp:Nat) (k:Nat) (k0 k1 k2 k3 k4 k5 tm ti:Tok) (m:Int) (v2 v3 v4 v5:Value) (p0 p1 p2:Value):=mkP (fun n T g => e_fb3t b w n T g L en pl tp k k0 k1 k2 k3 k4 k5 tm ti m v2 v3 v4 v5 p0 p1 p2) (fun _ _ _ => rfl) rfl (by decide)
def u_fb3ft (w:World) (n T:Nat) (L en pl tp:Nat) (k:Nat) (k0 k1 k2 k3 k4 k5 tm ti:Tok) (m:Int) (v2 v3 v4 v5:Value) (p0 p1 p2:Value) : List Sum:=[]
def r_fb3ft (w:World) (n T:Nat) (g:List GenState) (L en pl tp:Nat) (k:Nat) (k0 k1 k2 k3 k4 k5 tm ti:Tok) (m:Int) (v2 v3 v4 v5:Value) (p0 p1 p2:Value) : Out:=runT w n T 460 20000 (digits 172 9496349653416426441974993766040762210094681951890912839033675281414793975267456723108942975044293183757754916277164524073346838168396457159023954597123826408555647399407249388857817464175561748388425754076656793247142541985643025717488157699349327791638280338165330857333208452812709234406185917120645815078977) (u_fb3ft w n T L en pl tp k k0 k1 k2 k3 k4 k5 tm ti m v2 v3 v4 v5 p0 p1 p2) (fmLoop L en) (partT (fmRest L tp)) [(tp,tup2 (.int (Int.ofNat 3) ti) (.ref 789)),(L,fmF6 w.params k0 k1 k2 k3 k4 k5 m tm pl v2 v3 v4 v5),(pl,liO [p0,p1,p2] k)] g
def b_fb3ft (n T:Nat) (L en pl tp:Nat) (k:Nat) (k0 k1 k2 k3 k4 k5 tm ti:Tok) (m:Int) (v2 v3 v4 v5:Value) (p0 p1 p2:Value) : List (Bool × Bool):=[(Builtin.bitAnd m 2048 == 2048,true),(Builtin.bitAnd m 2112 == 2112,false)]
theorem e_fb3ft (b:Bool) (w:World) (n T:Nat) (g:List GenState) (L en pl tp:Nat) (k:Nat) (k0 k1 k2 k3 k4 k5 tm ti:Tok) (m:Int) (v2 v3 v4 v5:Value) (p0 p1 p2:Value) : (r_fb3ft (W b w) n T g L en pl tp k k0 k1 k2 k3 k4 k5 tm ti m v2 v3 v4 v5 p0 p1 p2).M [false,false,false,false,false,false,false,false,false,false,false] = (r_fb3ft (W b w) n T g L en pl tp k k0 k1 k2 k3 k4 k5 tm ti m v2 v3 v4 v5 p0 p1 p2).N (b_fb3ft n T L en pl tp k k0 k1 k2 k3 k4 k5 tm ti m v2 v3 v4 v5 p0 p1 p2) (.done (.ok .next)) (10) (10) g [(L,fmF6 (W b w).params k0 k1 k2 k3 k4 k5 m tm pl (.int (Int.ofNat 3) ti) (.ref 789) (.int (Int.ofNat 2048) 1290) (.str (sx [83]) 1325)),(pl,liO [p0,p1,p2,.str (sx [83]) 1325] (k + 1))]:=by cases b <;> kernel_rfl
noncomputable def g_fb3ft {b:Bool} {w:World} (L en pl tp:Nat) (k:Nat) (k0 k1 k2 k3 k4 k5 tm ti:Tok) (m:Int) (v2 v3 v4 v5:Value) (p0 p1 p2:Value):=mkP (fun n T g => e_fb3ft b w n T g L en pl tp k k0 k1 k2 k3 k4 k5 tm ti m v2 v3 v4 v5 p0 p1 p2) (fun _ _ _ => rfl) rfl (by decide)
def u_fb3fft (w:World) (n T:Nat) (L en pl tp:Nat) (k:Nat) (k0 k1 k2 k3 k4 k5 tm ti:Tok) (m:Int) (v2 v3 v4 v5:Value) (p0 p1 p2:Value) : List Sum:=[]
def r_fb3fft (w:World) (n T:Nat) (g:List GenState) (L en pl tp:Nat) (k:Nat) (k0 k1 k2 k3 k4 k5 tm ti:Tok) (m:Int) (v2 v3 v4 v5:Value) (p0 p1 p2:Value) : Out:=runT w n T 460 20000 (digits 229 104710888399388793953762830881342831873375779729508806276109750836251454280501977518483964696489803183515385248268014131618736550775105151400715214300917628555099365709398689326130969263947859480149329167232771819618330292932051531444995843980682271840811014543655705442865402313655143700877221870708268882683478604165883925941562204901817346368713561405633920681686615416106403417562157945501655656026799310114881) (u_fb3fft w n T L en pl tp k k0 k1 k2 k3 k4 k5 tm ti m v2 v3 v4 v5 p0 p1 p2) (fmLoop L en) (partT (fmRest L tp)) [(tp,tup2 (.int (Int.ofNat 3) ti) (.ref 789)),(L,fmF6 w.params k0 k1 k2 k3 k4 k5 m tm pl v2 v3 v4 v5),(pl,liO [p0,p1,p2] k)] g
def b_fb3fft (n T:Nat) (L en pl tp:Nat) (k:Nat) (k0 k1 k2 k3 k4 k5 tm ti:Tok) (m:Int) (v2 v3 v4 v5:Value) (p0 p1 p2:Value) : List (Bool × Bool):=[(Builtin.bitAnd m 64 == 64,true),(Builtin.bitAnd m 2048 == 2048,false),(Builtin.bitAnd m 2112 == 2112,false)]
theorem e_fb3fft (b:Bool) (w:World) (n T:Nat) (g:List GenState) (L en pl tp:Nat) (k:Nat) (k0 k1 k2 k3 k4 k5 tm ti:Tok) (m:Int) (v2 v3 v4 v5:Value) (p0 p1 p2:Value) : (r_fb3fft (W b w) n T g L en pl tp k k0 k1 k2 k3 k4 k5 tm ti m v2 v3 v4 v5 p0 p1 p2).M [false,false,false,false,false,false,false,false,false,false,false,false,false,false] = (r_fb3fft (W b w) n T g L en pl tp k k0 k1 k2 k3 k4 k5 tm ti m v2 v3 v4 v5 p0 p1 p2).N (b_fb3fft n T L en pl tp k k0 k1 k2 k3 k4 k5 tm ti m v2 v3 v4 v5 p0 p1 p2) (.done (.ok .next)) (13) (14) g [(L,fmF6 (W b w).params k0 k1 k2 k3 k4 k5 m tm pl (.int (Int.ofNat 3) ti) (.ref 789) (.int (Int.ofNat 64) 1300) (.str (sx [120]) 1326)),(pl,liO [p0,p1,p2,.str (sx [120]) 1326] (k + 1))]:=by cases b <;> kernel_rfl
noncomputable def g_fb3fft {b:Bool} {w:World} (L en pl tp:Nat) (k:Nat) (k0 k1 k2 k3 k4 k5 tm ti:Tok) (m:Int) (v2 v3 v4 v5:Value) (p0 p1 p2:Value):=mkP (fun n T g => e_fb3fft b w n T g L en pl tp k k0 k1 k2 k3 k4 k5 tm ti m v2 v3 v4 v5 p0 p1 p2) (fun _ _ _ => rfl) rfl (by decide)
def u_fb3fff (w:World) (n T:Nat) (L en pl tp:Nat) (k:Nat) (k0 k1 k2 k3 k4 k5 tm ti:Tok) (m:Int) (v2 v3 v4 v5:Value) (p0 p1 p2:Value) : List Sum:=[]
def r_fb3fff (w:World) (n T:Nat) (g:List GenState) (L en pl tp:Nat) (k:Nat) (k0 k1 k2 k3 k4 k5 tm ti:Tok) (m:Int) (v2 v3 v4 v5:Value) (p0 p1 p2:Value) : Out:=runT w n T 460 20000 (digits 242 35602789663383861399884088095269479965820247918737635572797858089792852367255980537152446451635200357572941928072046559524912045802563861612160186887614447181760484806386220450109712527164727502072731397523576148084933738752094660608345614931740946450407681966348270916255820737296948972424013115694958671986536995807968734062296738266887271533190798405544242971503318435674273497735846224171613779695740250411807119363450617101000118337) (u_fb3fff w n T L en pl tp k k0 k1 k2 k3 k4 k5 tm ti m v2 v3 v4 v5 p0 p1 p2) (fmLoop L en) (partT (fmRest L tp)) [(tp,tup2 (.int (Int.ofNat 3) ti) (.ref 789)),(L,fmF6 w.params k0 k1 k2 k3 k4 k5 m tm pl v2 v3 v4 v5),(pl,liO [p0,p1,p2] k)] g
def b_fb3fff (n T:Nat) (L en pl tp:Nat) (k:Nat) (k0 k1 k2 k3 k4 k5 tm ti:Tok) (m:Int) (v2 v3 v4 v5:Value) (p0 p1 p2:Value) : List (Bool × Bool):=[(Builtin.bitAnd m 64 == 64,false),(Builtin.bitAnd m 2048 == 2048,false),(Builtin.bitAnd m 2112 == 2112,false)]
theorem e_fb3fff (b:Bool) (w:World) (n T:Nat) (g:List GenState) (L en pl tp:Nat) (k:Nat) (k0 k1 k2 k3 k4 k5 tm ti:Tok) (m:Int) (v2 v3 v4 v5:Value) (p0 p1 p2:Value) : (r_fb3fff (W b w) n T g L en pl tp k k0 k1 k2 k3 k4 k5 tm ti m v2 v3 v4 v5 p0 p1 p2).M [false,false,false,false,false,false,false,false,false,false,false,false,false,false,false,false] = (r_fb3fff (W b w) n T g L en pl tp k k0 k1 k2 k3 k4 k5 tm ti m v2 v3 v4 v5 p0 p1 p2).N (b_fb3fff n T L en pl tp k k0 k1 k2 k3 k4 k5 tm ti m v2 v3 v4 v5 p0 p1 p2) (.done (.ok .next)) (15) (16) g [(L,fmF6 (W b w).params k0 k1 k2 k3 k4 k5 m tm pl (.int (Int.ofNat 3) ti) (.ref 789) (.int (Int.ofNat 64) 1300) (.str (sx [120]) 1326)),(pl,liO [p0,p1,p2,.str (sx [45]) (T + 15)] (k + 1))]:=by cases b <;> kernel_rfl
noncomputable def g_fb3fff {b:Bool} {w:World} (L en pl tp:Nat) (k:Nat) (k0 k1 k2 k3 k4 k5 tm ti:Tok) (m:Int) (v2 v3 v4 v5:Value) (p0 p1 p2:Value):=mkP (fun n T g => e_fb3fff b w n T g L en pl tp k k0 k1 k2 k3 k4 k5 tm ti m v2 v3 v4 v5 p0 p1 p2) (fun _ _ _ => rfl) rfl (by decide)
def u_fb4t (w:World) (n T:Nat) (L en pl tp:Nat) (k:Nat) (k0 k1 k2 k3 k4 k5 tm ti:Tok) (m:Int) (v2 v3 v4 v5:Value) (p0 p1 p2 p3:Value) : List Sum:=[]
def r_fb4t (w:World) (n T:Nat) (g:List GenState) (L en pl tp:Nat) (k:Nat) (k0 k1 k2 k3 k4 k5 tm ti:Tok) (m:Int) (v2 v3 v4 v5:Value) (p0 p1 p2 p3:Value) : Out:=runT w n T 460 20000 (digits 115 815370186077162663438005194125051464860710472162480659360777159542313135964763017481737321762454108758968167119740946567802203935922253200434467845365456228435655658677092773128458660566377148288763036700737) (u_fb4t w n T L en pl tp k k0 k1 k2 k3 k4 k5 tm ti m v2 v3 v4 v5 p0 p1 p2 p3) (fmLoop L en) (partT (fmRest L tp)) [(tp,tup2 (.int (Int.ofNat 4) ti) (.ref 791)),(L,fmF6 w.params k0 k1 k2 k3 k4 k5 m tm pl v2 v3 v4 v5),(pl,liO [p0,p1,p2,p3] k)] g
def b_fb4t (n T:Nat) (L en pl tp:Nat) (k:Nat) (k0 k1 k2 k3 k4 k5 tm ti:Tok) (m:Int) (v2 v3 v4 v5:Value) (p0 p1 p2 p3:Value) : List (Bool × Bool):=[(Builtin.bitAnd m 32 == 32,true)]
theorem e_fb4t (b:Bool) (w:World) (n T:Nat) (g:List GenState) (L en pl tp:Nat) (k:Nat) (k0 k1 k2 k3 k4 k5 tm ti:Tok) (m:Int) (v2 v3 v4 v5:Value) (p0 p1 p2 p3:Value) : (r_fb4t (W b w) n T g L en pl tp k k0 k1 k2 k3 k4 k5 tm ti m v2 v3 v4 v5 p0 p1 p2 p3).M [false,false,false,false,false,false,false,false] = (r_fb4t (W b w) n T g L en pl tp k k0 k1 k2 k3 k4 k5 tm ti m v2 v3 v4 v5 p0 p1 p2 p3).N (b_fb4t n T L en pl tp k k0 k1 k2 k3 k4 k5 tm ti m v2 v3 v4 v5 p0 p1 p2 p3) (.done (.ok .next)) (7) (6) g [(L,fmF6 (W b w).params k0 k1 k2 k3 k4 k5 m tm pl (.int (Int.ofNat 4) ti) (.ref 791) (.int (Int.ofNat 32) 1302) (.str (sx [114]) 1327)),(pl,liO [p0,p1,p2,p3,.str (sx [114]) 1327] (k + 1))]:=by cases b <;> kernel_rfl
noncomputable def g_fb4t {b:Bool} {w:World} (L en pl tp:Nat) (k:Nat) (k0 k1 k2 k3 k4 k5 tm ti:Tok) (m:Int) (v2 v3 v4 v5:Value) (p0 p1 p2 p3:Value):=mkP (fun n T g => e_fb4t b w n T g L en pl tp k k0 k1 k2 k3 k4 k5 tm ti m v2 v3 v4 v5 p0 p1 p2 p3) (fun _ _ _ => rfl) rfl (by decide)
def u_fb4f (w:World) (n T:Nat) (L en pl tp:Nat) (k:Nat) (k0 k1 k2 k3 k4 k5 tm ti:Tok) (m:Int) (v2 v3 v4 v5:Value) (p0 p1 p2 p3:Value) : List Sum:=[]
def r_fb4f (w:World) (n T:Nat) (g:List GenState) (L en pl tp:Nat) (k:Nat) (k0 k1 k2 k3 k4 k5 tm ti:Tok) (m:Int) (v2 v3 v4 v5:Value) (p0 p1 p2 p3:Value) : Out:=runT w n T 460 20000 (digits 128 295716621148223574464337098588212863134613142678477586030392407126453515226198918551940026261457050123308264241833293919602684638328505894686100577226386246800689938425083906453868605570750182373691180198365512298209680461928599617) (u_fb4f w n T L en pl tp k k0 k1 k2 k3 k4 k5 tm ti m v2 v3 v4 v5 p0 p1 p2 p3) (fmLoop L en) (partT (fmRest L tp)) [(tp,tup2 (.int (Int.ofNat 4) ti) (.ref 791)),(L,fmF6 w.params k0 k1 k2 k3 k4 k5 m tm pl v2 v3 v4 v5),(pl,liO [p0,p1,p2,p3] k)] g
def b_fb4f (n T:Nat) (L en pl tp:Nat) (k:Nat) (k0 k1 k2 k3 k4 k5 tm ti:Tok) (m:Int) (v2 v3 v4 v5:Value) (p0 p1 p2 p3:Value) : List (Bool × Bool):=[(Builtin.bitAnd m 32 == 32,false)]
theorem e_fb4f (b:Bool) (w:World) (n T:Nat) (g:List GenState) (L en pl tp:Nat) (k:Nat) (k0 k1 k2 k3 k4 k5 tm ti:Tok) (m:Int) (v2 v3 v4 v5:Value) (p0 p1 p2 p3:Value) : (r_fb4f (W b w) n T g L en pl tp k k0 k1 k2 k3 k4 k5 tm ti m v2 v3 v4 v5 p0 p1 p2 p3).M [false,false,false,false,false,false,false,false,false,false] = (r_fb4f (W b w) n T g L en pl tp k k0 k1 k2 k3 k4 k5 tm ti m v2 v3 v4 v5 p0 p1 p2 p3).N (b_fb4f n T L en pl tp k k0 k1 k2 k3 k4 k5 tm ti m v2 v3 v4 v5 p0 p1 p2 p3) (.done (.ok .next)) (9) (8) g [(L,fmF6 (W b w).params k0 k1 k2 k3 k4 k5 m tm pl (.int (Int.ofNat 4) ti) (.ref 791) (.int (Int.ofNat 32) 1302) (.str (sx [114]) 1327)),(pl,liO [p0,p1,p2,p3,.str (sx [45]) (T + 7)] (k + 1))]:=by cases b <;> kernel_rfl
noncomputable def g_fb4f {b:Bool} {w:World} (L en pl tp:Nat) (k:Nat) (k0 k1 k2 k3 k4 k5 tm ti:Tok) (m:Int) (v2 v3 v4 v5:Value) (p0 p1 p2 p3:Value):=mkP (fun n T g => e_fb4f b w n T g L en pl tp k k0 k1 k2 k3 k4 k5 tm ti m v2 v3 v4 v5 p0 p1 p2 p3) (fun _ _ _ => rfl) rfl (by decide)
def u_fb5t (w:World) (n T:Nat) (L en pl tp:Nat) (k:Nat) (k0 k1 k2 k3 k4 k5 tm ti:Tok) (m:Int) (v2 v3 v4 v5:Value) (p0 p1 p2 p3 p4:Value) : List Sum:=[]
def r_fb5t (w:World) (n T:Nat) (g:List GenState) (L en pl tp:Nat) (k:Nat) (k0 k1 k2 k3 k4 k5 tm ti:Tok) (m:Int) (v2 v3 v4 v5:Value) (p0 p1 p2 p3 p4:Value) : Out:=runT w n T 460 20000 (digits 115 815370186077162663438005194125051464860710472162480659360777159542313135964763017481737321762454108758968167119740946567802203935922253200434467845365456228435655658677092773128458660566377148288763036700737) (u_fb5t w n T L en pl tp k k0 k1 k2 k3 k4 k5 tm ti m v2 v3 v4 v5 p0 p1 p2 p3 p4) (fmLoop L en) (partT (fmRest L tp)) [(tp,tup2 (.int (Int.ofNat 5) ti) (.ref 793)),(L,fmF6 w.params k0 k1 k2 k3 k4 k5 m tm pl v2 v3 v4 v5),(pl,liO [p0,p1,p2,p3,p4] k)] g
def b_fb5t (n T:Nat) (L en pl tp:Nat) (k:Nat) (k0 k1 k2 k3 k4 k5 tm ti:Tok) (m:Int) (v2 v3 v4 v5:Value) (p0 p1 p2 p3 p4:Value) : List (Bool × Bool):=[(Builtin.bitAnd m 16 == 16,true)]
theorem e_fb5t (b:Bool) (w:World) (n T:Nat) (g:List GenState) (L en pl tp:Nat) (k:Nat) (k0 k1 k2 k3 k4 k5 tm ti:Tok) (m:Int) (v2 v3 v4 v5:Value) (p0 p1 p2 p3 p4:Value) : (r_fb5t (W b w) n T g L en pl tp k k0 k1 k2 k3 k4 k5 tm ti m v2 v3 v4 v5 p0 p1 p2 p3 p4).M [false,false,false,false,false,false,false,false] = (r_fb5t (W b w) n T g L en pl tp k k0 k1 k2 k3 k4 k5 tm ti m v2 v3 v4 v5 p0 p1 p2 p3 p4).N (b_fb5t n T L en pl tp k k0 k1 k2 k3 k4 k5 tm ti m v2 v3 v4 v5 p0 p1 p2 p3 p4) (.done (.ok .next)) (7) (6) g [(L,fmF6 (W b w).params k0 k1 k2 k3 k4 k5 m tm pl (.int (Int.ofNat 5) ti) (.ref 793) (.int (Int.ofNat 16) 1304) (.str (sx [119]) 1328)),(pl,liO [p0,p1,p2,p3,p4,.str (sx [119]) 1328] (k + 1))]:=by cases b <;> kernel_rfl
noncomputable def g_fb5t {b:Bool} {w:World} (L en pl tp:Nat) (k:Nat) (k0 k1 k2 k3 k4 k5 tm ti:Tok) (m:Int) (v2 v3 v4 v5:Value) (p0 p1 p2 p3 p4:Value):=mkP (fun n T g => e_fb5t b w n T g L en pl tp k k0 k1 k2 k3 k4 k5 tm ti m v2 v3 v4 v5 p0 p1 p2 p3 p4) (fun _ _ _ => rfl) rfl (by decide)
def u_fb5f (w:World) (n T:Nat) (L en pl tp:Nat) (k:Nat) (k0 k1 k2 k3 k4 k5 tm ti:Tok) (m:Int) (v2 v3 v4 v5:Value) (p0 p1 p2 p3 p4:Value) : List Sum:=[]
def r_fb5f (w:World) (n T:Nat) (g:List GenState) (L en pl tp:Nat) (k:Nat) (k0 k1 k2 k3 k4 k5 tm ti:Tok) (m:Int) (v2 v3 v4 v5:Value) (p0 p1 p2 p3 p4:Value) : Out:=runT w n T 460 20000 (digits 128 295716621148223574464337098588212863134613142678477586030392407126453515226198918551940026261457050123308264241833293919602684638328505894686100577226386246800689938425083906453868605570750182373691180198365512298209680461928599617) (u_fb5f w n T L en pl tp k k0 k1 k2 k3 k4 k5 tm ti m v2 v3 v4 v5 p0 p1 p2 p3 p4) (fmLoop L en) (partT (fmRest L tp)) [(tp,tup2 (.int (Int.ofNat 5) ti) (.ref 793)),(L,fmF6 w.params k0 k1 k2 k3 k4 k5 m tm pl v2 v3 v4 v5),(pl,liO [p0,p1,p2,p3,p4] k)] g
def b_fb5f (n T:Nat) (L en pl tp:Nat) (k:Nat) (k0 k1 k2 k3 k4 k5 tm ti:Tok) (m:Int) (v2 v3 v4 v5:Value) (p0 p1 p2 p3 p4:Value) : List (Bool × Bool):=[(Builtin.bitAnd m 16 == 16,false)]
theorem e_fb5f (b:Bool) (w:World) (n T:Nat) (g:List GenState) (L en pl tp:Nat) (k:Nat) (k0 k1 k2 k3 k4 k5 tm ti:Tok) (m:Int) (v2 v3 v4 v5:Value) (p0 p1 p2 p3 p4:Value) : (r_fb5f (W b w) n T g L en pl tp k k0 k1 k2 k3 k4 k5 tm ti m v2 v3 v4 v5 p0 p1 p2 p3 p4).M [false,false,false,false,false,false,false,false,false,false] = (r_fb5f (W b w) n T g L en pl tp k k0 k1 k2 k3 k4 k5 tm ti m v2 v3 v4 v5 p0 p1 p2 p3 p4).N (b_fb5f n T L en pl tp k k0 k1 k2 k3 k4 k5 tm ti m v2 v3 v4 v5 p0 p1 p2 p3 p4) (.done (.ok .next)) (9) (8) g [(L,fmF6 (W b w).params k0 k1 k2 k3 k4 k5 m tm pl (.int (Int.ofNat 5) ti) (.ref 793) (.int (Int.ofNat 16) 1304) (.str (sx [119]) 1328)),(pl,liO [p0,p1,p2,p3,p4,.str (sx [45]) (T + 7)] (k + 1))]:=by cases b <;> kernel_rfl
noncomputable def g_fb5f {b:Bool} {w:World} (L en pl tp:Nat) (k:Nat) (k0 k1 k2 k3 k4 k5 tm ti:Tok) (m:Int) (v2 v3 v4 v5:Value) (p0 p1 p2 p3 p4:Value):=mkP (fun n T g => e_fb5f b w n T g L en pl tp k k0 k1 k2 k3 k4 k5 tm ti m v2 v3 v4 v5 p0 p1 p2 p3 p4) (fun _ _ _ => rfl) rfl (by decide)
def u_fb6t (w:World) (n T:Nat) (L en pl tp:Nat) (k:Nat) (k0 k1 k2 k3 k4 k5 tm ti:Tok) (m:Int) (v2 v3 v4 v5:Value) (p0 p1 p2 p3 p4 p5:Value) : List Sum:=[]
def r_fb6t (w:World) (n T:Nat) (g:List GenState) (L en pl tp:Nat) (k:Nat) (k0 k1 k2 k3 k4 k5 tm ti:Tok) (m:Int) (v2 v3 v4 v5:Value) (p0 p1 p2 p3 p4 p5:Value) : Out:=runT w n T 460 20000 (digits 115 815370186077162663438005194125051464860710472162480659360777159542313135964763017481737321762454108758968167119740946567802203935922253200434467845365456228435655658677092773128458660566377148288763036700737) (u_fb6t w n T L en pl tp k k0 k1 k2 k3 k4 k5 tm ti m v2 v3 v4 v5 p0 p1 p2 p3 p4 p5) (fmLoop L en) (partT (fmRest L tp)) [(tp,tup2 (.int (Int.ofNat 6) ti) (.ref 797)),(L,fmF6 w.params k0 k1 k2 k3 k4 k5 m tm pl v2 v3 v4 v5),(pl,liO [p0,p1,p2,p3,p4,p5] k)] g
def b_fb6t (n T:Nat) (L en pl tp:Nat) (k:Nat) (k0 k1 k2 k3 k4 k5 tm ti:Tok) (m:Int) (v2 v3 v4 v5:Value) (p0 p1 p2 p3 p4 p5:Value) : List (Bool × Bool):=[(Builtin.bitAnd m 1032 == 1032,true)]
theorem e_fb6t (b:Bool) (w:World) (n T:Nat) (g:List GenState) (L en pl tp:Nat) (k:Nat) (k0 k1 k2 k3 k4 k5 tm ti:Tok) (m:Int) (v2 v3 v4 v5:Value) (p0 p1 p2 p3 p4 p5:Value) : (r_fb6t (W b w) n T g L en pl tp k k0 k1 k2 k3 k4 k5 tm ti m v2 v3 v4 v5 p0 p1 p2 p3 p4 p5).M [false,false,false,false,false,false,false,false] = (r_fb6t (W b w) n T g L en pl tp k k0 k1 k2 k3 k4 k5 tm ti m v2 v3 v4 v5 p0 p1 p2 p3 p4 p5).N (b_fb6t n T L en pl tp k k0 k1 k2 k3 k4 k5 tm ti m v2 v3 v4 v5 p0 p1 p2 p3 p4 p5) (.done (.ok .next)) (7) (6) g [(L,fmF6 (W b w).params k0 k1 k2 k3 k4 k5 m tm pl (.int (Int.ofNat 6) ti) (.ref 797) (.int (Int.ofNat 1032) 1329) (.str (sx [115]) 1330)),(pl,liO [p0,p1,p2,p3,p4,p5,.str (sx [115]) 1330] (k + 1))]:=by cases b <;> kernel_rfl
noncomputable def g_fb6t {b:Bool} {w:World} (L en pl tp:Nat) (k:Nat) (k0 k1 k2 k3 k4 k5 tm ti:Tok) (m:Int) (v2 v3 v4 v5:Value) (p0 p1 p2 p3 p4 p5:Value):=mkP (fun n T g => e_fb6t b w n T g L en pl tp k k0 k1 k2 k3 k4 k5 tm ti m v2 v3 v4 v5 p0 p1 p2 p3 p4 p5) (fun _ _ _ => rfl) rfl (by decide)
def u_fb6ft (w:World) (n T:Nat) (L en pl tp:Nat) (k:Nat) (k0 k1 k2 k3 k4 k5 tm ti:Tok) (m:Int) (v2 v3 v4 v5:Value) (p0 p1 p2 p3 p4 p5:Value) : List Sum:=[]
def r_fb6ft (w:World) (n T:Nat) (g:List GenState) (L en pl tp:Nat) (k:Nat) (k0 k1 k2 k3 k4 k5 tm ti:Tok) (m:Int) (v2 v3 v4 v5:Value) (p0 p1 p2 p3 p4 p5:Value) : Out:=runT w n T 460 20000 (digits 172 9496349653416426441974993766040762210094681951890912839033675281414793975267456723108942975044293183757754916277164524073346838168396457159023954597123826408555647399407249388857817464175561748388425754076656793247142541985643025717488157699349327791638280338165330857333208452812709234406185917120645815078977) (u_fb6ft w n T L en pl tp k k0 k1 k2 k3 k4 k5 tm ti m v2 v3 v4 v5 p0 p1 p2 p3 p4 p5) (fmLoop L en) (partT (fmRest L tp)) [(tp,tup2 (.int (Int.ofNat 6) ti) (.ref 797)),(L,fmF6 w.params k0 k1 k2 k3 k4 k5 m tm pl v2 v3 v4 v5),(pl,liO [p0,p1,p2,p3,p4,p5] k)] g
def b_fb6ft (n T:Nat) (L en pl tp:Nat) (k:Nat) (k0 k1 k2 k3 k4 k5 tm ti:Tok) (m:Int) (v2 v3 v4 v5:Value) (p0 p1 p2 p3 p4 p5:Value) : List (Bool × Bool):=[(Builtin.bitAnd m 1024 == 1024,true),(Builtin.bitAnd m 1032 == 1032,false)]
theorem e_fb6ft (b:Bool) (w:World) (n T:Nat) (g:List GenState) (L en pl tp:Nat) (k:Nat) (k0 k1 k2 k3 k4 k5 tm ti:Tok) (m:Int) (v2 v3 v4 v5:Value) (p0 p1 p2 p3 p4 p5:Value) : (r_fb6ft (W b w) n T g L en pl tp k k0 k1 k2 k3 k4 k5 tm ti m v2 v3 v4 v5 p0 p1 p2 p3 p4 p5).M [false,false,false,false,false,false,false,false,false,false,false] = (r_fb6ft (W b w) n T g L en pl tp k k0 k1 k2 k3 k4 k5 tm ti m v2 v3 v4 v5 p0 p1 p2 p3 p4 p5).N (b_fb6ft n T L en pl tp k k0 k1 k2 k3 k4 k5 tm ti m v2 v3 v4 v5 p0 p1 p2 p3 p4 p5) (.done (.ok .next)) (10) (10) g [(L,fmF6 (W b w).params k0 k1 k2 k3 k4 k5 m tm pl (.int (Int.ofNat 6) ti) (.ref 797) (.int (Int.ofNat 1024) 1292) (.str (sx [83]) 1331)),(pl,liO [p0,p1,p2,p3,p4,p5,.str (sx [83]) 1331] (k + 1))]:=by cases b <;> kernel_rfl
noncomputable def g_fb6ft {b:Bool} {w:World} (L en pl tp:Nat) (k:Nat) (k0 k1 k2 k3 k4 k5 tm ti:Tok) (m:Int) (v2 v3 v4 v5:Value) (p0 p1 p2 p3 p4 p5:Value):=mkP (fun n T g => e_fb6ft b w n T g L en pl tp k k0 k1 k2 k3 k4 k5 tm ti m v2 v3 v4 v5 p0 p1 p2 p3 p4 p5) (fun _ _ _ => rfl) rfl (by decide)
def u_fb6fft (w:World) (n T:Nat) (L en pl tp:Nat) (k:Nat) (k0 k1 k2 k3 k4 k5 tm ti:Tok) (m:Int) (v2 v3 v4 v5:Value) (p0 p1 p2 p3 p4 p5:Value) : List Sum:=[]
def r_fb6fft (w:World) (n T:Nat) (g:List GenState) (L en pl tp:Nat) (k:Nat) (k0 k1 k2 k3 k4 k5 tm ti:Tok) (m:Int) (v2 v3 v4 v5:Value) (p0 p1 p2 p3 p4 p5:Value) : Out:=runT w n T 460 20000 (digits 229 104710888399388793953762830881342831873375779729508806276109750836251454280501977518483964696489803183515385248268014131618736550775105151400715214300917628555099365709398689326130969263947859480149329167232771819618330292932051531444995843980682271840811014543655705442865402313655143700877221870708268882683478604165883925941562204901817346368713561405633920681686615416106403417562157945501655656026799310114881) (u_fb6fft w n T L en pl tp k k0 k1 k2 k3 k4 k5 tm ti m v2 v3 v4 v5 p0 p1 p2 p3 p4 p5) (fmLoop L en) (partT (fmRest L tp)) [(tp,tup2 (.int (Int.ofNat 6) ti) (.ref 797)),(L,fmF6 w.params k0 k1 k2 k3 k4 k5 m tm pl v2 v3 v4 v5),(pl,liO [p0,p1,p2,p3,p4,p5] k)] g
def b_fb6fft (n T:Nat) (L en pl tp:Nat) (k:Nat) (k0 k1 k2 k3 k4 k5 tm ti:Tok) (m:Int) (v2 v3 v4 v5:Value) (p0 p1 p2 p3 p4 p5:Value) : List (Bool × Bool):=[(Builtin.bitAnd m 8 == 8,true),(Builtin.bitAnd m 1024 == 1024,false),(Builtin.bitAnd m 1032 == 1032,false)]
theorem e_fb6fft (b:Bool) (w:World) (n T:Nat) (g:List GenState) (L en pl tp:Nat) (k:Nat) (k0 k1 k2 k3 k4 k5 tm ti:Tok) (m:Int) (v2 v3 v4 v5:Value) (p0 p1 p2 p3 p4 p5:Value) : (r_fb6fft (W b w) n T g L en pl tp k k0 k1 k2 k3 k4 k5 tm ti m v2 v3 v4 v5 p0 p1 p2 p3 p4 p5).M [false,false,false,false,false,false,false,false,false,false,false,false,false,false] = (r_fb6fft (W b w) n T g L en pl tp k k0 k1 k2 k3 k4 k5 tm ti m v2 v3 v4 v5 p0 p1 p2 p3 p4 p5).N (b_fb6fft n T L en pl tp k k0 k1 k2 k3 k4 k5 tm ti m v2 v3 v4 v5 p0 p1 p2 p3 p4 p5) (.done (.ok .next)) (13) (14) g [(L,fmF6 (W b w).params k0 k1 k2 k3 k4 k5 m tm pl (.int (Int.ofNat 6) ti) (.ref 797) (.int (Int.ofNat 8) 1306) (.str (sx [120]) 1332)),(pl,liO [p0,p1,p2,p3,p4,p5,.str (sx [120]) 1332] (k + 1))]:=by cases b <;> kernel_rfl
noncomputable def g_fb6fft {b:Bool} {w:World} (L en pl tp:Nat) (k:Nat) (k0 k1 k2 k3 k4 k5 tm ti:Tok) (m:Int) (v2 v3 v4 v5:Value) (p0 p1 p2 p3 p4 p5:Value):=mkP (fun n T g => e_fb6fft b w n T g L en pl tp k k0 k1 k2 k3 k4 k5 tm ti m v2 v3 v4 v5 p0 p1 p2 p3 p4 p5) (fun _ _ _ => rfl) rfl (by decide)
def u_fb6fff (w:World) (n T:Nat) (L en pl tp:Nat) (k:Nat) (k0 k1 k2 k3 k4 k5 tm ti:Tok) (m:Int) (v2 v3 v4 v5:Value) (p0 p1 p2 p3 p4 p5:Value) : List Sum:=[]
def r_fb6fff (w:World) (n T:Nat) (g:List GenState) (L en pl tp:Nat) (k:Nat) (k0 k1 k2 k3 k4 k5 tm ti:Tok) (m:Int) (v2 v3 v4 v5:Value) (p0 p1 p2 p3 p4 p5:Value) : Out:=runT w n T 460 20000 (digits 242 35602789663383861399884088095269479965820247918737635572797858089792852367255980537152446451635200357572941928072046559524912045802563861612160186887614447181760484806386220450109712527164727502072731397523576148084933738752094660608345614931740946450407681966348270916255820737296948972424013115694958671986536995807968734062296738266887271533190798405544242971503318435674273497735846224171613779695740250411807119363450617101000118337) (u_fb6fff w n T L en pl tp k k0 k1 k2 k3 k4 k5 tm ti m v2 v3 v4 v5 p0 p1 p2 p3 p4 p5) (fmLoop L en) (partT (fmRest L tp)) [(tp,tup2 (.int (Int.ofNat 6) ti) (.ref 797)),(L,fmF6 w.params k0 k1 k2 k3 k4 k5 m tm pl v2 v3 v4 v5),(pl,liO [p0,p1,p2,p3,p4,p5] k)] g
def b_fb6fff (n T:Nat) (L en pl tp:Nat) (k:Nat) (k0 k1 k2 k3 k4 k5 tm ti:Tok) (m:Int) (v2 v3 v4 v5:Value) (p0 p1 p2 p3 p4 p5:Value) : List (Bool × Bool):=[(Builtin.bitAnd m 8 == 8,false),(Builtin.bitAnd m 1024 == 1024,false),(Builtin.bitAnd m 1032 == 1032,false)]
theorem e_fb6fff (b:Bool) (w:World) (n T:Nat) (g:List GenState) (L en pl tp:Nat) (k:Nat) (k0 k1 k2 k3 k4 k5 tm ti:Tok) (m:Int) (v2 v3 v4 v5:Value) (p0 p1 p2 p3 p4 p5:Value) : (r_fb6fff (W b w) n T g L en pl tp k k0 k1 k2 k3 k4 k5 tm ti m v2 v3 v4 v5 p0 p1 p2 p3 p4 p5).M [false,false,false,false,false,false,false,false,false,false,false,false,false,false,false,false] = (r_fb6fff (W b w) n T g L en pl tp k k0 k1 k2 k3 k4 k5 tm ti m v2 v3 v4 v5 p0 p1 p2 p3 p4 p5).N (b_fb6fff n T L en pl tp k k0 k1 k2 k3 k4 k5 tm ti m v2 v3 v4 v5 p0 p1 p2 p3 p4 p5) (.done (.ok .next)) (15) (16) g [(L,fmF6 (W b w).params k0 k1 k2 k3 k4 k5 m tm pl (.int (Int.ofNat 6) ti) (.ref 797) (.int (Int.ofNat 8) 1306) (.str (sx [120]) 1332)),(pl,liO [p0,p1,p2,p3,p4,p5,.str (sx [45]) (T + 15)] (k + 1))]:=by cases b <;> kernel_rfl
noncomputable def g_fb6fff {b:Bool} {w:World} (L en pl tp:Nat) (k:Nat) (k0 k1 k2 k3 k4 k5 tm ti:Tok) (m:Int) (v2 v3 v4 v5:Value) (p0 p1 p2 p3 p4 p5:Value):=mkP (fun n T g => e_fb6fff b w n T g L en pl tp k k0 k1 k2 k3 k4 k5 tm ti m v2 v3 v4 v5 p0 p1 p2 p3 p4 p5) (fun _ _ _ => rfl) rfl (by decide)
def u_fb7t (w:World) (n T:Nat) (L en pl tp:Nat) (k:Nat) (k0 k1 k2 k3 k4 k5 tm ti:Tok) (m:Int) (v2 v3 v4 v5:Value) (p0 p1 p2 p3 p4 p5 p6:Value) : List Sum:=[]
def r_fb7t (w:World) (n T:Nat) (g:List GenState) (L en pl tp:Nat) (k:Nat) (k0 k1 k2 k3 k4 k5 tm ti:Tok) (m:Int) (v2 v3 v4 v5:Value) (p0 p1 p2 p3 p4 p5 p6:Value) : Out:=runT w n T 460 20000 (digits 115 815370186077162663438005194125051464860710472162480659360777159542313135964763017481737321762454108758968167119740946567802203935922253200434467845365456228435655658677092773128458660566377148288763036700737) (u_fb7t w n T L en pl tp k k0 k1 k2 k3 k4 k5 tm ti m v2 v3 v4 v5 p0 p1 p2 p3 p4 p5 p6) (fmLoop L en) (partT (fmRest L tp)) [(tp,tup2 (.int (Int.ofNat 7) ti) (.ref 799)),(L,fmF6 w.params k0 k1 k2 k3 k4 k5 m tm pl v2 v3 v4 v5),(pl,liO [p0,p1,p2,p3,p4,p5,p6] k)] g
def b_fb7t (n T:Nat) (L en pl tp:Nat) (k:Nat) (k0 k1 k2 k3 k4 k5 tm ti:Tok) (m:Int) (v2 v3 v4 v5:Value) (p0 p1 p2 p3 p4 p5 p6:Value) : List (Bool × Bool):=[(Builtin.bitAnd m 4 == 4,true)]
theorem e_fb7t (b:Bool) (w:World) (n T:Nat) (g:List GenState) (L en pl tp:Nat) (k:Nat) (k0 k1 k2 k3 k4 k5 tm ti:Tok) (m:Int) (v2 v3 v4 v5:Value) (p0 p1 p2 p3 p4 p5 p6:Value) : (r_fb7t (W b w) n T g L en pl tp k k0 k1 k2 k3 k4 k5 tm ti m v2 v3 v4 v5 p0 p1 p2 p3 p4 p5 p6).M [false,false,false,false,false,false,false,false] = (r_fb7t (W b w) n T g L en pl tp k k0 k1 k2 k3 k4 k5 tm ti m v2 v3 v4 v5 p0 p1 p2 p3 p4 p5 p6).N (b_fb7t n T L en pl tp k k0 k1 k2 k3 k4 k5 tm ti m v2 v3 v4 v5 p0 p1 p2 p3 p4 p5 p6) (.done (.ok .next)) (7) (6) g [(L,fmF6 (W b w).params k0 k1 k2 k3 k4 k5 m tm pl (.int (Int.ofNat 7) ti) (.ref 799) (.int (Int.ofNat 4) 1308) (.str (sx [114]) 1333)),(pl,liO [p0,p1,p2,p3,p4,p5,p6,.str (sx [114]) 1333] (k + 1))]:=by cases b <;> kernel_rfl
noncomputable def g_fb7t {b:Bool} {w:World} (L en pl tp:Nat) (k:Nat) (k0 k1 k2 k3 k4 k5 tm ti:Tok) (m:Int) (v2 v3 v4 v5:Value) (p0 p1 p2 p3 p4 p5 p6:Value):=mkP (fun n T g => e_fb7t b w n T g L en pl tp k k0 k1 k2 k3 k4 k5 tm ti m v2 v3 v4 v5 p0 p1 p2 p3 p4 p5 p6) (fun _ _ _ => rfl) rfl (by decide)
def u_fb7f (w:World) (n T:Nat) (L en pl tp:Nat) (k:Nat) (k0 k1 k2 k3 k4 k5 tm ti:Tok) (m:Int) (v2 v3 v4 v5:Value) (p0 p1 p2 p3 p4 p5 p6:Value) : List Sum:=[]
def r_fb7f (w:World) (n T:Nat) (g:List GenState) (L en pl tp:Nat) (k:Nat) (k0 k1 k2 k3 k4 k5 tm ti:Tok) (m:Int) (v2 v3 v4 v5:Value) (p0 p1 p2 p3 p4 p5 p6:Value) : Out:=runT w n T 460 20000 (digits 128 295716621148223574464337098588212863134613142678477586030392407126453515226198918551940026261457050123308264241833293919602684638328505894686100577226386246800689938425083906453868605570750182373691180198365512298209680461928599617) (u_fb7f w n T L en pl tp k k0 k1 k2 k3 k4 k5 tm ti m v2 v3 v4 v5 p0 p1 p2 p3 p4 p5 p6) (fmLoop L en) (partT (fmRest L tp)) [(tp,tup2 (.int (Int.ofNat 7) ti) (.ref 799)),(L,fmF6 w.params k0 k1 k2 k3 k4 k5 m tm pl v2 v3 v4 v5),(pl,liO [p0,p1,p2,p3,p4,p5,p6] k)] g
def b_fb7f (n T:Nat) (L en pl tp:Nat) (k:Nat) (k0 k1 k2 k3 k4 k5 tm ti:Tok) (m:Int) (v2 v3 v4 v5:Value) (p0 p1 p2 p3 p4 p5 p6:Value) : List (Bool × Bool):=[(Builtin.bitAnd m 4 == 4,false)]
theorem e_fb7f (b:Bool) (w:World) (n T:Nat) (g:List GenState) (L en pl tp:Nat) (k:Nat) (k0 k1 k2 k3 k4 k5 tm ti:Tok) (m:Int) (v2 v3 v4 v5:Value) (p0 p1 p2 p3 p4 p5 p6:Value) : (r_fb7f (W b w) n T g L en pl tp k k0 k1 k2 k3 k4 k5 tm ti m v2 v3 v4 v5 p0 p1 p2 p3 p4 p5 p6).M [false,false,false,false,false,false,false,false,false,false] = (r_fb7f (W b w) n T g L en pl tp k k0 k1 k2 k3 k4 k5 tm ti m v2 v3 v4 v5 p0 p1 p2 p3 p4 p5 p6).N (b_fb7f n T L en pl tp k k0 k1 k2 k3 k4 k5 tm ti m v2 v3 v4 v5 p0 p1 p2 p3 p4 p5 p6) (.done (.ok .next)) (9) (8) g [(L,fmF6 (W b w).params k0 k1 k2 k3 k4 k5 m tm pl (.int (Int.ofNat 7) ti) (.ref 799) (.int (Int.ofNat 4) 1308) (.str (sx [114]) 1333)),(pl,liO [p0,p1,p2,p3,p4,p5,p6,.str (sx [45]) (T + 7)] (k + 1))]:=by cases b <;> kernel_rfl
noncomputable def g_fb7f {b:Bool} {w:World} (L en pl tp:Nat) (k:Nat) (k0 k1 k2 k3 k4 k5 tm ti:Tok) (m:Int) (v2 v3 v4 v5:Value) (p0 p1 p2 p3 p4 p5 p6:Value):=mkP (fun n T g => e_fb7f b w n T g L en pl tp k k0 k1 k2 k3 k4 k5 tm ti m v2 v3 v4 v5 p0 p1 p2 p3 p4 p5 p6) (fun _ _ _ => rfl) rfl (by decide)
def u_fb8t (w:World) (n T:Nat) (L en pl tp:Nat) (k:Nat) (k0 k1 k2 k3 k4 k5 tm ti:Tok) (m:Int) (v2 v3 v4 v5:Value) (p0 p1 p2 p3 p4 p5 p6 p7:Value) : List Sum:=[]
def r_fb8t (w:World) (n T:Nat) (g:List GenState) (L en pl tp:Nat) (k:Nat) (k0 k1 k2 k3 k4 k5 tm ti:Tok) (m:Int) (v2 v3 v4 v5:Value) (p0 p1 p2 p3 p4 p5 p6 p7:Value) : Out:=runT w n T 460 20000 (digits 115 815370186077162663438005194125051464860710472162480659360777159542313135964763017481737321762454108758968167119740946567802203935922253200434467845365456228435655658677092773128458660566377148288763036700737) (u_fb8t w n T L en pl tp k k0 k1 k2 k3 k4 k5 tm ti m v2 v3 v4 v5 p0 p1 p2 p3 p4 p5 p6 p7) (fmLoop L en) (partT (fmRest L tp)) [(tp,tup2 (.int (Int.ofNat 8) ti) (.ref 801)),(L,fmF6 w.params k0 k1 k2 k3 k4 k5 m tm pl v2 v3 v4 v5),(pl,liO [p0,p1,p2,p3,p4,p5,p6,p7] k)] g
def b_fb8t (n T:Nat) (L en pl tp:Nat) (k:Nat) (k0 k1 k2 k3 k4 k5 tm ti:Tok) (m:Int) (v2 v3 v4 v5:Value) (p0 p1 p2 p3 p4 p5 p6 p7:Value) : List (Bool × Bool):=[(Builtin.bitAnd m 2 == 2,true)]
theorem e_fb8t (b:Bool) (w:World) (n T:Nat) (g:List GenState) (L en pl tp:Nat) (k:Nat) (k0 k1 k2 k3 k4 k5 tm ti:Tok) (m:Int) (v2 v3 v4 v5:Value) (p0 p1 p2 p3 p4 p5 p6 p7:Value) : (r_fb8t (W b w) n T g L en pl tp k k0 k1 k2 k3 k4 k5 tm ti m v2 v3 v4 v5 p0 p1 p2 p3 p4 p5 p6 p7).M [false,false,false,false,false,false,false,false] = (r_fb8t (W b w) n T g L en pl tp k k0 k1 k2 k3 k4 k5 tm ti m v2 v3 v4 v5 p0 p1 p2 p3 p4 p5 p6 p7).N (b_fb8t n T L en pl tp k k0 k1 k2 k3 k4 k5 tm ti m v2 v3 v4 v5 p0 p1 p2 p3 p4 p5 p6 p7) (.done (.ok .next)) (7) (6) g [(L,fmF6 (W b w).params k0 k1 k2 k3 k4 k5 m tm pl (.int (Int.ofNat 8) ti) (.ref 801) (.int (Int.ofNat 2) 1310) (.str (sx [119]) 1334)),(pl,liO [p0,p1,p2,p3,p4,p5,p6,p7,.str (sx [119]) 1334] (k + 1))]:=by cases b <;> kernel_rfl
noncomputable def g_fb8t {b:Bool} {w:World} (L en pl tp:Nat) (k:Nat) (k0 k1 k2 k3 k4 k5 tm ti:Tok) (m:Int) (v2 v3 v4 v5:Value) (p0 p1 p2 p3 p4 p5 p6 p7:Value):=mkP (fun n T g => e_fb8t b w n T g L en pl tp k k0 k1 k2 k3 k4 k5 tm ti m v2 v3 v4 v5 p0 p1 p2 p3 p4 p5 p6 p7) (fun _ _ _ => rfl) rfl (by decide)
def u_fb8f (w:World) (n T:Nat) (L en pl tp:Nat) (k:Nat) (k0 k1 k2 k3 k4 k5 tm ti:Tok) (m:Int) (v2 v3 v4 v5:Value) (p0 p1 p2 p3 p4 p5 p6 p7:Value) : List Sum:=[]
def r_fb8f (w:World) (n T:Nat) (g:List GenState) (L en pl tp:Nat) (k:Nat) (k0 k1 k2 k3 k4 k5 tm ti:Tok) (m:Int) (v2 v3 v4 v5:Value) (p0 p1 p2 p3 p4 p5 p6 p7:Value) : Out:=runT w n T 460 20000 (digits 128 295716621148223574464337098588212863134613142678477586030392407126453515226198918551940026261457050123308264241833293919602684638328505894686100577226386246800689938425083906453868605570750182373691180198365512298209680461928599617) (u_fb8f w n T L en pl tp k k0 k1 k2 k3 k4 k5 tm ti m v2 v3 v4 v5 p0 p1 p2 p3 p4 p5 p6 p7) (fmLoop L en) (partT (fmRest L tp)) [(tp,tup2 (.int (Int.ofNat 8) ti) (.ref 801)),(L,fmF6 w.params k0 k1 k2 k3 k4 k5 m tm pl v2 v3 v4 v5),(pl,liO [p0,p1,p2,p3,p4,p5,p6,p7] k)] g
def b_fb8f (n T:Nat) (L en pl tp:Nat) (k:Nat) (k0 k1 k2 k3 k4 k5 tm ti:Tok) (m:Int) (v2 v3 v4 v5:Value) (p0 p1 p2 p3 p4 p5 p6 p7:Value) : List (Bool × Bool):=[(Builtin.bitAnd m 2 == 2,false)]
theorem e_fb8f (b:Bool) (w:World) (n T:Nat) (g:List GenState) (L en pl tp:Nat) (k:Nat) (k0 k1 k2 k3 k4 k5 tm ti:Tok) (m:Int) (v2 v3 v4 v5:Value) (p0 p1 p2 p3 p4 p5 p6 p7:Value) : (r_fb8f (W b w) n T g L en pl tp k k0 k1 k2 k3 k4 k5 tm ti m v2 v3 v4 v5 p0 p1 p2 p3 p4 p5 p6 p7).M [false,false,false,false,false,false,false,false,false,false] = (r_fb8f (W b w) n T g L en pl tp k k0 k1 k2 k3 k4 k5 tm ti m v2 v3 v4 v5 p0 p1 p2 p3 p4 p5 p6 p7).N (b_fb8f n T L en pl tp k k0 k1 k2 k3 k4 k5 tm ti m v2 v3 v4 v5 p0 p1 p2 p3 p4 p5 p6 p7) (.done (.ok .next)) (9) (8) g [(L,fmF6 (W b w).params k0 k1 k2 k3 k4 k5 m tm pl (.int (Int.ofNat 8) ti) (.ref 801) (.int (Int.ofNat 2) 1310) (.str (sx [119]) 1334)),(pl,liO [p0,p1,p2,p3,p4,p5,p6,p7,.str (sx [45]) (T + 7)] (k + 1))]:=by cases b <;> kernel_rfl
noncomputable def g_fb8f {b:Bool} {w:World} (L en pl tp:Nat) (k:Nat) (k0 k1 k2 k3 k4 k5 tm ti:Tok) (m:Int) (v2 v3 v4 v5:Value) (p0 p1 p2 p3 p4 p5 p6 p7:Value):=mkP (fun n T g => e_fb8f b w n T g L en pl tp k k0 k1 k2 k3 k4 k5 tm ti m v2 v3 v4 v5 p0 p1 p2 p3 p4 p5 p6 p7) (fun _ _ _ => rfl) rfl (by decide)
def u_fb9t (w:World) (n T:Nat) (L en pl tp:Nat) (k:Nat) (k0 k1 k2 k3 k4 k5 tm ti:Tok) (m:Int) (v2 v3 v4 v5:Value) (p0 p1 p2 p3 p4 p5 p6 p7 p8:Value) : List Sum:=[]
def r_fb9t (w:World) (n T:Nat) (g:List GenState) (L en pl tp:Nat) (k:Nat) (k0 k1 k2 k3 k4 k5 tm ti:Tok) (m:Int) (v2 v3 v4 v5:Value) (p0 p1 p2 p3 p4 p5 p6 p7 p8:Value) : Out:=runT w n T 460 20000 (digits 115 815370186077162663438005194125051464860710472162480659360777159542313135964763017481737321762454108758968167119740946567802203935922253200434467845365456228435655658677092773128458660566377148288763036700737) (u_fb9t w n T L en pl tp k k0 k1 k2 k3 k4 k5 tm ti m v2 v3 v4 v5 p0 p1 p2 p3 p4 p5 p6 p7 p8) (fmLoop L en) (partT (fmRest L tp)) [(tp,tup2 (.int (Int.ofNat 9) ti) (.ref 805)),(L,fmF6 w.params k0 k1 k2 k3 k4 k5 m tm pl v2 v3 v4 v5),(pl,liO [p0,p1,p2,p3,p4,p5,p6,p7,p8] k)] g
def b_fb9t (n T:Nat) (L en pl tp:Nat) (k:Nat) (k0 k1 k2 k3 k4 k5 tm ti:Tok) (m:Int) (v2 v3 v4 v5:Value) (p0 p1 p2 p3 p4 p5 p6 p7 p8:Value) : List (Bool × Bool):=[(Builtin.bitAnd m 513 == 513,true)]
theorem e_fb9t (b:Bool) (w:World) (n T:Nat) (g:List GenState) (L en pl tp:Nat) (k:Nat) (k0 k1 k2 k3 k4 k5 tm ti:Tok) (m:Int) (v2 v3 v4 v5:Value) (p0 p1 p2 p3 p4 p5 p6 p7 p8:Value) : (r_fb9t (W b w) n T g L en pl tp k k0 k1 k2 k3 k4 k5 tm ti m v2 v3 v4 v5 p0 p1 p2 p3 p4 p5 p6 p7 p8).M [false,false,false,false,false,false,false,false] = (r_fb9t (W b w) n T g L en pl tp k k0 k1 k2 k3 k4 k5 tm ti m v2 v3 v4 v5 p0 p1 p2 p3 p4 p5 p6 p7 p8).N (b_fb9t n T L en pl tp k k0 k1 k2 k3 k4 k5 tm ti m v2 v3 v4 v5 p0 p1 p2 p3 p4 p5 p6 p7 p8) (.done (.ok .next)) (7) (6) g [(L,fmF6 (W b w).params k0 k1 k2 k3 k4 k5 m tm pl (.int (Int.ofNat 9) ti) (.ref 805) (.int (Int.ofNat 513) 1335) (.str (sx [116]) 1336)),(pl,liO [p0,p1,p2,p3,p4,p5,p6,p7,p8,.str (sx [116]) 1336] (k + 1))]:=by cases b <;> kernel_rfl
noncomputable def g_fb9t {b:Bool} {w:World} (L en pl tp:Nat) (k:Nat) (k0 k1 k2 k3 k4 k5 tm ti:Tok) (m:Int) (v2 v3 v4 v5:Value) (p0 p1 p2 p3 p4 p5 p6 p7 p8:Value):=mkP (fun n T g => e_fb9t b w n T g L en pl tp k k0 k1 k2 k3 k4 k5 tm ti m v2 v3 v4 v5 p0 p1 p2 p3 p4 p5 p6 p7 p8) (fun _ _ _ => rfl) rfl (by decide)
def u_fb9ft (w:World) (n T:Nat) (L en pl tp:Nat) (k:Nat) (k0 k1 k2 k3 k4 k5 tm ti:Tok) (m:Int) (v2 v3 v4 v5:Value) (p0 p1 p2 p3 p4 p5 p6 p7 p8:Value) : List Sum:=[]
def r_fb9ft (w:World) (n T:Nat) (g:List GenState) (L en pl tp:Nat) (k:Nat) (k0 k1 k2 k3 k4 k5 tm ti:Tok) (m:Int) (v2 v3 v4 v5:Value) (p0 p1 p2 p3 p4 p5 p6 p7 p8:Value) : Out:=runT w n T 460 20000 (digits 172 9496349653416426441974993766040762210094681951890912839033675281414793975267456723108942975044293183757754916277164524073346838168396457159023954597123826408555647399407249388857817464175561748388425754076656793247142541985643025717488157699349327791638280338165330857333208452812709234406185917120645815078977) (u_fb9ft w n T L en pl tp k k0 k1 k2 k3 k4 k5 tm ti m v2 v3 v4 v5 p0 p1 p2 p3 p4 p5 p6 p7 p8) (fmLoop L en) (partT (fmRest L tp)) [(tp,tup2 (.int (Int.ofNat 9) ti) (.ref 805)),(L,fmF6 w.params k0 k1 k2 k3 k4 k5 m tm pl v2 v3 v4 v5),(pl,liO [p0,p1,p2,p3,p4,p5,p6,p7,p8] k)] g
def b_fb9ft (n T:Nat) (L en pl tp:Nat) (k:Nat) (k0 k1 k2 k3 k4 k5 tm ti:Tok) (m:Int) (v2 v3 v4 v5:Value) (p0 p1 p2 p3 p4 p5 p6 p7 p8:Value) : List (Bool × Bool):=[(Builtin.bitAnd m 512 == 512,true),(Builtin.bitAnd m 513 == 513,false)]
theorem e_fb9ft (b:Bool) (w:World) (n T:Nat) (g:List GenState) (L en pl tp:Nat) (k:Nat) (k0 k1 k2 k3 k4 k5 tm ti:Tok) (m:Int) (v2 v3 v4 v5:Value) (p0 p1 p2 p3 p4 p5 p6 p7 p8:Value) : (r_fb9ft (W b w) n T g L en pl tp k k0 k1 k2 k3 k4 k5 tm ti m v2 v3 v4 v5 p0 p1 p2 p3 p4 p5 p6 p7 p8).M [false,false,false,false,false,false,false,false,false,false,false] = (r_fb9ft (W b w) n T g L en pl tp k k0 k1 k2 k3 k4 k5 tm ti m v2 v3 v4 v5 p0 p1 p2 p3 p4 p5 p6 p7 p8).N (b_fb9ft n T L en pl tp k k0 k1 k2 k3 k4 k5 tm ti m v2 v3 v4 v5 p0 p1 p2 p3 p4 p5 p6 p7 p8) (.done (.ok .next)) (10) (10) g [(L,fmF6 (W b w).params k0 k1 k2 k3 k4 k5 m tm pl (.int (Int.ofNat 9) ti) (.ref 805) (.int (Int.ofNat 512) 1294) (.str (sx [84]) 1337)),(pl,liO [p0,p1,p2,p3,p4,p5,p6,p7,p8,.str (sx [84]) 1337] (k + 1))]:=by cases b <;> kernel_rfl
noncomputable def g_fb9ft {b:Bool} {w:World} (L en pl tp:Nat) (k:Nat) (k0 k1 k2 k3 k4 k5 tm ti:Tok) (m:Int) (v2 v3 v4 v5:Value) (p0 p1 p2 p3 p4 p5 p6 p7 p8:Value):=mkP (fun n T g => e_fb9ft b w n T g L en pl tp k k0 k1 k2 k3 k4 k5 tm ti m v2 v3 v4 v5 p0 p1 p2 p3 p4 p5 p6 p7 p8) (fun _ _ _ => rfl) rfl (by decide)
def u_fb9fft (w:World) (n T:Nat) (L en pl tp:Nat) (k:Nat) (k0 k1 k2 k3 k4 k5 tm ti:Tok) (m:Int) (v2 v3 v4 v5:Value) (p0 p1 p2 p3 p4 p5 p6 p7 p8:Value) : List Sum:=[]
def r_fb9fft (w:World) (n T:Nat) (g:List GenState) (L en pl tp:Nat) (k:Nat) (k0 k1 k2 k3 k4 k5 tm ti:Tok) (m:Int) (v2 v3 v4 v5:Value) (p0 p1 p2 p3 p4 p5 p6 p7 p8:Value) : Out:=runT w n T 460 20000 (digits 229 104710888399388793953762830881342831873375779729508806276109750836251454280501977518483964696489803183515385248268014131618736550775105151400715214300917628555099365709398689326130969263947859480149329167232771819618330292932051531444995843980682271840811014543655705442865402313655143700877221870708268882683478604165883925941562204901817346368713561405633920681686615416106403417562157945501655656026799310114881) (u_fb9fft w n T L en pl tp k k0 k1 k2 k3 k4 k5 tm ti m v2 v3 v4 v5 p0 p1 p2 p3 p4 p5 p6 p7 p8) (fmLoop L en) (partT (fmRest L tp)) [(tp,tup2 (.int (Int.ofNat 9) ti) (.ref 805)),(L,fmF6 w.params k0 k1 k2 k3 k4 k5 m tm pl v2 v3 v4 v5),(pl,liO [p0,p1,p2,p3,p4,p5,p6,p7,p8] k)] g
def b_fb9fft (n T:Nat) (L en pl tp:Nat) (k:Nat) (k0 k1 k2 k3 k4 k5 tm ti:Tok) (m:Int) (v2 v3 v4 v5:Value) (p0 p1 p2 p3 p4 p5 p6 p7 p8:Value) : List (Bool × Bool):=[(Builtin.bitAnd m 1 == 1,true),(Builtin.bitAnd m 512 == 512,false),(Builtin.bitAnd m 513 == 513,false)]
theorem e_fb9fft (b:Bool) (w:World) (n T:Nat) (g:List GenState) (L en pl tp:Nat) (k:Nat) (k0 k1 k2 k3 k4 k5 tm ti:Tok) (m:Int) (v2 v3 v4 v5:Value) (p0 p1 p2 p3 p4 p5 p6 p7 p8:Value) : (r_fb9fft (W b w) n T g L en pl tp k k0 k1 k2 k3 k4 k5 tm ti m v2 v3 v4 v5 p0 p1 p2 p3 p4 p5 p6 p7 p8).M [false,false,false,false,false,false,false,false,false,false,false,false,false,false] = (r_fb9fft (W b w) n T g L en pl tp k k0 k1 k2 k3 k4 k5 tm ti m v2 v3 v4 v5 p0 p1 p2 p3 p4 p5 p6 p7 p8).N (b_fb9fft n T L en pl tp k k0 k1 k2 k3 k4 k5 tm ti m v2 v3 v4 v5 p0 p1 p2 p3 p4 p5 p6 p7 p8) (.done (.ok .next)) (13) (14) g [(L,fmF6 (W b w).params k0 k1 k2 k3 k4 k5 m tm pl (.int (Int.ofNat 9) ti) (.ref 805) (.int (Int.ofNat 1) 1312) (.str (sx [120]) 1338)),(pl,liO [p0,p1,p2,p3,p4,p5,p6,p7,p8,.str (sx [120]) 1338] (k + 1))]:=by cases b <;> kernel_rfl
noncomputable def g_fb9fft {b:Bool} {w:World} (L en pl tp:Nat) (k:Nat) (k0 k1 k2 k3 k4 k5 tm ti:Tok) (m:Int) (v2 v3 v4 v5:Value) (p0 p1 p2 p3 p4 p5 p6 p7 p8:Value):=mkP (fun n T g => e_fb9fft b w n T g L en pl tp k k0 k1 k2 k3 k4 k5 tm ti m v2 v3 v4 v5 p0 p1 p2 p3 p4 p5 p6 p7 p8) (fun _ _ _ => rfl) rfl (by decide)
def u_fb9fff (w:World) (n T:Nat) (L en pl tp:Nat) (k:Nat) (k0 k1 k2 k3 k4 k5 tm ti:Tok) (m:Int) (v2 v3 v4 v5:Value) (p0 p1 p2 p3 p4 p5 p6 p7 p8:Value) : List Sum:=[]
def r_fb9fff (w:World) (n T:Nat) (g:List GenState) (L en pl tp:Nat) (k:Nat) (k0 k1 k2 k3 k4 k5 tm ti:Tok) (m:Int) (v2 v3 v4 v5:Value) (p0 p1 p2 p3 p4 p5 p6 p7 p8:Value) : Out:=runT w n T 460 20000 (digits 242 35602789663383861399884088095269479965820247918737635572797858089792852367255980537152446451635200357572941928072046559524912045802563861612160186887614447181760484806386220450109712527164727502072731397523576148084933738752094660608345614931740946450407681966348270916255820737296948972424013115694958671986536995807968734062296738266887271533190798405544242971503318435674273497735846224171613779695740250411807119363450617101000118337) (u_fb9fff w n T L en pl tp k k0 k1 k2 k3 k4 k5 tm ti m v2 v3 v4 v5 p0 p1 p2 p3 p4 p5 p6 p7 p8) (fmLoop L en) (partT (fmRest L tp)) [(tp,tup2 (.int (Int.ofNat 9) ti) (.ref 805)),(L,fmF6 w.params k0 k1 k2 k3 k4 k5 m tm pl v2 v3 v4 v5),(pl,liO [p0,p1,p2,p3,p4,p5,p6,p7,p8] k)] g
def b_fb9fff (n T:Nat) (L en pl tp:Nat) (k:Nat) (k0 k1 k2 k3 k4 k5 tm ti:Tok) (m:Int) (v2 v3 v4 v5:Value) (p0 p1 p2 p3 p4 p5 p6 p7 p8:Value) : List (Bool × Bool):=[(Builtin.bitAnd m 1 == 1,false),(Builtin.bitAnd m 512 == 512,false),(Builtin.bitAnd m 513 == 513,false)]
theorem e_fb9fff (b:Bool) (w:World) (n T:Nat) (g:List GenState) (L en pl tp:Nat) (k:Nat) (k0 k1 k2 k3 k4 k5 tm ti:Tok) (m:Int) (v2 v3 v4 v5:Value) (p0 p1 p2 p3 p4 p5 p6 p7 p8:Value) : (r_fb9fff (W b w) n T g L en pl tp k k0 k1 k2 k3 k4 k5 tm ti m v2 v3 v4 v5 p0 p1 p2 p3 p4 p5 p6 p7 p8).M [false,false,false,false,false,false,false,false,false,false,false,false,false,false,false,false] = (r_fb9fff (W b w) n T g L en pl tp k k0 k1 k2 k3 k4 k5 tm ti m v2 v3 v4 v5 p0 p1 p2 p3 p4 p5 p6 p7 p8).N (b_fb9fff n T L en pl tp k k0 k1 k2 k3 k4 k5 tm ti m v2 v3 v4 v5 p0 p1 p2 p3 p4 p5 p6 p7 p8) (.done (.ok .next)) (15) (16) g [(L,fmF6 (W b w).params k0 k1 k2 k3 k4 k5 m tm pl (.int (Int.ofNat 9) ti) (.ref 805) (.int (Int.ofNat 1) 1312) (.str (sx [120]) 1338)),(pl,liO [p0,p1,p2,p3,p4,p5,p6,p7,p8,.str (sx [45]) (T + 15)] (k + 1))]:=by cases b <;> kernel_rfl
noncomputable def g_fb9fff {b:Bool} {w:World} (L en pl tp:Nat) (k:Nat) (k0 k1 k2 k3 k4 k5 tm ti:Tok) (m:Int) (v2 v3 v4 v5:Value) (p0 p1 p2 p3 p4 p5 p6 p7 p8:Value):=mkP (fun n T g => e_fb9fff b w n T g L en pl tp k k0 k1 k2 k3 k4 k5 tm ti m v2 v3 v4 v5 p0 p1 p2 p3 p4 p5 p6 p7 p8) (fun _ _ _ => rfl) rfl (by decide)
noncomputable def resO (Q:Option Value → Shared → Prop) (E:Value → Shared → Prop) (r:Result) (s:Shared) : Prop:=match r with
  | .ok (.ret v) => Q (some v) s
  | .ok .next => Q none s
  | .ok _ => True
  | .error e => E e s
theorem own_opt {M:Model} {A:Around} {c:Code} {Q:Option Value → Shared → Prop} {E:Value → Shared → Prop} {s:Shared} {m:Sem (Option Value)} (h:wpOwn M A c (Sem.bind m fun o => .pure (match o with | some v => Flow.ret v | none => Flow.next)) (fun f s' => resO Q E (.ok f) s') (fun e s' => resO Q E (.error e) s') s) : wpOwn M A c m Q E s:=by
  intro Γ p hc hΓ
  have z:=h Γ p hc hΓ
  change Sem.wp _ Γ (m >>= fun b => _) _ _ p s at z
  rw [Sem.wp_bind'] at z
  refine Sem.wp_mono _ Γ _ (fun o p' s' y => ?_) (fun _ _ _ y => y) _ _ z
  cases o <;> exact y
def fmTa : List PySem.Expr:=match fmT with
  | .Tuple a _ _ => a
  | _ => []
def fmTb : Nat:=match fmT with
  | .Tuple _ b _ => b
  | _ => 0
def fmTc : Pos:=match fmT with
  | .Tuple _ _ c => c
  | _ => default
theorem fmT_tuple : ∃ a b c,fmT = .Tuple a b c:=⟨fmTa,fmTb,fmTc,by kernel_rfl⟩
section
variable {b:Bool} {w:World} {A:Around} {R:Result → Shared → Prop} {v:Nat} {F:List (Addr × Obj)} {H:Heap} {s:Shared}
theorem let_go {M:Model} {E:Value → Shared → Prop} {en tp:Addr} {it:Addr} {i:Nat} {last:Value} {Q:Unit → Shared → Prop} (D:Hp (W b w) H s.heap ((en,enP it i (.int (Int.ofNat tp) 0) last) :: F))
    (h:∀ h',Hp (W b w) H h' ((en,enP it i .none last) :: F) → h'.objs.size = s.heap.objs.size → Q () { s with heap:=h' }) : wpAny M A (letOwnedTupleGo fmT (.ref en) (.ref tp)) Q E s:=by
  have ho:=D.own (en,_) (.head _)
  obtain ⟨ta,tb,tc,et⟩:=fmT_tuple
  rw [et]
  unfold letOwnedTupleGo
  dsimp only
  refine wpAny_bind (wpAny_load ho ?_)
  have e1 : (some (Value.int (Int.ofNat tp) 0) == some (rawInt tp)) = true:=by simp [rawInt]
  have e2 : (["enumerate","zip","dict_itemiterator","dict_reverseitemiterator","odict_iterator","itertools.zip_longest","itertools.pairwise"].contains "enumerate") = true:=by decide
  unfold enP
  dsimp only
  rw [if_pos (by rw [e2]; exact e1)]
  refine wpAny_bind (wpAny_rule ?_)
  unfold updateField
  refine wpAny_bind (wpAny_load ho ?_)
  unfold enP
  dsimp only
  rw [if_pos (by show (0 : Nat) < 6; decide)]
  refine wpAny_update ho ?_
  exact h _ (D.upd (u:=Obj.mapFields (·.setIfInBounds 0 .none)) rfl) (Heap.SameBut.update ..).1
theorem fm_turn {L en ti tp i:Nat} {last:Value} (hc:∀ (R':Result → Shared → Prop),(∀ s',Nx (W b w) H s s' 1 1 ((tp,tup2 (.int (Int.ofNat i) s.toks) last) :: (en,enP ti (i + 1) (.int (Int.ofNat tp) 0) last) :: F) → R' (.ok (.ret (.ref tp))) s') →
      wpOwn (model P0 (W b w)) A (fmLoop L en) (Sem.bind ((twNext (.ref en)).onRaise (fun _ => standAt { fmT.pos with line:=0 })) fun o => .pure (match o with | some v => Flow.ret v | none => Flow.next)) (fun f s' => R' (.ok f) s') (fun e s' => R' (.error e) s') s)
    (hr:∀ s',Nx (W b w) H s s' 1 1 ((tp,tup2 (.int (Int.ofNat i) s.toks) last) :: (en,enP ti (i + 1) .none last) :: F) → ∀ (R':Result → Shared → Prop),(∀ s'',codeAny (model P0 (W b w)) A (fmLoop L en) R s'' → R' (.ok .next) s'') → wpOwn (model P0 (W b w)) A (fmLoop L en) (fmRest L tp) (fun f s' => R' (.ok f) s') (fun e s' => R' (.error e) s') s') :
    codeAny (model P0 (W b w)) A (fmLoop L en) R s:=by
  refine y_code _ _ _ _ _ _ ?_
  show wpOwn _ A (fmLoop L en) ((forTurn fmT (.ref en) fmB fmO (fmEnv L)).onRaise (fun x => noteFrame x (fmEnv L) >>= fun _ => theTreesLotGoes x)) _ _ s
  refine wpOwn_onRaise ?_
  generalize (fun (e:Value) (s':Shared) => wpOwn (model P0 (W b w)) A (fmLoop L en) (noteFrame e (fmEnv L) >>= fun _ => theTreesLotGoes e) (fun _ s'' => postE R e s'') (postE R) s') = E'
  show wpOwn _ A (fmLoop L en) (standAt fmT.pos >>= fun _ => (pyNext (.ref en)).onRaise (fun _ => standAt { fmT.pos with line:=0 }) >>= fun o => match o with
    | none => again (.block fmO (fmEnv L))
    | some v => letOwnedTupleGo fmT (.ref en) v >>= fun _ => assign fmT (fmEnv L) v >>= fun _ => execs fmB (fmEnv L) >>= fun f => match f with
      | .next | .cont => again (fmLoop L en)
      | .brk => pure (.done .next)
      | .ret v => pure (.done (.ret v))) _ _ s
  refine wpOwn_bind (wpOwn_of_wpAny (wpAny_standAt ?_))
  refine wpOwn_bind (own_opt ?_)
  rw [show @pyNext = twNext from PySem.W.Fast.te9404975358583537561]
  refine hc (resO _ _) fun s₁ N₁ => ?_
  dsimp only [resO]
  refine wpOwn_bind (wpOwn_of_wpAny (let_go (F:=(tp,tup2 (.int (Int.ofNat i) s.toks) last) :: F) (N₁.hp.perm (List.Perm.swap ..)) fun h' D' hz => ?_))
  have N₂ : Nx (W b w) H s { s₁ with heap:=h' } 1 1 ((tp,tup2 (.int (Int.ofNat i) s.toks) last) :: (en,enP ti (i + 1) .none last) :: F):=⟨D'.perm (List.Perm.swap ..),N₁.gens,N₁.drawn,N₁.os,N₁.toks,hz.trans N₁.size⟩
  have z:=hr _ N₂ (fun r s' => match r with
    | .ok f => wpOwn (model P0 (W b w)) A (fmLoop L en) (match f with
      | .next | .cont => again (fmLoop L en)
      | .brk => pure (.done .next)
      | .ret v => pure (.done (.ret v))) (postC P0 (W b w) A R) E' s'
    | .error e => E' e s') (fun s'' q => wpOwn_of_wpAny (wpAny_pure ⟨by kernel_rfl,q⟩))
  unfold fmRest at z
  rw [show @assign = twAssign from PySem.W.Fast.te17772580674575903948,show @execs = twExecs from PySem.W.Fast.te12563942051412417395]
  have z' : wpOwn (model P0 (W b w)) A (fmLoop L en) ((twAssign fmT (fmEnv L) (.ref tp) >>= fun _ => twExecs fmB (fmEnv L)) >>= fun f => match f with
      | .next | .cont => again (fmLoop L en)
      | .brk => pure (.done .next)
      | .ret v => pure (.done (.ret v))) (postC P0 (W b w) A R) E' { s₁ with heap:=h' }:=wpOwn_bind z
  rw [bind_assoc] at z'
  exact z'
end
def u_fm1 (w:World) (n T:Nat) (n0 T0:Nat) (g0:List GenState) (m:Int) (tm:Tok) (k:Nat) (c0 c1 c2 c3 c4 c5 c6 c7 c8:Nat) (t0 t1 t2 t3 t4 t5 t6 t7 t8 t9:Tok) (k0 k1 k2 k3 k4 k5:Tok) (v2 v3 v4 v5:Value) : List Sum:=[]
def r_fm1 (w:World) (n T:Nat) (g:List GenState) (n0 T0:Nat) (g0:List GenState) (m:Int) (tm:Tok) (k:Nat) (c0 c1 c2 c3 c4 c5 c6 c7 c8:Nat) (t0 t1 t2 t3 t4 t5 t6 t7 t8 t9:Tok) (k0 k1 k2 k3 k4 k5:Tok) (v2 v3 v4 v5:Value) : Out:=runK w n T 450 20000 (digits 5 17039362) (u_fm1 w n T n0 T0 g0 m tm k c0 c1 c2 c3 c4 c5 c6 c7 c8 t0 t1 t2 t3 t4 t5 t6 t7 t8 t9 k0 k1 k2 k3 k4 k5 v2 v3 v4 v5) (r_fm0 w n0 T0 g0 m tm) (.ok .next) [((n0 + 1),liO [.str (sx [45]) t9,.str (sx [c0]) t0,.str (sx [c1]) t1,.str (sx [c2]) t2,.str (sx [c3]) t3,.str (sx [c4]) t4,.str (sx [c5]) t5,.str (sx [c6]) t6,.str (sx [c7]) t7,.str (sx [c8]) t8] k),(n0,fmF6 w.params k0 k1 k2 k3 k4 k5 m tm (n0 + 1) v2 v3 v4 v5)] g
def b_fm1 (n T:Nat) (n0 T0:Nat) (g0:List GenState) (m:Int) (tm:Tok) (k:Nat) (c0 c1 c2 c3 c4 c5 c6 c7 c8:Nat) (t0 t1 t2 t3 t4 t5 t6 t7 t8 t9:Tok) (k0 k1 k2 k3 k4 k5:Tok) (v2 v3 v4 v5:Value) : List (Bool × Bool):=[]
theorem e_fm1 (b:Bool) (w:World) (n T:Nat) (g:List GenState) (n0 T0:Nat) (g0:List GenState) (m:Int) (tm:Tok) (k:Nat) (c0 c1 c2 c3 c4 c5 c6 c7 c8:Nat) (t0 t1 t2 t3 t4 t5 t6 t7 t8 t9:Tok) (k0 k1 k2 k3 k4 k5:Tok) (v2 v3 v4 v5:Value) : (r_fm1 (W b w) n T g n0 T0 g0 m tm k c0 c1 c2 c3 c4 c5 c6 c7 c8 t0 t1 t2 t3 t4 t5 t6 t7 t8 t9 k0 k1 k2 k3 k4 k5 v2 v3 v4 v5).M [false,false] = (r_fm1 (W b w) n T g n0 T0 g0 m tm k c0 c1 c2 c3 c4 c5 c6 c7 c8 t0 t1 t2 t3 t4 t5 t6 t7 t8 t9 k0 k1 k2 k3 k4 k5 v2 v3 v4 v5).N (b_fm1 n T n0 T0 g0 m tm k c0 c1 c2 c3 c4 c5 c6 c7 c8 t0 t1 t2 t3 t4 t5 t6 t7 t8 t9 k0 k1 k2 k3 k4 k5 v2 v3 v4 v5) (.done (.ok (.ret (.str (sx [45,c0,c1,c2,c3,c4,c5,c6,c7,c8]) (T + 1))))) (0) (2) g []:=by cases b <;> kernel_rfl
noncomputable def g_fm1 {b:Bool} {w:World} (n0 T0:Nat) (g0:List GenState) (m:Int) (tm:Tok) (k:Nat) (c0 c1 c2 c3 c4 c5 c6 c7 c8:Nat) (t0 t1 t2 t3 t4 t5 t6 t7 t8 t9:Tok) (k0 k1 k2 k3 k4 k5:Tok) (v2 v3 v4 v5:Value):=mkK (fun n T g => e_fm1 b w n T g n0 T0 g0 m tm k c0 c1 c2 c3 c4 c5 c6 c7 c8 t0 t1 t2 t3 t4 t5 t6 t7 t8 t9 k0 k1 k2 k3 k4 k5 v2 v3 v4 v5) (fun _ _ _ => rfl) (by decide)
def u_fm2 (w:World) (n T:Nat) (L:Nat) : List Sum:=[]
def r_fm2 (w:World) (n T:Nat) (g:List GenState) (L:Nat) : Out:=runC (G0 w n T 460) 20000 (digits 0 0) (u_fm2 w n T L) (.block fmO (fmEnv L)) [] g
def b_fm2 (n T:Nat) (L:Nat) : List (Bool × Bool):=[]
theorem e_fm2 (b:Bool) (w:World) (n T:Nat) (g:List GenState) (L:Nat) : (r_fm2 (W b w) n T g L).M [] = (r_fm2 (W b w) n T g L).N (b_fm2 n T L) (.done (.ok .next)) (0) (0) g []:=by cases b <;> kernel_rfl
noncomputable def g_fm2 {b:Bool} {w:World} (L:Nat):=mkD (fun n T g => e_fm2 b w n T g L) (fun _ _ _ => rfl) rfl (by decide)
noncomputable def sg1 (m:Int) (b c:Nat) : Nat:=match Builtin.bitAnd m (b:Int) == (b:Int) with
  | true => c
  | false => 45
noncomputable def sg3 (m:Int) (xs s x cs cS:Nat) : Nat:=match Builtin.bitAnd m (xs:Int) == (xs:Int) with
  | true => cs
  | false => match Builtin.bitAnd m (s:Int) == (s:Int) with
    | true => cS
    | false => match Builtin.bitAnd m (x:Int) == (x:Int) with
      | true => 120
      | false => 45
section
variable {b:Bool} {w:World} {A:Around} {R:Result → Shared → Prop} {v:Nat} {F:List (Addr × Obj)} {H:Heap} {s:Shared} {L en ti pl k:Nat} {k0 k1 k2 k3 k4 k5 tm:Tok} {m:Int} {la v2 v3 v4 v5:Value} (hL:Lv A v) (hv:v ≤ 460)
include hL hv
theorem fm_end (D:Hp (W b w) H s.heap ((en,enP ti 10 .none la) :: (ti,tiO 806 10) :: F)) (post:∀ s',Sm s s' → Hp (W b w) H s'.heap F → R (.ok .next) s') : codeAny (model P0 (W b w)) A (fmLoop L en) R s:=by
  refine y_code _ _ _ _ _ _ ?_
  show wpOwn _ A (fmLoop L en) ((forTurn fmT (.ref en) fmB fmO (fmEnv L)).onRaise (fun x => noteFrame x (fmEnv L) >>= fun _ => theTreesLotGoes x)) _ _ s
  refine wpOwn_onRaise ?_
  generalize (fun (e:Value) (s':Shared) => wpOwn (model P0 (W b w)) A (fmLoop L en) (noteFrame e (fmEnv L) >>= fun _ => theTreesLotGoes e) (fun _ s'' => postE R e s'') (postE R) s') = E'
  show wpOwn _ A (fmLoop L en) (standAt fmT.pos >>= fun _ => (pyNext (.ref en)).onRaise (fun _ => standAt { fmT.pos with line:=0 }) >>= fun o => match o with
    | none => again (.block fmO (fmEnv L))
    | some v => letOwnedTupleGo fmT (.ref en) v >>= fun _ => assign fmT (fmEnv L) v >>= fun _ => execs fmB (fmEnv L) >>= fun f => match f with
      | .next | .cont => again (fmLoop L en)
      | .brk => pure (.done .next)
      | .ret v => pure (.done (.ret v))) _ _ s
  refine wpOwn_bind (wpOwn_of_wpAny (wpAny_standAt ?_))
  refine wpOwn_bind (own_opt ?_)
  rw [show @pyNext = twNext from PySem.W.Fast.te9404975358583537561]
  refine g_fn10 (R_:=resO _ _) (F_:=F) L en ti la (fun n T y hy => nm hy) (fun n T q hq => nm hq) hL hv D fun s₁ N₁ => ?_
  dsimp only [resO]
  refine wpOwn_of_wpAny (wpAny_pure ⟨by kernel_rfl,?_⟩)
  refine g_fm2 (F_:=F) L (fun n T y hy => nm hy) (fun n T q hq => nm hq) hL hv N₁.hp fun s₂ N₂ => ?_
  exact post s₂ (N₁.sm.trans N₂.sm) N₂.hp
theorem fmt0 (h1:(Builtin.bitAnd m 61440 == 32768) = true) (D:Hp (W b w) H s.heap ((L,fmF2 (W b w).params k0 k1 m tm pl) :: (pl,liO [] k) :: (en,enP ti 0 .none la) :: (ti,tiO 806 0) :: F))
    (post:∀ (s':Shared) (k2 k3 k4 k5 t:Tok) (la v2 v3 v4 v5:Value),Sm s s' → Hp (W b w) H s'.heap ((L,fmF6 (W b w).params k0 k1 k2 k3 k4 k5 m tm pl v2 v3 v4 v5) :: (pl,liO [.str (sx [45]) t] (k + 1)) :: (en,enP ti 1 .none la) :: (ti,tiO 806 1) :: F) → codeAny (model P0 (W b w)) A (fmLoop L en) R s') :
    codeAny (model P0 (W b w)) A (fmLoop L en) R s:=by
  have D0:=D.pm (S':=[(en,enP ti 0 .none la),(ti,tiO 806 0)] ++ ((L,fmF2 (W b w).params k0 k1 m tm pl) :: (pl,liO [] k) :: F))
  refine fm_turn (L:=L) (en:=en) (ti:=ti) (tp:=s.heap.objs.size) (i:=0) (last:=.ref 781) (F:=(ti,tiO 806 1) :: (L,fmF2 (W b w).params k0 k1 m tm pl) :: (pl,liO [] k) :: F) (fun R' h => g_fn0 (F_:=(L,fmF2 (W b w).params k0 k1 m tm pl) :: (pl,liO [] k) :: F) (R_:=R') L en ti la (fun n T y hy => nm hy) (fun n T q hq => nm hq) hL hv D0 fun s' N => h s' N) fun s' N R' hk => ?_
  have D':=N.hp.pm (S':=[(s.heap.objs.size,tup2 (.int (Int.ofNat 0) s.toks) (.ref 781)),(L,fmF2 (W b w).params k0 k1 m tm pl),(pl,liO [] k)] ++ ((en,enP ti 1 .none (.ref 781)) :: (ti,tiO 806 1) :: F))
  have e : Builtin.bitAnd m 61440 = 32768:=by simpa using h1
  have h2 : (Builtin.bitAnd m 61440 == 49152) = false:=by rw [e]; rfl
  have h3 : (Builtin.bitAnd m 61440 == 40960) = false:=by rw [e]; rfl
  refine g_fb0 (F_:=(en,enP ti 1 .none (.ref 781)) :: (ti,tiO 806 1) :: F) L en pl s.heap.objs.size k k0 k1 0 0 0 0 tm s.toks m .none .none .none .none (fun n T y hy => nm hy) (fun n T => all_pairs (by unfold b_fb0; simp only [h1,h2,h3]; rfl)) hL hv D' fun s'' N' => hk s'' ?_
  exact post s'' _ _ _ _ _ (.ref 781) _ _ _ _ (N.sm.trans N'.sm) N'.hp
theorem fmt1 {p0:Value} (D:Hp (W b w) H s.heap ((L,fmF6 (W b w).params k0 k1 k2 k3 k4 k5 m tm pl v2 v3 v4 v5) :: (pl,liO [p0] k) :: (en,enP ti 1 .none la) :: (ti,tiO 806 1) :: F))
    (post:∀ (s':Shared) (k2 k3 k4 k5 t:Tok) (la v2 v3 v4 v5:Value),Sm s s' → Hp (W b w) H s'.heap ((L,fmF6 (W b w).params k0 k1 k2 k3 k4 k5 m tm pl v2 v3 v4 v5) :: (pl,liO [p0,.str (sx [(sg1 m 256 114)]) t] (k + 1)) :: (en,enP ti 2 .none la) :: (ti,tiO 806 2) :: F) → codeAny (model P0 (W b w)) A (fmLoop L en) R s') :
    codeAny (model P0 (W b w)) A (fmLoop L en) R s:=by
  have D0:=D.pm (S':=[(en,enP ti 1 .none la),(ti,tiO 806 1)] ++ ((L,fmF6 (W b w).params k0 k1 k2 k3 k4 k5 m tm pl v2 v3 v4 v5) :: (pl,liO [p0] k) :: F))
  refine fm_turn (L:=L) (en:=en) (ti:=ti) (tp:=s.heap.objs.size) (i:=1) (last:=.ref 783) (F:=(ti,tiO 806 2) :: (L,fmF6 (W b w).params k0 k1 k2 k3 k4 k5 m tm pl v2 v3 v4 v5) :: (pl,liO [p0] k) :: F) (fun R' h => g_fn1 (F_:=(L,fmF6 (W b w).params k0 k1 k2 k3 k4 k5 m tm pl v2 v3 v4 v5) :: (pl,liO [p0] k) :: F) (R_:=R') L en ti la (fun n T y hy => nm hy) (fun n T q hq => nm hq) hL hv D0 fun s' N => h s' N) fun s' N R' hk => ?_
  have D':=N.hp.pm (S':=[(s.heap.objs.size,tup2 (.int (Int.ofNat 1) s.toks) (.ref 783)),(L,fmF6 (W b w).params k0 k1 k2 k3 k4 k5 m tm pl v2 v3 v4 v5),(pl,liO [p0] k)] ++ ((en,enP ti 2 .none (.ref 783)) :: (ti,tiO 806 2) :: F))
  unfold sg1 at post
  cases h1 : Builtin.bitAnd m 256 == 256 with
  | true =>
    have h1' : (Builtin.bitAnd m ((256 : Nat) : Int) == ((256 : Nat) : Int)) = true:=h1
    simp only [h1'] at post
    refine g_fb1t (F_:=(en,enP ti 2 .none (.ref 783)) :: (ti,tiO 806 2) :: F) L en pl s.heap.objs.size k k0 k1 k2 k3 k4 k5 tm s.toks m v2 v3 v4 v5 p0 (fun n T y hy => nm hy) (fun n T => all_pairs (by unfold b_fb1t; simp only [h1]; rfl)) hL hv D' fun s'' N' => hk s'' ?_
    exact post s'' _ _ _ _ _ (.ref 783) _ _ _ _ (N.sm.trans N'.sm) N'.hp
  | false =>
    have h1' : (Builtin.bitAnd m ((256 : Nat) : Int) == ((256 : Nat) : Int)) = false:=h1
    simp only [h1'] at post
    refine g_fb1f (F_:=(en,enP ti 2 .none (.ref 783)) :: (ti,tiO 806 2) :: F) L en pl s.heap.objs.size k k0 k1 k2 k3 k4 k5 tm s.toks m v2 v3 v4 v5 p0 (fun n T y hy => nm hy) (fun n T => all_pairs (by unfold b_fb1f; simp only [h1]; rfl)) hL hv D' fun s'' N' => hk s'' ?_
    exact post s'' _ _ _ _ _ (.ref 783) _ _ _ _ (N.sm.trans N'.sm) N'.hp
theorem fmt2 {p0 p1:Value} (D:Hp (W b w) H s.heap ((L,fmF6 (W b w).params k0 k1 k2 k3 k4 k5 m tm pl v2 v3 v4 v5) :: (pl,liO [p0,p1] k) :: (en,enP ti 2 .none la) :: (ti,tiO 806 2) :: F))
    (post:∀ (s':Shared) (k2 k3 k4 k5 t:Tok) (la v2 v3 v4 v5:Value),Sm s s' → Hp (W b w) H s'.heap ((L,fmF6 (W b w).params k0 k1 k2 k3 k4 k5 m tm pl v2 v3 v4 v5) :: (pl,liO [p0,p1,.str (sx [(sg1 m 128 119)]) t] (k + 1)) :: (en,enP ti 3 .none la) :: (ti,tiO 806 3) :: F) → codeAny (model P0 (W b w)) A (fmLoop L en) R s') :
    codeAny (model P0 (W b w)) A (fmLoop L en) R s:=by
  have D0:=D.pm (S':=[(en,enP ti 2 .none la),(ti,tiO 806 2)] ++ ((L,fmF6 (W b w).params k0 k1 k2 k3 k4 k5 m tm pl v2 v3 v4 v5) :: (pl,liO [p0,p1] k) :: F))
  refine fm_turn (L:=L) (en:=en) (ti:=ti) (tp:=s.heap.objs.size) (i:=2) (last:=.ref 785) (F:=(ti,tiO 806 3) :: (L,fmF6 (W b w).params k0 k1 k2 k3 k4 k5 m tm pl v2 v3 v4 v5) :: (pl,liO [p0,p1] k) :: F) (fun R' h => g_fn2 (F_:=(L,fmF6 (W b w).params k0 k1 k2 k3 k4 k5 m tm pl v2 v3 v4 v5) :: (pl,liO [p0,p1] k) :: F) (R_:=R') L en ti la (fun n T y hy => nm hy) (fun n T q hq => nm hq) hL hv D0 fun s' N => h s' N) fun s' N R' hk => ?_
  have D':=N.hp.pm (S':=[(s.heap.objs.size,tup2 (.int (Int.ofNat 2) s.toks) (.ref 785)),(L,fmF6 (W b w).params k0 k1 k2 k3 k4 k5 m tm pl v2 v3 v4 v5),(pl,liO [p0,p1] k)] ++ ((en,enP ti 3 .none (.ref 785)) :: (ti,tiO 806 3) :: F))
  unfold sg1 at post
  cases h1 : Builtin.bitAnd m 128 == 128 with
  | true =>
    have h1' : (Builtin.bitAnd m ((128 : Nat) : Int) == ((128 : Nat) : Int)) = true:=h1
    simp only [h1'] at post
    refine g_fb2t (F_:=(en,enP ti 3 .none (.ref 785)) :: (ti,tiO 806 3) :: F) L en pl s.heap.objs.size k k0 k1 k2 k3 k4 k5 tm s.toks m v2 v3 v4 v5 p0 p1 (fun n T y hy => nm hy) (fun n T => all_pairs (by unfold b_fb2t; simp only [h1]; rfl)) hL hv D' fun s'' N' => hk s'' ?_
    exact post s'' _ _ _ _ _ (.ref 785) _ _ _ _ (N.sm.trans N'.sm) N'.hp
  | false =>
    have h1' : (Builtin.bitAnd m ((128 : Nat) : Int) == ((128 : Nat) : Int)) = false:=h1
    simp only [h1'] at post
    refine g_fb2f (F_:=(en,enP ti 3 .none (.ref 785)) :: (ti,tiO 806 3) :: F) L en pl s.heap.objs.size k k0 k1 k2 k3 k4 k5 tm s.toks m v2 v3 v4 v5 p0 p1 (fun n T y hy => nm hy) (fun n T => all_pairs (by unfold b_fb2f; simp only [h1]; rfl)) hL hv D' fun s'' N' => hk s'' ?_
    exact post s'' _ _ _ _ _ (.ref 785) _ _ _ _ (N.sm.trans N'.sm) N'.hp
theorem fmt3 {p0 p1 p2:Value} (D:Hp (W b w) H s.heap ((L,fmF6 (W b w).params k0 k1 k2 k3 k4 k5 m tm pl v2 v3 v4 v5) :: (pl,liO [p0,p1,p2] k) :: (en,enP ti 3 .none la) :: (ti,tiO 806 3) :: F))
    (post:∀ (s':Shared) (k2 k3 k4 k5 t:Tok) (la v2 v3 v4 v5:Value),Sm s s' → Hp (W b w) H s'.heap ((L,fmF6 (W b w).params k0 k1 k2 k3 k4 k5 m tm pl v2 v3 v4 v5) :: (pl,liO [p0,p1,p2,.str (sx [(sg3 m 2112 2048 64 115 83)]) t] (k + 1)) :: (en,enP ti 4 .none la) :: (ti,tiO 806 4) :: F) → codeAny (model P0 (W b w)) A (fmLoop L en) R s') :
    codeAny (model P0 (W b w)) A (fmLoop L en) R s:=by
  have D0:=D.pm (S':=[(en,enP ti 3 .none la),(ti,tiO 806 3)] ++ ((L,fmF6 (W b w).params k0 k1 k2 k3 k4 k5 m tm pl v2 v3 v4 v5) :: (pl,liO [p0,p1,p2] k) :: F))
  refine fm_turn (L:=L) (en:=en) (ti:=ti) (tp:=s.heap.objs.size) (i:=3) (last:=.ref 789) (F:=(ti,tiO 806 4) :: (L,fmF6 (W b w).params k0 k1 k2 k3 k4 k5 m tm pl v2 v3 v4 v5) :: (pl,liO [p0,p1,p2] k) :: F) (fun R' h => g_fn3 (F_:=(L,fmF6 (W b w).params k0 k1 k2 k3 k4 k5 m tm pl v2 v3 v4 v5) :: (pl,liO [p0,p1,p2] k) :: F) (R_:=R') L en ti la (fun n T y hy => nm hy) (fun n T q hq => nm hq) hL hv D0 fun s' N => h s' N) fun s' N R' hk => ?_
  have D':=N.hp.pm (S':=[(s.heap.objs.size,tup2 (.int (Int.ofNat 3) s.toks) (.ref 789)),(L,fmF6 (W b w).params k0 k1 k2 k3 k4 k5 m tm pl v2 v3 v4 v5),(pl,liO [p0,p1,p2] k)] ++ ((en,enP ti 4 .none (.ref 789)) :: (ti,tiO 806 4) :: F))
  unfold sg3 at post
  cases h1 : Builtin.bitAnd m 2112 == 2112 with
  | true =>
    have h1' : (Builtin.bitAnd m ((2112 : Nat) : Int) == ((2112 : Nat) : Int)) = true:=h1
    simp only [h1'] at post
    refine g_fb3t (F_:=(en,enP ti 4 .none (.ref 789)) :: (ti,tiO 806 4) :: F) L en pl s.heap.objs.size k k0 k1 k2 k3 k4 k5 tm s.toks m v2 v3 v4 v5 p0 p1 p2 (fun n T y hy => nm hy) (fun n T => all_pairs (by unfold b_fb3t; simp only [h1]; rfl)) hL hv D' fun s'' N' => hk s'' ?_
    exact post s'' _ _ _ _ _ (.ref 789) _ _ _ _ (N.sm.trans N'.sm) N'.hp
  | false =>
    have h1' : (Builtin.bitAnd m ((2112 : Nat) : Int) == ((2112 : Nat) : Int)) = false:=h1
    cases h2 : Builtin.bitAnd m 2048 == 2048 with
    | true =>
      have h2' : (Builtin.bitAnd m ((2048 : Nat) : Int) == ((2048 : Nat) : Int)) = true:=h2
      simp only [h1',h2'] at post
      refine g_fb3ft (F_:=(en,enP ti 4 .none (.ref 789)) :: (ti,tiO 806 4) :: F) L en pl s.heap.objs.size k k0 k1 k2 k3 k4 k5 tm s.toks m v2 v3 v4 v5 p0 p1 p2 (fun n T y hy => nm hy) (fun n T => all_pairs (by unfold b_fb3ft; simp only [h1,h2]; rfl)) hL hv D' fun s'' N' => hk s'' ?_
      exact post s'' _ _ _ _ _ (.ref 789) _ _ _ _ (N.sm.trans N'.sm) N'.hp
    | false =>
      have h2' : (Builtin.bitAnd m ((2048 : Nat) : Int) == ((2048 : Nat) : Int)) = false:=h2
      cases h3 : Builtin.bitAnd m 64 == 64 with
      | true =>
        have h3' : (Builtin.bitAnd m ((64 : Nat) : Int) == ((64 : Nat) : Int)) = true:=h3
        simp only [h1',h2',h3'] at post
        refine g_fb3fft (F_:=(en,enP ti 4 .none (.ref 789)) :: (ti,tiO 806 4) :: F) L en pl s.heap.objs.size k k0 k1 k2 k3 k4 k5 tm s.toks m v2 v3 v4 v5 p0 p1 p2 (fun n T y hy => nm hy) (fun n T => all_pairs (by unfold b_fb3fft; simp only [h1,h2,h3]; rfl)) hL hv D' fun s'' N' => hk s'' ?_
        exact post s'' _ _ _ _ _ (.ref 789) _ _ _ _ (N.sm.trans N'.sm) N'.hp
      | false =>
        have h3' : (Builtin.bitAnd m ((64 : Nat) : Int) == ((64 : Nat) : Int)) = false:=h3
        simp only [h1',h2',h3'] at post
        refine g_fb3fff (F_:=(en,enP ti 4 .none (.ref 789)) :: (ti,tiO 806 4) :: F) L en pl s.heap.objs.size k k0 k1 k2 k3 k4 k5 tm s.toks m v2 v3 v4 v5 p0 p1 p2 (fun n T y hy => nm hy) (fun n T => all_pairs (by unfold b_fb3fff; simp only [h1,h2,h3]; rfl)) hL hv D' fun s'' N' => hk s'' ?_
        exact post s'' _ _ _ _ _ (.ref 789) _ _ _ _ (N.sm.trans N'.sm) N'.hp
theorem fmt4 {p0 p1 p2 p3:Value} (D:Hp (W b w) H s.heap ((L,fmF6 (W b w).params k0 k1 k2 k3 k4 k5 m tm pl v2 v3 v4 v5) :: (pl,liO [p0,p1,p2,p3] k) :: (en,enP ti 4 .none la) :: (ti,tiO 806 4) :: F))
    (post:∀ (s':Shared) (k2 k3 k4 k5 t:Tok) (la v2 v3 v4 v5:Value),Sm s s' → Hp (W b w) H s'.heap ((L,fmF6 (W b w).params k0 k1 k2 k3 k4 k5 m tm pl v2 v3 v4 v5) :: (pl,liO [p0,p1,p2,p3,.str (sx [(sg1 m 32 114)]) t] (k + 1)) :: (en,enP ti 5 .none la) :: (ti,tiO 806 5) :: F) → codeAny (model P0 (W b w)) A (fmLoop L en) R s') :
    codeAny (model P0 (W b w)) A (fmLoop L en) R s:=by
  have D0:=D.pm (S':=[(en,enP ti 4 .none la),(ti,tiO 806 4)] ++ ((L,fmF6 (W b w).params k0 k1 k2 k3 k4 k5 m tm pl v2 v3 v4 v5) :: (pl,liO [p0,p1,p2,p3] k) :: F))
  refine fm_turn (L:=L) (en:=en) (ti:=ti) (tp:=s.heap.objs.size) (i:=4) (last:=.ref 791) (F:=(ti,tiO 806 5) :: (L,fmF6 (W b w).params k0 k1 k2 k3 k4 k5 m tm pl v2 v3 v4 v5) :: (pl,liO [p0,p1,p2,p3] k) :: F) (fun R' h => g_fn4 (F_:=(L,fmF6 (W b w).params k0 k1 k2 k3 k4 k5 m tm pl v2 v3 v4 v5) :: (pl,liO [p0,p1,p2,p3] k) :: F) (R_:=R') L en ti la (fun n T y hy => nm hy) (fun n T q hq => nm hq) hL hv D0 fun s' N => h s' N) fun s' N R' hk => ?_
  have D':=N.hp.pm (S':=[(s.heap.objs.size,tup2 (.int (Int.ofNat 4) s.toks) (.ref 791)),(L,fmF6 (W b w).params k0 k1 k2 k3 k4 k5 m tm pl v2 v3 v4 v5),(pl,liO [p0,p1,p2,p3] k)] ++ ((en,enP ti 5 .none (.ref 791)) :: (ti,tiO 806 5) :: F))
  unfold sg1 at post
  cases h1 : Builtin.bitAnd m 32 == 32 with
  | true =>
    have h1' : (Builtin.bitAnd m ((32 : Nat) : Int) == ((32 : Nat) : Int)) = true:=h1
    simp only [h1'] at post
    refine g_fb4t (F_:=(en,enP ti 5 .none (.ref 791)) :: (ti,tiO 806 5) :: F) L en pl s.heap.objs.size k k0 k1 k2 k3 k4 k5 tm s.toks m v2 v3 v4 v5 p0 p1 p2 p3 (fun n T y hy => nm hy) (fun n T => all_pairs (by unfold b_fb4t; simp only [h1]; rfl)) hL hv D' fun s'' N' => hk s'' ?_
    exact post s'' _ _ _ _ _ (.ref 791) _ _ _ _ (N.sm.trans N'.sm) N'.hp
  | false =>
    have h1' : (Builtin.bitAnd m ((32 : Nat) : Int) == ((32 : Nat) : Int)) = false:=h1
    simp only [h1'] at post
    refine g_fb4f (F_:=(en,enP ti 5 .none (.ref 791)) :: (ti,tiO 806 5) :: F) L en pl s.heap.objs.size k k0 k1 k2 k3 k4 k5 tm s.toks m v2 v3 v4 v5 p0 p1 p2 p3 (fun n T y hy => nm hy) (fun n T => all_pairs (by unfold b_fb4f; simp only [h1]; rfl)) hL hv D' fun s'' N' => hk s'' ?_
    exact post s'' _ _ _ _ _ (.ref 791) _ _ _ _ (N.sm.trans N'.sm) N'.hp
theorem fmt5 {p0 p1 p2 p3 p4:Value} (D:Hp (W b w) H s.heap ((L,fmF6 (W b w).params k0 k1 k2 k3 k4 k5 m tm pl v2 v3 v4 v5) :: (pl,liO [p0,p1,p2,p3,p4] k) :: (en,enP ti 5 .none la) :: (ti,tiO 806 5) :: F))
    (post:∀ (s':Shared) (k2 k3 k4 k5 t:Tok) (la v2 v3 v4 v5:Value),Sm s s' → Hp (W b w) H s'.heap ((L,fmF6 (W b w).params k0 k1 k2 k3 k4 k5 m tm pl v2 v3 v4 v5) :: (pl,liO [p0,p1,p2,p3,p4,.str (sx [(sg1 m 16 119)]) t] (k + 1)) :: (en,enP ti 6 .none la) :: (ti,tiO 806 6) :: F) → codeAny (model P0 (W b w)) A (fmLoop L en) R s') :
    codeAny (model P0 (W b w)) A (fmLoop L en) R s:=by
  have D0:=D.pm (S':=[(en,enP ti 5 .none la),(ti,tiO 806 5)] ++ ((L,fmF6 (W b w).params k0 k1 k2 k3 k4 k5 m tm pl v2 v3 v4 v5) :: (pl,liO [p0,p1,p2,p3,p4] k) :: F))
  refine fm_turn (L:=L) (en:=en) (ti:=ti) (tp:=s.heap.objs.size) (i:=5) (last:=.ref 793) (F:=(ti,tiO 806 6) :: (L,fmF6 (W b w).params k0 k1 k2 k3 k4 k5 m tm pl v2 v3 v4 v5) :: (pl,liO [p0,p1,p2,p3,p4] k) :: F) (fun R' h => g_fn5 (F_:=(L,fmF6 (W b w).params k0 k1 k2 k3 k4 k5 m tm pl v2 v3 v4 v5) :: (pl,liO [p0,p1,p2,p3,p4] k) :: F) (R_:=R') L en ti la (fun n T y hy => nm hy) (fun n T q hq => nm hq) hL hv D0 fun s' N => h s' N) fun s' N R' hk => ?_
  have D':=N.hp.pm (S':=[(s.heap.objs.size,tup2 (.int (Int.ofNat 5) s.toks) (.ref 793)),(L,fmF6 (W b w).params k0 k1 k2 k3 k4 k5 m tm pl v2 v3 v4 v5),(pl,liO [p0,p1,p2,p3,p4] k)] ++ ((en,enP ti 6 .none (.ref 793)) :: (ti,tiO 806 6) :: F))
  unfold sg1 at post
  cases h1 : Builtin.bitAnd m 16 == 16 with
  | true =>
    have h1' : (Builtin.bitAnd m ((16 : Nat) : Int) == ((16 : Nat) : Int)) = true:=h1
    simp only [h1'] at post
    refine g_fb5t (F_:=(en,enP ti 6 .none (.ref 793)) :: (ti,tiO 806 6) :: F) L en pl s.heap.objs.size k k0 k1 k2 k3 k4 k5 tm s.toks m v2 v3 v4 v5 p0 p1 p2 p3 p4 (fun n T y hy => nm hy) (fun n T => all_pairs (by unfold b_fb5t; simp only [h1]; rfl)) hL hv D' fun s'' N' => hk s'' ?_
    exact post s'' _ _ _ _ _ (.ref 793) _ _ _ _ (N.sm.trans N'.sm) N'.hp
  | false =>
    have h1' : (Builtin.bitAnd m ((16 : Nat) : Int) == ((16 : Nat) : Int)) = false:=h1
    simp only [h1'] at post
    refine g_fb5f (F_:=(en,enP ti 6 .none (.ref 793)) :: (ti,tiO 806 6) :: F) L en pl s.heap.objs.size k k0 k1 k2 k3 k4 k5 tm s.toks m v2 v3 v4 v5 p0 p1 p2 p3 p4 (fun n T y hy => nm hy) (fun n T => all_pairs (by unfold b_fb5f; simp only [h1]; rfl)) hL hv D' fun s'' N' => hk s'' ?_
    exact post s'' _ _ _ _ _ (.ref 793) _ _ _ _ (N.sm.trans N'.sm) N'.hp
theorem fmt6 {p0 p1 p2 p3 p4 p5:Value} (D:Hp (W b w) H s.heap ((L,fmF6 (W b w).params k0 k1 k2 k3 k4 k5 m tm pl v2 v3 v4 v5) :: (pl,liO [p0,p1,p2,p3,p4,p5] k) :: (en,enP ti 6 .none la) :: (ti,tiO 806 6) :: F))
    (post:∀ (s':Shared) (k2 k3 k4 k5 t:Tok) (la v2 v3 v4 v5:Value),Sm s s' → Hp (W b w) H s'.heap ((L,fmF6 (W b w).params k0 k1 k2 k3 k4 k5 m tm pl v2 v3 v4 v5) :: (pl,liO [p0,p1,p2,p3,p4,p5,.str (sx [(sg3 m 1032 1024 8 115 83)]) t] (k + 1)) :: (en,enP ti 7 .none la) :: (ti,tiO 806 7) :: F) → codeAny (model P0 (W b w)) A (fmLoop L en) R s') :
    codeAny (model P0 (W b w)) A (fmLoop L en) R s:=by
  have D0:=D.pm (S':=[(en,enP ti 6 .none la),(ti,tiO 806 6)] ++ ((L,fmF6 (W b w).params k0 k1 k2 k3 k4 k5 m tm pl v2 v3 v4 v5) :: (pl,liO [p0,p1,p2,p3,p4,p5] k) :: F))
  refine fm_turn (L:=L) (en:=en) (ti:=ti) (tp:=s.heap.objs.size) (i:=6) (last:=.ref 797) (F:=(ti,tiO 806 7) :: (L,fmF6 (W b w).params k0 k1 k2 k3 k4 k5 m tm pl v2 v3 v4 v5) :: (pl,liO [p0,p1,p2,p3,p4,p5] k) :: F) (fun R' h => g_fn6 (F_:=(L,fmF6 (W b w).params k0 k1 k2 k3 k4 k5 m tm pl v2 v3 v4 v5) :: (pl,liO [p0,p1,p2,p3,p4,p5] k) :: F) (R_:=R') L en ti la (fun n T y hy => nm hy) (fun n T q hq => nm hq) hL hv D0 fun s' N => h s' N) fun s' N R' hk => ?_
  have D':=N.hp.pm (S':=[(s.heap.objs.size,tup2 (.int (Int.ofNat 6) s.toks) (.ref 797)),(L,fmF6 (W b w).params k0 k1 k2 k3 k4 k5 m tm pl v2 v3 v4 v5),(pl,liO [p0,p1,p2,p3,p4,p5] k)] ++ ((en,enP ti 7 .none (.ref 797)) :: (ti,tiO 806 7) :: F))
  unfold sg3 at post
  cases h1 : Builtin.bitAnd m 1032 == 1032 with
  | true =>
    have h1' : (Builtin.bitAnd m ((1032 : Nat) : Int) == ((1032 : Nat) : Int)) = true:=h1
    simp only [h1'] at post
    refine g_fb6t (F_:=(en,enP ti 7 .none (.ref 797)) :: (ti,tiO 806 7) :: F) L en pl s.heap.objs.size k k0 k1 k2 k3 k4 k5 tm s.toks m v2 v3 v4 v5 p0 p1 p2 p3 p4 p5 (fun n T y hy => nm hy) (fun n T => all_pairs (by unfold b_fb6t; simp only [h1]; rfl)) hL hv D' fun s'' N' => hk s'' ?_
    exact post s'' _ _ _ _ _ (.ref 797) _ _ _ _ (N.sm.trans N'.sm) N'.hp
  | false =>
    have h1' : (Builtin.bitAnd m ((1032 : Nat) : Int) == ((1032 : Nat) : Int)) = false:=h1
    cases h2 : Builtin.bitAnd m 1024 == 1024 with
    | true =>
      have h2' : (Builtin.bitAnd m ((1024 : Nat) : Int) == ((1024 : Nat) : Int)) = true:=h2
      simp only [h1',h2'] at post
      refine g_fb6ft (F_:=(en,enP ti 7 .none (.ref 797)) :: (ti,tiO 806 7) :: F) L en pl s.heap.objs.size k k0 k1 k2 k3 k4 k5 tm s.toks m v2 v3 v4 v5 p0 p1 p2 p3 p4 p5 (fun n T y hy => nm hy) (fun n T => all_pairs (by unfold b_fb6ft; simp only [h1,h2]; rfl)) hL hv D' fun s'' N' => hk s'' ?_
      exact post s'' _ _ _ _ _ (.ref 797) _ _ _ _ (N.sm.trans N'.sm) N'.hp
    | false =>
      have h2' : (Builtin.bitAnd m ((1024 : Nat) : Int) == ((1024 : Nat) : Int)) = false:=h2
      cases h3 : Builtin.bitAnd m 8 == 8 with
      | true =>
        have h3' : (Builtin.bitAnd m ((8 : Nat) : Int) == ((8 : Nat) : Int)) = true:=h3
        simp only [h1',h2',h3'] at post
        refine g_fb6fft (F_:=(en,enP ti 7 .none (.ref 797)) :: (ti,tiO 806 7) :: F) L en pl s.heap.objs.size k k0 k1 k2 k3 k4 k5 tm s.toks m v2 v3 v4 v5 p0 p1 p2 p3 p4 p5 (fun n T y hy => nm hy) (fun n T => all_pairs (by unfold b_fb6fft; simp only [h1,h2,h3]; rfl)) hL hv D' fun s'' N' => hk s'' ?_
        exact post s'' _ _ _ _ _ (.ref 797) _ _ _ _ (N.sm.trans N'.sm) N'.hp
      | false =>
        have h3' : (Builtin.bitAnd m ((8 : Nat) : Int) == ((8 : Nat) : Int)) = false:=h3
        simp only [h1',h2',h3'] at post
        refine g_fb6fff (F_:=(en,enP ti 7 .none (.ref 797)) :: (ti,tiO 806 7) :: F) L en pl s.heap.objs.size k k0 k1 k2 k3 k4 k5 tm s.toks m v2 v3 v4 v5 p0 p1 p2 p3 p4 p5 (fun n T y hy => nm hy) (fun n T => all_pairs (by unfold b_fb6fff; simp only [h1,h2,h3]; rfl)) hL hv D' fun s'' N' => hk s'' ?_
        exact post s'' _ _ _ _ _ (.ref 797) _ _ _ _ (N.sm.trans N'.sm) N'.hp
theorem fmt7 {p0 p1 p2 p3 p4 p5 p6:Value} (D:Hp (W b w) H s.heap ((L,fmF6 (W b w).params k0 k1 k2 k3 k4 k5 m tm pl v2 v3 v4 v5) :: (pl,liO [p0,p1,p2,p3,p4,p5,p6] k) :: (en,enP ti 7 .none la) :: (ti,tiO 806 7) :: F))
    (post:∀ (s':Shared) (k2 k3 k4 k5 t:Tok) (la v2 v3 v4 v5:Value),Sm s s' → Hp (W b w) H s'.heap ((L,fmF6 (W b w).params k0 k1 k2 k3 k4 k5 m tm pl v2 v3 v4 v5) :: (pl,liO [p0,p1,p2,p3,p4,p5,p6,.str (sx [(sg1 m 4 114)]) t] (k + 1)) :: (en,enP ti 8 .none la) :: (ti,tiO 806 8) :: F) → codeAny (model P0 (W b w)) A (fmLoop L en) R s') :
    codeAny (model P0 (W b w)) A (fmLoop L en) R s:=by
  have D0:=D.pm (S':=[(en,enP ti 7 .none la),(ti,tiO 806 7)] ++ ((L,fmF6 (W b w).params k0 k1 k2 k3 k4 k5 m tm pl v2 v3 v4 v5) :: (pl,liO [p0,p1,p2,p3,p4,p5,p6] k) :: F))
  refine fm_turn (L:=L) (en:=en) (ti:=ti) (tp:=s.heap.objs.size) (i:=7) (last:=.ref 799) (F:=(ti,tiO 806 8) :: (L,fmF6 (W b w).params k0 k1 k2 k3 k4 k5 m tm pl v2 v3 v4 v5) :: (pl,liO [p0,p1,p2,p3,p4,p5,p6] k) :: F) (fun R' h => g_fn7 (F_:=(L,fmF6 (W b w).params k0 k1 k2 k3 k4 k5 m tm pl v2 v3 v4 v5) :: (pl,liO [p0,p1,p2,p3,p4,p5,p6] k) :: F) (R_:=R') L en ti la (fun n T y hy => nm hy) (fun n T q hq => nm hq) hL hv D0 fun s' N => h s' N) fun s' N R' hk => ?_
  have D':=N.hp.pm (S':=[(s.heap.objs.size,tup2 (.int (Int.ofNat 7) s.toks) (.ref 799)),(L,fmF6 (W b w).params k0 k1 k2 k3 k4 k5 m tm pl v2 v3 v4 v5),(pl,liO [p0,p1,p2,p3,p4,p5,p6] k)] ++ ((en,enP ti 8 .none (.ref 799)) :: (ti,tiO 806 8) :: F))
  unfold sg1 at post
  cases h1 : Builtin.bitAnd m 4 == 4 with
  | true =>
    have h1' : (Builtin.bitAnd m ((4 : Nat) : Int) == ((4 : Nat) : Int)) = true:=h1
    simp only [h1'] at post
    refine g_fb7t (F_:=(en,enP ti 8 .none (.ref 799)) :: (ti,tiO 806 8) :: F) L en pl s.heap.objs.size k k0 k1 k2 k3 k4 k5 tm s.toks m v2 v3 v4 v5 p0 p1 p2 p3 p4 p5 p6 (fun n T y hy => nm hy) (fun n T => all_pairs (by unfold b_fb7t; simp only [h1]; rfl)) hL hv D' fun s'' N' => hk s'' ?_
    exact post s'' _ _ _ _ _ (.ref 799) _ _ _ _ (N.sm.trans N'.sm) N'.hp
  | false =>
    have h1' : (Builtin.bitAnd m ((4 : Nat) : Int) == ((4 : Nat) : Int)) = false:=h1
    simp only [h1'] at post
    refine g_fb7f (F_:=(en,enP ti 8 .none (.ref 799)) :: (ti,tiO 806 8) :: F) L en pl s.heap.objs.size k k0 k1 k2 k3 k4 k5 tm s.toks m v2 v3 v4 v5 p0 p1 p2 p3 p4 p5 p6 (fun n T y hy => nm hy) (fun n T => all_pairs (by unfold b_fb7f; simp only [h1]; rfl)) hL hv D' fun s'' N' => hk s'' ?_
    exact post s'' _ _ _ _ _ (.ref 799) _ _ _ _ (N.sm.trans N'.sm) N'.hp
theorem fmt8 {p0 p1 p2 p3 p4 p5 p6 p7:Value} (D:Hp (W b w) H s.heap ((L,fmF6 (W b w).params k0 k1 k2 k3 k4 k5 m tm pl v2 v3 v4 v5) :: (pl,liO [p0,p1,p2,p3,p4,p5,p6,p7] k) :: (en,enP ti 8 .none la) :: (ti,tiO 806 8) :: F))
    (post:∀ (s':Shared) (k2 k3 k4 k5 t:Tok) (la v2 v3 v4 v5:Value),Sm s s' → Hp (W b w) H s'.heap ((L,fmF6 (W b w).params k0 k1 k2 k3 k4 k5 m tm pl v2 v3 v4 v5) :: (pl,liO [p0,p1,p2,p3,p4,p5,p6,p7,.str (sx [(sg1 m 2 119)]) t] (k + 1)) :: (en,enP ti 9 .none la) :: (ti,tiO 806 9) :: F) → codeAny (model P0 (W b w)) A (fmLoop L en) R s') :
    codeAny (model P0 (W b w)) A (fmLoop L en) R s:=by
  have D0:=D.pm (S':=[(en,enP ti 8 .none la),(ti,tiO 806 8)] ++ ((L,fmF6 (W b w).params k0 k1 k2 k3 k4 k5 m tm pl v2 v3 v4 v5) :: (pl,liO [p0,p1,p2,p3,p4,p5,p6,p7] k) :: F))
  refine fm_turn (L:=L) (en:=en) (ti:=ti) (tp:=s.heap.objs.size) (i:=8) (last:=.ref 801) (F:=(ti,tiO 806 9) :: (L,fmF6 (W b w).params k0 k1 k2 k3 k4 k5 m tm pl v2 v3 v4 v5) :: (pl,liO [p0,p1,p2,p3,p4,p5,p6,p7] k) :: F) (fun R' h => g_fn8 (F_:=(L,fmF6 (W b w).params k0 k1 k2 k3 k4 k5 m tm pl v2 v3 v4 v5) :: (pl,liO [p0,p1,p2,p3,p4,p5,p6,p7] k) :: F) (R_:=R') L en ti la (fun n T y hy => nm hy) (fun n T q hq => nm hq) hL hv D0 fun s' N => h s' N) fun s' N R' hk => ?_
  have D':=N.hp.pm (S':=[(s.heap.objs.size,tup2 (.int (Int.ofNat 8) s.toks) (.ref 801)),(L,fmF6 (W b w).params k0 k1 k2 k3 k4 k5 m tm pl v2 v3 v4 v5),(pl,liO [p0,p1,p2,p3,p4,p5,p6,p7] k)] ++ ((en,enP ti 9 .none (.ref 801)) :: (ti,tiO 806 9) :: F))
  unfold sg1 at post
  cases h1 : Builtin.bitAnd m 2 == 2 with
  | true =>
    have h1' : (Builtin.bitAnd m ((2 : Nat) : Int) == ((2 : Nat) : Int)) = true:=h1
    simp only [h1'] at post
    refine g_fb8t (F_:=(en,enP ti 9 .none (.ref 801)) :: (ti,tiO 806 9) :: F) L en pl s.heap.objs.size k k0 k1 k2 k3 k4 k5 tm s.toks m v2 v3 v4 v5 p0 p1 p2 p3 p4 p5 p6 p7 (fun n T y hy => nm hy) (fun n T => all_pairs (by unfold b_fb8t; simp only [h1]; rfl)) hL hv D' fun s'' N' => hk s'' ?_
    exact post s'' _ _ _ _ _ (.ref 801) _ _ _ _ (N.sm.trans N'.sm) N'.hp
  | false =>
    have h1' : (Builtin.bitAnd m ((2 : Nat) : Int) == ((2 : Nat) : Int)) = false:=h1
    simp only [h1'] at post
    refine g_fb8f (F_:=(en,enP ti 9 .none (.ref 801)) :: (ti,tiO 806 9) :: F) L en pl s.heap.objs.size k k0 k1 k2 k3 k4 k5 tm s.toks m v2 v3 v4 v5 p0 p1 p2 p3 p4 p5 p6 p7 (fun n T y hy => nm hy) (fun n T => all_pairs (by unfold b_fb8f; simp only [h1]; rfl)) hL hv D' fun s'' N' => hk s'' ?_
    exact post s'' _ _ _ _ _ (.ref 801) _ _ _ _ (N.sm.trans N'.sm) N'.hp
theorem fmt9 {p0 p1 p2 p3 p4 p5 p6 p7 p8:Value} (D:Hp (W b w) H s.heap ((L,fmF6 (W b w).params k0 k1 k2 k3 k4 k5 m tm pl v2 v3 v4 v5) :: (pl,liO [p0,p1,p2,p3,p4,p5,p6,p7,p8] k) :: (en,enP ti 9 .none la) :: (ti,tiO 806 9) :: F))
    (post:∀ (s':Shared) (k2 k3 k4 k5 t:Tok) (la v2 v3 v4 v5:Value),Sm s s' → Hp (W b w) H s'.heap ((L,fmF6 (W b w).params k0 k1 k2 k3 k4 k5 m tm pl v2 v3 v4 v5) :: (pl,liO [p0,p1,p2,p3,p4,p5,p6,p7,p8,.str (sx [(sg3 m 513 512 1 116 84)]) t] (k + 1)) :: (en,enP ti 10 .none la) :: (ti,tiO 806 10) :: F) → codeAny (model P0 (W b w)) A (fmLoop L en) R s') :
    codeAny (model P0 (W b w)) A (fmLoop L en) R s:=by
  have D0:=D.pm (S':=[(en,enP ti 9 .none la),(ti,tiO 806 9)] ++ ((L,fmF6 (W b w).params k0 k1 k2 k3 k4 k5 m tm pl v2 v3 v4 v5) :: (pl,liO [p0,p1,p2,p3,p4,p5,p6,p7,p8] k) :: F))
  refine fm_turn (L:=L) (en:=en) (ti:=ti) (tp:=s.heap.objs.size) (i:=9) (last:=.ref 805) (F:=(ti,tiO 806 10) :: (L,fmF6 (W b w).params k0 k1 k2 k3 k4 k5 m tm pl v2 v3 v4 v5) :: (pl,liO [p0,p1,p2,p3,p4,p5,p6,p7,p8] k) :: F) (fun R' h => g_fn9 (F_:=(L,fmF6 (W b w).params k0 k1 k2 k3 k4 k5 m tm pl v2 v3 v4 v5) :: (pl,liO [p0,p1,p2,p3,p4,p5,p6,p7,p8] k) :: F) (R_:=R') L en ti la (fun n T y hy => nm hy) (fun n T q hq => nm hq) hL hv D0 fun s' N => h s' N) fun s' N R' hk => ?_
  have D':=N.hp.pm (S':=[(s.heap.objs.size,tup2 (.int (Int.ofNat 9) s.toks) (.ref 805)),(L,fmF6 (W b w).params k0 k1 k2 k3 k4 k5 m tm pl v2 v3 v4 v5),(pl,liO [p0,p1,p2,p3,p4,p5,p6,p7,p8] k)] ++ ((en,enP ti 10 .none (.ref 805)) :: (ti,tiO 806 10) :: F))
  unfold sg3 at post
  cases h1 : Builtin.bitAnd m 513 == 513 with
  | true =>
    have h1' : (Builtin.bitAnd m ((513 : Nat) : Int) == ((513 : Nat) : Int)) = true:=h1
    simp only [h1'] at post
    refine g_fb9t (F_:=(en,enP ti 10 .none (.ref 805)) :: (ti,tiO 806 10) :: F) L en pl s.heap.objs.size k k0 k1 k2 k3 k4 k5 tm s.toks m v2 v3 v4 v5 p0 p1 p2 p3 p4 p5 p6 p7 p8 (fun n T y hy => nm hy) (fun n T => all_pairs (by unfold b_fb9t; simp only [h1]; rfl)) hL hv D' fun s'' N' => hk s'' ?_
    exact post s'' _ _ _ _ _ (.ref 805) _ _ _ _ (N.sm.trans N'.sm) N'.hp
  | false =>
    have h1' : (Builtin.bitAnd m ((513 : Nat) : Int) == ((513 : Nat) : Int)) = false:=h1
    cases h2 : Builtin.bitAnd m 512 == 512 with
    | true =>
      have h2' : (Builtin.bitAnd m ((512 : Nat) : Int) == ((512 : Nat) : Int)) = true:=h2
      simp only [h1',h2'] at post
      refine g_fb9ft (F_:=(en,enP ti 10 .none (.ref 805)) :: (ti,tiO 806 10) :: F) L en pl s.heap.objs.size k k0 k1 k2 k3 k4 k5 tm s.toks m v2 v3 v4 v5 p0 p1 p2 p3 p4 p5 p6 p7 p8 (fun n T y hy => nm hy) (fun n T => all_pairs (by unfold b_fb9ft; simp only [h1,h2]; rfl)) hL hv D' fun s'' N' => hk s'' ?_
      exact post s'' _ _ _ _ _ (.ref 805) _ _ _ _ (N.sm.trans N'.sm) N'.hp
    | false =>
      have h2' : (Builtin.bitAnd m ((512 : Nat) : Int) == ((512 : Nat) : Int)) = false:=h2
      cases h3 : Builtin.bitAnd m 1 == 1 with
      | true =>
        have h3' : (Builtin.bitAnd m ((1 : Nat) : Int) == ((1 : Nat) : Int)) = true:=h3
        simp only [h1',h2',h3'] at post
        refine g_fb9fft (F_:=(en,enP ti 10 .none (.ref 805)) :: (ti,tiO 806 10) :: F) L en pl s.heap.objs.size k k0 k1 k2 k3 k4 k5 tm s.toks m v2 v3 v4 v5 p0 p1 p2 p3 p4 p5 p6 p7 p8 (fun n T y hy => nm hy) (fun n T => all_pairs (by unfold b_fb9fft; simp only [h1,h2,h3]; rfl)) hL hv D' fun s'' N' => hk s'' ?_
        exact post s'' _ _ _ _ _ (.ref 805) _ _ _ _ (N.sm.trans N'.sm) N'.hp
      | false =>
        have h3' : (Builtin.bitAnd m ((1 : Nat) : Int) == ((1 : Nat) : Int)) = false:=h3
        simp only [h1',h2',h3'] at post
        refine g_fb9fff (F_:=(en,enP ti 10 .none (.ref 805)) :: (ti,tiO 806 10) :: F) L en pl s.heap.objs.size k k0 k1 k2 k3 k4 k5 tm s.toks m v2 v3 v4 v5 p0 p1 p2 p3 p4 p5 p6 p7 p8 (fun n T y hy => nm hy) (fun n T => all_pairs (by unfold b_fb9fff; simp only [h1,h2,h3]; rfl)) hL hv D' fun s'' N' => hk s'' ?_
        exact post s'' _ _ _ _ _ (.ref 805) _ _ _ _ (N.sm.trans N'.sm) N'.hp
end
noncomputable def fmText (m:Int) : List Nat:=[45,sg1 m 256 114,sg1 m 128 119,sg3 m 2112 2048 64 115 83,sg1 m 32 114,sg1 m 16 119,sg3 m 1032 1024 8 115 83,sg1 m 4 114,sg1 m 2 119,sg3 m 513 512 1 116 84]
theorem Mid.sm {w:World} {V:XV} {b:Nat} {o:Out} {s s':Shared} (M:Mid w V b o s) (S:Sm s s') : Mid w V b o s':=M.nx S.drawn S.os
section
variable {b:Bool} {w:World} {A:Around} {R:Result → Shared → Prop} {v:Nat} {F:List (Addr × Obj)} {H:Heap} {s:Shared} {tm:Tok} {m:Int} (hL:Lv A v) (hv:v ≤ 450)
include hL hv
theorem fm_ok (h1:(Builtin.bitAnd m 61440 == 32768) = true) (D:Hp (W b w) H s.heap F)
    (post:∀ (s':Shared) (t:Tok),Sm s s' → Hp (W b w) H s'.heap F → R (.ok (.ret (.str (sx (fmText m)) t))) s') : codeAny (model P0 (W b w)) A (.call (.ref 813) ⟨[.int m tm],[]⟩) R s:=by
  refine g_fm0 (F_:=F) m tm (fun n T y hy => ?_) (fun n T q hq => nm hq) hL hv D fun A' s1 LA N1 M1 => ?_
  · cases hy with
    | head => exact ok_enew
    | tail _ hy => cases hy
  have D1:=N1.hp
  generalize s.heap.objs.size = n1 at D1 M1 ⊢
  generalize s.toks = t1 at D1 M1 ⊢
  generalize s.gens.toList = g1 at M1 ⊢
  have D2:=D1.pm (S':=(n1,fmF2 (W b w).params t1 (t1 + 1) m tm (n1 + 1)) :: (n1 + 1,liO [] 0) :: (n1 + 2 + 1,enP (n1 + 2) 0 .none .none) :: (n1 + 2,tiO 806 0) :: F)
  have hv' : v + 1 ≤ 460:=by omega
  refine fmt0 LA hv' h1 D2 fun s2 a2 a3 a4 a5 q0 la0 u2 u3 u4 u5 S2 D3 => ?_
  refine fmt1 LA hv' D3 fun s3 a2 a3 a4 a5 q1 la1 u2 u3 u4 u5 S3 D3 => ?_
  refine fmt2 LA hv' D3 fun s4 a2 a3 a4 a5 q2 la2 u2 u3 u4 u5 S4 D3 => ?_
  refine fmt3 LA hv' D3 fun s5 a2 a3 a4 a5 q3 la3 u2 u3 u4 u5 S5 D3 => ?_
  refine fmt4 LA hv' D3 fun s6 a2 a3 a4 a5 q4 la4 u2 u3 u4 u5 S6 D3 => ?_
  refine fmt5 LA hv' D3 fun s7 a2 a3 a4 a5 q5 la5 u2 u3 u4 u5 S7 D3 => ?_
  refine fmt6 LA hv' D3 fun s8 a2 a3 a4 a5 q6 la6 u2 u3 u4 u5 S8 D3 => ?_
  refine fmt7 LA hv' D3 fun s9 a2 a3 a4 a5 q7 la7 u2 u3 u4 u5 S9 D3 => ?_
  refine fmt8 LA hv' D3 fun s10 a2 a3 a4 a5 q8 la8 u2 u3 u4 u5 S10 D3 => ?_
  refine fmt9 LA hv' D3 fun s11 a2 a3 a4 a5 q9 la9 u2 u3 u4 u5 S11 D3 => ?_
  have D4:=D3.pm (S':=(n1 + 2 + 1,enP (n1 + 2) 10 .none la9) :: (n1 + 2,tiO 806 10) :: ((n1 + 1,liO [.str (sx [45]) q0,.str (sx [sg1 m 256 114]) q1,.str (sx [sg1 m 128 119]) q2,.str (sx [sg3 m 2112 2048 64 115 83]) q3,.str (sx [sg1 m 32 114]) q4,.str (sx [sg1 m 16 119]) q5,.str (sx [sg3 m 1032 1024 8 115 83]) q6,.str (sx [sg1 m 4 114]) q7,.str (sx [sg1 m 2 119]) q8,.str (sx [sg3 m 513 512 1 116 84]) q9] 10) :: (n1,fmF6 (W b w).params t1 (t1 + 1) a2 a3 a4 a5 m tm (n1 + 1) u2 u3 u4 u5) :: F))
  refine fm_end LA hv' D4 fun s12 S12 D5 => ?_
  have SS : Sm s1 s12:=S2.trans (S3.trans (S4.trans (S5.trans (S6.trans (S7.trans (S8.trans (S9.trans (S10.trans (S11.trans S12)))))))))
  refine g_fm1 (F_:=F) n1 t1 g1 m tm 10 _ _ _ _ _ _ _ _ _ q1 q2 q3 q4 q5 q6 q7 q8 q9 q0 t1 (t1 + 1) a2 a3 a4 a5 u2 u3 u4 u5 (fun n T y hy => nm hy) (fun n T q hq => nm hq) (M1.sm SS) hv D5 fun s13 N13 => ?_
  exact post s13 _ ((N1.sm.trans SS).trans N13.sm) N13.hp
end
def obO (c:String) (d:Data) : Obj:=⟨.type c,none,d,⟨[]⟩⟩
def dcD (P:Params) (l:List (Str × Tok × Value)) (k:Nat) : Data:=.dict ⟨l.map fun x => en P x.1 x.2.1 x.2.2⟩ k
section
variable {w:World} {A:Around} {R:Result → Shared → Prop} {s:Shared}
theorem code_meets {T id:String} {name:Str} {B:Builtin} {self:Value} {rest:List Value} {S:PySem.Spec} (slot:Slot T name id) (hT:s.TypeIs self T) (entry:entryFor table id = some B) (args:argsOk id ⟨self :: rest,[]⟩)
    (g:Meets (B ⟨self :: rest,[]⟩) S) (h:S A R s) : codeAny (model P0 w) A (.call (.builtin id) ⟨self :: rest,[]⟩) R s :=
  codeAny_call_builtin slot.plain entry (slot.check _ _ _ _ _ _ _ _ hT args (g P0 w A R s h))
theorem tOb {a:Addr} {c:String} {d:Data} (h:s.heap.get? a = some (obO c d)) : s.TypeIs (.ref a) c:=⟨_,h,rfl⟩
theorem tLi {a:Addr} {l:List Value} {k:Nat} (h:s.heap.get? a = some (liO l k)) : s.TypeIs (.ref a) "list":=⟨_,h,rfl⟩
theorem isLi {h:Heap} {a:Addr} {l:List Value} {k:Nat} (e:h.get? a = some (liO l k)) : h.IsList a ⟨l⟩:=⟨_,e,rfl,k,rfl⟩
end
section
variable {w:World} {n T lv:Nat}
def s_app (j:Nat) (a:Addr) (l:List Value) (k:Nat) (v:Value) : Sum:=⟨.call (.builtin "list.append") ⟨[.ref a,v],[]⟩,fun _ _ => .ok (.ret .none),0,0,[(j,a,liO l k,fun _ _ => liO (l ++ [v]) (k + 1))],[],500⟩
theorem ok_app {j:Nat} {a:Addr} {l:List Value} {k:Nat} {v:Value} (hl:l.length ≤ 1000) : (s_app j a l k v).Ok (G0 w n T lv):=by
  intro A b R s hd hu hh hb K hn nd ap post
  have ho : s.heap.get? a = some (liO l k):=hn _ (.head _)
  refine code_meets slot_list_append (tLi ho) entry_list_append (args_list_append _ _) (AutoListH.list_append_list_val_0 a ⟨l⟩ k v (by show l.length ≤ sizeLine; have : sizeLine = 16777216:=rfl; omega)) ⟨ho,?_⟩
  have e : Heap.get? (s.heap.update a (Obj.mapSeq fun x => x.push v)) a = some (liO (l ++ [v]) (k + 1)):=by
    rw [Heap.get?_update_self _ ho rfl]
    show some (Obj.mapSeq _ (liO l k)) = _
    unfold liO Obj.mapSeq
    simp
  refine post _ (Heap.SameBut.update ..).1 (fun b o e hb => ?_) (fun y hy => ?_) (fun _ h => nomatch h)
  · exact (Heap.SameBut.update ..).extBut b o (fun z => hb (by rw [z]; exact .head _)) e
  · cases hy with
    | head => exact e
    | tail _ hy => cases hy
def s_get (j:Nat) (a:Addr) (l:List Value) (k:Nat) (i:Int) (u:Tok) (v:Value) : Sum:=⟨.call (.builtin "list.__getitem__") ⟨[.ref a,.int i u],[]⟩,fun _ _ => .ok (.ret v),0,0,[(j,a,liO l k,fun _ _ => liO l k)],[],500⟩
theorem fits_nat {i:Nat} (h:i ≤ 1000) : Builtin.List.listFitsIndex (Int.ofNat i) = true :=
  fitsIndex_of (k:=(i:Int)) (by omega) (by omega)
theorem get_fin {R:Result → Shared → Prop} {s:Shared} {j:Nat} {a:Addr} {l:List Value} {k:Nat} {i:Int} {u:Tok} {v:Value} (ho:s.heap.get? a = some (liO l k))
    (post:∀ h' : Heap,h'.objs.size = s.heap.objs.size + (s_get j a l k i u v).dm → (∀ b o,s.heap.get? b = some o → b ∉ (s_get j a l k i u v).need.map (·.2.1) → h'.get? b = some o) → (∀ y ∈ (s_get j a l k i u v).need,h'.get? y.2.1 = some (y.2.2.2 s.heap.objs.size s.toks)) →
    (∀ p ∈ newsG s.heap.objs.size s.toks (s_get j a l k i u v).news,h'.get? p.1 = some p.2) → R ((s_get j a l k i u v).r s.heap.objs.size s.toks) { s with heap:=h',toks:=s.toks + (s_get j a l k i u v).di }) : R (.ok (.ret v)) s :=
  post s.heap rfl (fun _ _ e _ => e) (fun y hy => by
      cases hy with
      | head => exact ho
      | tail _ hy => cases hy) (fun _ h => nomatch h)
theorem get_code {A:Around} {R:Result → Shared → Prop} {s:Shared} {a:Addr} {l:List Value} {k:Nat} {z:Int} {u:Tok} {v:Value} (ho:s.heap.get? a = some (liO l k)) (h0:0 ≤ z) (h1:z ≤ 1000)
    (hi:l[z.toNat]? = some v) (fin:R (.ok (.ret v)) s) : codeAny (model P0 w) A (.call (.builtin "list.__getitem__") ⟨[.ref a,.int z u],[]⟩) R s:=by
  have hx : (⟨l⟩ : Array Value)[z.toNat]? = some v:=by rw [List.getElem?_toArray]; exact hi
  refine codeAny_call_builtin slot_list_getitem.plain entry_list_getitem (slot_list_getitem.check _ _ _ _ _ _ _ _ (tLi ho) (args_list_getitem _ _) ?_)
  unfold Builtin.«list.__getitem__»
  refine wpAny_bind (m:=selfAndOne "list.__getitem__" _) (wpAny_pure ?_)
  refine wpAny_bind (wpAny_listSubscript_int (fitsIndex_of h0 (by omega)) ?_)
  obtain ⟨j,rfl⟩:=Int.eq_ofNat_of_zero_le h0
  have hx' : (⟨l⟩ : Array Value)[j]? = some v:=hx
  show wpAny _ _ ((seqItemAt a j >>= fun r => pure (r.map (j,·))) >>= _) _ _ s
  refine wpAny_bind (wpAny_bind (wpAny_seqItemAt ho rfl (wpAny_pure ?_)))
  rw [hx']
  first
    | exact wpAny_bind (wpAny_pure (wpAny_pure fin))
    | exact wpAny_pure fin
theorem ok_get {j:Nat} {a:Addr} {l:List Value} {k i:Nat} {u:Tok} {v:Value} (hf:i ≤ 1000) (hi:l[i]? = some v) : (s_get j a l k (Int.ofNat i) u v).Ok (G0 w n T lv):=by
  intro A b R s hd hu hh hb K hn nd ap post
  have ho : s.heap.get? a = some (liO l k):=hn _ (.head _)
  have fin:=get_fin ho post
  exact get_code ho (by show (0 : Int) ≤ (i:Int); omega) (by show (i:Int) ≤ 1000; omega) hi fin
theorem ok_last {j:Nat} {a:Addr} {l:List Value} {k:Nat} {u:Tok} {v:Value} (hi:l.getLast? = some v) : (s_get j a l k (Int.negSucc 0) u v).Ok (G0 w n T lv):=by
  intro A b R s hd hu hh hb K hn nd ap post
  have ho : s.heap.get? a = some (liO l k):=hn _ (.head _)
  have fin:=get_fin ho post
  have hne : l ≠ []:=fun z => by rw [z] at hi; cases hi
  have hpos : 0 < l.length:=List.length_pos_iff.mpr hne
  refine codeAny_call_builtin slot_list_getitem.plain entry_list_getitem (slot_list_getitem.check _ _ _ _ _ _ _ _ (tLi ho) (args_list_getitem _ _) ?_)
  unfold Builtin.«list.__getitem__»
  refine wpAny_bind (m:=selfAndOne "list.__getitem__" _) (wpAny_pure ?_)
  refine wpAny_bind (wpAny_listSubscript_int (fitsIndex_neg (by decide) (by decide)) ?_)
  show wpAny _ _ ((Builtin.List.listItems (.ref a) >>= fun xs => pure ((seqIndex? (Int.negSucc 0) xs.size).bind fun i => xs[i]?.map (i,·))) >>= _) _ _ s
  refine wpAny_bind (wpAny_bind ?_)
  show wpAny _ _ (seqItems? (.ref a) >>= _) _ _ s
  refine wpAny_bind (wpAny_seqItems ho rfl (wpAny_pure (wpAny_pure ?_)))
  have e1 : seqIndex? (Int.negSucc 0) (⟨l⟩ : Array Value).size = some (l.length - 1):=by
    rw [seqIndex_neg (by decide) (by show -((l.length : Nat) : Int) ≤ _; have : (Int.negSucc 0) = -1:=rfl; omega)]
    congr 1
    show (Int.negSucc 0 + (l.length : Int)).toNat = _
    have : (Int.negSucc 0) = -1:=rfl
    omega
  have hx : (⟨l⟩ : Array Value)[l.length - 1]? = some v:=by rw [List.getElem?_toArray,← List.getLast?_eq_getElem?]; exact hi
  rw [e1]
  simp only [Option.bind_some,hx,Option.map_some]
  first
    | exact wpAny_bind (wpAny_pure (wpAny_pure fin))
    | exact wpAny_pure fin
def s_llen (j:Nat) (a:Addr) (l:List Value) (k:Nat) : Sum:=⟨.call (.builtin "len") ⟨[.ref a],[]⟩,fun _ T => .ok (.ret (.int (Int.ofNat l.length) (T + 1))),2,0,[(j,a,liO l k,fun _ _ => liO l k)],[],500⟩
theorem ok_llen {j:Nat} {a:Addr} {l:List Value} {k:Nat} (hl:l.length ≤ 1000) : (s_llen j a l k).Ok (G0 w n T lv):=by
  intro A b R s hd hu hh hb K hn nd ap post
  have ho : s.heap.get? a = some (liO l k):=hn _ (.head _)
  have fin : R (.ok (.ret (.int (Int.ofNat l.length) (s.toks + 1)))) { s with toks:=s.toks + 2 }:=post s.heap rfl (fun _ _ e _ => e) (fun y hy => by
      cases hy with
      | head => exact ho
      | tail _ hy => cases hy) (fun _ h => nomatch h)
  refine code_fn kind_len plain_len entry_len (args_len1 _) ?_
  unfold Builtin.«len»
  refine wpAny_bind (m:=oneArg "len" _) (wpAny_pure ?_)
  refine wpAny_bind (m:=callSpecial? (.ref a) (Str.ofString "__len__")) (wpAny_callSpecial?_slot (name:=Str.ofString "__len__") (tLi ho) slot_list_len
    (wpAny_call_entry slot_list_len (tLi ho) entry_list_len ?_ (args_list_len _)))
  show wpAny _ _ (do retInt (← seqSize a)) _ _ s
  unfold seqSize
  refine wpAny_bind (wpAny_bind (wpAny_load ho ?_))
  refine wpAny_pure (wpAny_bind (wpAny_mkInt (wpAny_pure ⟨_,rfl,?_⟩)))
  refine wpAny_bind (wpAny_holding (wpAny_pure ?_))
  refine wpAny_bind (wpAny_letGo ?_)
  show wpAny _ _ (if ((l.length : Nat) : Int) < 0 then _ else _) _ _ _
  rw [if_neg (by omega)]
  show wpAny _ _ (if ((l.length : Nat) : Int) ≥ 2 ^ 63 then _ else _) _ _ _
  rw [if_neg (by omega)]
  exact wpAny_bind (wpAny_mkInt (wpAny_pure fin))
theorem sum_new {R:Result → Shared → Prop} {s:Shared} {x:Sum} {o:Obj} {di:Nat} (hx:x.dm = 1) (hdi:x.di = di) (hn:x.news = [(0,fun _ _ => o)]) (hnd:∀ y ∈ x.need,s.heap.get? y.2.1 = some y.2.2.1) (hsame:∀ y ∈ x.need,∀ n T,y.2.2.2 n T = y.2.2.1) (hf:o.isFreed = false)
    (post:∀ h' : Heap,h'.objs.size = s.heap.objs.size + x.dm → (∀ b o,s.heap.get? b = some o → b ∉ x.need.map (·.2.1) → h'.get? b = some o) → (∀ y ∈ x.need,h'.get? y.2.1 = some (y.2.2.2 s.heap.objs.size s.toks)) →
    (∀ p ∈ newsG s.heap.objs.size s.toks x.news,h'.get? p.1 = some p.2) → R (x.r s.heap.objs.size s.toks) { s with heap:=h',toks:=s.toks + x.di }) : R (x.r s.heap.objs.size s.toks) { s with heap:=s.heap.push o,toks:=s.toks + di }:=by
  subst hdi
  refine post _ (by rw [Heap.size_push,hx]) (fun b o e _ => Heap.get?_push_of_some _ e) (fun y hy => ?_) fun p hp => ?_
  · rw [hsame y hy]
    exact Heap.get?_push_of_some _ (hnd y hy)
  · rw [hn] at hp
    have hp : p ∈ [(s.heap.objs.size + 0,o)]:=hp
    cases List.mem_singleton.mp hp
    exact Heap.get?_push_size _ hf
def s_ladd (j j':Nat) (a b:Addr) (l m:List Value) (k k':Nat) : Sum:=⟨.call (.builtin "list.__add__") ⟨[.ref a,.ref b],[]⟩,fun n _ => .ok (.ret (.ref n)),0,1,[(j,a,liO l k,fun _ _ => liO l k),(j',b,liO m k',fun _ _ => liO m k')],[(0,fun _ _ => liO (l ++ m) 0)],500⟩
theorem ok_ladd {j j':Nat} {a b:Addr} {l m:List Value} {k k':Nat} (hl:l.length + m.length ≤ 1000) : (s_ladd j j' a b l m k k').Ok (G0 w n T lv):=by
  intro A c R s hd hu hh hb K hn nd ap post
  have ho : s.heap.get? a = some (liO l k):=hn _ (.head _)
  have hp : s.heap.get? b = some (liO m k'):=hn _ (.tail _ (.head _))
  have z:=sum_new (o:=liO (l ++ m) 0) (di:=0) rfl rfl rfl hn (fun y hy n T => by
    cases hy with
    | head => rfl
    | tail _ hy => cases hy with
      | head => rfl
      | tail _ hy => cases hy) rfl post
  refine code_meets F.slot_list_add (tLi ho) F.entry_list_add (F.args_list_add_2 _ _) (AutoSeq1.list___add___list_list_0 a ⟨l⟩ k b ⟨m⟩ k' (by show l.length + m.length ≤ sizeLine; have : sizeLine = 16777216:=rfl; omega)) ⟨ho,hp,?_⟩
  have e : (⟨l⟩ : Array Value) ++ (⟨m⟩ : Array Value) = ⟨l ++ m⟩:=by apply Array.ext'; simp
  rw [e]
  exact z
def s_lmul (j:Nat) (a:Addr) (v:Value) (k m:Nat) (u:Tok) : Sum:=⟨.call (.builtin "list.__mul__") ⟨[.ref a,.int (Int.ofNat m) u],[]⟩,fun n _ => .ok (.ret (.ref n)),0,1,[(j,a,liO [v] k,fun _ _ => liO [v] k)],[(0,fun _ _ => liO (List.replicate m v) 0)],500⟩
theorem repl_join (v:Value) : ∀ (m:Nat) (acc:Array Value),List.foldl (fun x1 x2 => x1 ++ x2) acc (List.replicate m (⟨[v]⟩ : Array Value)) = acc ++ (⟨List.replicate m v⟩ : Array Value)
  | 0,acc => by simp
  | m + 1,acc => by
    rw [List.replicate_succ,List.foldl_cons,repl_join v m]
    apply Array.ext'
    simp [List.replicate_succ]
theorem mul_code {A:Around} {R:Result → Shared → Prop} {s:Shared} {a:Addr} {v:Value} {k:Nat} {z:Int} {u:Tok} (ho:s.heap.get? a = some (liO [v] k)) (h0:0 ≤ z) (h1:z ≤ 1000) (fin:R (.ok (.ret (.ref s.heap.objs.size))) { s with heap:=s.heap.push (liO (List.replicate z.toNat v) 0) }) : codeAny (model P0 w) A (.call (.builtin "list.__mul__") ⟨[.ref a,.int z u],[]⟩) R s:=by
  have hz : sizeLine = 16777216:=rfl
  have h1 : (⟨[v]⟩ : Array Value).size = 1:=rfl
  have hc0 : ¬ (!Builtin.List.listFitsIndex z) = true:=by rw [fitsIndex_of h0 (by omega)]; decide
  have hc1 : ¬ (⟨[v]⟩ : Array Value).size * z.toNat > (2 ^ 63 - 1) / 8:=by rw [h1]; omega
  have hc2 : ¬ Builtin.List.listTooLong ((⟨[v]⟩ : Array Value).size * z.toNat) = true:=by rw [h1]; unfold Builtin.List.listTooLong; simp only [decide_eq_true_eq]; omega
  refine code_meets F.slot_list_mul (tLi ho) F.entry_list_mul (F.args_list_mul_2 _ _) (AutoListH.list___mul___list_int_3 a ⟨[v]⟩ k z u hc0 hc1 hc2) ⟨ho,?_⟩
  have e : List.foldl (fun x1 x2 => x1 ++ x2) #[] (List.replicate (if (⟨[v]⟩ : Array Value).isEmpty = true then 0 else z.toNat) (⟨[v]⟩ : Array Value)) = ⟨List.replicate z.toNat v⟩:=by
    have h3 : (⟨[v]⟩ : Array Value).isEmpty = false:=rfl
    rw [h3,if_neg (by decide),repl_join]
    apply Array.ext'; simp
  rw [e]
  exact fin
theorem ok_lmul {j:Nat} {a:Addr} {v:Value} {k m:Nat} {u:Tok} (hm:m ≤ 1000) : (s_lmul j a v k m u).Ok (G0 w n T lv):=by
  intro A c R s hd hu hh hb K hn nd ap post
  have ho : s.heap.get? a = some (liO [v] k):=hn _ (.head _)
  have z:=sum_new (o:=liO (List.replicate m v) 0) (di:=0) rfl rfl rfl hn (fun y hy n T => by
    cases hy with
    | head => rfl
    | tail _ hy => cases hy) rfl post
  exact mul_code ho (by show (0 : Int) ≤ (m:Int); omega) (by show (m:Int) ≤ 1000; omega) z
def rgO (m:Int) (t u v:Tok) : Obj:=obO "range" (.fields ⟨[.int (Int.ofNat 0) t,.int m u,.int (Int.ofNat 1) v]⟩)
def riO (x left:Int) : Obj:=obO "range_iterator" (.fields ⟨[.int x 0,.int left 0,.int 1 0]⟩)
def s_riter (j:Nat) (a:Addr) (m:Int) (t u v:Tok) : Sum:=⟨.call (.builtin "range.__iter__") ⟨[.ref a],[]⟩,fun n _ => .ok (.ret (.ref n)),0,1,[(j,a,rgO m t u v,fun _ _ => rgO m t u v)],[(0,fun _ _ => riO 0 m)],500⟩
theorem range_size {m:Int} (h:0 ≤ m) : Builtin.Range.rangeSize 0 m 1 = m:=by
  rw [rangeSize_nat]; omega
theorem ok_riter {j:Nat} {a:Addr} {m:Int} {t u v:Tok} (h0:0 ≤ m) (h1:m ≤ 1000) : (s_riter j a m t u v).Ok (G0 w n T lv):=by
  intro A c R s hd hu hh hb K hn nd ap post
  have ho : s.heap.get? a = some (rgO m t u v):=hn _ (.head _)
  have z:=sum_new (o:=riO 0 m) (di:=0) rfl rfl rfl hn (fun y hy n T => by
    cases hy with
    | head => rfl
    | tail _ hy => cases hy) rfl post
  have hf : ∀ x : Int,0 ≤ x → x ≤ 1000 → Builtin.Range.rangeFitsLong x = true:=fun x a b => by
    unfold Builtin.Range.rangeFitsLong
    simp only [Bool.and_eq_true,decide_eq_true_eq]
    omega
  have hs : (Builtin.Range.rangeFitsLong 0 && Builtin.Range.rangeFitsLong m && Builtin.Range.rangeFitsLong 1 && Builtin.Range.rangeFitsLong (Builtin.Range.rangeSize 0 m 1) && (Builtin.Range.rangeSize 0 m 1 == 0 || if (1 : Int) > 0 then Builtin.Range.rangeFitsLong (m + (1 - 1)) else Builtin.Range.rangeFitsLong (m + (1 + 1)))) = true:=by
    rw [range_size h0,hf 0 (by omega) (by omega),hf m h0 h1,hf 1 (by omega) (by omega),if_pos (by decide),hf (m + (1 - 1)) (by omega) (by omega)]
    simp
  refine code_meets F.slot_range_iter (tOb ho) F.entry_range_iter (F.args_range_iter_1 _) (AutoRange.range___iter___range_1 a 0 m 1 t u v (by rw [hs]; decide)) ⟨ho,?_⟩
  rw [if_pos hs,range_size h0]
  exact z
def slO (m:Nat) (t:Tok) : Obj:=obO "slice" (.fields ⟨[.none,.int (Int.ofNat m) t,.none]⟩)
def s_lupto (j j':Nat) (a c:Addr) (l:List Value) (k m:Nat) (t:Tok) : Sum:=⟨.call (.builtin "list.__getitem__") ⟨[.ref a,.ref c],[]⟩,fun n _ => .ok (.ret (.ref n)),0,1,[(j,a,liO l k,fun _ _ => liO l k),(j',c,slO m t,fun _ _ => slO m t)],[(0,fun _ _ => liO (l.take m) 0)],500⟩
theorem pick_upto (items:Array Value) (m:Nat) : slicePick items none (some (m:Int)) none = (items.toList.take m).toArray:=by
  by_cases h : m ≤ items.size
  · exact slicePick_upto items m h
  · have e : slicePick items none (some (m:Int)) none = slicePick items none (some (items.size : Int)) none:=by
      unfold slicePick
      have : sliceBounds none (some (m:Int)) none items.size = sliceBounds none (some (items.size : Int)) none items.size:=by
        unfold sliceBounds
        simp only [Option.getD_none]
        congr 1
        congr 1
        simp only [show ((1 : Int) > 0) = True from by simp,if_true]
        omega
      rw [this]
    rw [e,slicePick_upto items items.size (Nat.le_refl _),List.take_of_length_le (by simp),List.take_of_length_le (by simp; omega)]
theorem ok_lupto {j j':Nat} {a c:Addr} {l:List Value} {k m:Nat} {t:Tok} (hl:l.length ≤ 1000) : (s_lupto j j' a c l k m t).Ok (G0 w n T lv):=by
  intro A b R s hd hu hh hb K hn nd ap post
  have ho : s.heap.get? a = some (liO l k):=hn _ (.head _)
  have hos : s.heap.get? c = some (slO m t):=hn _ (.tail _ (.head _))
  have hTs : s.TypeIs (.ref c) "slice":=tOb hos
  have z:=sum_new (o:=liO (l.take m) 0) (di:=0) rfl rfl rfl hn (fun y hy n T => by
    cases hy with
    | head => rfl
    | tail _ hy => cases hy with
      | head => rfl
      | tail _ hy => cases hy) rfl post
  refine codeAny_call_builtin slot_list_getitem.plain entry_list_getitem (slot_list_getitem.check _ _ _ _ _ _ _ _ (tLi ho) (args_list_getitem _ _) ?_)
  unfold Builtin.«list.__getitem__»
  refine wpAny_bind (m:=selfAndOne "list.__getitem__" _) (wpAny_pure ?_)
  refine wpAny_bind ?_
  unfold Builtin.List.listSubscript?
  refine wpAny_bind (wpAny_specialOf hTs slice_no_index ?_)
  simp only [Option.isNone_none,if_true]
  refine wpAny_pure ?_
  show wpAny _ _ (typeOf (.ref c) >>= _) _ _ s
  refine wpAny_bind (wpAny_typeOf hTs ?_)
  rw [if_neg (by decide)]
  rw [listSliceParts_eq]
  refine wpAny_bind (wpAny_bind (wpAny_field hos rfl (x:=.none) rfl (wpAny_bind (wpAny_listPart .none ?_))))
  rw [if_neg (by exact Bool.false_ne_true)]
  refine wpAny_bind (wpAny_field hos rfl (x:=.none) rfl (wpAny_bind (wpAny_listPart .none ?_)))
  refine wpAny_bind (wpAny_field hos rfl (x:=.int (Int.ofNat m) t) rfl (wpAny_bind (wpAny_listPart (.int _ _) (wpAny_pure ?_))))
  refine wpAny_bind (m:=Builtin.List.listItems (.ref a)) ?_
  unfold Builtin.List.listItems
  refine wpAny_bind (wpAny_seqItems ho rfl (wpAny_pure ?_))
  refine wpAny_bind (wpAny_of_eq (sliceIndices_raw none (some (Int.ofNat m)) none (⟨l⟩ : Array Value).size (by simp)) ?_)
  refine wpAny_bind (wpAny_newObj_type (wpAny_pure ?_) (Nat.le_trans (slicePick_size_le ⟨l⟩ none (some (Int.ofNat m)) none) (by show l.length ≤ sizeLine; have : sizeLine = 16777216:=rfl; omega)))
  have e:=pick_upto ⟨l⟩ m
  unfold slicePick at e
  have e' : (⟨l⟩ : Array Value).toList = l:=rfl
  rw [e'] at e
  have e2 : ((sliceRange (sliceBounds none (some (Int.ofNat m)) none (⟨l⟩ : Array Value).size).1 (sliceBounds none (some (Int.ofNat m)) none (⟨l⟩ : Array Value).size).2.1 (sliceBounds none (some (Int.ofNat m)) none (⟨l⟩ : Array Value).size).2.2).filterMap ((⟨l⟩ : Array Value)[·]?)).toArray = (l.take m).toArray:=e
  rw [e2]
  exact z
end
section
variable {w:World} {n T lv:Nat}
def itO (li:Addr) (i:Nat) : Obj:=obO "list_iterator" (.fields ⟨[.ref li,.int (Int.ofNat i) 0]⟩)
def s_lnext (j j':Nat) (it li:Addr) (l:List Value) (k i:Nat) (v:Value) : Sum:=⟨.call (.builtin "list_iterator.__next__") ⟨[.ref it],[]⟩,fun _ _ => .ok (.ret v),0,0,[(j,it,itO li i,fun _ _ => itO li (i + 1)),(j',li,liO l k,fun _ _ => liO l k)],[],500⟩
theorem ok_lnext {j j':Nat} {it li:Addr} {l:List Value} {k i:Nat} {v:Value} (hi:l[i]? = some v) : (s_lnext j j' it li l k i v).Ok (G0 w n T lv):=by
  intro A c R s hd hu hh hb K hn nd ap post
  have ho : s.heap.get? it = some (itO li i):=hn _ (.head _)
  have hol : s.heap.get? li = some (liO l k):=hn _ (.tail _ (.head _))
  have hne : li ≠ it:=by
    have nd' : [it,li].Nodup:=nd
    intro z; rw [z] at nd'; simp at nd'
  have hx : (⟨l⟩ : Array Value)[i]? = some v:=by rw [List.getElem?_toArray]; exact hi
  refine codeAny_call_builtin slot_listiter_next.plain entry_listiter_next (slot_listiter_next.check _ _ _ _ _ _ _ _ (tOb ho) (args_listiter_next _) ?_)
  show wpAny _ _ (field (.ref it) 0 >>= _) _ _ s
  refine wpAny_bind (wpAny_field ho rfl (x:=.ref li) rfl ?_)
  show wpAny _ _ (if (Value.ref li == Value.none) = true then _ else _) _ _ s
  rw [if_neg (show ¬ ((Value.ref li == Value.none) = true) from Bool.false_ne_true)]
  show wpAny _ _ (field (.ref it) 1 >>= _) _ _ s
  refine wpAny_bind (wpAny_field ho rfl (x:=.int (Int.ofNat i) 0) rfl ?_)
  show wpAny _ _ (seqItems? (.ref li) >>= _) _ _ s
  refine wpAny_bind (wpAny_seqItems hol rfl ?_)
  have hx2 : (⟨l⟩ : Array Value)[(Int.ofNat i).toNat]? = some v:=hx
  simp only [hx2]
  refine wpAny_bind (wpAny_setField ho rfl (by show 1 < 2; decide) (wpAny_pure ?_))
  refine post _ (Heap.SameBut.update ..).1 (fun b o e hb => ?_) (fun y hy => ?_) (fun _ h => nomatch h)
  · exact (Heap.SameBut.update ..).extBut b o (fun z => hb (by rw [z]; exact .head _)) e
  · cases hy with
    | head =>
      show Heap.get? _ it = some (itO li (i + 1))
      rw [Heap.get?_update_self _ ho rfl]
      rfl
    | tail _ hy => cases hy with
      | head => exact (Heap.SameBut.update ..).extBut li _ hne hol
      | tail _ hy => cases hy
def s_rnext (j:Nat) (it:Addr) (x left:Int) : Sum:=⟨.call (.builtin "range_iterator.__next__") ⟨[.ref it],[]⟩,fun _ T => .ok (.ret (.int x T)),1,0,[(j,it,riO x left,fun _ _ => riO (x + 1) (left - 1))],[],500⟩
theorem ok_rnext {j:Nat} {it:Addr} {x left:Int} (hl:0 < left) : (s_rnext j it x left).Ok (G0 w n T lv):=by
  intro A c R s hd hu hh hb K hn nd ap post
  have ho : s.heap.get? it = some (riO x left):=hn _ (.head _)
  refine code_meets F.slot_range_iterator_next (tOb ho) F.entry_range_iterator_next (F.args_range_iterator_next_1 _) (AutoRange.range_iterator___next___range_iterator_1 it x left 1 (by omega)) ⟨ho,?_⟩
  have h1:=Heap.get?_update_self (Obj.mapFields fun x_1 => x_1.setIfInBounds 0 (rawInt (x + 1))) ho rfl
  refine post _ ?_ (fun b o e hb => ?_) (fun y hy => ?_) (fun _ h => nomatch h)
  · rw [(Heap.SameBut.update ..).1,(Heap.SameBut.update ..).1]; rfl
  · have hbi : b ≠ it:=fun z => hb (by rw [z]; exact .head _)
    exact (Heap.SameBut.update ..).extBut b o hbi ((Heap.SameBut.update ..).extBut b o hbi e)
  · cases hy with
    | head =>
      show Heap.get? _ it = some (riO (x + 1) (left - 1))
      rw [Heap.get?_update_self _ h1 rfl]
      rfl
    | tail _ hy => cases hy
end
def u_fl0 (w:World) (n T:Nat) (z:Int) (tz:Tok) : List Sum:=[]
def r_fl0 (w:World) (n T:Nat) (g:List GenState) (z:Int) (tz:Tok) : Out:=runFn (G0 w n T 440) 20000 (digits 15 58047846480166779149881408) (u_fl0 w n T z tz) (.call (.ref 820) ⟨[.int z tz],[]⟩) [] g
def b_fl0 (n T:Nat) (z:Int) (tz:Tok) : List (Bool × Bool):=[(false,false),(true,true),(decide ((Int.fmod (Int.fdiv z (Int.ofNat 5)) (Int.ofNat 4)) < (Int.ofNat 1024)),true),(decide ((Int.negSucc 1023) < (Int.fmod (Int.fdiv z (Int.ofNat 5)) (Int.ofNat 4))),true),(false,false),(false,false),(false,false)]
theorem e_fl0 (b:Bool) (w:World) (n T:Nat) (g:List GenState) (z:Int) (tz:Tok) : (r_fl0 (W b w) n T g z tz).M3 [] = (r_fl0 (W b w) n T g z tz).N3 (b_fl0 n T z tz) (.call (.ref 813) ⟨[.int ((Int.ofNat 32768) + (Int.fmod z (Int.ofNat 4096))) (T + ((6 + (dim (Int.fmod (Int.fdiv z (Int.ofNat 5)) (Int.ofNat 4)))) + 3))],[]⟩) (1) (1) (6 + (dim (Int.fmod (Int.fdiv z (Int.ofNat 5)) (Int.ofNat 4))) + 4) g [(n,obO "frame" (dcD (W b w).params [((sx [110]),T,.int z tz)] 1))]:=by cases b <;> kernel_rfl
noncomputable def g_fl0 {b:Bool} {w:World} (z:Int) (tz:Tok):=mkFS (fun n T g => e_fl0 b w n T g z tz) (fun _ _ _ => rfl) (by decide)
def u_fl1 (w:World) (n T:Nat) (n0 T0:Nat) (g0:List GenState) (z:Int) (tz:Tok) (q:List Nat) (tq:Tok) : List Sum:=[]
def r_fl1 (w:World) (n T:Nat) (g:List GenState) (n0 T0:Nat) (g0:List GenState) (z:Int) (tz:Tok) (q:List Nat) (tq:Tok) : Out:=runK w n T 440 20000 (digits 8 178601921896552) (u_fl1 w n T n0 T0 g0 z tz q tq) (r_fl0 w n0 T0 g0 z tz) (.ok (.ret (.str (sx q) tq))) [(n0,obO "frame" (dcD w.params [((sx [110]),T0,.int (z) tz)] 1))] g
def b_fl1 (n T:Nat) (n0 T0:Nat) (g0:List GenState) (z:Int) (tz:Tok) (q:List Nat) (tq:Tok) : List (Bool × Bool):=[((Nat.ble (slen (cat (cat (srep (sx [32]) (Int.fmod (Int.fdiv z (Int.ofNat 5)) (Int.ofNat 4))) (sx q)) (srep (sx [32]) (Int.fmod (Int.fdiv z (Int.ofNat 20)) (Int.ofNat 4))))) 16777216),true),(true,true),(decide ((Int.fmod (Int.fdiv z (Int.ofNat 20)) (Int.ofNat 4)) < (Int.ofNat 1024)),true),(decide ((Int.negSucc 1023) < (Int.fmod (Int.fdiv z (Int.ofNat 20)) (Int.ofNat 4))),true),(false,false),(false,false),(false,false),((Nat.ble (slen (cat (srep (sx [32]) (Int.fmod (Int.fdiv z (Int.ofNat 5)) (Int.ofNat 4))) (sx q))) 16777216),true)]
theorem e_fl1 (b:Bool) (w:World) (n T:Nat) (g:List GenState) (n0 T0:Nat) (g0:List GenState) (z:Int) (tz:Tok) (q:List Nat) (tq:Tok) : (r_fl1 (W b w) n T g n0 T0 g0 z tz q tq).M [false] = (r_fl1 (W b w) n T g n0 T0 g0 z tz q tq).N (b_fl1 n T n0 T0 g0 z tz q tq) (.done (.ok (.ret (.str (cat (cat (srep (sx [32]) (Int.fmod (Int.fdiv z (Int.ofNat 5)) (Int.ofNat 4))) (sx q)) (srep (sx [32]) (Int.fmod (Int.fdiv z (Int.ofNat 20)) (Int.ofNat 4)))) (tka (cat (srep (sx [32]) (Int.fmod (Int.fdiv z (Int.ofNat 5)) (Int.ofNat 4))) (sx q)) (srep (sx [32]) (Int.fmod (Int.fdiv z (Int.ofNat 20)) (Int.ofNat 4))) (tka (srep (sx [32]) (Int.fmod (Int.fdiv z (Int.ofNat 5)) (Int.ofNat 4))) (sx q) (tkm (Int.fmod (Int.fdiv z (Int.ofNat 5)) (Int.ofNat 4)) (T0 + (0 + 1)) (T0 + ((((((0 + 1) + 1) + 1) + 1) + 1) + 1))) tq T) (tkm (Int.fmod (Int.fdiv z (Int.ofNat 20)) (Int.ofNat 4)) (T + (0 + (dia (srep (sx [32]) (Int.fmod (Int.fdiv z (Int.ofNat 5)) (Int.ofNat 4))) (sx q)))) (T + ((0 + (dia (srep (sx [32]) (Int.fmod (Int.fdiv z (Int.ofNat 5)) (Int.ofNat 4))) (sx q))) + 5))) (T + (((0 + (dia (srep (sx [32]) (Int.fmod (Int.fdiv z (Int.ofNat 5)) (Int.ofNat 4))) (sx q))) + 5) + (dim (Int.fmod (Int.fdiv z (Int.ofNat 20)) (Int.ofNat 4)))))))))) (0) (0 + (dia (srep (sx [32]) (Int.fmod (Int.fdiv z (Int.ofNat 5)) (Int.ofNat 4))) (sx q)) + 5 + (dim (Int.fmod (Int.fdiv z (Int.ofNat 20)) (Int.ofNat 4))) + (dia (cat (srep (sx [32]) (Int.fmod (Int.fdiv z (Int.ofNat 5)) (Int.ofNat 4))) (sx q)) (srep (sx [32]) (Int.fmod (Int.fdiv z (Int.ofNat 20)) (Int.ofNat 4))))) g []:=by cases b <;> kernel_rfl
noncomputable def g_fl1 {b:Bool} {w:World} (n0 T0:Nat) (g0:List GenState) (z:Int) (tz:Tok) (q:List Nat) (tq:Tok):=mkK (fun n T g => e_fl1 b w n T g n0 T0 g0 z tz q tq) (fun _ _ _ => rfl) (by decide)
def bodyAt (i:Nat) : List Stmt:=match fnAt i with
  | .FunctionDef _ _ b _ _ _ _ _ _ _ => b
  | _ => []
def scopeAt (i:Nat) : Scope:=match fnAt i with
  | .FunctionDef _ _ _ _ _ _ sc _ _ _ => sc
  | _ => default
def stAt (b:List Stmt) (i:Nat) : Stmt:=b.getD i (.Pass default)
def eVal (s:Stmt) : PySem.Expr:=match s with
  | .Return (some e) _ => e
  | .Assign _ e _ => e
  | .AugAssign _ _ e _ => e
  | .For _ e _ _ _ => e
  | _ => default
def eArg (e:PySem.Expr) (i:Nat) : PySem.Expr:=match e with
  | .Call _ a _ _ => a.getD i default
  | .List a _ => a.getD i default
  | _ => default
def eLeft (e:PySem.Expr) : PySem.Expr:=match e with
  | .Compare l _ _ _ => l
  | .BinOp l _ _ _ => l
  | _ => default
def lcScope (e:PySem.Expr) : Scope:=match e with
  | .ListComp _ _ sc _ => sc
  | .GeneratorExp _ _ sc _ => sc
  | _ => default
def sfT (s:Stmt) : PySem.Expr:=match s with
  | .For t _ _ _ _ => t
  | _ => default
def sfB (s:Stmt) : List Stmt:=match s with
  | .For _ _ b _ _ => b
  | _ => []
def lwEnv (L:Addr) : Env:=⟨scopeAt 57,L,3,[],(sx [108,97,119,46,60,108,111,99,97,108,115,62,46]),some 835,.ref 834,some L,0⟩
def lwE1 : PySem.Expr:=eArg (eArg (eLeft (eVal (stAt (bodyAt 57) 1))) 0) 0
def lwE2 : PySem.Expr:=eArg (eLeft (eVal (stAt (bodyAt 57) 1))) 1
def dr4 (T:Nat) : List Value:=[.int (Int.ofNat 493) (T + 1),.int (Int.ofNat 2468) (T + 2),.int (Int.ofNat 4001) (T + 3),.int (Int.ofNat 0) (T + 4)]
def lwF (P:Params) (k0 k1:Tok) (li dl:Addr) : Obj:=obO "frame" (dcD P [((sx [115,99,114,105,112,116]),k0,.ref li),((sx [100,114,97,119,110]),k1,.ref dl)] 2)
def lwC1 (n:Nat) (it acc C:Addr) : Code:=.compLoop lwE1 0 (.ref it) (.ref acc) (compEnvC (lcScope lwE1) [] C (lwEnv n))
def lwC2 (n:Nat) (it acc C:Addr) : Code:=.compLoop lwE2 0 (.ref it) (.ref acc) (compEnvC (lcScope lwE2) [] C (lwEnv n))
def dcO (P:Params) (l:List (Str × Tok × Value)) (k:Nat) : Obj:=obO "dict" (dcD P l k)
def u_lca (w:World) (n T:Nat) (L it dl acc C:Nat) (ds l:List Value) (kd k i:Nat) (z:Int) (tz:Tok) : List Sum:=[s_lnext 0 1 it dl ds kd i (.int z tz)]
def r_lca (w:World) (n T:Nat) (g:List GenState) (L it dl acc C:Nat) (ds l:List Value) (kd k i:Nat) (z:Int) (tz:Tok) : Out:=runC (G0 w n T 320) 20000 (digits 8 13198435565697) (u_lca w n T L it dl acc C ds l kd k i z tz) (lwC1 L it acc C) [(it,itO dl i),(dl,liO ds kd),(acc,liO l k),(C,dcO w.params [] 0)] g
def b_lca (n T:Nat) (L it dl acc C:Nat) (ds l:List Value) (kd k i:Nat) (z:Int) (tz:Tok) : List (Bool × Bool):=[]
theorem e_lca (b:Bool) (w:World) (n T:Nat) (g:List GenState) (L it dl acc C:Nat) (ds l:List Value) (kd k i:Nat) (z:Int) (tz:Tok) : (r_lca (W b w) n T g L it dl acc C ds l kd k i z tz).M3 [] = (r_lca (W b w) n T g L it dl acc C ds l kd k i z tz).N3 (b_lca n T L it dl acc C ds l kd k i z tz) (.call (.ref 820) ⟨[.int z tz],[]⟩) (1) (0) (1) g [(it,itO dl (i + 1)),(dl,liO ds kd),(acc,liO l k),(C,dcO (W b w).params [((sx [110]),T,.int z tz)] 1)]:=by cases b <;> kernel_rfl
noncomputable def g_lca {b:Bool} {w:World} (L it dl acc C:Nat) (ds l:List Value) (kd k i:Nat) (z:Int) (tz:Tok):=mkCS (fun n T g => e_lca b w n T g L it dl acc C ds l kd k i z tz) (fun _ _ _ => rfl) rfl (by decide)
def u_lcb (w:World) (n T:Nat) (L it dl acc C:Nat) (ds l:List Value) (kd k i:Nat) (z:Int) (tz:Tok) (t0:Tok) (v0:Value) (e0:Nat) : List Sum:=[s_lnext 0 1 it dl ds kd i (.int z tz)]
def r_lcb (w:World) (n T:Nat) (g:List GenState) (L it dl acc C:Nat) (ds l:List Value) (kd k i:Nat) (z:Int) (tz:Tok) (t0:Tok) (v0:Value) (e0:Nat) : Out:=runC (G0 w n T 320) 20000 (digits 8 13198435565697) (u_lcb w n T L it dl acc C ds l kd k i z tz t0 v0 e0) (lwC1 L it acc C) [(it,itO dl i),(dl,liO ds kd),(acc,liO l k),(C,dcO w.params [((sx [110]),t0,v0)] e0)] g
def b_lcb (n T:Nat) (L it dl acc C:Nat) (ds l:List Value) (kd k i:Nat) (z:Int) (tz:Tok) (t0:Tok) (v0:Value) (e0:Nat) : List (Bool × Bool):=[]
theorem e_lcb (b:Bool) (w:World) (n T:Nat) (g:List GenState) (L it dl acc C:Nat) (ds l:List Value) (kd k i:Nat) (z:Int) (tz:Tok) (t0:Tok) (v0:Value) (e0:Nat) : (r_lcb (W b w) n T g L it dl acc C ds l kd k i z tz t0 v0 e0).M3 [] = (r_lcb (W b w) n T g L it dl acc C ds l kd k i z tz t0 v0 e0).N3 (b_lcb n T L it dl acc C ds l kd k i z tz t0 v0 e0) (.call (.ref 820) ⟨[.int z tz],[]⟩) (1) (0) (1) g [(it,itO dl (i + 1)),(dl,liO ds kd),(acc,liO l k),(C,obO "dict" (dcD (W b w).params [((sx [110]),t0,.int z tz)] e0))]:=by cases b <;> kernel_rfl
noncomputable def g_lcb {b:Bool} {w:World} (L it dl acc C:Nat) (ds l:List Value) (kd k i:Nat) (z:Int) (tz:Tok) (t0:Tok) (v0:Value) (e0:Nat):=mkCS (fun n T g => e_lcb b w n T g L it dl acc C ds l kd k i z tz t0 v0 e0) (fun _ _ _ => rfl) rfl (by decide)
def u_lda (w:World) (n T:Nat) (n0 T0:Nat) (g0:List GenState) (L it dl acc C:Nat) (ds l:List Value) (kd k i:Nat) (z:Int) (tz:Tok) (q:List Nat) (tq t1:Tok) (e1:Nat) : List Sum:=[s_app 0 acc l k (.str (sx q) tq)]
def r_lda (w:World) (n T:Nat) (g:List GenState) (n0 T0:Nat) (g0:List GenState) (L it dl acc C:Nat) (ds l:List Value) (kd k i:Nat) (z:Int) (tz:Tok) (q:List Nat) (tq t1:Tok) (e1:Nat) : Out:=runK w n T 320 20000 (digits 2 194) (u_lda w n T n0 T0 g0 L it dl acc C ds l kd k i z tz q tq t1 e1) (r_lca w n0 T0 g0 L it dl acc C ds l kd k i z tz) (.ok (.ret (.str (sx q) tq))) [(acc,liO l k)] g
def b_lda (n T:Nat) (n0 T0:Nat) (g0:List GenState) (L it dl acc C:Nat) (ds l:List Value) (kd k i:Nat) (z:Int) (tz:Tok) (q:List Nat) (tq t1:Tok) (e1:Nat) : List (Bool × Bool):=[]
theorem e_lda (b:Bool) (w:World) (n T:Nat) (g:List GenState) (n0 T0:Nat) (g0:List GenState) (L it dl acc C:Nat) (ds l:List Value) (kd k i:Nat) (z:Int) (tz:Tok) (q:List Nat) (tq t1:Tok) (e1:Nat) : (r_lda (W b w) n T g n0 T0 g0 L it dl acc C ds l kd k i z tz q tq t1 e1).M [] = (r_lda (W b w) n T g n0 T0 g0 L it dl acc C ds l kd k i z tz q tq t1 e1).N (b_lda n T n0 T0 g0 L it dl acc C ds l kd k i z tz q tq t1 e1) (.again (lwC1 L it acc C)) (0) (0) g [(acc,liO (l ++ [.str (sx q) tq]) (k + 1))]:=by cases b <;> kernel_rfl
noncomputable def g_lda {b:Bool} {w:World} (n0 T0:Nat) (g0:List GenState) (L it dl acc C:Nat) (ds l:List Value) (kd k i:Nat) (z:Int) (tz:Tok) (q:List Nat) (tq t1:Tok) (e1:Nat):=mkKA (fun n T g => e_lda b w n T g n0 T0 g0 L it dl acc C ds l kd k i z tz q tq t1 e1) (fun _ _ _ => rfl) (by decide)
def u_ldb (w:World) (n T:Nat) (n0 T0:Nat) (g0:List GenState) (L it dl acc C:Nat) (ds l:List Value) (kd k i:Nat) (z:Int) (tz:Tok) (t0:Tok) (v0:Value) (e0:Nat) (q:List Nat) (tq t1:Tok) (e1:Nat) : List Sum:=[s_app 0 acc l k (.str (sx q) tq)]
def r_ldb (w:World) (n T:Nat) (g:List GenState) (n0 T0:Nat) (g0:List GenState) (L it dl acc C:Nat) (ds l:List Value) (kd k i:Nat) (z:Int) (tz:Tok) (t0:Tok) (v0:Value) (e0:Nat) (q:List Nat) (tq t1:Tok) (e1:Nat) : Out:=runK w n T 320 20000 (digits 2 194) (u_ldb w n T n0 T0 g0 L it dl acc C ds l kd k i z tz t0 v0 e0 q tq t1 e1) (r_lcb w n0 T0 g0 L it dl acc C ds l kd k i z tz t0 v0 e0) (.ok (.ret (.str (sx q) tq))) [(acc,liO l k)] g
def b_ldb (n T:Nat) (n0 T0:Nat) (g0:List GenState) (L it dl acc C:Nat) (ds l:List Value) (kd k i:Nat) (z:Int) (tz:Tok) (t0:Tok) (v0:Value) (e0:Nat) (q:List Nat) (tq t1:Tok) (e1:Nat) : List (Bool × Bool):=[]
theorem e_ldb (b:Bool) (w:World) (n T:Nat) (g:List GenState) (n0 T0:Nat) (g0:List GenState) (L it dl acc C:Nat) (ds l:List Value) (kd k i:Nat) (z:Int) (tz:Tok) (t0:Tok) (v0:Value) (e0:Nat) (q:List Nat) (tq t1:Tok) (e1:Nat) : (r_ldb (W b w) n T g n0 T0 g0 L it dl acc C ds l kd k i z tz t0 v0 e0 q tq t1 e1).M [] = (r_ldb (W b w) n T g n0 T0 g0 L it dl acc C ds l kd k i z tz t0 v0 e0 q tq t1 e1).N (b_ldb n T n0 T0 g0 L it dl acc C ds l kd k i z tz t0 v0 e0 q tq t1 e1) (.again (lwC1 L it acc C)) (0) (0) g [(acc,liO (l ++ [.str (sx q) tq]) (k + 1))]:=by cases b <;> kernel_rfl
noncomputable def g_ldb {b:Bool} {w:World} (n0 T0:Nat) (g0:List GenState) (L it dl acc C:Nat) (ds l:List Value) (kd k i:Nat) (z:Int) (tz:Tok) (t0:Tok) (v0:Value) (e0:Nat) (q:List Nat) (tq t1:Tok) (e1:Nat):=mkKA (fun n T g => e_ldb b w n T g n0 T0 g0 L it dl acc C ds l kd k i z tz t0 v0 e0 q tq t1 e1) (fun _ _ _ => rfl) (by decide)
def u_lea (w:World) (n T:Nat) (L it dl acc C:Nat) (ds l:List Value) (kd k i:Nat) (z:Int) (tz:Tok) : List Sum:=[s_lnext 0 1 it dl ds kd i (.int z tz),s_app 2 acc l k (.int (Int.fmod (Int.fdiv z (Int.ofNat 5)) (Int.ofNat 4) + Int.fmod (Int.fdiv z (Int.ofNat 20)) (Int.ofNat 4)) (T + 9))]
def r_lea (w:World) (n T:Nat) (g:List GenState) (L it dl acc C:Nat) (ds l:List Value) (kd k i:Nat) (z:Int) (tz:Tok) : Out:=runC (G0 w n T 320) 20000 (digits 13 14319412894936199086209) (u_lea w n T L it dl acc C ds l kd k i z tz) (lwC2 L it acc C) [(it,itO dl i),(dl,liO ds kd),(acc,liO l k),(C,dcO w.params [] 0)] g
def b_lea (n T:Nat) (L it dl acc C:Nat) (ds l:List Value) (kd k i:Nat) (z:Int) (tz:Tok) : List (Bool × Bool):=[(false,false),(false,false),(false,false),(false,false),(false,false),(false,false)]
theorem e_lea (b:Bool) (w:World) (n T:Nat) (g:List GenState) (L it dl acc C:Nat) (ds l:List Value) (kd k i:Nat) (z:Int) (tz:Tok) : (r_lea (W b w) n T g L it dl acc C ds l kd k i z tz).M [] = (r_lea (W b w) n T g L it dl acc C ds l kd k i z tz).N (b_lea n T L it dl acc C ds l kd k i z tz) (.again (lwC2 L it acc C)) (0) (10) g [(it,itO dl (i + 1)),(dl,liO ds kd),(acc,liO (l ++ [.int (Int.fmod (Int.fdiv z (Int.ofNat 5)) (Int.ofNat 4) + Int.fmod (Int.fdiv z (Int.ofNat 20)) (Int.ofNat 4)) (T + 9)]) (k + 1)),(C,obO "dict" (dcD (W b w).params [((sx [110]),T,.int z tz)] (0 + 1)))]:=by cases b <;> kernel_rfl
noncomputable def g_lea {b:Bool} {w:World} (L it dl acc C:Nat) (ds l:List Value) (kd k i:Nat) (z:Int) (tz:Tok):=mkA (fun n T g => e_lea b w n T g L it dl acc C ds l kd k i z tz) (fun _ _ _ => rfl) rfl (by decide)
def u_leb (w:World) (n T:Nat) (L it dl acc C:Nat) (ds l:List Value) (kd k i:Nat) (z:Int) (tz:Tok) (t0:Tok) (v0:Value) (e0:Nat) : List Sum:=[s_lnext 0 1 it dl ds kd i (.int z tz),s_app 2 acc l k (.int (Int.fmod (Int.fdiv z (Int.ofNat 5)) (Int.ofNat 4) + Int.fmod (Int.fdiv z (Int.ofNat 20)) (Int.ofNat 4)) (T + 9))]
def r_leb (w:World) (n T:Nat) (g:List GenState) (L it dl acc C:Nat) (ds l:List Value) (kd k i:Nat) (z:Int) (tz:Tok) (t0:Tok) (v0:Value) (e0:Nat) : Out:=runC (G0 w n T 320) 20000 (digits 13 14319412894936199086209) (u_leb w n T L it dl acc C ds l kd k i z tz t0 v0 e0) (lwC2 L it acc C) [(it,itO dl i),(dl,liO ds kd),(acc,liO l k),(C,dcO w.params [((sx [110]),t0,v0)] e0)] g
def b_leb (n T:Nat) (L it dl acc C:Nat) (ds l:List Value) (kd k i:Nat) (z:Int) (tz:Tok) (t0:Tok) (v0:Value) (e0:Nat) : List (Bool × Bool):=[(false,false),(false,false),(false,false),(false,false),(false,false),(false,false)]
theorem e_leb (b:Bool) (w:World) (n T:Nat) (g:List GenState) (L it dl acc C:Nat) (ds l:List Value) (kd k i:Nat) (z:Int) (tz:Tok) (t0:Tok) (v0:Value) (e0:Nat) : (r_leb (W b w) n T g L it dl acc C ds l kd k i z tz t0 v0 e0).M [] = (r_leb (W b w) n T g L it dl acc C ds l kd k i z tz t0 v0 e0).N (b_leb n T L it dl acc C ds l kd k i z tz t0 v0 e0) (.again (lwC2 L it acc C)) (0) (10) g [(it,itO dl (i + 1)),(dl,liO ds kd),(acc,liO (l ++ [.int (Int.fmod (Int.fdiv z (Int.ofNat 5)) (Int.ofNat 4) + Int.fmod (Int.fdiv z (Int.ofNat 20)) (Int.ofNat 4)) (T + 9)]) (k + 1)),(C,obO "dict" (dcD (W b w).params [((sx [110]),t0,.int z tz)] e0))]:=by cases b <;> kernel_rfl
noncomputable def g_leb {b:Bool} {w:World} (L it dl acc C:Nat) (ds l:List Value) (kd k i:Nat) (z:Int) (tz:Tok) (t0:Tok) (v0:Value) (e0:Nat):=mkA (fun n T g => e_leb b w n T g L it dl acc C ds l kd k i z tz t0 v0 e0) (fun _ _ _ => rfl) rfl (by decide)
section
variable {w:World} {n T lv:Nat}
def s_rnew (m:Int) (u:Tok) : Sum:=⟨.call (.builtin "range.__new__") ⟨[.type "range",.int m u],[]⟩,fun n _ => .ok (.ret (.ref n)),2,1,[],[(0,fun _ T => rgO m T u (T + 1))],500⟩
theorem ok_rnew {m:Int} {u:Tok} : (s_rnew m u).Ok (G0 w n T lv):=by
  intro A v R s hd hu hh hb K hn nd ap post
  refine codeAny_of_tree ?_
  show wpAny _ A.in1 (do checkBuiltinCall "range.__new__" ⟨[.type "range",.int m u],[]⟩; again (.builtin "range.__new__" ⟨[.type "range",.int m u],[]⟩)) _ _ s
  refine wpAny_bind (wpAny_of_eq (F.newCall_range_1 _) (wpAny_pure ⟨Code.quiet_builtin _ (by decide +kernel),codeAny_builtin F.entry_range_new ?_⟩))
  refine AutoRange.range___new___type_int_0 m u F.called_range.sub P0 w _ R s ?_
  refine post _ (by rw [Heap.size_push]; rfl) (fun b o e _ => Heap.get?_push_of_some _ e) (fun _ hy => nm hy) fun p hp => ?_
  have hp : p ∈ [(s.heap.objs.size + 0,rgO m s.toks u (s.toks + 1))]:=hp
  cases List.mem_singleton.mp hp
  exact Heap.get?_push_size _ rfl
end
noncomputable def isLc (e:PySem.Expr) : Bool:=match e with
  | .ListComp _ [⟨_,_,_,0⟩] _ _ => true
  | _ => false
theorem isLc_shape {e:PySem.Expr} (h:isLc e = true) : ∃ elt target iter ifs scope pos,e = .ListComp elt [⟨target,iter,ifs,0⟩] scope pos:=by
  unfold isLc at h
  split at h
  · exact ⟨_,_,_,_,_,_,rfl⟩
  · cases h
section
variable {w:World} {A:Around} {R:Result → Shared → Prop} {s:Shared}
theorem comp_startL {e:PySem.Expr} {it acc:Addr} {env:Env} {li:Addr} {i:Nat} (he:isLc e = true) (hit:s.heap.get? it = some (itO li i))
    (h:codeAny (model P0 w) A (.compLoop e 0 (.ref it) (.ref acc) env) R s) : codeAny (model P0 w) A (.compStart e 0 (.ref it) (.ref acc) env) R s:=by
  obtain ⟨elt,target,iter,ifs,scope,pos,rfl⟩:=isLc_shape he
  exact codeAny_compStart_list h (wpAny_pyIter_listiter ⟨_,hit,rfl,rfl⟩ h)
theorem comp_startR {e:PySem.Expr} {it acc:Addr} {env:Env} {x left:Int} (he:isLc e = true) (hit:s.heap.get? it = some (riO x left))
    (h:codeAny (model P0 w) A (.compLoop e 0 (.ref it) (.ref acc) env) R s) : codeAny (model P0 w) A (.compStart e 0 (.ref it) (.ref acc) env) R s:=by
  obtain ⟨elt,target,iter,ifs,scope,pos,rfl⟩:=isLc_shape he
  exact codeAny_compStart_list h (wpAny_pyIter_rangeiter (x:=x) (left:=left) (step:=1) hit h)
end
def s_stripZ (x:List Nat) (ts:Tok) (z:Int) (ta:Tok) (res:List Nat) (di:Nat) (tk:Tok → Tok) : Sum :=
  ⟨.call (.ref 51) ⟨[.str (sx x) ts,.int z ta],[]⟩,fun _ T => .ok (.ret (.str (sx res) (tk T))),di,2,[],[],450⟩
def ceO (v:Option Value) : Obj:=obO "cell" (.cell v)
def sfO (s:Stmt) : List Stmt:=match s with
  | .For _ _ _ o _ => o
  | _ => []
def tlFor : Stmt:=stAt (bodyAt 55) 2
def tlEnv (L:Addr) : Env:=⟨scopeAt 55,L,3,[((sx [114,111,119]),L + 4),((sx [107]),L + 3),((sx [102,105,101,108,100,115]),L + 2),((sx [99,111,117,110,116,115]),L + 1)],(sx [95,108,97,119,95,116,111,108,100,46,60,108,111,99,97,108,115,62,46]),some 825,.ref 824,some L,0⟩
def tlLoop (L it:Addr) : Code:=.forLoop (sfT tlFor) (.ref it) (sfB tlFor) (sfO tlFor) (tlEnv L)
def tlF2 (P:Params) (k0 k1:Tok) (q:List Nat) (tq:Tok) (li:Addr) (sl:Array (Option Value)) : Obj:=⟨.type "frame",none,dcD P [((sx [108,105,110,101]),k0,.str (sx q) tq),((sx [116,111,108,100]),k1,.ref li)] 2,sl⟩
def tlF3 (P:Params) (k0 k1 k2:Tok) (q:List Nat) (tq:Tok) (li hv:Addr) (sl:Array (Option Value)) : Obj:=⟨.type "frame",none,dcD P [((sx [108,105,110,101]),k0,.str (sx q) tq),((sx [116,111,108,100]),k1,.ref li),((sx [104,97,108,118,101,115]),k2,.ref hv)] 3,sl⟩
def tlE1 : PySem.Expr:=eVal (stAt (sfB tlFor) 0)
def tlE2 : PySem.Expr:=eVal (stAt (sfB tlFor) 1)
def u_tl0 (w:World) (n T:Nat) (q:List Nat) (tq:Tok) (cl:Nat) : List Sum:=[]
def r_tl0 (w:World) (n T:Nat) (g:List GenState) (q:List Nat) (tq:Tok) (cl:Nat) : Out:=runFn (G0 w n T 300) 20000 (digits 9 844768595693888) (u_tl0 w n T q tq cl) (.call (.ref 825) ⟨[.str (sx q) tq,.ref cl],[]⟩) [] g
def b_tl0 (n T:Nat) (q:List Nat) (tq:Tok) (cl:Nat) : List (Bool × Bool):=[]
theorem e_tl0 (b:Bool) (w:World) (n T:Nat) (g:List GenState) (q:List Nat) (tq:Tok) (cl:Nat) : (r_tl0 (W b w) n T g q tq cl).M3 [] = (r_tl0 (W b w) n T g q tq cl).N3 (b_tl0 n T q tq cl) (.call (.ref 751) ⟨[.str (sx q) tq],[]⟩) (1) (5) (1) g [((n + 4),ceO none),((n + 3),ceO none),((n + 2),ceO none),((n + 1),ceO (some (.ref cl))),(n,obO "frame" (dcD (W b w).params [((sx [108,105,110,101]),T,.str (sx q) tq)] (0 + 1)))]:=by cases b <;> kernel_rfl
theorem ef_tl0 (b:Bool) (w:World) (n T:Nat) (g:List GenState) (q:List Nat) (tq:Tok) (cl:Nat) : ((r_tl0 (W b w) n T g q tq cl).fr,plainK (r_tl0 (W b w) n T g q tq cl).κ) = ([tlEnv n],true):=by cases b <;> kernel_rfl
noncomputable def g_tl0 {b:Bool} {w:World} (q:List Nat) (tq:Tok) (cl:Nat):=mkFSF (fun n T g => e_tl0 b w n T g q tq cl) (fun n T g => ef_tl0 b w n T g q tq cl) (fun _ _ _ => rfl) (by decide)
def u_tl1 (w:World) (n T:Nat) (n0 T0:Nat) (g0:List GenState) (fl:Nat) (fs:List Value) (kf:Nat) (sl:Array (Option Value)) (q:List Nat) (tq:Tok) (cl:Nat) : List Sum:=[s_llen 6 fl fs kf,s_rnew (Int.ofNat fs.length) (T + 2),s_riter 0 (n + 1) (Int.ofNat fs.length) (T + 3) (T + 2) (T + 4)]
def r_tl1 (w:World) (n T:Nat) (g:List GenState) (n0 T0:Nat) (g0:List GenState) (fl:Nat) (fs:List Value) (kf:Nat) (sl:Array (Option Value)) (q:List Nat) (tq:Tok) (cl:Nat) : Out:=runK w n T 300 20000 (digits 24 1050963440557099464937246222960971588575427) (u_tl1 w n T n0 T0 g0 fl fs kf sl q tq cl) (r_tl0 w n0 T0 g0 q tq cl) (.ok (.ret (.ref fl))) [(n0,{ obO "frame" (dcD w.params [((sx [108,105,110,101]),T0,.str (sx q) tq)] 1) with slots:=sl }),((n0 + 1),ceO (some (.ref cl))),((n0 + 2),ceO none),((n0 + 3),ceO none),((n0 + 4),ceO none),(fl,liO fs kf)] g
def b_tl1 (n T:Nat) (n0 T0:Nat) (g0:List GenState) (fl:Nat) (fs:List Value) (kf:Nat) (sl:Array (Option Value)) (q:List Nat) (tq:Tok) (cl:Nat) : List (Bool × Bool):=[]
theorem e_tl1 (b:Bool) (w:World) (n T:Nat) (g:List GenState) (n0 T0:Nat) (g0:List GenState) (fl:Nat) (fs:List Value) (kf:Nat) (sl:Array (Option Value)) (q:List Nat) (tq:Tok) (cl:Nat) : (r_tl1 (W b w) n T g n0 T0 g0 fl fs kf sl q tq cl).M3 [true,false] = (r_tl1 (W b w) n T g n0 T0 g0 fl fs kf sl q tq cl).N3 (b_tl1 n T n0 T0 g0 fl fs kf sl q tq cl) (tlLoop n0 (n + 2)) (1) (3) (5) g [((n + 2),riO 0 (Int.ofNat fs.length)),(n,liO [] 0),(n0,tlF2 (W b w).params T0 T q tq n sl),((n0 + 1),obO "cell" (.cell (some (.ref cl)))),((n0 + 2),ceO (some (.ref fl))),((n0 + 3),obO "cell" (.cell none)),((n0 + 4),obO "cell" (.cell none)),(fl,liO fs kf)]:=by cases b <;> kernel_rfl
noncomputable def g_tl1 {b:Bool} {w:World} (n0 T0:Nat) (g0:List GenState) (fl:Nat) (fs:List Value) (kf:Nat) (sl:Array (Option Value)) (q:List Nat) (tq:Tok) (cl:Nat):=mkKS (fun n T g => e_tl1 b w n T g n0 T0 g0 fl fs kf sl q tq cl) (fun _ _ _ => rfl) (by decide)
def tlC1 (L it acc C:Addr) : Code:=.compLoop tlE1 0 (.ref it) (.ref acc) (compEnvC (lcScope tlE1) [((sx [107]),L + 3),((sx [102,105,101,108,100,115]),L + 2)] C (tlEnv L))
def u_tla (w:World) (n T:Nat) (L it cl:Nat) (vk:Option Value) (cs:List Value) (kc i:Nat) (left c:Int) (tc:Tok) : List Sum:=[s_rnext 0 it (Int.ofNat i) left,s_get 3 cl cs kc (Int.ofNat i) T (.int c tc),s_rnew (c + Int.ofNat 1) (T + 2),s_riter 0 n (c + Int.ofNat 1) (T + 3) (T + 2) (T + 4)]
def r_tla (w:World) (n T:Nat) (g:List GenState) (L it cl:Nat) (vk:Option Value) (cs:List Value) (kc i:Nat) (left c:Int) (tc:Tok) : Out:=runC (G0 w n T 320) 20000 (digits 27 275503760161400282136509483173724831969444638849) (u_tla w n T L it cl vk cs kc i left c tc) (tlLoop L it) [(it,riO (Int.ofNat i) left),((L + 1),ceO (some (.ref cl))),((L + 3),ceO vk),(cl,liO cs kc)] g
def b_tla (n T:Nat) (L it cl:Nat) (vk:Option Value) (cs:List Value) (kc i:Nat) (left c:Int) (tc:Tok) : List (Bool × Bool):=[]
theorem e_tla (b:Bool) (w:World) (n T:Nat) (g:List GenState) (L it cl:Nat) (vk:Option Value) (cs:List Value) (kc i:Nat) (left c:Int) (tc:Tok) : (r_tla (W b w) n T g L it cl vk cs kc i left c tc).M3 [true,true,true,false] = (r_tla (W b w) n T g L it cl vk cs kc i left c tc).N3 (b_tla n T L it cl vk cs kc i left c tc) (.compStart tlE1 0 (.ref (n + 1)) (.ref (n + 2)) (compEnvC (lcScope tlE1) [((sx [107]),L + 3),((sx [102,105,101,108,100,115]),L + 2)] (n + 3) (tlEnv L))) (1) (4) (5) g [((n + 3),dcO (W b w).params [] 0),((n + 2),liO [] 0),((n + 1),riO 0 (c + Int.ofNat 1)),(it,riO (Int.ofNat i + 1) (left - 1)),((L + 1),ceO (some (.ref cl))),((L + 3),ceO (some (.int (Int.ofNat i) T))),(cl,liO cs kc)]:=by cases b <;> kernel_rfl
noncomputable def g_tla {b:Bool} {w:World} (L it cl:Nat) (vk:Option Value) (cs:List Value) (kc i:Nat) (left c:Int) (tc:Tok):=mkCS (fun n T g => e_tla b w n T g L it cl vk cs kc i left c tc) (fun _ _ _ => rfl) rfl (by decide)
def u_tca (w:World) (n T:Nat) (L it acc C fl:Nat) (fs l:List Value) (kf k i j:Nat) (left:Int) (tk tj:Tok) (x res:List Nat) (tx:Tok) (di:Nat) (tr:Tok → Tok) : List Sum:=[s_rnext 0 it (Int.ofNat j) left,s_get 3 fl fs kf (Int.ofNat i) tk (.str (sx x) tx),s_strip x tx j T res di tr,s_app 4 acc l k (.str (sx res) (tr (T + 2)))]
def r_tca (w:World) (n T:Nat) (g:List GenState) (L it acc C fl:Nat) (fs l:List Value) (kf k i j:Nat) (left:Int) (tk tj:Tok) (x res:List Nat) (tx:Tok) (di:Nat) (tr:Tok → Tok) : Out:=runC (G0 w n T 340) 20000 (digits 16 3753110652094518277910847617) (u_tca w n T L it acc C fl fs l kf k i j left tk tj x res tx di tr) (tlC1 L it acc C) [(it,riO (Int.ofNat j) left),((L + 3),ceO (some (.int (Int.ofNat i) tk))),((L + 2),ceO (some (.ref fl))),(fl,liO fs kf),(acc,liO l k),(C,dcO w.params [] 0)] g
def b_tca (n T:Nat) (L it acc C fl:Nat) (fs l:List Value) (kf k i j:Nat) (left:Int) (tk tj:Tok) (x res:List Nat) (tx:Tok) (di:Nat) (tr:Tok → Tok) : List (Bool × Bool):=[]
theorem e_tca (b:Bool) (w:World) (n T:Nat) (g:List GenState) (L it acc C fl:Nat) (fs l:List Value) (kf k i j:Nat) (left:Int) (tk tj:Tok) (x res:List Nat) (tx:Tok) (di:Nat) (tr:Tok → Tok) : (r_tca (W b w) n T g L it acc C fl fs l kf k i j left tk tj x res tx di tr).M [] = (r_tca (W b w) n T g L it acc C fl fs l kf k i j left tk tj x res tx di tr).N (b_tca n T L it acc C fl fs l kf k i j left tk tj x res tx di tr) (.again (tlC1 L it acc C)) (2) (2 + di) g [(it,riO (Int.ofNat j + 1) (left - 1)),((L + 3),obO "cell" (.cell (some (.int (Int.ofNat i) tk)))),((L + 2),obO "cell" (.cell (some (.ref fl)))),(fl,liO fs kf),(acc,liO (l ++ [.str (sx res) (tr (T + 2))]) (k + 1)),(C,dcO (W b w).params [((sx [97,109,111,117,110,116]),T + 1,.int (Int.ofNat j) T)] 1)]:=by cases b <;> kernel_rfl
noncomputable def g_tca {b:Bool} {w:World} (L it acc C fl:Nat) (fs l:List Value) (kf k i j:Nat) (left:Int) (tk tj:Tok) (x res:List Nat) (tx:Tok) (di:Nat) (tr:Tok → Tok):=mkA (fun n T g => e_tca b w n T g L it acc C fl fs l kf k i j left tk tj x res tx di tr) (fun _ _ _ => rfl) rfl (by decide)
def u_tcb (w:World) (n T:Nat) (L it acc C fl:Nat) (fs l:List Value) (kf k i j:Nat) (left:Int) (tk tj:Tok) (x res:List Nat) (tx:Tok) (di:Nat) (tr:Tok → Tok) (t0:Tok) (v0:Value) : List Sum:=[s_rnext 0 it (Int.ofNat j) left,s_get 3 fl fs kf (Int.ofNat i) tk (.str (sx x) tx),s_strip x tx j T res di tr,s_app 4 acc l k (.str (sx res) (tr (T + 2)))]
def r_tcb (w:World) (n T:Nat) (g:List GenState) (L it acc C fl:Nat) (fs l:List Value) (kf k i j:Nat) (left:Int) (tk tj:Tok) (x res:List Nat) (tx:Tok) (di:Nat) (tr:Tok → Tok) (t0:Tok) (v0:Value) : Out:=runC (G0 w n T 340) 20000 (digits 16 3753110652094518277910847617) (u_tcb w n T L it acc C fl fs l kf k i j left tk tj x res tx di tr t0 v0) (tlC1 L it acc C) [(it,riO (Int.ofNat j) left),((L + 3),ceO (some (.int (Int.ofNat i) tk))),((L + 2),ceO (some (.ref fl))),(fl,liO fs kf),(acc,liO l k),(C,dcO w.params [((sx [97,109,111,117,110,116]),t0,v0)] 1)] g
def b_tcb (n T:Nat) (L it acc C fl:Nat) (fs l:List Value) (kf k i j:Nat) (left:Int) (tk tj:Tok) (x res:List Nat) (tx:Tok) (di:Nat) (tr:Tok → Tok) (t0:Tok) (v0:Value) : List (Bool × Bool):=[]
theorem e_tcb (b:Bool) (w:World) (n T:Nat) (g:List GenState) (L it acc C fl:Nat) (fs l:List Value) (kf k i j:Nat) (left:Int) (tk tj:Tok) (x res:List Nat) (tx:Tok) (di:Nat) (tr:Tok → Tok) (t0:Tok) (v0:Value) : (r_tcb (W b w) n T g L it acc C fl fs l kf k i j left tk tj x res tx di tr t0 v0).M [] = (r_tcb (W b w) n T g L it acc C fl fs l kf k i j left tk tj x res tx di tr t0 v0).N (b_tcb n T L it acc C fl fs l kf k i j left tk tj x res tx di tr t0 v0) (.again (tlC1 L it acc C)) (2) (2 + di) g [(it,riO (Int.ofNat j + 1) (left - 1)),((L + 3),obO "cell" (.cell (some (.int (Int.ofNat i) tk)))),((L + 2),obO "cell" (.cell (some (.ref fl)))),(fl,liO fs kf),(acc,liO (l ++ [.str (sx res) (tr (T + 2))]) (k + 1)),(C,dcO (W b w).params [((sx [97,109,111,117,110,116]),t0,.int (Int.ofNat j) T)] 1)]:=by cases b <;> kernel_rfl
noncomputable def g_tcb {b:Bool} {w:World} (L it acc C fl:Nat) (fs l:List Value) (kf k i j:Nat) (left:Int) (tk tj:Tok) (x res:List Nat) (tx:Tok) (di:Nat) (tr:Tok → Tok) (t0:Tok) (v0:Value):=mkA (fun n T g => e_tcb b w n T g L it acc C fl fs l kf k i j left tk tj x res tx di tr t0 v0) (fun _ _ _ => rfl) rfl (by decide)
def u_tce (w:World) (n T:Nat) (L it acc C j:Nat) : List Sum:=[]
def r_tce (w:World) (n T:Nat) (g:List GenState) (L it acc C j:Nat) : Out:=runC (G0 w n T 340) 20000 (digits 8 4467856510977) (u_tce w n T L it acc C j) (tlC1 L it acc C) [(it,riO (Int.ofNat j) (Int.ofNat 0))] g
def b_tce (n T:Nat) (L it acc C j:Nat) : List (Bool × Bool):=[]
theorem e_tce (b:Bool) (w:World) (n T:Nat) (g:List GenState) (L it acc C j:Nat) : (r_tce (W b w) n T g L it acc C j).M [false,false,false] = (r_tce (W b w) n T g L it acc C j).N (b_tce n T L it acc C j) (.done (.ok .next)) (2) (0) g []:=by cases b <;> kernel_rfl
noncomputable def g_tce {b:Bool} {w:World} (L it acc C j:Nat):=mkD (fun n T g => e_tce b w n T g L it acc C j) (fun _ _ _ => rfl) rfl (by decide)
def tlC2 (L it acc C:Addr) : Code:=.compLoop tlE2 0 (.ref it) (.ref acc) (compEnvC (lcScope tlE2) [((sx [114,111,119]),L + 4),((sx [107]),L + 3),((sx [99,111,117,110,116,115]),L + 1)] C (tlEnv L))
def u_tlb (w:World) (n T:Nat) (n0 T0:Nat) (g0:List GenState) (tk:Tok) (vr:Option Value) (t1:Tok) (v1:Value) (L it cl:Nat) (vk:Option Value) (cs:List Value) (kc i:Nat) (left c:Int) (tc:Tok) : List Sum:=[s_get 4 cl cs kc (Int.ofNat i) tk (.int c tc),s_rnew (c + Int.ofNat 1) (T + 1),s_riter 0 n (c + Int.ofNat 1) (T + 2) (T + 1) (T + 3)]
def r_tlb (w:World) (n T:Nat) (g:List GenState) (n0 T0:Nat) (g0:List GenState) (tk:Tok) (vr:Option Value) (t1:Tok) (v1:Value) (L it cl:Nat) (vk:Option Value) (cs:List Value) (kc i:Nat) (left c:Int) (tc:Tok) : Out:=runK w n T 320 20000 (digits 28 17632240650329618056736606923193347158242428457025) (u_tlb w n T n0 T0 g0 tk vr t1 v1 L it cl vk cs kc i left c tc) (r_tla w n0 T0 g0 L it cl vk cs kc i left c tc) (.ok .next) [((n0 + 3),dcO w.params [((sx [97,109,111,117,110,116]),t1,v1)] 1),((L + 1),ceO (some (.ref cl))),((L + 3),ceO (some (.int (Int.ofNat i) tk))),((L + 4),ceO vr),(cl,liO cs kc)] g
def b_tlb (n T:Nat) (n0 T0:Nat) (g0:List GenState) (tk:Tok) (vr:Option Value) (t1:Tok) (v1:Value) (L it cl:Nat) (vk:Option Value) (cs:List Value) (kc i:Nat) (left c:Int) (tc:Tok) : List (Bool × Bool):=[]
theorem e_tlb (b:Bool) (w:World) (n T:Nat) (g:List GenState) (n0 T0:Nat) (g0:List GenState) (tk:Tok) (vr:Option Value) (t1:Tok) (v1:Value) (L it cl:Nat) (vk:Option Value) (cs:List Value) (kc i:Nat) (left c:Int) (tc:Tok) : (r_tlb (W b w) n T g n0 T0 g0 tk vr t1 v1 L it cl vk cs kc i left c tc).M3 [true,true,true,false,false] = (r_tlb (W b w) n T g n0 T0 g0 tk vr t1 v1 L it cl vk cs kc i left c tc).N3 (b_tlb n T n0 T0 g0 tk vr t1 v1 L it cl vk cs kc i left c tc) (.compStart tlE2 0 (.ref (n + 1)) (.ref (n + 2)) (compEnvC (lcScope tlE2) [((sx [114,111,119]),L + 4),((sx [107]),L + 3),((sx [99,111,117,110,116,115]),L + 1)] (n + 3) (tlEnv L))) (1) (4) (4) g [((n + 3),dcO (W b w).params [] 0),((n + 2),liO [] 0),((n + 1),riO 0 (c + Int.ofNat 1)),((L + 1),obO "cell" (.cell (some (.ref cl)))),((L + 3),obO "cell" (.cell (some (.int (Int.ofNat i) tk)))),((L + 4),ceO (some (.ref (n0 + 2)))),(cl,liO cs kc)]:=by cases b <;> kernel_rfl
noncomputable def g_tlb {b:Bool} {w:World} (n0 T0:Nat) (g0:List GenState) (tk:Tok) (vr:Option Value) (t1:Tok) (v1:Value) (L it cl:Nat) (vk:Option Value) (cs:List Value) (kc i:Nat) (left c:Int) (tc:Tok):=mkKS (fun n T g => e_tlb b w n T g n0 T0 g0 tk vr t1 v1 L it cl vk cs kc i left c tc) (fun _ _ _ => rfl) (by decide)
def u_tda (w:World) (n T:Nat) (L it acc C ro cl:Nat) (rs cs l:List Value) (kr kc k i j:Nat) (left c:Int) (tc tk:Tok) (x res la:List Nat) (tx tl:Tok) (di:Nat) (tr:Tok → Tok) : List Sum:=[s_rnext 0 it (Int.ofNat j) left,s_get 2 ro rs kr (Int.ofNat j) T (.str (sx x) tx),s_get 5 cl cs kc (Int.ofNat i) tk (.int c tc),s_stripZ x tx (c - Int.ofNat j) (T + 2) res di tr,s_get 2 ro rs kr (Int.negSucc 0) (T + ((3 + di) + 1)) (.str (sx la) tl),s_app 6 acc l k (.bool true)]
def r_tda (w:World) (n T:Nat) (g:List GenState) (L it acc C ro cl:Nat) (rs cs l:List Value) (kr kc k i j:Nat) (left c:Int) (tc tk:Tok) (x res la:List Nat) (tx tl:Tok) (di:Nat) (tr:Tok → Tok) : Out:=runC (G0 w n T 340) 20000 (digits 31 4653246111445317669269419516607512733555755779446833281) (u_tda w n T L it acc C ro cl rs cs l kr kc k i j left c tc tk x res la tx tl di tr) (tlC2 L it acc C) [(it,riO (Int.ofNat j) left),((L + 4),ceO (some (.ref ro))),(ro,liO rs kr),((L + 1),ceO (some (.ref cl))),((L + 3),ceO (some (.int (Int.ofNat i) tk))),(cl,liO cs kc),(acc,liO l k),(C,dcO w.params [] 0)] g
def b_tda (n T:Nat) (L it acc C ro cl:Nat) (rs cs l:List Value) (kr kc k i j:Nat) (left c:Int) (tc tk:Tok) (x res la:List Nat) (tx tl:Tok) (di:Nat) (tr:Tok → Tok) : List (Bool × Bool):=[((seqs (sx res) (sx la)),true)]
theorem e_tda (b:Bool) (w:World) (n T:Nat) (g:List GenState) (L it acc C ro cl:Nat) (rs cs l:List Value) (kr kc k i j:Nat) (left c:Int) (tc tk:Tok) (x res la:List Nat) (tx tl:Tok) (di:Nat) (tr:Tok → Tok) : (r_tda (W b w) n T g L it acc C ro cl rs cs l kr kc k i j left c tc tk x res la tx tl di tr).M [] = (r_tda (W b w) n T g L it acc C ro cl rs cs l kr kc k i j left c tc tk x res la tx tl di tr).N (b_tda n T L it acc C ro cl rs cs l kr kc k i j left c tc tk x res la tx tl di tr) (.again (tlC2 L it acc C)) (2) (3 + di + 2) g [(it,riO (Int.ofNat j + 1) (left - 1)),((L + 4),obO "cell" (.cell (some (.ref ro)))),(ro,liO rs kr),((L + 1),obO "cell" (.cell (some (.ref cl)))),((L + 3),obO "cell" (.cell (some (.int (Int.ofNat i) tk)))),(cl,liO cs kc),(acc,liO (l ++ [.bool true]) (k + 1)),(C,dcO (W b w).params [((sx [97,109,111,117,110,116]),T + 1,.int (Int.ofNat j) T)] 1)]:=by cases b <;> kernel_rfl
noncomputable def g_tda {b:Bool} {w:World} (L it acc C ro cl:Nat) (rs cs l:List Value) (kr kc k i j:Nat) (left c:Int) (tc tk:Tok) (x res la:List Nat) (tx tl:Tok) (di:Nat) (tr:Tok → Tok):=mkA (fun n T g => e_tda b w n T g L it acc C ro cl rs cs l kr kc k i j left c tc tk x res la tx tl di tr) (fun _ _ _ => rfl) rfl (by decide)
def u_tdb (w:World) (n T:Nat) (L it acc C ro cl:Nat) (rs cs l:List Value) (kr kc k i j:Nat) (left c:Int) (tc tk:Tok) (x res la:List Nat) (tx tl:Tok) (di:Nat) (tr:Tok → Tok) (t0:Tok) (v0:Value) : List Sum:=[s_rnext 0 it (Int.ofNat j) left,s_get 2 ro rs kr (Int.ofNat j) T (.str (sx x) tx),s_get 5 cl cs kc (Int.ofNat i) tk (.int c tc),s_stripZ x tx (c - Int.ofNat j) (T + 2) res di tr,s_get 2 ro rs kr (Int.negSucc 0) (T + ((3 + di) + 1)) (.str (sx la) tl),s_app 6 acc l k (.bool true)]
def r_tdb (w:World) (n T:Nat) (g:List GenState) (L it acc C ro cl:Nat) (rs cs l:List Value) (kr kc k i j:Nat) (left c:Int) (tc tk:Tok) (x res la:List Nat) (tx tl:Tok) (di:Nat) (tr:Tok → Tok) (t0:Tok) (v0:Value) : Out:=runC (G0 w n T 340) 20000 (digits 31 4653246111445317669269419516607512733555755779446833281) (u_tdb w n T L it acc C ro cl rs cs l kr kc k i j left c tc tk x res la tx tl di tr t0 v0) (tlC2 L it acc C) [(it,riO (Int.ofNat j) left),((L + 4),ceO (some (.ref ro))),(ro,liO rs kr),((L + 1),ceO (some (.ref cl))),((L + 3),ceO (some (.int (Int.ofNat i) tk))),(cl,liO cs kc),(acc,liO l k),(C,dcO w.params [((sx [97,109,111,117,110,116]),t0,v0)] 1)] g
def b_tdb (n T:Nat) (L it acc C ro cl:Nat) (rs cs l:List Value) (kr kc k i j:Nat) (left c:Int) (tc tk:Tok) (x res la:List Nat) (tx tl:Tok) (di:Nat) (tr:Tok → Tok) (t0:Tok) (v0:Value) : List (Bool × Bool):=[((seqs (sx res) (sx la)),true)]
theorem e_tdb (b:Bool) (w:World) (n T:Nat) (g:List GenState) (L it acc C ro cl:Nat) (rs cs l:List Value) (kr kc k i j:Nat) (left c:Int) (tc tk:Tok) (x res la:List Nat) (tx tl:Tok) (di:Nat) (tr:Tok → Tok) (t0:Tok) (v0:Value) : (r_tdb (W b w) n T g L it acc C ro cl rs cs l kr kc k i j left c tc tk x res la tx tl di tr t0 v0).M [] = (r_tdb (W b w) n T g L it acc C ro cl rs cs l kr kc k i j left c tc tk x res la tx tl di tr t0 v0).N (b_tdb n T L it acc C ro cl rs cs l kr kc k i j left c tc tk x res la tx tl di tr t0 v0) (.again (tlC2 L it acc C)) (2) (3 + di + 2) g [(it,riO (Int.ofNat j + 1) (left - 1)),((L + 4),obO "cell" (.cell (some (.ref ro)))),(ro,liO rs kr),((L + 1),obO "cell" (.cell (some (.ref cl)))),((L + 3),obO "cell" (.cell (some (.int (Int.ofNat i) tk)))),(cl,liO cs kc),(acc,liO (l ++ [.bool true]) (k + 1)),(C,dcO (W b w).params [((sx [97,109,111,117,110,116]),t0,.int (Int.ofNat j) T)] 1)]:=by cases b <;> kernel_rfl
noncomputable def g_tdb {b:Bool} {w:World} (L it acc C ro cl:Nat) (rs cs l:List Value) (kr kc k i j:Nat) (left c:Int) (tc tk:Tok) (x res la:List Nat) (tx tl:Tok) (di:Nat) (tr:Tok → Tok) (t0:Tok) (v0:Value):=mkA (fun n T g => e_tdb b w n T g L it acc C ro cl rs cs l kr kc k i j left c tc tk x res la tx tl di tr t0 v0) (fun _ _ _ => rfl) rfl (by decide)
def u_tde (w:World) (n T:Nat) (L it acc C j:Nat) : List Sum:=[]
def r_tde (w:World) (n T:Nat) (g:List GenState) (L it acc C j:Nat) : Out:=runC (G0 w n T 340) 20000 (digits 8 4467856510977) (u_tde w n T L it acc C j) (tlC2 L it acc C) [(it,riO (Int.ofNat j) (Int.ofNat 0))] g
def b_tde (n T:Nat) (L it acc C j:Nat) : List (Bool × Bool):=[]
theorem e_tde (b:Bool) (w:World) (n T:Nat) (g:List GenState) (L it acc C j:Nat) : (r_tde (W b w) n T g L it acc C j).M [false,false,false] = (r_tde (W b w) n T g L it acc C j).N (b_tde n T L it acc C j) (.done (.ok .next)) (2) (0) g []:=by cases b <;> kernel_rfl
noncomputable def g_tde {b:Bool} {w:World} (L it acc C j:Nat):=mkD (fun n T g => e_tde b w n T g L it acc C j) (fun _ _ _ => rfl) rfl (by decide)
def u_tlc (w:World) (n T:Nat) (n0 T0:Nat) (g0:List GenState) (n1 T1:Nat) (g1:List GenState) (t2:Tok) (v2:Value) (fl li ro:Nat) (k0 k1:Tok) (q:List Nat) (tq:Tok) (sl:Array (Option Value)) (x:List Nat) (tx:Tok) (fs ts:List Value) (kf kt:Nat) (tk:Tok) (vr:Option Value) (t1:Tok) (v1:Value) (L it cl:Nat) (vk:Option Value) (cs:List Value) (kc i:Nat) (left c:Int) (tc:Tok) : List Sum:=[s_get 5 fl fs kf (Int.ofNat i) tk (.str (sx x) tx),s_app 7 li ts kt (.ref n)]
def r_tlc (w:World) (n T:Nat) (g:List GenState) (n0 T0:Nat) (g0:List GenState) (n1 T1:Nat) (g1:List GenState) (t2:Tok) (v2:Value) (fl li ro:Nat) (k0 k1:Tok) (q:List Nat) (tq:Tok) (sl:Array (Option Value)) (x:List Nat) (tx:Tok) (fs ts:List Value) (kf kt:Nat) (tk:Tok) (vr:Option Value) (t1:Tok) (v1:Value) (L it cl:Nat) (vk:Option Value) (cs:List Value) (kc i:Nat) (left c:Int) (tc:Tok) : Out:=runK w n T 320 20000 (digits 20 62967139349128161069688398643728514) (u_tlc w n T n0 T0 g0 n1 T1 g1 t2 v2 fl li ro k0 k1 q tq sl x tx fs ts kf kt tk vr t1 v1 L it cl vk cs kc i left c tc) (r_tlb w n0 T0 g0 n1 T1 g1 tk vr t1 v1 L it cl vk cs kc i left c tc) (.ok .next) [((n0 + 3),dcO w.params [((sx [97,109,111,117,110,116]),t2,v2)] 1),(L,tlF2 w.params k0 k1 q tq li sl),((L + 2),ceO (some (.ref fl))),((L + 3),ceO (some (.int (Int.ofNat i) tk))),((L + 4),ceO (some (.ref ro))),(fl,liO fs kf),(li,liO ts kt)] g
def b_tlc (n T:Nat) (n0 T0:Nat) (g0:List GenState) (n1 T1:Nat) (g1:List GenState) (t2:Tok) (v2:Value) (fl li ro:Nat) (k0 k1:Tok) (q:List Nat) (tq:Tok) (sl:Array (Option Value)) (x:List Nat) (tx:Tok) (fs ts:List Value) (kf kt:Nat) (tk:Tok) (vr:Option Value) (t1:Tok) (v1:Value) (L it cl:Nat) (vk:Option Value) (cs:List Value) (kc i:Nat) (left c:Int) (tc:Tok) : List (Bool × Bool):=[]
theorem e_tlc (b:Bool) (w:World) (n T:Nat) (g:List GenState) (n0 T0:Nat) (g0:List GenState) (n1 T1:Nat) (g1:List GenState) (t2:Tok) (v2:Value) (fl li ro:Nat) (k0 k1:Tok) (q:List Nat) (tq:Tok) (sl:Array (Option Value)) (x:List Nat) (tx:Tok) (fs ts:List Value) (kf kt:Nat) (tk:Tok) (vr:Option Value) (t1:Tok) (v1:Value) (L it cl:Nat) (vk:Option Value) (cs:List Value) (kc i:Nat) (left c:Int) (tc:Tok) : (r_tlc (W b w) n T g n0 T0 g0 n1 T1 g1 t2 v2 fl li ro k0 k1 q tq sl x tx fs ts kf kt tk vr t1 v1 L it cl vk cs kc i left c tc).M [true,false] = (r_tlc (W b w) n T g n0 T0 g0 n1 T1 g1 t2 v2 fl li ro k0 k1 q tq sl x tx fs ts kf kt tk vr t1 v1 L it cl vk cs kc i left c tc).N (b_tlc n T n0 T0 g0 n1 T1 g1 t2 v2 fl li ro k0 k1 q tq sl x tx fs ts kf kt tk vr t1 v1 L it cl vk cs kc i left c tc) (.again (tlLoop L it)) (1) (1) g [(n,tupO [.str (sx x) tx,.ref ro,.ref (n0 + 2)] 0),(L,tlF3 (W b w).params k0 k1 T q tq li (n0 + 2) sl),((L + 2),obO "cell" (.cell (some (.ref fl)))),((L + 3),obO "cell" (.cell (some (.int (Int.ofNat i) tk)))),((L + 4),obO "cell" (.cell (some (.ref ro)))),(fl,liO fs kf),(li,liO (ts ++ [.ref n]) (kt + 1))]:=by cases b <;> kernel_rfl
noncomputable def g_tlc {b:Bool} {w:World} (n0 T0:Nat) (g0:List GenState) (n1 T1:Nat) (g1:List GenState) (t2:Tok) (v2:Value) (fl li ro:Nat) (k0 k1:Tok) (q:List Nat) (tq:Tok) (sl:Array (Option Value)) (x:List Nat) (tx:Tok) (fs ts:List Value) (kf kt:Nat) (tk:Tok) (vr:Option Value) (t1:Tok) (v1:Value) (L it cl:Nat) (vk:Option Value) (cs:List Value) (kc i:Nat) (left c:Int) (tc:Tok):=mkKA (fun n T g => e_tlc b w n T g n0 T0 g0 n1 T1 g1 t2 v2 fl li ro k0 k1 q tq sl x tx fs ts kf kt tk vr t1 v1 L it cl vk cs kc i left c tc) (fun _ _ _ => rfl) (by decide)
def u_tld (w:World) (n T:Nat) (n0 T0:Nat) (g0:List GenState) (n1 T1:Nat) (g1:List GenState) (t2:Tok) (v2:Value) (fl li ro:Nat) (k0 k1:Tok) (q:List Nat) (tq:Tok) (sl:Array (Option Value)) (x:List Nat) (tx:Tok) (fs ts:List Value) (kf kt:Nat) (tk:Tok) (vr:Option Value) (t1:Tok) (v1:Value) (L it cl:Nat) (vk:Option Value) (cs:List Value) (kc i:Nat) (left c:Int) (tc:Tok) (k2:Tok) (hv:Nat) : List Sum:=[s_get 5 fl fs kf (Int.ofNat i) tk (.str (sx x) tx),s_app 7 li ts kt (.ref n)]
def r_tld (w:World) (n T:Nat) (g:List GenState) (n0 T0:Nat) (g0:List GenState) (n1 T1:Nat) (g1:List GenState) (t2:Tok) (v2:Value) (fl li ro:Nat) (k0 k1:Tok) (q:List Nat) (tq:Tok) (sl:Array (Option Value)) (x:List Nat) (tx:Tok) (fs ts:List Value) (kf kt:Nat) (tk:Tok) (vr:Option Value) (t1:Tok) (v1:Value) (L it cl:Nat) (vk:Option Value) (cs:List Value) (kc i:Nat) (left c:Int) (tc:Tok) (k2:Tok) (hv:Nat) : Out:=runK w n T 320 20000 (digits 20 62967139349128161069688398643728514) (u_tld w n T n0 T0 g0 n1 T1 g1 t2 v2 fl li ro k0 k1 q tq sl x tx fs ts kf kt tk vr t1 v1 L it cl vk cs kc i left c tc k2 hv) (r_tlb w n0 T0 g0 n1 T1 g1 tk vr t1 v1 L it cl vk cs kc i left c tc) (.ok .next) [((n0 + 3),dcO w.params [((sx [97,109,111,117,110,116]),t2,v2)] 1),(L,tlF3 w.params k0 k1 k2 q tq li hv sl),((L + 2),ceO (some (.ref fl))),((L + 3),ceO (some (.int (Int.ofNat i) tk))),((L + 4),ceO (some (.ref ro))),(fl,liO fs kf),(li,liO ts kt)] g
def b_tld (n T:Nat) (n0 T0:Nat) (g0:List GenState) (n1 T1:Nat) (g1:List GenState) (t2:Tok) (v2:Value) (fl li ro:Nat) (k0 k1:Tok) (q:List Nat) (tq:Tok) (sl:Array (Option Value)) (x:List Nat) (tx:Tok) (fs ts:List Value) (kf kt:Nat) (tk:Tok) (vr:Option Value) (t1:Tok) (v1:Value) (L it cl:Nat) (vk:Option Value) (cs:List Value) (kc i:Nat) (left c:Int) (tc:Tok) (k2:Tok) (hv:Nat) : List (Bool × Bool):=[]
theorem e_tld (b:Bool) (w:World) (n T:Nat) (g:List GenState) (n0 T0:Nat) (g0:List GenState) (n1 T1:Nat) (g1:List GenState) (t2:Tok) (v2:Value) (fl li ro:Nat) (k0 k1:Tok) (q:List Nat) (tq:Tok) (sl:Array (Option Value)) (x:List Nat) (tx:Tok) (fs ts:List Value) (kf kt:Nat) (tk:Tok) (vr:Option Value) (t1:Tok) (v1:Value) (L it cl:Nat) (vk:Option Value) (cs:List Value) (kc i:Nat) (left c:Int) (tc:Tok) (k2:Tok) (hv:Nat) : (r_tld (W b w) n T g n0 T0 g0 n1 T1 g1 t2 v2 fl li ro k0 k1 q tq sl x tx fs ts kf kt tk vr t1 v1 L it cl vk cs kc i left c tc k2 hv).M [true,false] = (r_tld (W b w) n T g n0 T0 g0 n1 T1 g1 t2 v2 fl li ro k0 k1 q tq sl x tx fs ts kf kt tk vr t1 v1 L it cl vk cs kc i left c tc k2 hv).N (b_tld n T n0 T0 g0 n1 T1 g1 t2 v2 fl li ro k0 k1 q tq sl x tx fs ts kf kt tk vr t1 v1 L it cl vk cs kc i left c tc k2 hv) (.again (tlLoop L it)) (1) (1) g [(n,tupO [.str (sx x) tx,.ref ro,.ref (n0 + 2)] 0),(L,tlF3 (W b w).params k0 k1 k2 q tq li (n0 + 2) sl),((L + 2),obO "cell" (.cell (some (.ref fl)))),((L + 3),obO "cell" (.cell (some (.int (Int.ofNat i) tk)))),((L + 4),obO "cell" (.cell (some (.ref ro)))),(fl,liO fs kf),(li,liO (ts ++ [.ref n]) (kt + 1))]:=by cases b <;> kernel_rfl
noncomputable def g_tld {b:Bool} {w:World} (n0 T0:Nat) (g0:List GenState) (n1 T1:Nat) (g1:List GenState) (t2:Tok) (v2:Value) (fl li ro:Nat) (k0 k1:Tok) (q:List Nat) (tq:Tok) (sl:Array (Option Value)) (x:List Nat) (tx:Tok) (fs ts:List Value) (kf kt:Nat) (tk:Tok) (vr:Option Value) (t1:Tok) (v1:Value) (L it cl:Nat) (vk:Option Value) (cs:List Value) (kc i:Nat) (left c:Int) (tc:Tok) (k2:Tok) (hv:Nat):=mkKA (fun n T g => e_tld b w n T g n0 T0 g0 n1 T1 g1 t2 v2 fl li ro k0 k1 q tq sl x tx fs ts kf kt tk vr t1 v1 L it cl vk cs kc i left c tc k2 hv) (fun _ _ _ => rfl) (by decide)
def u_tle (w:World) (n T:Nat) (L it x:Nat) : List Sum:=[]
def r_tle (w:World) (n T:Nat) (g:List GenState) (L it x:Nat) : Out:=runC (G0 w n T 320) 20000 (digits 9 4467856510977) (u_tle w n T L it x) (tlLoop L it) [(it,riO (Int.ofNat x) (Int.ofNat 0))] g
def b_tle (n T:Nat) (L it x:Nat) : List (Bool × Bool):=[]
theorem e_tle (b:Bool) (w:World) (n T:Nat) (g:List GenState) (L it x:Nat) : (r_tle (W b w) n T g L it x).M [false,false,false] = (r_tle (W b w) n T g L it x).N (b_tle n T L it x) (.done (.ok .next)) (2) (0) g []:=by cases b <;> kernel_rfl
noncomputable def g_tle {b:Bool} {w:World} (L it x:Nat):=mkD (fun n T g => e_tle b w n T g L it x) (fun _ _ _ => rfl) rfl (by decide)
def u_tlf (w:World) (n T:Nat) (n0 T0:Nat) (g0:List GenState) (k0 k1 k2:Tok) (li hv:Nat) (fl:Nat) (fs:List Value) (kf:Nat) (sl:Array (Option Value)) (n1 T1:Nat) (g1:List GenState) (q:List Nat) (tq:Tok) (cl:Nat) : List Sum:=[]
def r_tlf (w:World) (n T:Nat) (g:List GenState) (n0 T0:Nat) (g0:List GenState) (k0 k1 k2:Tok) (li hv:Nat) (fl:Nat) (fs:List Value) (kf:Nat) (sl:Array (Option Value)) (n1 T1:Nat) (g1:List GenState) (q:List Nat) (tq:Tok) (cl:Nat) : Out:=runK w n T 300 20000 (digits 1 1) (u_tlf w n T n0 T0 g0 k0 k1 k2 li hv fl fs kf sl n1 T1 g1 q tq cl) (r_tl1 w n0 T0 g0 n1 T1 g1 fl fs kf sl q tq cl) (.ok .next) [(n1,tlF3 w.params k0 k1 k2 q tq li hv sl)] g
def b_tlf (n T:Nat) (n0 T0:Nat) (g0:List GenState) (k0 k1 k2:Tok) (li hv:Nat) (fl:Nat) (fs:List Value) (kf:Nat) (sl:Array (Option Value)) (n1 T1:Nat) (g1:List GenState) (q:List Nat) (tq:Tok) (cl:Nat) : List (Bool × Bool):=[]
theorem e_tlf (b:Bool) (w:World) (n T:Nat) (g:List GenState) (n0 T0:Nat) (g0:List GenState) (k0 k1 k2:Tok) (li hv:Nat) (fl:Nat) (fs:List Value) (kf:Nat) (sl:Array (Option Value)) (n1 T1:Nat) (g1:List GenState) (q:List Nat) (tq:Tok) (cl:Nat) : (r_tlf (W b w) n T g n0 T0 g0 k0 k1 k2 li hv fl fs kf sl n1 T1 g1 q tq cl).M [false] = (r_tlf (W b w) n T g n0 T0 g0 k0 k1 k2 li hv fl fs kf sl n1 T1 g1 q tq cl).N (b_tlf n T n0 T0 g0 k0 k1 k2 li hv fl fs kf sl n1 T1 g1 q tq cl) (.done (.ok (.ret (.ref li)))) (0) (0) g []:=by cases b <;> kernel_rfl
noncomputable def g_tlf {b:Bool} {w:World} (n0 T0:Nat) (g0:List GenState) (k0 k1 k2:Tok) (li hv:Nat) (fl:Nat) (fs:List Value) (kf:Nat) (sl:Array (Option Value)) (n1 T1:Nat) (g1:List GenState) (q:List Nat) (tq:Tok) (cl:Nat):=mkK (fun n T g => e_tlf b w n T g n0 T0 g0 k0 k1 k2 li hv fl fs kf sl n1 T1 g1 q tq cl) (fun _ _ _ => rfl) (by decide)
def duFor : Stmt:=stAt (bodyAt 56) 1
def duF (P:Params) (k0 k1:Tok) (nl li:Addr) : Obj:=obO "frame" (dcD P [((sx [110,117,109,98,101,114,115]),k0,.ref nl),((sx [100,117,101]),k1,.ref li)] 2)
def duF3 (P:Params) (k0 k1 k2:Tok) (nl li:Addr) (vb:Value) : Obj:=obO "frame" (dcD P [((sx [110,117,109,98,101,114,115]),k0,.ref nl),((sx [100,117,101]),k1,.ref li),((sx [98,105,116,115]),k2,vb)] 3)
def duF4 (P:Params) (k0 k1 k2 k3:Tok) (nl li:Addr) (vb vr:Value) : Obj:=obO "frame" (dcD P [((sx [110,117,109,98,101,114,115]),k0,.ref nl),((sx [100,117,101]),k1,.ref li),((sx [98,105,116,115]),k2,vb),((sx [114,111,119]),k3,vr)] 4)
def duEnv (L:Addr) : Env:=⟨scopeAt 56,L,3,[((sx [98,101,104,105,110,100]),L + 5),((sx [97,104,101,97,100]),L + 4),((sx [107]),L + 3),((sx [115,105,103,110,115]),L + 2),((sx [110]),L + 1)],(sx [95,108,97,119,95,100,117,101,46,60,108,111,99,97,108,115,62,46]),some 830,.ref 829,some L,0⟩
def duLoop (L it:Addr) : Code:=.forLoop (sfT duFor) (.ref it) (sfB duFor) (sfO duFor) (duEnv L)
def duFor2 : Stmt:=stAt (sfB duFor) 1
def duIn (L it:Addr) : Code:=.forLoop (sfT duFor2) (.ref it) (sfB duFor2) (sfO duFor2) (duEnv L)
def duE1 : PySem.Expr:=eLeft (eVal (stAt (sfB duFor2) 0))
def duE2 : PySem.Expr:=eVal (stAt (sfB duFor) 4)
def u_du0 (w:World) (n T:Nat) (nl:Nat) (ns:List Value) (kn:Nat) : List Sum:=[]
def r_du0 (w:World) (n T:Nat) (g:List GenState) (nl:Nat) (ns:List Value) (kn:Nat) : Out:=runFn (G0 w n T 300) 20000 (digits 13 14241030575833613099392) (u_du0 w n T nl ns kn) (.call (.ref 830) ⟨[.ref nl],[]⟩) [(nl,liO ns kn)] g
def b_du0 (n T:Nat) (nl:Nat) (ns:List Value) (kn:Nat) : List (Bool × Bool):=[]
theorem e_du0 (b:Bool) (w:World) (n T:Nat) (g:List GenState) (nl:Nat) (ns:List Value) (kn:Nat) : (r_du0 (W b w) n T g nl ns kn).M3 [] = (r_du0 (W b w) n T g nl ns kn).N3 (b_du0 n T nl ns kn) (duLoop n (n + 7)) (1) (8) (2) g [((n + 7),itO nl 0),((n + 6),liO [] 0),((n + 5),ceO none),((n + 4),ceO none),((n + 3),ceO none),((n + 2),ceO none),((n + 1),ceO none),(n,duF (W b w).params T (T + 1) nl (n + 6)),(nl,liO ns kn)]:=by cases b <;> kernel_rfl
noncomputable def g_du0 {b:Bool} {w:World} (nl:Nat) (ns:List Value) (kn:Nat):=mkFS (fun n T g => e_du0 b w n T g nl ns kn) (fun _ _ _ => rfl) (by decide)
def u_dua (w:World) (n T:Nat) (L it nl:Nat) (vn vs:Option Value) (ns:List Value) (kn i:Nat) (z:Int) (tz:Tok) : List Sum:=[s_lnext 0 1 it nl ns kn i (.int z tz)]
def r_dua (w:World) (n T:Nat) (g:List GenState) (L it nl:Nat) (vn vs:Option Value) (ns:List Value) (kn i:Nat) (z:Int) (tz:Tok) : Out:=runC (G0 w n T 310) 20000 (digits 28 17630813397276156358885197764332593008020516778113) (u_dua w n T L it nl vn vs ns kn i z tz) (duLoop L it) [(it,itO nl i),(nl,liO ns kn),((L + 1),ceO vn),((L + 2),ceO vs)] g
def b_dua (n T:Nat) (L it nl:Nat) (vn vs:Option Value) (ns:List Value) (kn i:Nat) (z:Int) (tz:Tok) : List (Bool × Bool):=[]
theorem e_dua (b:Bool) (w:World) (n T:Nat) (g:List GenState) (L it nl:Nat) (vn vs:Option Value) (ns:List Value) (kn i:Nat) (z:Int) (tz:Tok) : (r_dua (W b w) n T g L it nl vn vs ns kn i z tz).M3 [true,false] = (r_dua (W b w) n T g L it nl vn vs ns kn i z tz).N3 (b_dua n T L it nl vn vs ns kn i z tz) (duIn L (n + 1)) (1) (2) (4) g [((n + 1),riO 0 (Int.ofNat 3)),(it,itO nl (i + 1)),(nl,liO ns kn),((L + 1),ceO (some (.int z tz))),((L + 2),obO "cell" (.cell (some (.str (sx [45]) T))))]:=by cases b <;> kernel_rfl
noncomputable def g_dua {b:Bool} {w:World} (L it nl:Nat) (vn vs:Option Value) (ns:List Value) (kn i:Nat) (z:Int) (tz:Tok):=mkCS (fun n T g => e_dua b w n T g L it nl vn vs ns kn i z tz) (fun _ _ _ => rfl) rfl (by decide)
def duV1 (L C:Addr) : Env:=compEnvC (lcScope duE1) [((sx [110]),L + 1),((sx [107]),L + 3)] C (duEnv L)
def duC1 (L it acc C:Addr) : Code:=.compLoop duE1 0 (.ref it) (.ref acc) (duV1 L C)
def u_db (w:World) (n T:Nat) (L it:Nat) (vk:Option Value) (k:Nat) (left:Int) : List Sum:=[s_rnext 0 it (Int.ofNat k) left]
def r_db (w:World) (n T:Nat) (g:List GenState) (L it:Nat) (vk:Option Value) (k:Nat) (left:Int) : Out:=runC (G0 w n T 320) 20000 (digits 26 4304397802069374111055956485432761964848226433) (u_db w n T L it vk k left) (duIn L it) [(it,riO (Int.ofNat k) left),((L + 3),ceO vk)] g
def b_db (n T:Nat) (L it:Nat) (vk:Option Value) (k:Nat) (left:Int) : List (Bool × Bool):=[]
theorem e_db (b:Bool) (w:World) (n T:Nat) (g:List GenState) (L it:Nat) (vk:Option Value) (k:Nat) (left:Int) : (r_db (W b w) n T g L it vk k left).M3 [true,true,true,false] = (r_db (W b w) n T g L it vk k left).N3 (b_db n T L it vk k left) (.compStart duE1 0 (.ref (n + 1)) (.ref (n + 2)) (duV1 L (n + 3))) (1) (4) (4) g [((n + 3),dcO (W b w).params [] 0),((n + 2),liO [] 0),((n + 1),riO 0 (Int.ofNat 3)),(it,riO (Int.ofNat k + 1) (left - 1)),((L + 3),ceO (some (.int (Int.ofNat k) T)))]:=by cases b <;> kernel_rfl
noncomputable def g_db {b:Bool} {w:World} (L it:Nat) (vk:Option Value) (k:Nat) (left:Int):=mkCS (fun n T g => e_db b w n T g L it vk k left) (fun _ _ _ => rfl) rfl (by decide)
def u_dc0 (w:World) (n T:Nat) (L it acc C:Nat) (z:Int) (tz tk:Tok) : List Sum:=[]
def r_dc0 (w:World) (n T:Nat) (g:List GenState) (L it acc C:Nat) (z:Int) (tz tk:Tok) : Out:=runC (G0 w n T 340) 20000 (digits 101 4215380647980368537973389553953388435064793024890971932831521099337962202935389364257239443763711644768401569012367977808804497105349906025239503112593439092743540544931208735232001) (u_dc0 w n T L it acc C z tz tk) (duC1 L it acc C) [(it,riO 0 (Int.ofNat 3)),((L + 3),ceO (some (.int (Int.ofNat 0) tk))),((L + 1),ceO (some (.int z tz))),(acc,liO [] 0),(C,dcO w.params [] 0)] g
def b_dc0 (n T:Nat) (L it acc C:Nat) (z:Int) (tz tk:Tok) : List (Bool × Bool):=[(false,false),(false,false),(false,false),(false,false),(false,false),(false,false),(false,false),(false,false),(false,false)]
theorem e_dc0 (b:Bool) (w:World) (n T:Nat) (g:List GenState) (L it acc C:Nat) (z:Int) (tz tk:Tok) : (r_dc0 (W b w) n T g L it acc C z tz tk).M [false,false,false] = (r_dc0 (W b w) n T g L it acc C z tz tk).N (b_dc0 n T L it acc C z tz tk) (.done (.ok .next)) (2) (36) g [((L + 3),obO "cell" (.cell (some (.int (Int.ofNat 0) tk)))),((L + 1),obO "cell" (.cell (some (.int z tz)))),(acc,liO [.int (Int.fmod (Int.fdiv z (Int.ofNat 256)) (Int.ofNat 2)) (T + 11),.int (Int.fmod (Int.fdiv z (Int.ofNat 128)) (Int.ofNat 2)) (T + 23),.int (Int.fmod (Int.fdiv z (Int.ofNat 64)) (Int.ofNat 2)) (T + 35)] (((0 + 1) + 1) + 1)),(C,obO "dict" (dcD (W b w).params [((sx [105]),(T + 1),.int (Int.ofNat 2) (T + 24))] (0 + 1)))]:=by cases b <;> kernel_rfl
noncomputable def g_dc0 {b:Bool} {w:World} (L it acc C:Nat) (z:Int) (tz tk:Tok):=mkD (fun n T g => e_dc0 b w n T g L it acc C z tz tk) (fun _ _ _ => rfl) rfl (by decide)
def u_dc1 (w:World) (n T:Nat) (L it acc C:Nat) (z:Int) (tz tk:Tok) : List Sum:=[]
def r_dc1 (w:World) (n T:Nat) (g:List GenState) (L it acc C:Nat) (z:Int) (tz tk:Tok) : Out:=runC (G0 w n T 340) 20000 (digits 101 4215380647980368537973389553953388435064793024890971932831521099337962202935389364257239443763711644768401569012367977808804497105349906025239503112593439092743540544931208735232001) (u_dc1 w n T L it acc C z tz tk) (duC1 L it acc C) [(it,riO 0 (Int.ofNat 3)),((L + 3),ceO (some (.int (Int.ofNat 1) tk))),((L + 1),ceO (some (.int z tz))),(acc,liO [] 0),(C,dcO w.params [] 0)] g
def b_dc1 (n T:Nat) (L it acc C:Nat) (z:Int) (tz tk:Tok) : List (Bool × Bool):=[(false,false),(false,false),(false,false),(false,false),(false,false),(false,false),(false,false),(false,false),(false,false)]
theorem e_dc1 (b:Bool) (w:World) (n T:Nat) (g:List GenState) (L it acc C:Nat) (z:Int) (tz tk:Tok) : (r_dc1 (W b w) n T g L it acc C z tz tk).M [false,false,false] = (r_dc1 (W b w) n T g L it acc C z tz tk).N (b_dc1 n T L it acc C z tz tk) (.done (.ok .next)) (2) (36) g [((L + 3),obO "cell" (.cell (some (.int (Int.ofNat 1) tk)))),((L + 1),obO "cell" (.cell (some (.int z tz)))),(acc,liO [.int (Int.fmod (Int.fdiv z (Int.ofNat 32)) (Int.ofNat 2)) (T + 11),.int (Int.fmod (Int.fdiv z (Int.ofNat 16)) (Int.ofNat 2)) (T + 23),.int (Int.fmod (Int.fdiv z (Int.ofNat 8)) (Int.ofNat 2)) (T + 35)] (((0 + 1) + 1) + 1)),(C,obO "dict" (dcD (W b w).params [((sx [105]),(T + 1),.int (Int.ofNat 2) (T + 24))] (0 + 1)))]:=by cases b <;> kernel_rfl
noncomputable def g_dc1 {b:Bool} {w:World} (L it acc C:Nat) (z:Int) (tz tk:Tok):=mkD (fun n T g => e_dc1 b w n T g L it acc C z tz tk) (fun _ _ _ => rfl) rfl (by decide)
def u_dc2 (w:World) (n T:Nat) (L it acc C:Nat) (z:Int) (tz tk:Tok) : List Sum:=[]
def r_dc2 (w:World) (n T:Nat) (g:List GenState) (L it acc C:Nat) (z:Int) (tz tk:Tok) : Out:=runC (G0 w n T 340) 20000 (digits 101 4215380647980368537973389553953388435064793024890971932831521099337962202935389364257239443763711644768401569012367977808804497105349906025239503112593439092743540544931208735232001) (u_dc2 w n T L it acc C z tz tk) (duC1 L it acc C) [(it,riO 0 (Int.ofNat 3)),((L + 3),ceO (some (.int (Int.ofNat 2) tk))),((L + 1),ceO (some (.int z tz))),(acc,liO [] 0),(C,dcO w.params [] 0)] g
def b_dc2 (n T:Nat) (L it acc C:Nat) (z:Int) (tz tk:Tok) : List (Bool × Bool):=[(false,false),(false,false),(false,false),(false,false),(false,false),(false,false),(false,false),(false,false),(false,false)]
theorem e_dc2 (b:Bool) (w:World) (n T:Nat) (g:List GenState) (L it acc C:Nat) (z:Int) (tz tk:Tok) : (r_dc2 (W b w) n T g L it acc C z tz tk).M [false,false,false] = (r_dc2 (W b w) n T g L it acc C z tz tk).N (b_dc2 n T L it acc C z tz tk) (.done (.ok .next)) (2) (36) g [((L + 3),obO "cell" (.cell (some (.int (Int.ofNat 2) tk)))),((L + 1),obO "cell" (.cell (some (.int z tz)))),(acc,liO [.int (Int.fmod (Int.fdiv z (Int.ofNat 4)) (Int.ofNat 2)) (T + 11),.int (Int.fmod (Int.fdiv z (Int.ofNat 2)) (Int.ofNat 2)) (T + 23),.int (Int.fmod (Int.fdiv z (Int.ofNat 1)) (Int.ofNat 2)) (T + 35)] (((0 + 1) + 1) + 1)),(C,obO "dict" (dcD (W b w).params [((sx [105]),(T + 1),.int (Int.ofNat 2) (T + 24))] (0 + 1)))]:=by cases b <;> kernel_rfl
noncomputable def g_dc2 {b:Bool} {w:World} (L it acc C:Nat) (z:Int) (tz tk:Tok):=mkD (fun n T g => e_dc2 b w n T g L it acc C z tz tk) (fun _ _ _ => rfl) rfl (by decide)
def due3 (l:List Nat) (p0 p1 p2:Int) : List Nat:=[sat (sx [45,114]) p0.toNat,sat (sx [45,119]) p1.toNat,sat (sx l) p2.toNat]
def u_dd020 (w:World) (n T:Nat) (n0 T0:Nat) (g0:List GenState) (t1:Tok) (v1:Value) (z p0 p1 p2:Int) (tz tk a0 a1 a2:Tok) (sg:List Nat) (ts:Tok) (nl li:Nat) (k0 k1 k2 k3:Tok) (vb vr:Value) (L it:Nat) (vk:Option Value) (left:Int) : List Sum:=[]
def r_dd020 (w:World) (n T:Nat) (g:List GenState) (n0 T0:Nat) (g0:List GenState) (t1:Tok) (v1:Value) (z p0 p1 p2:Int) (tz tk a0 a1 a2:Tok) (sg:List Nat) (ts:Tok) (nl li:Nat) (k0 k1 k2 k3:Tok) (vb vr:Value) (L it:Nat) (vk:Option Value) (left:Int) : Out:=runK w n T 320 20000 (digits 80 153305973498566330797403829422647723202983901753260380869456247247959802003307853356976006983594553413800093791388792293921184083538544191082561) (u_dd020 w n T n0 T0 g0 t1 v1 z p0 p1 p2 tz tk a0 a1 a2 sg ts nl li k0 k1 k2 k3 vb vr L it vk left) (r_db w n0 T0 g0 L it vk 0 left) (.ok .next) [((n0 + 3),dcO w.params [((sx [105]),t1,v1)] 1),((n0 + 2),liO [.int p0 a0,.int p1 a1,.int p2 a2] 3),(L,duF w.params k0 k1 nl li),((L + 1),ceO (some (.int z tz))),((L + 2),ceO (some (.str (sx (45 :: sg)) ts))),((L + 3),ceO (some (.int (Int.ofNat 0) tk)))] g
def b_dd020 (n T:Nat) (n0 T0:Nat) (g0:List GenState) (t1:Tok) (v1:Value) (z p0 p1 p2:Int) (tz tk a0 a1 a2:Tok) (sg:List Nat) (ts:Tok) (nl li:Nat) (k0 k1 k2 k3:Tok) (vb vr:Value) (L it:Nat) (vk:Option Value) (left:Int) : List (Bool × Bool):=[((Nat.ble (slen (cat (sx (45 :: sg)) (sx [(sat (sx [45,114]) (Int.toNat p0)),(sat (sx [45,119]) (Int.toNat p1)),(sat (sx [45,120]) (Int.toNat p2))]))) 16777216),true),(false,false),(false,false),(true,true),(decide ((Int.ofNat 0) ≤ p2),true),(decide (p2 < (Int.ofNat 2)),true),(true,true),(false,false),(false,false),(true,true),(decide ((Int.ofNat 0) ≤ p1),true),(decide (p1 < (Int.ofNat 2)),true),(true,true),(decide ((Int.ofNat 0) ≤ p0),true),(decide (p0 < (Int.ofNat 2)),true),(true,true),(false,false),(((Int.fmod (Int.fdiv z (Int.ofNat 2048)) (Int.ofNat 2)) == (Int.ofNat 0)),true),(false,false),(false,false)]
theorem e_dd020 (b:Bool) (w:World) (n T:Nat) (g:List GenState) (n0 T0:Nat) (g0:List GenState) (t1:Tok) (v1:Value) (z p0 p1 p2:Int) (tz tk a0 a1 a2:Tok) (sg:List Nat) (ts:Tok) (nl li:Nat) (k0 k1 k2 k3:Tok) (vb vr:Value) (L it:Nat) (vk:Option Value) (left:Int) : (r_dd020 (W b w) n T g n0 T0 g0 t1 v1 z p0 p1 p2 tz tk a0 a1 a2 sg ts nl li k0 k1 k2 k3 vb vr L it vk left).M [false,false,false,false,false,false] = (r_dd020 (W b w) n T g n0 T0 g0 t1 v1 z p0 p1 p2 tz tk a0 a1 a2 sg ts nl li k0 k1 k2 k3 vb vr L it vk left).N (b_dd020 n T n0 T0 g0 t1 v1 z p0 p1 p2 tz tk a0 a1 a2 sg ts nl li k0 k1 k2 k3 vb vr L it vk left) (.again (duIn L it)) (4) (24) g [(L,duF3 (W b w).params k0 k1 (T + 7) nl li (.ref (n + 1))),((L + 1),obO "cell" (.cell (some (.int z tz)))),((L + 2),ceO (some (.str (sx (45 :: (sg ++ due3 [45,120] p0 p1 p2))) (T + 23)))),((L + 3),obO "cell" (.cell (some (.int (Int.ofNat 0) tk))))]:=by cases b <;> kernel_rfl
noncomputable def g_dd020 {b:Bool} {w:World} (n0 T0:Nat) (g0:List GenState) (t1:Tok) (v1:Value) (z p0 p1 p2:Int) (tz tk a0 a1 a2:Tok) (sg:List Nat) (ts:Tok) (nl li:Nat) (k0 k1 k2 k3:Tok) (vb vr:Value) (L it:Nat) (vk:Option Value) (left:Int):=mkKA (fun n T g => e_dd020 b w n T g n0 T0 g0 t1 v1 z p0 p1 p2 tz tk a0 a1 a2 sg ts nl li k0 k1 k2 k3 vb vr L it vk left) (fun _ _ _ => rfl) (by decide)
def u_dd021 (w:World) (n T:Nat) (n0 T0:Nat) (g0:List GenState) (t1:Tok) (v1:Value) (z p0 p1 p2:Int) (tz tk a0 a1 a2:Tok) (sg:List Nat) (ts:Tok) (nl li:Nat) (k0 k1 k2 k3:Tok) (vb vr:Value) (L it:Nat) (vk:Option Value) (left:Int) : List Sum:=[]
def r_dd021 (w:World) (n T:Nat) (g:List GenState) (n0 T0:Nat) (g0:List GenState) (t1:Tok) (v1:Value) (z p0 p1 p2:Int) (tz tk a0 a1 a2:Tok) (sg:List Nat) (ts:Tok) (nl li:Nat) (k0 k1 k2 k3:Tok) (vb vr:Value) (L it:Nat) (vk:Option Value) (left:Int) : Out:=runK w n T 320 20000 (digits 80 153305973498566330797403829422647723202983901753260380869456247247959802003307853356976006983594553413800093791388792293921184101552942700564545) (u_dd021 w n T n0 T0 g0 t1 v1 z p0 p1 p2 tz tk a0 a1 a2 sg ts nl li k0 k1 k2 k3 vb vr L it vk left) (r_db w n0 T0 g0 L it vk 0 left) (.ok .next) [((n0 + 3),dcO w.params [((sx [105]),t1,v1)] 1),((n0 + 2),liO [.int p0 a0,.int p1 a1,.int p2 a2] 3),(L,duF w.params k0 k1 nl li),((L + 1),ceO (some (.int z tz))),((L + 2),ceO (some (.str (sx (45 :: sg)) ts))),((L + 3),ceO (some (.int (Int.ofNat 0) tk)))] g
def b_dd021 (n T:Nat) (n0 T0:Nat) (g0:List GenState) (t1:Tok) (v1:Value) (z p0 p1 p2:Int) (tz tk a0 a1 a2:Tok) (sg:List Nat) (ts:Tok) (nl li:Nat) (k0 k1 k2 k3:Tok) (vb vr:Value) (L it:Nat) (vk:Option Value) (left:Int) : List (Bool × Bool):=[((Nat.ble (slen (cat (sx (45 :: sg)) (sx [(sat (sx [45,114]) (Int.toNat p0)),(sat (sx [45,119]) (Int.toNat p1)),(sat (sx [83,115]) (Int.toNat p2))]))) 16777216),true),(false,false),(false,false),(true,true),(decide ((Int.ofNat 0) ≤ p2),true),(decide (p2 < (Int.ofNat 2)),true),(true,true),(false,false),(false,false),(true,true),(decide ((Int.ofNat 0) ≤ p1),true),(decide (p1 < (Int.ofNat 2)),true),(true,true),(decide ((Int.ofNat 0) ≤ p0),true),(decide (p0 < (Int.ofNat 2)),true),(true,true),(false,false),(((Int.fmod (Int.fdiv z (Int.ofNat 2048)) (Int.ofNat 2)) == (Int.ofNat 1)),true),(false,false),(false,false)]
theorem e_dd021 (b:Bool) (w:World) (n T:Nat) (g:List GenState) (n0 T0:Nat) (g0:List GenState) (t1:Tok) (v1:Value) (z p0 p1 p2:Int) (tz tk a0 a1 a2:Tok) (sg:List Nat) (ts:Tok) (nl li:Nat) (k0 k1 k2 k3:Tok) (vb vr:Value) (L it:Nat) (vk:Option Value) (left:Int) : (r_dd021 (W b w) n T g n0 T0 g0 t1 v1 z p0 p1 p2 tz tk a0 a1 a2 sg ts nl li k0 k1 k2 k3 vb vr L it vk left).M [false,false,false,false,false,false] = (r_dd021 (W b w) n T g n0 T0 g0 t1 v1 z p0 p1 p2 tz tk a0 a1 a2 sg ts nl li k0 k1 k2 k3 vb vr L it vk left).N (b_dd021 n T n0 T0 g0 t1 v1 z p0 p1 p2 tz tk a0 a1 a2 sg ts nl li k0 k1 k2 k3 vb vr L it vk left) (.again (duIn L it)) (4) (24) g [(L,duF3 (W b w).params k0 k1 (T + 7) nl li (.ref (n + 1))),((L + 1),obO "cell" (.cell (some (.int z tz)))),((L + 2),ceO (some (.str (sx (45 :: (sg ++ due3 [83,115] p0 p1 p2))) (T + 23)))),((L + 3),obO "cell" (.cell (some (.int (Int.ofNat 0) tk))))]:=by cases b <;> kernel_rfl
noncomputable def g_dd021 {b:Bool} {w:World} (n0 T0:Nat) (g0:List GenState) (t1:Tok) (v1:Value) (z p0 p1 p2:Int) (tz tk a0 a1 a2:Tok) (sg:List Nat) (ts:Tok) (nl li:Nat) (k0 k1 k2 k3:Tok) (vb vr:Value) (L it:Nat) (vk:Option Value) (left:Int):=mkKA (fun n T g => e_dd021 b w n T g n0 T0 g0 t1 v1 z p0 p1 p2 tz tk a0 a1 a2 sg ts nl li k0 k1 k2 k3 vb vr L it vk left) (fun _ _ _ => rfl) (by decide)
def u_dd130 (w:World) (n T:Nat) (n0 T0:Nat) (g0:List GenState) (t1:Tok) (v1:Value) (z p0 p1 p2:Int) (tz tk a0 a1 a2:Tok) (sg:List Nat) (ts:Tok) (nl li:Nat) (k0 k1 k2 k3:Tok) (vb vr:Value) (L it:Nat) (vk:Option Value) (left:Int) : List Sum:=[]
def r_dd130 (w:World) (n T:Nat) (g:List GenState) (n0 T0:Nat) (g0:List GenState) (t1:Tok) (v1:Value) (z p0 p1 p2:Int) (tz tk a0 a1 a2:Tok) (sg:List Nat) (ts:Tok) (nl li:Nat) (k0 k1 k2 k3:Tok) (vb vr:Value) (L it:Nat) (vk:Option Value) (left:Int) : Out:=runK w n T 320 20000 (digits 80 153305973498566330797403829422647723202983901753260380869456247247959802003307853356976006983594553413800093791388792293921184083538544191082561) (u_dd130 w n T n0 T0 g0 t1 v1 z p0 p1 p2 tz tk a0 a1 a2 sg ts nl li k0 k1 k2 k3 vb vr L it vk left) (r_db w n0 T0 g0 L it vk 1 left) (.ok .next) [((n0 + 3),dcO w.params [((sx [105]),t1,v1)] 1),((n0 + 2),liO [.int p0 a0,.int p1 a1,.int p2 a2] 3),(L,duF3 w.params k0 k1 k2 nl li vb),((L + 1),ceO (some (.int z tz))),((L + 2),ceO (some (.str (sx (45 :: sg)) ts))),((L + 3),ceO (some (.int (Int.ofNat 1) tk)))] g
def b_dd130 (n T:Nat) (n0 T0:Nat) (g0:List GenState) (t1:Tok) (v1:Value) (z p0 p1 p2:Int) (tz tk a0 a1 a2:Tok) (sg:List Nat) (ts:Tok) (nl li:Nat) (k0 k1 k2 k3:Tok) (vb vr:Value) (L it:Nat) (vk:Option Value) (left:Int) : List (Bool × Bool):=[((Nat.ble (slen (cat (sx (45 :: sg)) (sx [(sat (sx [45,114]) (Int.toNat p0)),(sat (sx [45,119]) (Int.toNat p1)),(sat (sx [45,120]) (Int.toNat p2))]))) 16777216),true),(false,false),(false,false),(true,true),(decide ((Int.ofNat 0) ≤ p2),true),(decide (p2 < (Int.ofNat 2)),true),(true,true),(false,false),(false,false),(true,true),(decide ((Int.ofNat 0) ≤ p1),true),(decide (p1 < (Int.ofNat 2)),true),(true,true),(decide ((Int.ofNat 0) ≤ p0),true),(decide (p0 < (Int.ofNat 2)),true),(true,true),(false,false),(((Int.fmod (Int.fdiv z (Int.ofNat 1024)) (Int.ofNat 2)) == (Int.ofNat 0)),true),(false,false),(false,false)]
theorem e_dd130 (b:Bool) (w:World) (n T:Nat) (g:List GenState) (n0 T0:Nat) (g0:List GenState) (t1:Tok) (v1:Value) (z p0 p1 p2:Int) (tz tk a0 a1 a2:Tok) (sg:List Nat) (ts:Tok) (nl li:Nat) (k0 k1 k2 k3:Tok) (vb vr:Value) (L it:Nat) (vk:Option Value) (left:Int) : (r_dd130 (W b w) n T g n0 T0 g0 t1 v1 z p0 p1 p2 tz tk a0 a1 a2 sg ts nl li k0 k1 k2 k3 vb vr L it vk left).M [false,false,false,false,false,false] = (r_dd130 (W b w) n T g n0 T0 g0 t1 v1 z p0 p1 p2 tz tk a0 a1 a2 sg ts nl li k0 k1 k2 k3 vb vr L it vk left).N (b_dd130 n T n0 T0 g0 t1 v1 z p0 p1 p2 tz tk a0 a1 a2 sg ts nl li k0 k1 k2 k3 vb vr L it vk left) (.again (duIn L it)) (4) (24) g [(L,duF3 (W b w).params k0 k1 k2 nl li (.ref (n + 1))),((L + 1),obO "cell" (.cell (some (.int z tz)))),((L + 2),ceO (some (.str (sx (45 :: (sg ++ due3 [45,120] p0 p1 p2))) (T + 23)))),((L + 3),obO "cell" (.cell (some (.int (Int.ofNat 1) tk))))]:=by cases b <;> kernel_rfl
noncomputable def g_dd130 {b:Bool} {w:World} (n0 T0:Nat) (g0:List GenState) (t1:Tok) (v1:Value) (z p0 p1 p2:Int) (tz tk a0 a1 a2:Tok) (sg:List Nat) (ts:Tok) (nl li:Nat) (k0 k1 k2 k3:Tok) (vb vr:Value) (L it:Nat) (vk:Option Value) (left:Int):=mkKA (fun n T g => e_dd130 b w n T g n0 T0 g0 t1 v1 z p0 p1 p2 tz tk a0 a1 a2 sg ts nl li k0 k1 k2 k3 vb vr L it vk left) (fun _ _ _ => rfl) (by decide)
def u_dd131 (w:World) (n T:Nat) (n0 T0:Nat) (g0:List GenState) (t1:Tok) (v1:Value) (z p0 p1 p2:Int) (tz tk a0 a1 a2:Tok) (sg:List Nat) (ts:Tok) (nl li:Nat) (k0 k1 k2 k3:Tok) (vb vr:Value) (L it:Nat) (vk:Option Value) (left:Int) : List Sum:=[]
def r_dd131 (w:World) (n T:Nat) (g:List GenState) (n0 T0:Nat) (g0:List GenState) (t1:Tok) (v1:Value) (z p0 p1 p2:Int) (tz tk a0 a1 a2:Tok) (sg:List Nat) (ts:Tok) (nl li:Nat) (k0 k1 k2 k3:Tok) (vb vr:Value) (L it:Nat) (vk:Option Value) (left:Int) : Out:=runK w n T 320 20000 (digits 80 153305973498566330797403829422647723202983901753260380869456247247959802003307853356976006983594553413800093791388792293921184101552942700564545) (u_dd131 w n T n0 T0 g0 t1 v1 z p0 p1 p2 tz tk a0 a1 a2 sg ts nl li k0 k1 k2 k3 vb vr L it vk left) (r_db w n0 T0 g0 L it vk 1 left) (.ok .next) [((n0 + 3),dcO w.params [((sx [105]),t1,v1)] 1),((n0 + 2),liO [.int p0 a0,.int p1 a1,.int p2 a2] 3),(L,duF3 w.params k0 k1 k2 nl li vb),((L + 1),ceO (some (.int z tz))),((L + 2),ceO (some (.str (sx (45 :: sg)) ts))),((L + 3),ceO (some (.int (Int.ofNat 1) tk)))] g
def b_dd131 (n T:Nat) (n0 T0:Nat) (g0:List GenState) (t1:Tok) (v1:Value) (z p0 p1 p2:Int) (tz tk a0 a1 a2:Tok) (sg:List Nat) (ts:Tok) (nl li:Nat) (k0 k1 k2 k3:Tok) (vb vr:Value) (L it:Nat) (vk:Option Value) (left:Int) : List (Bool × Bool):=[((Nat.ble (slen (cat (sx (45 :: sg)) (sx [(sat (sx [45,114]) (Int.toNat p0)),(sat (sx [45,119]) (Int.toNat p1)),(sat (sx [83,115]) (Int.toNat p2))]))) 16777216),true),(false,false),(false,false),(true,true),(decide ((Int.ofNat 0) ≤ p2),true),(decide (p2 < (Int.ofNat 2)),true),(true,true),(false,false),(false,false),(true,true),(decide ((Int.ofNat 0) ≤ p1),true),(decide (p1 < (Int.ofNat 2)),true),(true,true),(decide ((Int.ofNat 0) ≤ p0),true),(decide (p0 < (Int.ofNat 2)),true),(true,true),(false,false),(((Int.fmod (Int.fdiv z (Int.ofNat 1024)) (Int.ofNat 2)) == (Int.ofNat 1)),true),(false,false),(false,false)]
theorem e_dd131 (b:Bool) (w:World) (n T:Nat) (g:List GenState) (n0 T0:Nat) (g0:List GenState) (t1:Tok) (v1:Value) (z p0 p1 p2:Int) (tz tk a0 a1 a2:Tok) (sg:List Nat) (ts:Tok) (nl li:Nat) (k0 k1 k2 k3:Tok) (vb vr:Value) (L it:Nat) (vk:Option Value) (left:Int) : (r_dd131 (W b w) n T g n0 T0 g0 t1 v1 z p0 p1 p2 tz tk a0 a1 a2 sg ts nl li k0 k1 k2 k3 vb vr L it vk left).M [false,false,false,false,false,false] = (r_dd131 (W b w) n T g n0 T0 g0 t1 v1 z p0 p1 p2 tz tk a0 a1 a2 sg ts nl li k0 k1 k2 k3 vb vr L it vk left).N (b_dd131 n T n0 T0 g0 t1 v1 z p0 p1 p2 tz tk a0 a1 a2 sg ts nl li k0 k1 k2 k3 vb vr L it vk left) (.again (duIn L it)) (4) (24) g [(L,duF3 (W b w).params k0 k1 k2 nl li (.ref (n + 1))),((L + 1),obO "cell" (.cell (some (.int z tz)))),((L + 2),ceO (some (.str (sx (45 :: (sg ++ due3 [83,115] p0 p1 p2))) (T + 23)))),((L + 3),obO "cell" (.cell (some (.int (Int.ofNat 1) tk))))]:=by cases b <;> kernel_rfl
noncomputable def g_dd131 {b:Bool} {w:World} (n0 T0:Nat) (g0:List GenState) (t1:Tok) (v1:Value) (z p0 p1 p2:Int) (tz tk a0 a1 a2:Tok) (sg:List Nat) (ts:Tok) (nl li:Nat) (k0 k1 k2 k3:Tok) (vb vr:Value) (L it:Nat) (vk:Option Value) (left:Int):=mkKA (fun n T g => e_dd131 b w n T g n0 T0 g0 t1 v1 z p0 p1 p2 tz tk a0 a1 a2 sg ts nl li k0 k1 k2 k3 vb vr L it vk left) (fun _ _ _ => rfl) (by decide)
def u_dd230 (w:World) (n T:Nat) (n0 T0:Nat) (g0:List GenState) (t1:Tok) (v1:Value) (z p0 p1 p2:Int) (tz tk a0 a1 a2:Tok) (sg:List Nat) (ts:Tok) (nl li:Nat) (k0 k1 k2 k3:Tok) (vb vr:Value) (L it:Nat) (vk:Option Value) (left:Int) : List Sum:=[]
def r_dd230 (w:World) (n T:Nat) (g:List GenState) (n0 T0:Nat) (g0:List GenState) (t1:Tok) (v1:Value) (z p0 p1 p2:Int) (tz tk a0 a1 a2:Tok) (sg:List Nat) (ts:Tok) (nl li:Nat) (k0 k1 k2 k3:Tok) (vb vr:Value) (L it:Nat) (vk:Option Value) (left:Int) : Out:=runK w n T 320 20000 (digits 80 153305973498566330797403829422647723202983901753260380869456247247959802003307853356976006983594553413800093791388792293921184083538544191082561) (u_dd230 w n T n0 T0 g0 t1 v1 z p0 p1 p2 tz tk a0 a1 a2 sg ts nl li k0 k1 k2 k3 vb vr L it vk left) (r_db w n0 T0 g0 L it vk 2 left) (.ok .next) [((n0 + 3),dcO w.params [((sx [105]),t1,v1)] 1),((n0 + 2),liO [.int p0 a0,.int p1 a1,.int p2 a2] 3),(L,duF3 w.params k0 k1 k2 nl li vb),((L + 1),ceO (some (.int z tz))),((L + 2),ceO (some (.str (sx (45 :: sg)) ts))),((L + 3),ceO (some (.int (Int.ofNat 2) tk)))] g
def b_dd230 (n T:Nat) (n0 T0:Nat) (g0:List GenState) (t1:Tok) (v1:Value) (z p0 p1 p2:Int) (tz tk a0 a1 a2:Tok) (sg:List Nat) (ts:Tok) (nl li:Nat) (k0 k1 k2 k3:Tok) (vb vr:Value) (L it:Nat) (vk:Option Value) (left:Int) : List (Bool × Bool):=[((Nat.ble (slen (cat (sx (45 :: sg)) (sx [(sat (sx [45,114]) (Int.toNat p0)),(sat (sx [45,119]) (Int.toNat p1)),(sat (sx [45,120]) (Int.toNat p2))]))) 16777216),true),(false,false),(false,false),(true,true),(decide ((Int.ofNat 0) ≤ p2),true),(decide (p2 < (Int.ofNat 2)),true),(true,true),(false,false),(false,false),(true,true),(decide ((Int.ofNat 0) ≤ p1),true),(decide (p1 < (Int.ofNat 2)),true),(true,true),(decide ((Int.ofNat 0) ≤ p0),true),(decide (p0 < (Int.ofNat 2)),true),(true,true),(false,false),(((Int.fmod (Int.fdiv z (Int.ofNat 512)) (Int.ofNat 2)) == (Int.ofNat 0)),true),(false,false),(false,false)]
theorem e_dd230 (b:Bool) (w:World) (n T:Nat) (g:List GenState) (n0 T0:Nat) (g0:List GenState) (t1:Tok) (v1:Value) (z p0 p1 p2:Int) (tz tk a0 a1 a2:Tok) (sg:List Nat) (ts:Tok) (nl li:Nat) (k0 k1 k2 k3:Tok) (vb vr:Value) (L it:Nat) (vk:Option Value) (left:Int) : (r_dd230 (W b w) n T g n0 T0 g0 t1 v1 z p0 p1 p2 tz tk a0 a1 a2 sg ts nl li k0 k1 k2 k3 vb vr L it vk left).M [false,false,false,false,false,false] = (r_dd230 (W b w) n T g n0 T0 g0 t1 v1 z p0 p1 p2 tz tk a0 a1 a2 sg ts nl li k0 k1 k2 k3 vb vr L it vk left).N (b_dd230 n T n0 T0 g0 t1 v1 z p0 p1 p2 tz tk a0 a1 a2 sg ts nl li k0 k1 k2 k3 vb vr L it vk left) (.again (duIn L it)) (4) (24) g [(L,duF3 (W b w).params k0 k1 k2 nl li (.ref (n + 1))),((L + 1),obO "cell" (.cell (some (.int z tz)))),((L + 2),ceO (some (.str (sx (45 :: (sg ++ due3 [45,120] p0 p1 p2))) (T + 23)))),((L + 3),obO "cell" (.cell (some (.int (Int.ofNat 2) tk))))]:=by cases b <;> kernel_rfl
noncomputable def g_dd230 {b:Bool} {w:World} (n0 T0:Nat) (g0:List GenState) (t1:Tok) (v1:Value) (z p0 p1 p2:Int) (tz tk a0 a1 a2:Tok) (sg:List Nat) (ts:Tok) (nl li:Nat) (k0 k1 k2 k3:Tok) (vb vr:Value) (L it:Nat) (vk:Option Value) (left:Int):=mkKA (fun n T g => e_dd230 b w n T g n0 T0 g0 t1 v1 z p0 p1 p2 tz tk a0 a1 a2 sg ts nl li k0 k1 k2 k3 vb vr L it vk left) (fun _ _ _ => rfl) (by decide)
def u_dd231 (w:World) (n T:Nat) (n0 T0:Nat) (g0:List GenState) (t1:Tok) (v1:Value) (z p0 p1 p2:Int) (tz tk a0 a1 a2:Tok) (sg:List Nat) (ts:Tok) (nl li:Nat) (k0 k1 k2 k3:Tok) (vb vr:Value) (L it:Nat) (vk:Option Value) (left:Int) : List Sum:=[]
def r_dd231 (w:World) (n T:Nat) (g:List GenState) (n0 T0:Nat) (g0:List GenState) (t1:Tok) (v1:Value) (z p0 p1 p2:Int) (tz tk a0 a1 a2:Tok) (sg:List Nat) (ts:Tok) (nl li:Nat) (k0 k1 k2 k3:Tok) (vb vr:Value) (L it:Nat) (vk:Option Value) (left:Int) : Out:=runK w n T 320 20000 (digits 80 153305973498566330797403829422647723202983901753260380869456247247959802003307853356976006983594553413800093791388792293921184101552942700564545) (u_dd231 w n T n0 T0 g0 t1 v1 z p0 p1 p2 tz tk a0 a1 a2 sg ts nl li k0 k1 k2 k3 vb vr L it vk left) (r_db w n0 T0 g0 L it vk 2 left) (.ok .next) [((n0 + 3),dcO w.params [((sx [105]),t1,v1)] 1),((n0 + 2),liO [.int p0 a0,.int p1 a1,.int p2 a2] 3),(L,duF3 w.params k0 k1 k2 nl li vb),((L + 1),ceO (some (.int z tz))),((L + 2),ceO (some (.str (sx (45 :: sg)) ts))),((L + 3),ceO (some (.int (Int.ofNat 2) tk)))] g
def b_dd231 (n T:Nat) (n0 T0:Nat) (g0:List GenState) (t1:Tok) (v1:Value) (z p0 p1 p2:Int) (tz tk a0 a1 a2:Tok) (sg:List Nat) (ts:Tok) (nl li:Nat) (k0 k1 k2 k3:Tok) (vb vr:Value) (L it:Nat) (vk:Option Value) (left:Int) : List (Bool × Bool):=[((Nat.ble (slen (cat (sx (45 :: sg)) (sx [(sat (sx [45,114]) (Int.toNat p0)),(sat (sx [45,119]) (Int.toNat p1)),(sat (sx [84,116]) (Int.toNat p2))]))) 16777216),true),(false,false),(false,false),(true,true),(decide ((Int.ofNat 0) ≤ p2),true),(decide (p2 < (Int.ofNat 2)),true),(true,true),(false,false),(false,false),(true,true),(decide ((Int.ofNat 0) ≤ p1),true),(decide (p1 < (Int.ofNat 2)),true),(true,true),(decide ((Int.ofNat 0) ≤ p0),true),(decide (p0 < (Int.ofNat 2)),true),(true,true),(false,false),(((Int.fmod (Int.fdiv z (Int.ofNat 512)) (Int.ofNat 2)) == (Int.ofNat 1)),true),(false,false),(false,false)]
theorem e_dd231 (b:Bool) (w:World) (n T:Nat) (g:List GenState) (n0 T0:Nat) (g0:List GenState) (t1:Tok) (v1:Value) (z p0 p1 p2:Int) (tz tk a0 a1 a2:Tok) (sg:List Nat) (ts:Tok) (nl li:Nat) (k0 k1 k2 k3:Tok) (vb vr:Value) (L it:Nat) (vk:Option Value) (left:Int) : (r_dd231 (W b w) n T g n0 T0 g0 t1 v1 z p0 p1 p2 tz tk a0 a1 a2 sg ts nl li k0 k1 k2 k3 vb vr L it vk left).M [false,false,false,false,false,false] = (r_dd231 (W b w) n T g n0 T0 g0 t1 v1 z p0 p1 p2 tz tk a0 a1 a2 sg ts nl li k0 k1 k2 k3 vb vr L it vk left).N (b_dd231 n T n0 T0 g0 t1 v1 z p0 p1 p2 tz tk a0 a1 a2 sg ts nl li k0 k1 k2 k3 vb vr L it vk left) (.again (duIn L it)) (4) (24) g [(L,duF3 (W b w).params k0 k1 k2 nl li (.ref (n + 1))),((L + 1),obO "cell" (.cell (some (.int z tz)))),((L + 2),ceO (some (.str (sx (45 :: (sg ++ due3 [84,116] p0 p1 p2))) (T + 23)))),((L + 3),obO "cell" (.cell (some (.int (Int.ofNat 2) tk))))]:=by cases b <;> kernel_rfl
noncomputable def g_dd231 {b:Bool} {w:World} (n0 T0:Nat) (g0:List GenState) (t1:Tok) (v1:Value) (z p0 p1 p2:Int) (tz tk a0 a1 a2:Tok) (sg:List Nat) (ts:Tok) (nl li:Nat) (k0 k1 k2 k3:Tok) (vb vr:Value) (L it:Nat) (vk:Option Value) (left:Int):=mkKA (fun n T g => e_dd231 b w n T g n0 T0 g0 t1 v1 z p0 p1 p2 tz tk a0 a1 a2 sg ts nl li k0 k1 k2 k3 vb vr L it vk left) (fun _ _ _ => rfl) (by decide)
def u_dd040 (w:World) (n T:Nat) (n0 T0:Nat) (g0:List GenState) (t1:Tok) (v1:Value) (z p0 p1 p2:Int) (tz tk a0 a1 a2:Tok) (sg:List Nat) (ts:Tok) (nl li:Nat) (k0 k1 k2 k3:Tok) (vb vr:Value) (L it:Nat) (vk:Option Value) (left:Int) : List Sum:=[]
def r_dd040 (w:World) (n T:Nat) (g:List GenState) (n0 T0:Nat) (g0:List GenState) (t1:Tok) (v1:Value) (z p0 p1 p2:Int) (tz tk a0 a1 a2:Tok) (sg:List Nat) (ts:Tok) (nl li:Nat) (k0 k1 k2 k3:Tok) (vb vr:Value) (L it:Nat) (vk:Option Value) (left:Int) : Out:=runK w n T 320 20000 (digits 80 153305973498566330797403829422647723202983901753260380869456247247959802003307853356976006983594553413800093791388792293921184083538544191082561) (u_dd040 w n T n0 T0 g0 t1 v1 z p0 p1 p2 tz tk a0 a1 a2 sg ts nl li k0 k1 k2 k3 vb vr L it vk left) (r_db w n0 T0 g0 L it vk 0 left) (.ok .next) [((n0 + 3),dcO w.params [((sx [105]),t1,v1)] 1),((n0 + 2),liO [.int p0 a0,.int p1 a1,.int p2 a2] 3),(L,duF4 w.params k0 k1 k2 k3 nl li vb vr),((L + 1),ceO (some (.int z tz))),((L + 2),ceO (some (.str (sx (45 :: sg)) ts))),((L + 3),ceO (some (.int (Int.ofNat 0) tk)))] g
def b_dd040 (n T:Nat) (n0 T0:Nat) (g0:List GenState) (t1:Tok) (v1:Value) (z p0 p1 p2:Int) (tz tk a0 a1 a2:Tok) (sg:List Nat) (ts:Tok) (nl li:Nat) (k0 k1 k2 k3:Tok) (vb vr:Value) (L it:Nat) (vk:Option Value) (left:Int) : List (Bool × Bool):=[((Nat.ble (slen (cat (sx (45 :: sg)) (sx [(sat (sx [45,114]) (Int.toNat p0)),(sat (sx [45,119]) (Int.toNat p1)),(sat (sx [45,120]) (Int.toNat p2))]))) 16777216),true),(false,false),(false,false),(true,true),(decide ((Int.ofNat 0) ≤ p2),true),(decide (p2 < (Int.ofNat 2)),true),(true,true),(false,false),(false,false),(true,true),(decide ((Int.ofNat 0) ≤ p1),true),(decide (p1 < (Int.ofNat 2)),true),(true,true),(decide ((Int.ofNat 0) ≤ p0),true),(decide (p0 < (Int.ofNat 2)),true),(true,true),(false,false),(((Int.fmod (Int.fdiv z (Int.ofNat 2048)) (Int.ofNat 2)) == (Int.ofNat 0)),true),(false,false),(false,false)]
theorem e_dd040 (b:Bool) (w:World) (n T:Nat) (g:List GenState) (n0 T0:Nat) (g0:List GenState) (t1:Tok) (v1:Value) (z p0 p1 p2:Int) (tz tk a0 a1 a2:Tok) (sg:List Nat) (ts:Tok) (nl li:Nat) (k0 k1 k2 k3:Tok) (vb vr:Value) (L it:Nat) (vk:Option Value) (left:Int) : (r_dd040 (W b w) n T g n0 T0 g0 t1 v1 z p0 p1 p2 tz tk a0 a1 a2 sg ts nl li k0 k1 k2 k3 vb vr L it vk left).M [false,false,false,false,false,false] = (r_dd040 (W b w) n T g n0 T0 g0 t1 v1 z p0 p1 p2 tz tk a0 a1 a2 sg ts nl li k0 k1 k2 k3 vb vr L it vk left).N (b_dd040 n T n0 T0 g0 t1 v1 z p0 p1 p2 tz tk a0 a1 a2 sg ts nl li k0 k1 k2 k3 vb vr L it vk left) (.again (duIn L it)) (4) (24) g [(L,duF4 (W b w).params k0 k1 k2 k3 nl li (.ref (n + 1)) vr),((L + 1),obO "cell" (.cell (some (.int z tz)))),((L + 2),ceO (some (.str (sx (45 :: (sg ++ due3 [45,120] p0 p1 p2))) (T + 23)))),((L + 3),obO "cell" (.cell (some (.int (Int.ofNat 0) tk))))]:=by cases b <;> kernel_rfl
noncomputable def g_dd040 {b:Bool} {w:World} (n0 T0:Nat) (g0:List GenState) (t1:Tok) (v1:Value) (z p0 p1 p2:Int) (tz tk a0 a1 a2:Tok) (sg:List Nat) (ts:Tok) (nl li:Nat) (k0 k1 k2 k3:Tok) (vb vr:Value) (L it:Nat) (vk:Option Value) (left:Int):=mkKA (fun n T g => e_dd040 b w n T g n0 T0 g0 t1 v1 z p0 p1 p2 tz tk a0 a1 a2 sg ts nl li k0 k1 k2 k3 vb vr L it vk left) (fun _ _ _ => rfl) (by decide)
def u_dd041 (w:World) (n T:Nat) (n0 T0:Nat) (g0:List GenState) (t1:Tok) (v1:Value) (z p0 p1 p2:Int) (tz tk a0 a1 a2:Tok) (sg:List Nat) (ts:Tok) (nl li:Nat) (k0 k1 k2 k3:Tok) (vb vr:Value) (L it:Nat) (vk:Option Value) (left:Int) : List Sum:=[]
def r_dd041 (w:World) (n T:Nat) (g:List GenState) (n0 T0:Nat) (g0:List GenState) (t1:Tok) (v1:Value) (z p0 p1 p2:Int) (tz tk a0 a1 a2:Tok) (sg:List Nat) (ts:Tok) (nl li:Nat) (k0 k1 k2 k3:Tok) (vb vr:Value) (L it:Nat) (vk:Option Value) (left:Int) : Out:=runK w n T 320 20000 (digits 80 153305973498566330797403829422647723202983901753260380869456247247959802003307853356976006983594553413800093791388792293921184101552942700564545) (u_dd041 w n T n0 T0 g0 t1 v1 z p0 p1 p2 tz tk a0 a1 a2 sg ts nl li k0 k1 k2 k3 vb vr L it vk left) (r_db w n0 T0 g0 L it vk 0 left) (.ok .next) [((n0 + 3),dcO w.params [((sx [105]),t1,v1)] 1),((n0 + 2),liO [.int p0 a0,.int p1 a1,.int p2 a2] 3),(L,duF4 w.params k0 k1 k2 k3 nl li vb vr),((L + 1),ceO (some (.int z tz))),((L + 2),ceO (some (.str (sx (45 :: sg)) ts))),((L + 3),ceO (some (.int (Int.ofNat 0) tk)))] g
def b_dd041 (n T:Nat) (n0 T0:Nat) (g0:List GenState) (t1:Tok) (v1:Value) (z p0 p1 p2:Int) (tz tk a0 a1 a2:Tok) (sg:List Nat) (ts:Tok) (nl li:Nat) (k0 k1 k2 k3:Tok) (vb vr:Value) (L it:Nat) (vk:Option Value) (left:Int) : List (Bool × Bool):=[((Nat.ble (slen (cat (sx (45 :: sg)) (sx [(sat (sx [45,114]) (Int.toNat p0)),(sat (sx [45,119]) (Int.toNat p1)),(sat (sx [83,115]) (Int.toNat p2))]))) 16777216),true),(false,false),(false,false),(true,true),(decide ((Int.ofNat 0) ≤ p2),true),(decide (p2 < (Int.ofNat 2)),true),(true,true),(false,false),(false,false),(true,true),(decide ((Int.ofNat 0) ≤ p1),true),(decide (p1 < (Int.ofNat 2)),true),(true,true),(decide ((Int.ofNat 0) ≤ p0),true),(decide (p0 < (Int.ofNat 2)),true),(true,true),(false,false),(((Int.fmod (Int.fdiv z (Int.ofNat 2048)) (Int.ofNat 2)) == (Int.ofNat 1)),true),(false,false),(false,false)]
theorem e_dd041 (b:Bool) (w:World) (n T:Nat) (g:List GenState) (n0 T0:Nat) (g0:List GenState) (t1:Tok) (v1:Value) (z p0 p1 p2:Int) (tz tk a0 a1 a2:Tok) (sg:List Nat) (ts:Tok) (nl li:Nat) (k0 k1 k2 k3:Tok) (vb vr:Value) (L it:Nat) (vk:Option Value) (left:Int) : (r_dd041 (W b w) n T g n0 T0 g0 t1 v1 z p0 p1 p2 tz tk a0 a1 a2 sg ts nl li k0 k1 k2 k3 vb vr L it vk left).M [false,false,false,false,false,false] = (r_dd041 (W b w) n T g n0 T0 g0 t1 v1 z p0 p1 p2 tz tk a0 a1 a2 sg ts nl li k0 k1 k2 k3 vb vr L it vk left).N (b_dd041 n T n0 T0 g0 t1 v1 z p0 p1 p2 tz tk a0 a1 a2 sg ts nl li k0 k1 k2 k3 vb vr L it vk left) (.again (duIn L it)) (4) (24) g [(L,duF4 (W b w).params k0 k1 k2 k3 nl li (.ref (n + 1)) vr),((L + 1),obO "cell" (.cell (some (.int z tz)))),((L + 2),ceO (some (.str (sx (45 :: (sg ++ due3 [83,115] p0 p1 p2))) (T + 23)))),((L + 3),obO "cell" (.cell (some (.int (Int.ofNat 0) tk))))]:=by cases b <;> kernel_rfl
noncomputable def g_dd041 {b:Bool} {w:World} (n0 T0:Nat) (g0:List GenState) (t1:Tok) (v1:Value) (z p0 p1 p2:Int) (tz tk a0 a1 a2:Tok) (sg:List Nat) (ts:Tok) (nl li:Nat) (k0 k1 k2 k3:Tok) (vb vr:Value) (L it:Nat) (vk:Option Value) (left:Int):=mkKA (fun n T g => e_dd041 b w n T g n0 T0 g0 t1 v1 z p0 p1 p2 tz tk a0 a1 a2 sg ts nl li k0 k1 k2 k3 vb vr L it vk left) (fun _ _ _ => rfl) (by decide)
def u_dd140 (w:World) (n T:Nat) (n0 T0:Nat) (g0:List GenState) (t1:Tok) (v1:Value) (z p0 p1 p2:Int) (tz tk a0 a1 a2:Tok) (sg:List Nat) (ts:Tok) (nl li:Nat) (k0 k1 k2 k3:Tok) (vb vr:Value) (L it:Nat) (vk:Option Value) (left:Int) : List Sum:=[]
def r_dd140 (w:World) (n T:Nat) (g:List GenState) (n0 T0:Nat) (g0:List GenState) (t1:Tok) (v1:Value) (z p0 p1 p2:Int) (tz tk a0 a1 a2:Tok) (sg:List Nat) (ts:Tok) (nl li:Nat) (k0 k1 k2 k3:Tok) (vb vr:Value) (L it:Nat) (vk:Option Value) (left:Int) : Out:=runK w n T 320 20000 (digits 80 153305973498566330797403829422647723202983901753260380869456247247959802003307853356976006983594553413800093791388792293921184083538544191082561) (u_dd140 w n T n0 T0 g0 t1 v1 z p0 p1 p2 tz tk a0 a1 a2 sg ts nl li k0 k1 k2 k3 vb vr L it vk left) (r_db w n0 T0 g0 L it vk 1 left) (.ok .next) [((n0 + 3),dcO w.params [((sx [105]),t1,v1)] 1),((n0 + 2),liO [.int p0 a0,.int p1 a1,.int p2 a2] 3),(L,duF4 w.params k0 k1 k2 k3 nl li vb vr),((L + 1),ceO (some (.int z tz))),((L + 2),ceO (some (.str (sx (45 :: sg)) ts))),((L + 3),ceO (some (.int (Int.ofNat 1) tk)))] g
def b_dd140 (n T:Nat) (n0 T0:Nat) (g0:List GenState) (t1:Tok) (v1:Value) (z p0 p1 p2:Int) (tz tk a0 a1 a2:Tok) (sg:List Nat) (ts:Tok) (nl li:Nat) (k0 k1 k2 k3:Tok) (vb vr:Value) (L it:Nat) (vk:Option Value) (left:Int) : List (Bool × Bool):=[((Nat.ble (slen (cat (sx (45 :: sg)) (sx [(sat (sx [45,114]) (Int.toNat p0)),(sat (sx [45,119]) (Int.toNat p1)),(sat (sx [45,120]) (Int.toNat p2))]))) 16777216),true),(false,false),(false,false),(true,true),(decide ((Int.ofNat 0) ≤ p2),true),(decide (p2 < (Int.ofNat 2)),true),(true,true),(false,false),(false,false),(true,true),(decide ((Int.ofNat 0) ≤ p1),true),(decide (p1 < (Int.ofNat 2)),true),(true,true),(decide ((Int.ofNat 0) ≤ p0),true),(decide (p0 < (Int.ofNat 2)),true),(true,true),(false,false),(((Int.fmod (Int.fdiv z (Int.ofNat 1024)) (Int.ofNat 2)) == (Int.ofNat 0)),true),(false,false),(false,false)]
theorem e_dd140 (b:Bool) (w:World) (n T:Nat) (g:List GenState) (n0 T0:Nat) (g0:List GenState) (t1:Tok) (v1:Value) (z p0 p1 p2:Int) (tz tk a0 a1 a2:Tok) (sg:List Nat) (ts:Tok) (nl li:Nat) (k0 k1 k2 k3:Tok) (vb vr:Value) (L it:Nat) (vk:Option Value) (left:Int) : (r_dd140 (W b w) n T g n0 T0 g0 t1 v1 z p0 p1 p2 tz tk a0 a1 a2 sg ts nl li k0 k1 k2 k3 vb vr L it vk left).M [false,false,false,false,false,false] = (r_dd140 (W b w) n T g n0 T0 g0 t1 v1 z p0 p1 p2 tz tk a0 a1 a2 sg ts nl li k0 k1 k2 k3 vb vr L it vk left).N (b_dd140 n T n0 T0 g0 t1 v1 z p0 p1 p2 tz tk a0 a1 a2 sg ts nl li k0 k1 k2 k3 vb vr L it vk left) (.again (duIn L it)) (4) (24) g [(L,duF4 (W b w).params k0 k1 k2 k3 nl li (.ref (n + 1)) vr),((L + 1),obO "cell" (.cell (some (.int z tz)))),((L + 2),ceO (some (.str (sx (45 :: (sg ++ due3 [45,120] p0 p1 p2))) (T + 23)))),((L + 3),obO "cell" (.cell (some (.int (Int.ofNat 1) tk))))]:=by cases b <;> kernel_rfl
noncomputable def g_dd140 {b:Bool} {w:World} (n0 T0:Nat) (g0:List GenState) (t1:Tok) (v1:Value) (z p0 p1 p2:Int) (tz tk a0 a1 a2:Tok) (sg:List Nat) (ts:Tok) (nl li:Nat) (k0 k1 k2 k3:Tok) (vb vr:Value) (L it:Nat) (vk:Option Value) (left:Int):=mkKA (fun n T g => e_dd140 b w n T g n0 T0 g0 t1 v1 z p0 p1 p2 tz tk a0 a1 a2 sg ts nl li k0 k1 k2 k3 vb vr L it vk left) (fun _ _ _ => rfl) (by decide)
def u_dd141 (w:World) (n T:Nat) (n0 T0:Nat) (g0:List GenState) (t1:Tok) (v1:Value) (z p0 p1 p2:Int) (tz tk a0 a1 a2:Tok) (sg:List Nat) (ts:Tok) (nl li:Nat) (k0 k1 k2 k3:Tok) (vb vr:Value) (L it:Nat) (vk:Option Value) (left:Int) : List Sum:=[]
def r_dd141 (w:World) (n T:Nat) (g:List GenState) (n0 T0:Nat) (g0:List GenState) (t1:Tok) (v1:Value) (z p0 p1 p2:Int) (tz tk a0 a1 a2:Tok) (sg:List Nat) (ts:Tok) (nl li:Nat) (k0 k1 k2 k3:Tok) (vb vr:Value) (L it:Nat) (vk:Option Value) (left:Int) : Out:=runK w n T 320 20000 (digits 80 153305973498566330797403829422647723202983901753260380869456247247959802003307853356976006983594553413800093791388792293921184101552942700564545) (u_dd141 w n T n0 T0 g0 t1 v1 z p0 p1 p2 tz tk a0 a1 a2 sg ts nl li k0 k1 k2 k3 vb vr L it vk left) (r_db w n0 T0 g0 L it vk 1 left) (.ok .next) [((n0 + 3),dcO w.params [((sx [105]),t1,v1)] 1),((n0 + 2),liO [.int p0 a0,.int p1 a1,.int p2 a2] 3),(L,duF4 w.params k0 k1 k2 k3 nl li vb vr),((L + 1),ceO (some (.int z tz))),((L + 2),ceO (some (.str (sx (45 :: sg)) ts))),((L + 3),ceO (some (.int (Int.ofNat 1) tk)))] g
def b_dd141 (n T:Nat) (n0 T0:Nat) (g0:List GenState) (t1:Tok) (v1:Value) (z p0 p1 p2:Int) (tz tk a0 a1 a2:Tok) (sg:List Nat) (ts:Tok) (nl li:Nat) (k0 k1 k2 k3:Tok) (vb vr:Value) (L it:Nat) (vk:Option Value) (left:Int) : List (Bool × Bool):=[((Nat.ble (slen (cat (sx (45 :: sg)) (sx [(sat (sx [45,114]) (Int.toNat p0)),(sat (sx [45,119]) (Int.toNat p1)),(sat (sx [83,115]) (Int.toNat p2))]))) 16777216),true),(false,false),(false,false),(true,true),(decide ((Int.ofNat 0) ≤ p2),true),(decide (p2 < (Int.ofNat 2)),true),(true,true),(false,false),(false,false),(true,true),(decide ((Int.ofNat 0) ≤ p1),true),(decide (p1 < (Int.ofNat 2)),true),(true,true),(decide ((Int.ofNat 0) ≤ p0),true),(decide (p0 < (Int.ofNat 2)),true),(true,true),(false,false),(((Int.fmod (Int.fdiv z (Int.ofNat 1024)) (Int.ofNat 2)) == (Int.ofNat 1)),true),(false,false),(false,false)]
theorem e_dd141 (b:Bool) (w:World) (n T:Nat) (g:List GenState) (n0 T0:Nat) (g0:List GenState) (t1:Tok) (v1:Value) (z p0 p1 p2:Int) (tz tk a0 a1 a2:Tok) (sg:List Nat) (ts:Tok) (nl li:Nat) (k0 k1 k2 k3:Tok) (vb vr:Value) (L it:Nat) (vk:Option Value) (left:Int) : (r_dd141 (W b w) n T g n0 T0 g0 t1 v1 z p0 p1 p2 tz tk a0 a1 a2 sg ts nl li k0 k1 k2 k3 vb vr L it vk left).M [false,false,false,false,false,false] = (r_dd141 (W b w) n T g n0 T0 g0 t1 v1 z p0 p1 p2 tz tk a0 a1 a2 sg ts nl li k0 k1 k2 k3 vb vr L it vk left).N (b_dd141 n T n0 T0 g0 t1 v1 z p0 p1 p2 tz tk a0 a1 a2 sg ts nl li k0 k1 k2 k3 vb vr L it vk left) (.again (duIn L it)) (4) (24) g [(L,duF4 (W b w).params k0 k1 k2 k3 nl li (.ref (n + 1)) vr),((L + 1),obO "cell" (.cell (some (.int z tz)))),((L + 2),ceO (some (.str (sx (45 :: (sg ++ due3 [83,115] p0 p1 p2))) (T + 23)))),((L + 3),obO "cell" (.cell (some (.int (Int.ofNat 1) tk))))]:=by cases b <;> kernel_rfl
noncomputable def g_dd141 {b:Bool} {w:World} (n0 T0:Nat) (g0:List GenState) (t1:Tok) (v1:Value) (z p0 p1 p2:Int) (tz tk a0 a1 a2:Tok) (sg:List Nat) (ts:Tok) (nl li:Nat) (k0 k1 k2 k3:Tok) (vb vr:Value) (L it:Nat) (vk:Option Value) (left:Int):=mkKA (fun n T g => e_dd141 b w n T g n0 T0 g0 t1 v1 z p0 p1 p2 tz tk a0 a1 a2 sg ts nl li k0 k1 k2 k3 vb vr L it vk left) (fun _ _ _ => rfl) (by decide)
def u_dd240 (w:World) (n T:Nat) (n0 T0:Nat) (g0:List GenState) (t1:Tok) (v1:Value) (z p0 p1 p2:Int) (tz tk a0 a1 a2:Tok) (sg:List Nat) (ts:Tok) (nl li:Nat) (k0 k1 k2 k3:Tok) (vb vr:Value) (L it:Nat) (vk:Option Value) (left:Int) : List Sum:=[]
def r_dd240 (w:World) (n T:Nat) (g:List GenState) (n0 T0:Nat) (g0:List GenState) (t1:Tok) (v1:Value) (z p0 p1 p2:Int) (tz tk a0 a1 a2:Tok) (sg:List Nat) (ts:Tok) (nl li:Nat) (k0 k1 k2 k3:Tok) (vb vr:Value) (L it:Nat) (vk:Option Value) (left:Int) : Out:=runK w n T 320 20000 (digits 80 153305973498566330797403829422647723202983901753260380869456247247959802003307853356976006983594553413800093791388792293921184083538544191082561) (u_dd240 w n T n0 T0 g0 t1 v1 z p0 p1 p2 tz tk a0 a1 a2 sg ts nl li k0 k1 k2 k3 vb vr L it vk left) (r_db w n0 T0 g0 L it vk 2 left) (.ok .next) [((n0 + 3),dcO w.params [((sx [105]),t1,v1)] 1),((n0 + 2),liO [.int p0 a0,.int p1 a1,.int p2 a2] 3),(L,duF4 w.params k0 k1 k2 k3 nl li vb vr),((L + 1),ceO (some (.int z tz))),((L + 2),ceO (some (.str (sx (45 :: sg)) ts))),((L + 3),ceO (some (.int (Int.ofNat 2) tk)))] g
def b_dd240 (n T:Nat) (n0 T0:Nat) (g0:List GenState) (t1:Tok) (v1:Value) (z p0 p1 p2:Int) (tz tk a0 a1 a2:Tok) (sg:List Nat) (ts:Tok) (nl li:Nat) (k0 k1 k2 k3:Tok) (vb vr:Value) (L it:Nat) (vk:Option Value) (left:Int) : List (Bool × Bool):=[((Nat.ble (slen (cat (sx (45 :: sg)) (sx [(sat (sx [45,114]) (Int.toNat p0)),(sat (sx [45,119]) (Int.toNat p1)),(sat (sx [45,120]) (Int.toNat p2))]))) 16777216),true),(false,false),(false,false),(true,true),(decide ((Int.ofNat 0) ≤ p2),true),(decide (p2 < (Int.ofNat 2)),true),(true,true),(false,false),(false,false),(true,true),(decide ((Int.ofNat 0) ≤ p1),true),(decide (p1 < (Int.ofNat 2)),true),(true,true),(decide ((Int.ofNat 0) ≤ p0),true),(decide (p0 < (Int.ofNat 2)),true),(true,true),(false,false),(((Int.fmod (Int.fdiv z (Int.ofNat 512)) (Int.ofNat 2)) == (Int.ofNat 0)),true),(false,false),(false,false)]
theorem e_dd240 (b:Bool) (w:World) (n T:Nat) (g:List GenState) (n0 T0:Nat) (g0:List GenState) (t1:Tok) (v1:Value) (z p0 p1 p2:Int) (tz tk a0 a1 a2:Tok) (sg:List Nat) (ts:Tok) (nl li:Nat) (k0 k1 k2 k3:Tok) (vb vr:Value) (L it:Nat) (vk:Option Value) (left:Int) : (r_dd240 (W b w) n T g n0 T0 g0 t1 v1 z p0 p1 p2 tz tk a0 a1 a2 sg ts nl li k0 k1 k2 k3 vb vr L it vk left).M [false,false,false,false,false,false] = (r_dd240 (W b w) n T g n0 T0 g0 t1 v1 z p0 p1 p2 tz tk a0 a1 a2 sg ts nl li k0 k1 k2 k3 vb vr L it vk left).N (b_dd240 n T n0 T0 g0 t1 v1 z p0 p1 p2 tz tk a0 a1 a2 sg ts nl li k0 k1 k2 k3 vb vr L it vk left) (.again (duIn L it)) (4) (24) g [(L,duF4 (W b w).params k0 k1 k2 k3 nl li (.ref (n + 1)) vr),((L + 1),obO "cell" (.cell (some (.int z tz)))),((L + 2),ceO (some (.str (sx (45 :: (sg ++ due3 [45,120] p0 p1 p2))) (T + 23)))),((L + 3),obO "cell" (.cell (some (.int (Int.ofNat 2) tk))))]:=by cases b <;> kernel_rfl
noncomputable def g_dd240 {b:Bool} {w:World} (n0 T0:Nat) (g0:List GenState) (t1:Tok) (v1:Value) (z p0 p1 p2:Int) (tz tk a0 a1 a2:Tok) (sg:List Nat) (ts:Tok) (nl li:Nat) (k0 k1 k2 k3:Tok) (vb vr:Value) (L it:Nat) (vk:Option Value) (left:Int):=mkKA (fun n T g => e_dd240 b w n T g n0 T0 g0 t1 v1 z p0 p1 p2 tz tk a0 a1 a2 sg ts nl li k0 k1 k2 k3 vb vr L it vk left) (fun _ _ _ => rfl) (by decide)
def u_dd241 (w:World) (n T:Nat) (n0 T0:Nat) (g0:List GenState) (t1:Tok) (v1:Value) (z p0 p1 p2:Int) (tz tk a0 a1 a2:Tok) (sg:List Nat) (ts:Tok) (nl li:Nat) (k0 k1 k2 k3:Tok) (vb vr:Value) (L it:Nat) (vk:Option Value) (left:Int) : List Sum:=[]
def r_dd241 (w:World) (n T:Nat) (g:List GenState) (n0 T0:Nat) (g0:List GenState) (t1:Tok) (v1:Value) (z p0 p1 p2:Int) (tz tk a0 a1 a2:Tok) (sg:List Nat) (ts:Tok) (nl li:Nat) (k0 k1 k2 k3:Tok) (vb vr:Value) (L it:Nat) (vk:Option Value) (left:Int) : Out:=runK w n T 320 20000 (digits 80 153305973498566330797403829422647723202983901753260380869456247247959802003307853356976006983594553413800093791388792293921184101552942700564545) (u_dd241 w n T n0 T0 g0 t1 v1 z p0 p1 p2 tz tk a0 a1 a2 sg ts nl li k0 k1 k2 k3 vb vr L it vk left) (r_db w n0 T0 g0 L it vk 2 left) (.ok .next) [((n0 + 3),dcO w.params [((sx [105]),t1,v1)] 1),((n0 + 2),liO [.int p0 a0,.int p1 a1,.int p2 a2] 3),(L,duF4 w.params k0 k1 k2 k3 nl li vb vr),((L + 1),ceO (some (.int z tz))),((L + 2),ceO (some (.str (sx (45 :: sg)) ts))),((L + 3),ceO (some (.int (Int.ofNat 2) tk)))] g
def b_dd241 (n T:Nat) (n0 T0:Nat) (g0:List GenState) (t1:Tok) (v1:Value) (z p0 p1 p2:Int) (tz tk a0 a1 a2:Tok) (sg:List Nat) (ts:Tok) (nl li:Nat) (k0 k1 k2 k3:Tok) (vb vr:Value) (L it:Nat) (vk:Option Value) (left:Int) : List (Bool × Bool):=[((Nat.ble (slen (cat (sx (45 :: sg)) (sx [(sat (sx [45,114]) (Int.toNat p0)),(sat (sx [45,119]) (Int.toNat p1)),(sat (sx [84,116]) (Int.toNat p2))]))) 16777216),true),(false,false),(false,false),(true,true),(decide ((Int.ofNat 0) ≤ p2),true),(decide (p2 < (Int.ofNat 2)),true),(true,true),(false,false),(false,false),(true,true),(decide ((Int.ofNat 0) ≤ p1),true),(decide (p1 < (Int.ofNat 2)),true),(true,true),(decide ((Int.ofNat 0) ≤ p0),true),(decide (p0 < (Int.ofNat 2)),true),(true,true),(false,false),(((Int.fmod (Int.fdiv z (Int.ofNat 512)) (Int.ofNat 2)) == (Int.ofNat 1)),true),(false,false),(false,false)]
theorem e_dd241 (b:Bool) (w:World) (n T:Nat) (g:List GenState) (n0 T0:Nat) (g0:List GenState) (t1:Tok) (v1:Value) (z p0 p1 p2:Int) (tz tk a0 a1 a2:Tok) (sg:List Nat) (ts:Tok) (nl li:Nat) (k0 k1 k2 k3:Tok) (vb vr:Value) (L it:Nat) (vk:Option Value) (left:Int) : (r_dd241 (W b w) n T g n0 T0 g0 t1 v1 z p0 p1 p2 tz tk a0 a1 a2 sg ts nl li k0 k1 k2 k3 vb vr L it vk left).M [false,false,false,false,false,false] = (r_dd241 (W b w) n T g n0 T0 g0 t1 v1 z p0 p1 p2 tz tk a0 a1 a2 sg ts nl li k0 k1 k2 k3 vb vr L it vk left).N (b_dd241 n T n0 T0 g0 t1 v1 z p0 p1 p2 tz tk a0 a1 a2 sg ts nl li k0 k1 k2 k3 vb vr L it vk left) (.again (duIn L it)) (4) (24) g [(L,duF4 (W b w).params k0 k1 k2 k3 nl li (.ref (n + 1)) vr),((L + 1),obO "cell" (.cell (some (.int z tz)))),((L + 2),ceO (some (.str (sx (45 :: (sg ++ due3 [84,116] p0 p1 p2))) (T + 23)))),((L + 3),obO "cell" (.cell (some (.int (Int.ofNat 2) tk))))]:=by cases b <;> kernel_rfl
noncomputable def g_dd241 {b:Bool} {w:World} (n0 T0:Nat) (g0:List GenState) (t1:Tok) (v1:Value) (z p0 p1 p2:Int) (tz tk a0 a1 a2:Tok) (sg:List Nat) (ts:Tok) (nl li:Nat) (k0 k1 k2 k3:Tok) (vb vr:Value) (L it:Nat) (vk:Option Value) (left:Int):=mkKA (fun n T g => e_dd241 b w n T g n0 T0 g0 t1 v1 z p0 p1 p2 tz tk a0 a1 a2 sg ts nl li k0 k1 k2 k3 vb vr L it vk left) (fun _ _ _ => rfl) (by decide)
def u_de (w:World) (n T:Nat) (L it x:Nat) : List Sum:=[]
def r_de (w:World) (n T:Nat) (g:List GenState) (L it x:Nat) : Out:=runC (G0 w n T 320) 20000 (digits 9 4467856510977) (u_de w n T L it x) (duIn L it) [(it,riO (Int.ofNat x) (Int.ofNat 0))] g
def b_de (n T:Nat) (L it x:Nat) : List (Bool × Bool):=[]
theorem e_de (b:Bool) (w:World) (n T:Nat) (g:List GenState) (L it x:Nat) : (r_de (W b w) n T g L it x).M [false,false,false] = (r_de (W b w) n T g L it x).N (b_de n T L it x) (.done (.ok .next)) (2) (0) g []:=by cases b <;> kernel_rfl
noncomputable def g_de {b:Bool} {w:World} (L it x:Nat):=mkD (fun n T g => e_de b w n T g L it x) (fun _ _ _ => rfl) rfl (by decide)
def duV2 (L C:Addr) : Env:=compEnvC (lcScope duE2) [((sx [115,105,103,110,115]),L + 2),((sx [98,101,104,105,110,100]),L + 5),((sx [97,104,101,97,100]),L + 4)] C (duEnv L)
def duC2 (L it acc C:Addr) : Code:=.compLoop duE2 0 (.ref it) (.ref acc) (duV2 L C)
def u_df (w:World) (n T:Nat) (n0 T0:Nat) (g0:List GenState) (va vc:Option Value) (L it nl:Nat) (vn vs:Option Value) (ns:List Value) (kn i:Nat) (z:Int) (tz:Tok) : List Sum:=[s_rnew ((Int.fmod (Int.fdiv z (Int.ofNat 5)) (Int.ofNat 4)) + (Int.fmod (Int.fdiv z (Int.ofNat 20)) (Int.ofNat 4)) + Int.ofNat 1) (T + 10),s_riter 0 n ((Int.fmod (Int.fdiv z (Int.ofNat 5)) (Int.ofNat 4)) + (Int.fmod (Int.fdiv z (Int.ofNat 20)) (Int.ofNat 4)) + Int.ofNat 1) (T + 11) (T + 10) (T + 12)]
def r_df (w:World) (n T:Nat) (g:List GenState) (n0 T0:Nat) (g0:List GenState) (va vc:Option Value) (L it nl:Nat) (vn vs:Option Value) (ns:List Value) (kn i:Nat) (z:Int) (tz:Tok) : Out:=runK w n T 310 20000 (digits 30 72221657703750115560393141995466573803816953015988609) (u_df w n T n0 T0 g0 va vc L it nl vn vs ns kn i z tz) (r_dua w n0 T0 g0 L it nl vn vs ns kn i z tz) (.ok .next) [((L + 1),ceO (some (.int z tz))),((L + 4),ceO va),((L + 5),ceO vc)] g
def b_df (n T:Nat) (n0 T0:Nat) (g0:List GenState) (va vc:Option Value) (L it nl:Nat) (vn vs:Option Value) (ns:List Value) (kn i:Nat) (z:Int) (tz:Tok) : List (Bool × Bool):=[(false,false),(false,false),(false,false),(false,false),(false,false),(false,false)]
theorem e_df (b:Bool) (w:World) (n T:Nat) (g:List GenState) (n0 T0:Nat) (g0:List GenState) (va vc:Option Value) (L it nl:Nat) (vn vs:Option Value) (ns:List Value) (kn i:Nat) (z:Int) (tz:Tok) : (r_df (W b w) n T g n0 T0 g0 va vc L it nl vn vs ns kn i z tz).M3 [true,true,true,false] = (r_df (W b w) n T g n0 T0 g0 va vc L it nl vn vs ns kn i z tz).N3 (b_df n T n0 T0 g0 va vc L it nl vn vs ns kn i z tz) (.compStart duE2 0 (.ref (n + 1)) (.ref (n + 2)) (duV2 L (n + 3))) (1) (4) (13) g [((n + 3),dcO (W b w).params [] 0),((n + 2),liO [] 0),((n + 1),riO 0 ((Int.fmod (Int.fdiv z (Int.ofNat 5)) (Int.ofNat 4)) + (Int.fmod (Int.fdiv z (Int.ofNat 20)) (Int.ofNat 4)) + Int.ofNat 1)),((L + 1),obO "cell" (.cell (some (.int z tz)))),((L + 4),ceO (some (.int (Int.fmod (Int.fdiv z (Int.ofNat 5)) (Int.ofNat 4)) (T + 3)))),((L + 5),ceO (some (.int (Int.fmod (Int.fdiv z (Int.ofNat 20)) (Int.ofNat 4)) (T + 7))))]:=by cases b <;> kernel_rfl
noncomputable def g_df {b:Bool} {w:World} (n0 T0:Nat) (g0:List GenState) (va vc:Option Value) (L it nl:Nat) (vn vs:Option Value) (ns:List Value) (kn i:Nat) (z:Int) (tz:Tok):=mkKS (fun n T g => e_df b w n T g n0 T0 g0 va vc L it nl vn vs ns kn i z tz) (fun _ _ _ => rfl) (by decide)
def dgXt (ah bh:Int) (j:Nat) (sg:List Nat) : Str:=(cat (cat (srep (sx [32]) (ah - (Int.ofNat j))) (sx (45 :: sg))) (srep (sx [32]) (bh - (Int.ofNat 0))))
def dgKt (ah bh:Int) (j:Nat) (sg:List Nat) (ts T:Tok) : Tok:=(tka (cat (srep (sx [32]) (ah - (Int.ofNat j))) (sx (45 :: sg))) (srep (sx [32]) (bh - (Int.ofNat 0))) (tka (srep (sx [32]) (ah - (Int.ofNat j))) (sx (45 :: sg)) (tkm (ah - (Int.ofNat j)) (T + 2) (T + 5)) ts (T + (5 + (dim (ah - (Int.ofNat j)))))) (tkm (bh - (Int.ofNat 0)) (T + ((5 + (dim (ah - (Int.ofNat j)))) + (dia (srep (sx [32]) (ah - (Int.ofNat j))) (sx (45 :: sg))))) (T + (((5 + (dim (ah - (Int.ofNat j)))) + (dia (srep (sx [32]) (ah - (Int.ofNat j))) (sx (45 :: sg)))) + 4))) (T + ((((5 + (dim (ah - (Int.ofNat j)))) + (dia (srep (sx [32]) (ah - (Int.ofNat j))) (sx (45 :: sg)))) + 4) + (dim (bh - (Int.ofNat 0))))))
def dgIt (ah bh:Int) (j:Nat) (sg:List Nat) : Nat:=5 + (dim (ah - (Int.ofNat j))) + (dia (srep (sx [32]) (ah - (Int.ofNat j))) (sx (45 :: sg))) + 4 + (dim (bh - (Int.ofNat 0))) + (dia (cat (srep (sx [32]) (ah - (Int.ofNat j))) (sx (45 :: sg))) (srep (sx [32]) (bh - (Int.ofNat 0))))
def dgBt (ah bh:Int) (j:Nat) (sg:List Nat) : List (Bool × Bool):=[((Nat.ble (slen (cat (cat (srep (sx [32]) (ah - (Int.ofNat j))) (sx (45 :: sg))) (srep (sx [32]) (bh - (Int.ofNat 0))))) 16777216),true),(true,true),(decide ((bh - (Int.ofNat 0)) < (Int.ofNat 1024)),true),(decide ((Int.negSucc 1023) < (bh - (Int.ofNat 0))),true),(decide (((Int.ofNat j) - ah) > (Int.ofNat 0)),false),((Nat.ble (slen (cat (srep (sx [32]) (ah - (Int.ofNat j))) (sx (45 :: sg)))) 16777216),true),(true,true),(decide ((ah - (Int.ofNat j)) < (Int.ofNat 1024)),true),(decide ((Int.negSucc 1023) < (ah - (Int.ofNat j))),true),(decide ((ah - (Int.ofNat j)) > (Int.ofNat 0)),true)]
def u_dgta (w:World) (n T:Nat) (L it acc C:Nat) (l:List Value) (k j:Nat) (left ah bh:Int) (ta tb ts:Tok) (sg:List Nat) : List Sum:=[s_rnext 0 it (Int.ofNat j) left,s_app 14 acc l k (.str (dgXt ah bh j sg) (dgKt ah bh j sg ts T))]
def r_dgta (w:World) (n T:Nat) (g:List GenState) (L it acc C:Nat) (l:List Value) (k j:Nat) (left ah bh:Int) (ta tb ts:Tok) (sg:List Nat) : Out:=runC (G0 w n T 340) 20000 (digits 128 73772855468281628472096984796795627004239100601915880104515116578942410712237883148278750746273634539081953249470633788663332700501132340235029136522805752105902566089827374885323345299142290860011967784383478657729059263593603201) (u_dgta w n T L it acc C l k j left ah bh ta tb ts sg) (duC2 L it acc C) [(it,riO (Int.ofNat j) left),((L + 4),ceO (some (.int ah ta))),((L + 2),ceO (some (.str (sx (45 :: sg)) ts))),((L + 5),ceO (some (.int bh tb))),(acc,liO l k),(C,dcO w.params [] 0)] g
def b_dgta (n T:Nat) (L it acc C:Nat) (l:List Value) (k j:Nat) (left ah bh:Int) (ta tb ts:Tok) (sg:List Nat) : List (Bool × Bool):=dgBt ah bh j sg
theorem e_dgta (b:Bool) (w:World) (n T:Nat) (g:List GenState) (L it acc C:Nat) (l:List Value) (k j:Nat) (left ah bh:Int) (ta tb ts:Tok) (sg:List Nat) : (r_dgta (W b w) n T g L it acc C l k j left ah bh ta tb ts sg).M [false,false,false,false,false,false,false,false,false,false] = (r_dgta (W b w) n T g L it acc C l k j left ah bh ta tb ts sg).N (b_dgta n T L it acc C l k j left ah bh ta tb ts sg) (.again (duC2 L it acc C)) (10) (dgIt ah bh j sg) g [(it,riO (Int.ofNat j + 1) (left - 1)),((L + 4),obO "cell" (.cell (some (.int ah ta)))),((L + 2),obO "cell" (.cell (some (.str (sx (45 :: sg)) ts)))),((L + 5),obO "cell" (.cell (some (.int bh tb)))),(acc,liO (l ++ [.str (dgXt ah bh j sg) (dgKt ah bh j sg ts T)]) (k + 1)),(C,dcO (W b w).params [((sx [107]),T + 1,.int (Int.ofNat j) T)] 1)]:=by cases b <;> kernel_rfl
noncomputable def g_dgta {b:Bool} {w:World} (L it acc C:Nat) (l:List Value) (k j:Nat) (left ah bh:Int) (ta tb ts:Tok) (sg:List Nat):=mkA (fun n T g => e_dgta b w n T g L it acc C l k j left ah bh ta tb ts sg) (fun _ _ _ => rfl) rfl (by decide)
def u_dgtb (w:World) (n T:Nat) (L it acc C:Nat) (l:List Value) (k j:Nat) (left ah bh:Int) (ta tb ts:Tok) (sg:List Nat) (t0:Tok) (v0:Value) : List Sum:=[s_rnext 0 it (Int.ofNat j) left,s_app 14 acc l k (.str (dgXt ah bh j sg) (dgKt ah bh j sg ts T))]
def r_dgtb (w:World) (n T:Nat) (g:List GenState) (L it acc C:Nat) (l:List Value) (k j:Nat) (left ah bh:Int) (ta tb ts:Tok) (sg:List Nat) (t0:Tok) (v0:Value) : Out:=runC (G0 w n T 340) 20000 (digits 128 73772855468281628472096984796795627004239100601915880104515116578942410712237883148278750746273634539081953249470633788663332700501132340235029136522805752105902566089827374885323345299142290860011967784383478657729059263593603201) (u_dgtb w n T L it acc C l k j left ah bh ta tb ts sg t0 v0) (duC2 L it acc C) [(it,riO (Int.ofNat j) left),((L + 4),ceO (some (.int ah ta))),((L + 2),ceO (some (.str (sx (45 :: sg)) ts))),((L + 5),ceO (some (.int bh tb))),(acc,liO l k),(C,dcO w.params [((sx [107]),t0,v0)] 1)] g
def b_dgtb (n T:Nat) (L it acc C:Nat) (l:List Value) (k j:Nat) (left ah bh:Int) (ta tb ts:Tok) (sg:List Nat) (t0:Tok) (v0:Value) : List (Bool × Bool):=dgBt ah bh j sg
theorem e_dgtb (b:Bool) (w:World) (n T:Nat) (g:List GenState) (L it acc C:Nat) (l:List Value) (k j:Nat) (left ah bh:Int) (ta tb ts:Tok) (sg:List Nat) (t0:Tok) (v0:Value) : (r_dgtb (W b w) n T g L it acc C l k j left ah bh ta tb ts sg t0 v0).M [false,false,false,false,false,false,false,false,false,false] = (r_dgtb (W b w) n T g L it acc C l k j left ah bh ta tb ts sg t0 v0).N (b_dgtb n T L it acc C l k j left ah bh ta tb ts sg t0 v0) (.again (duC2 L it acc C)) (10) (dgIt ah bh j sg) g [(it,riO (Int.ofNat j + 1) (left - 1)),((L + 4),obO "cell" (.cell (some (.int ah ta)))),((L + 2),obO "cell" (.cell (some (.str (sx (45 :: sg)) ts)))),((L + 5),obO "cell" (.cell (some (.int bh tb)))),(acc,liO (l ++ [.str (dgXt ah bh j sg) (dgKt ah bh j sg ts T)]) (k + 1)),(C,dcO (W b w).params [((sx [107]),t0,.int (Int.ofNat j) T)] 1)]:=by cases b <;> kernel_rfl
noncomputable def g_dgtb {b:Bool} {w:World} (L it acc C:Nat) (l:List Value) (k j:Nat) (left ah bh:Int) (ta tb ts:Tok) (sg:List Nat) (t0:Tok) (v0:Value):=mkA (fun n T g => e_dgtb b w n T g L it acc C l k j left ah bh ta tb ts sg t0 v0) (fun _ _ _ => rfl) rfl (by decide)
def dgXe (ah bh:Int) (j:Nat) (sg:List Nat) : Str:=(cat (sx (45 :: sg)) (srep (sx [32]) (bh - (Int.ofNat 0))))
def dgKe (ah bh:Int) (j:Nat) (sg:List Nat) (ts T:Tok) : Tok:=(tka (sx (45 :: sg)) (srep (sx [32]) (bh - (Int.ofNat 0))) ts (tkm (bh - (Int.ofNat 0)) (T + 6) (T + 10)) (T + (10 + (dim (bh - (Int.ofNat 0))))))
def dgIe (ah bh:Int) (j:Nat) (sg:List Nat) : Nat:=10 + (dim (bh - (Int.ofNat 0))) + (dia (sx (45 :: sg)) (srep (sx [32]) (bh - (Int.ofNat 0))))
def dgBe (ah bh:Int) (j:Nat) (sg:List Nat) : List (Bool × Bool):=[((Nat.ble (slen (cat (sx (45 :: sg)) (srep (sx [32]) (bh - (Int.ofNat 0))))) 16777216),true),(true,true),(decide ((bh - (Int.ofNat 0)) < (Int.ofNat 1024)),true),(decide ((Int.negSucc 1023) < (bh - (Int.ofNat 0))),true),(decide (((Int.ofNat j) - ah) > (Int.ofNat 0)),false),(true,true),(true,true),(true,true),(true,true),(decide ((ah - (Int.ofNat j)) > (Int.ofNat 0)),false)]
def u_dgea (w:World) (n T:Nat) (L it acc C:Nat) (l:List Value) (k j:Nat) (left ah bh:Int) (ta tb ts:Tok) (sg:List Nat) : List Sum:=[s_rnext 0 it (Int.ofNat j) left,s_app 14 acc l k (.str (dgXe ah bh j sg) (dgKe ah bh j sg ts T))]
def r_dgea (w:World) (n T:Nat) (g:List GenState) (L it acc C:Nat) (l:List Value) (k j:Nat) (left ah bh:Int) (ta tb ts:Tok) (sg:List Nat) : Out:=runC (G0 w n T 340) 20000 (digits 125 281421110032202257049930514514143474595028307349837799470959154430169718598319561570277216897100961834266484258424274627321249925484092855217433323474851971802520260744656785616345083002796353229336303238262133567600545259649) (u_dgea w n T L it acc C l k j left ah bh ta tb ts sg) (duC2 L it acc C) [(it,riO (Int.ofNat j) left),((L + 4),ceO (some (.int ah ta))),((L + 2),ceO (some (.str (sx (45 :: sg)) ts))),((L + 5),ceO (some (.int bh tb))),(acc,liO l k),(C,dcO w.params [] 0)] g
def b_dgea (n T:Nat) (L it acc C:Nat) (l:List Value) (k j:Nat) (left ah bh:Int) (ta tb ts:Tok) (sg:List Nat) : List (Bool × Bool):=dgBe ah bh j sg
theorem e_dgea (b:Bool) (w:World) (n T:Nat) (g:List GenState) (L it acc C:Nat) (l:List Value) (k j:Nat) (left ah bh:Int) (ta tb ts:Tok) (sg:List Nat) : (r_dgea (W b w) n T g L it acc C l k j left ah bh ta tb ts sg).M [false,false,false,false,false,false,false,false,false,false] = (r_dgea (W b w) n T g L it acc C l k j left ah bh ta tb ts sg).N (b_dgea n T L it acc C l k j left ah bh ta tb ts sg) (.again (duC2 L it acc C)) (10) (dgIe ah bh j sg) g [(it,riO (Int.ofNat j + 1) (left - 1)),((L + 4),obO "cell" (.cell (some (.int ah ta)))),((L + 2),obO "cell" (.cell (some (.str (sx (45 :: sg)) ts)))),((L + 5),obO "cell" (.cell (some (.int bh tb)))),(acc,liO (l ++ [.str (dgXe ah bh j sg) (dgKe ah bh j sg ts T)]) (k + 1)),(C,dcO (W b w).params [((sx [107]),T + 1,.int (Int.ofNat j) T)] 1)]:=by cases b <;> kernel_rfl
noncomputable def g_dgea {b:Bool} {w:World} (L it acc C:Nat) (l:List Value) (k j:Nat) (left ah bh:Int) (ta tb ts:Tok) (sg:List Nat):=mkA (fun n T g => e_dgea b w n T g L it acc C l k j left ah bh ta tb ts sg) (fun _ _ _ => rfl) rfl (by decide)
def u_dgeb (w:World) (n T:Nat) (L it acc C:Nat) (l:List Value) (k j:Nat) (left ah bh:Int) (ta tb ts:Tok) (sg:List Nat) (t0:Tok) (v0:Value) : List Sum:=[s_rnext 0 it (Int.ofNat j) left,s_app 14 acc l k (.str (dgXe ah bh j sg) (dgKe ah bh j sg ts T))]
def r_dgeb (w:World) (n T:Nat) (g:List GenState) (L it acc C:Nat) (l:List Value) (k j:Nat) (left ah bh:Int) (ta tb ts:Tok) (sg:List Nat) (t0:Tok) (v0:Value) : Out:=runC (G0 w n T 340) 20000 (digits 125 281421110032202257049930514514143474595028307349837799470959154430169718598319561570277216897100961834266484258424274627321249925484092855217433323474851971802520260744656785616345083002796353229336303238262133567600545259649) (u_dgeb w n T L it acc C l k j left ah bh ta tb ts sg t0 v0) (duC2 L it acc C) [(it,riO (Int.ofNat j) left),((L + 4),ceO (some (.int ah ta))),((L + 2),ceO (some (.str (sx (45 :: sg)) ts))),((L + 5),ceO (some (.int bh tb))),(acc,liO l k),(C,dcO w.params [((sx [107]),t0,v0)] 1)] g
def b_dgeb (n T:Nat) (L it acc C:Nat) (l:List Value) (k j:Nat) (left ah bh:Int) (ta tb ts:Tok) (sg:List Nat) (t0:Tok) (v0:Value) : List (Bool × Bool):=dgBe ah bh j sg
theorem e_dgeb (b:Bool) (w:World) (n T:Nat) (g:List GenState) (L it acc C:Nat) (l:List Value) (k j:Nat) (left ah bh:Int) (ta tb ts:Tok) (sg:List Nat) (t0:Tok) (v0:Value) : (r_dgeb (W b w) n T g L it acc C l k j left ah bh ta tb ts sg t0 v0).M [false,false,false,false,false,false,false,false,false,false] = (r_dgeb (W b w) n T g L it acc C l k j left ah bh ta tb ts sg t0 v0).N (b_dgeb n T L it acc C l k j left ah bh ta tb ts sg t0 v0) (.again (duC2 L it acc C)) (10) (dgIe ah bh j sg) g [(it,riO (Int.ofNat j + 1) (left - 1)),((L + 4),obO "cell" (.cell (some (.int ah ta)))),((L + 2),obO "cell" (.cell (some (.str (sx (45 :: sg)) ts)))),((L + 5),obO "cell" (.cell (some (.int bh tb)))),(acc,liO (l ++ [.str (dgXe ah bh j sg) (dgKe ah bh j sg ts T)]) (k + 1)),(C,dcO (W b w).params [((sx [107]),t0,.int (Int.ofNat j) T)] 1)]:=by cases b <;> kernel_rfl
noncomputable def g_dgeb {b:Bool} {w:World} (L it acc C:Nat) (l:List Value) (k j:Nat) (left ah bh:Int) (ta tb ts:Tok) (sg:List Nat) (t0:Tok) (v0:Value):=mkA (fun n T g => e_dgeb b w n T g L it acc C l k j left ah bh ta tb ts sg t0 v0) (fun _ _ _ => rfl) rfl (by decide)
def dgXf (ah bh:Int) (j:Nat) (sg:List Nat) : Str:=(cat (sx (45 :: sg)) (srep (sx [32]) (bh - ((Int.ofNat j) - ah))))
def dgKf (ah bh:Int) (j:Nat) (sg:List Nat) (ts T:Tok) : Tok:=(tka (sx (45 :: sg)) (srep (sx [32]) (bh - ((Int.ofNat j) - ah))) ts (tkm (bh - ((Int.ofNat j) - ah)) (T + 6) (T + 10)) (T + (10 + (dim (bh - ((Int.ofNat j) - ah))))))
def dgIf (ah bh:Int) (j:Nat) (sg:List Nat) : Nat:=10 + (dim (bh - ((Int.ofNat j) - ah))) + (dia (sx (45 :: sg)) (srep (sx [32]) (bh - ((Int.ofNat j) - ah))))
def dgBf (ah bh:Int) (j:Nat) (sg:List Nat) : List (Bool × Bool):=[((Nat.ble (slen (cat (sx (45 :: sg)) (srep (sx [32]) (bh - ((Int.ofNat j) - ah))))) 16777216),true),(true,true),(decide ((bh - ((Int.ofNat j) - ah)) < (Int.ofNat 1024)),true),(decide ((Int.negSucc 1023) < (bh - ((Int.ofNat j) - ah))),true),(decide (((Int.ofNat j) - ah) > (Int.ofNat 0)),true),(true,true),(true,true),(true,true),(true,true),(decide ((ah - (Int.ofNat j)) > (Int.ofNat 0)),false)]
def u_dgfb (w:World) (n T:Nat) (L it acc C:Nat) (l:List Value) (k j:Nat) (left ah bh:Int) (ta tb ts:Tok) (sg:List Nat) (t0:Tok) (v0:Value) : List Sum:=[s_rnext 0 it (Int.ofNat j) left,s_app 14 acc l k (.str (dgXf ah bh j sg) (dgKf ah bh j sg ts T))]
def r_dgfb (w:World) (n T:Nat) (g:List GenState) (L it acc C:Nat) (l:List Value) (k j:Nat) (left ah bh:Int) (ta tb ts:Tok) (sg:List Nat) (t0:Tok) (v0:Value) : Out:=runC (G0 w n T 340) 20000 (digits 128 73772855468281628472096984796795627004172197474548759992554228243505073915912815331351322228282378641621328748515884640175098004805245009757994047960860478722081790444721388304946546950479185997560485998848725268100406973564477569) (u_dgfb w n T L it acc C l k j left ah bh ta tb ts sg t0 v0) (duC2 L it acc C) [(it,riO (Int.ofNat j) left),((L + 4),ceO (some (.int ah ta))),((L + 2),ceO (some (.str (sx (45 :: sg)) ts))),((L + 5),ceO (some (.int bh tb))),(acc,liO l k),(C,dcO w.params [((sx [107]),t0,v0)] 1)] g
def b_dgfb (n T:Nat) (L it acc C:Nat) (l:List Value) (k j:Nat) (left ah bh:Int) (ta tb ts:Tok) (sg:List Nat) (t0:Tok) (v0:Value) : List (Bool × Bool):=dgBf ah bh j sg
theorem e_dgfb (b:Bool) (w:World) (n T:Nat) (g:List GenState) (L it acc C:Nat) (l:List Value) (k j:Nat) (left ah bh:Int) (ta tb ts:Tok) (sg:List Nat) (t0:Tok) (v0:Value) : (r_dgfb (W b w) n T g L it acc C l k j left ah bh ta tb ts sg t0 v0).M [false,false,false,false,false,false,false,false,false,false] = (r_dgfb (W b w) n T g L it acc C l k j left ah bh ta tb ts sg t0 v0).N (b_dgfb n T L it acc C l k j left ah bh ta tb ts sg t0 v0) (.again (duC2 L it acc C)) (10) (dgIf ah bh j sg) g [(it,riO (Int.ofNat j + 1) (left - 1)),((L + 4),obO "cell" (.cell (some (.int ah ta)))),((L + 2),obO "cell" (.cell (some (.str (sx (45 :: sg)) ts)))),((L + 5),obO "cell" (.cell (some (.int bh tb)))),(acc,liO (l ++ [.str (dgXf ah bh j sg) (dgKf ah bh j sg ts T)]) (k + 1)),(C,dcO (W b w).params [((sx [107]),t0,.int (Int.ofNat j) T)] 1)]:=by cases b <;> kernel_rfl
noncomputable def g_dgfb {b:Bool} {w:World} (L it acc C:Nat) (l:List Value) (k j:Nat) (left ah bh:Int) (ta tb ts:Tok) (sg:List Nat) (t0:Tok) (v0:Value):=mkA (fun n T g => e_dgfb b w n T g L it acc C l k j left ah bh ta tb ts sg t0 v0) (fun _ _ _ => rfl) rfl (by decide)
def u_dge (w:World) (n T:Nat) (L it acc C j:Nat) : List Sum:=[]
def r_dge (w:World) (n T:Nat) (g:List GenState) (L it acc C j:Nat) : Out:=runC (G0 w n T 340) 20000 (digits 8 4467856510977) (u_dge w n T L it acc C j) (duC2 L it acc C) [(it,riO (Int.ofNat j) (Int.ofNat 0))] g
def b_dge (n T:Nat) (L it acc C j:Nat) : List (Bool × Bool):=[]
theorem e_dge (b:Bool) (w:World) (n T:Nat) (g:List GenState) (L it acc C j:Nat) : (r_dge (W b w) n T g L it acc C j).M [false,false,false] = (r_dge (W b w) n T g L it acc C j).N (b_dge n T L it acc C j) (.done (.ok .next)) (2) (0) g []:=by cases b <;> kernel_rfl
noncomputable def g_dge {b:Bool} {w:World} (L it acc C j:Nat):=mkD (fun n T g => e_dge b w n T g L it acc C j) (fun _ _ _ => rfl) rfl (by decide)
def stpO (n:Addr) : Obj:=obO "StopIteration" (.fields ⟨[.ref n,.none,.none,.none,.bool false,.none]⟩)
def itE (i:Nat) : Obj:=obO "list_iterator" (.fields ⟨[.none,.int (Int.ofNat i) 0]⟩)
section
variable {w:World} {n T lv:Nat}
def s_lend (j j':Nat) (it li:Addr) (l:List Value) (k i:Nat) : Sum:=⟨.call (.builtin "list_iterator.__next__") ⟨[.ref it],[]⟩,fun n _ => .error (.ref (n + 1)),0,2,[(j,it,itO li i,fun _ _ => itE i),(j',li,liO l k,fun _ _ => liO l k)],[(1,fun n _ => stpO n),(0,fun _ _ => tupO [] 0)],500⟩
theorem ok_lend {j j':Nat} {it li:Addr} {l:List Value} {k i:Nat} (hi:l[i]? = none) : (s_lend j j' it li l k i).Ok (G0 w n T lv):=by
  intro A c R s hd hu hh hb K hn nd ap post
  have ho : s.heap.get? it = some (itO li i):=hn _ (.head _)
  have hol : s.heap.get? li = some (liO l k):=hn _ (.tail _ (.head _))
  have hne : li ≠ it:=by
    have nd' : [it,li].Nodup:=nd
    intro z; rw [z] at nd'; simp at nd'
  have hx : (⟨l⟩ : Array Value)[i]? = none:=by rw [List.getElem?_toArray]; exact hi
  refine codeAny_call_builtin slot_listiter_next.plain entry_listiter_next (slot_listiter_next.check _ _ _ _ _ _ _ _ (tOb ho) (args_listiter_next _) ?_)
  show wpAny _ _ (field (.ref it) 0 >>= _) _ _ s
  refine wpAny_bind (wpAny_field ho rfl (x:=.ref li) rfl ?_)
  show wpAny _ _ (if (Value.ref li == Value.none) = true then _ else _) _ _ s
  rw [if_neg (show ¬ ((Value.ref li == Value.none) = true) from Bool.false_ne_true)]
  show wpAny _ _ (field (.ref it) 1 >>= _) _ _ s
  refine wpAny_bind (wpAny_field ho rfl (x:=.int (Int.ofNat i) 0) rfl ?_)
  show wpAny _ _ (seqItems? (.ref li) >>= _) _ _ s
  refine wpAny_bind (wpAny_seqItems hol rfl ?_)
  have hx2 : (⟨l⟩ : Array Value)[(Int.ofNat i).toNat]? = none:=hx
  simp only [hx2]
  refine wpAny_bind (wpAny_rule (wpAny_bind (wpAny_setField ho rfl (by show 0 < 2; decide) ?_)))
  show wpAny _ _ (newExc (.type "StopIteration") [] >>= _) _ _ _
  refine wpAny_bind ?_
  simp only [newExc,newTuple]
  refine wpAny_bind (wpAny_newObj_type ?_ (by size_fits))
  refine wpAny_bind (m:=firstArgMember _ _) (wpAny_of_eq (a:=Value.none) (by first | rfl | (simp only [firstArgMember]; rfl)) ?_)
  refine wpAny_newObj_type ?_ (by size_fits)
  simp only [raiseNew]
  refine wpAny_bind (wpAny_handled ?_)
  rw [show A.in1.handled = none from hh]
  refine wpAny_bind (wpAny_pure (wpAny_throw ?_))
  have hz : ∀ u,(s.heap.update it u).objs.size = s.heap.objs.size:=fun u => (Heap.SameBut.update ..).1
  have key : ∀ (h0:Heap),h0.objs.size = s.heap.objs.size → (∀ b o,b ≠ it → s.heap.get? b = some o → h0.get? b = some o) → h0.get? it = some (itE i) →
      R (.error (.ref (s.heap.objs.size + 1))) { s with heap:=(h0.push (tupO [] 0)).push (stpO s.heap.objs.size) }:=by
    intro h0 z0 k0 e0
    refine post _ (by rw [Heap.size_push,Heap.size_push,z0]; rfl) (fun b o e hb => ?_) (fun y hy => ?_) (fun p hp => ?_)
    · exact Heap.get?_push_of_some _ (Heap.get?_push_of_some _ (k0 b o (fun z => hb (by rw [z]; exact .head _)) e))
    · cases hy with
      | head => exact Heap.get?_push_of_some _ (Heap.get?_push_of_some _ e0)
      | tail _ hy => cases hy with
        | head => exact Heap.get?_push_of_some _ (Heap.get?_push_of_some _ (k0 li _ hne hol))
        | tail _ hy => cases hy
    · have hp : p ∈ [(s.heap.objs.size + 1,stpO s.heap.objs.size),(s.heap.objs.size + 0,tupO [] 0)]:=hp
      rcases List.mem_cons.mp hp with rfl | hp
      · have e : s.heap.objs.size + 1 = (h0.push (tupO [] 0)).objs.size:=by rw [Heap.size_push,z0]
        show Heap.get? _ (s.heap.objs.size + 1) = _
        rw [e]
        exact Heap.get?_push_size _ rfl
      · cases List.mem_singleton.mp hp
        refine Heap.get?_push_of_some _ ?_
        show Heap.get? _ s.heap.objs.size = _
        rw [← z0]
        exact Heap.get?_push_size _ rfl
  have q:=key (s.heap.update it (Obj.mapFields fun x => x.setIfInBounds 0 .none)) (hz _) (fun b o hb e => (Heap.SameBut.update ..).extBut b o hb e) (by
    rw [Heap.get?_update_self _ ho rfl]; rfl)
  have e1 : ((s.heap.update it (Obj.mapFields fun x => x.setIfInBounds 0 .none)).push (tupO [] 0)).objs.size = s.heap.objs.size + 1:=by rw [Heap.size_push,hz]
  have e2:=hz (Obj.mapFields fun x => x.setIfInBounds 0 .none)
  rw [← e1,← e2] at q
  exact q
end
def jnEnv (L:Addr) : Env:=⟨scopeAt 26,L,3,[],(sx [106,111,105,110,46,60,108,111,99,97,108,115,62,46]),some 758,.ref 757,some L,0⟩
def u_jn0 (w:World) (n T:Nat) (li:Nat) : List Sum:=[]
def r_jn0 (w:World) (n T:Nat) (g:List GenState) (li:Nat) : Out:=runE w n T 300 20000 (digits 3 4160) (.call (.ref 758) ⟨[.ref li],[]⟩) [] g
def b_jn0 (n T:Nat) (li:Nat) : List (Bool × Bool):=[]
theorem e_jn0 (b:Bool) (w:World) (n T:Nat) (g:List GenState) (li:Nat) : (r_jn0 (W b w) n T g li).M [] = (r_jn0 (W b w) n T g li).N (b_jn0 n T li) (.again (.func (bodyAt 26) (jnEnv n))) (1) (1) g [(n,obO "frame" (dcD (W b w).params [((sx [115,112,108,105,116,95,99,111,109,109,97,110,100]),T,.ref li)] (0 + 1)))]:=by cases b <;> kernel_rfl
noncomputable def g_jn0 {b:Bool} {w:World} (li:Nat):=mkE (fun n T g => e_jn0 b w n T g li) (fun _ _ _ => rfl) (by decide)
noncomputable def jnPf (b:List Stmt) : Option (PLift (∃ sep k1 p1 nm p2 fq pq xq pr p3 x p4 sc p5 it p6 p7 p8,
    b = [.Return (some (.Call (.Attribute (.Constant (.str sep) k1 p1) nm p2) [.GeneratorExp (.Call (.Name fq pq) [.Name xq pr] [] p3) [⟨.Name x p4,.Name it p5,[],0⟩] sc p6] [] p7)) p8])):=match b with
  | [.Return (some (.Call (.Attribute (.Constant (.str _) _ _) _ _) [.GeneratorExp (.Call (.Name _ _) [.Name _ _] [] _) [⟨.Name _ _,.Name _ _,[],0⟩] _ _] [] _)) _] => some ⟨⟨_,_,_,_,_,_,_,_,_,_,_,_,_,_,_,_,_,_,rfl⟩⟩
  | _ => none
noncomputable def jnOk (b:List Stmt) : Bool:=(jnPf b).isSome
theorem jn_shape {b:List Stmt} (h:jnOk b = true) : ∃ sep k1 p1 nm p2 fq pq xq pr p3 x p4 sc p5 it p6 p7 p8,
    b = [.Return (some (.Call (.Attribute (.Constant (.str sep) k1 p1) nm p2) [.GeneratorExp (.Call (.Name fq pq) [.Name xq pr] [] p3) [⟨.Name x p4,.Name it p5,[],0⟩] sc p6] [] p7)) p8]:=((jnPf b).get h).down
noncomputable def jnSep (b:List Stmt) : Str:=match b with
  | [.Return (some (.Call (.Attribute (.Constant (.str s) _ _) _ _) _ _ _)) _] => s
  | _ => default
noncomputable def jnNm (b:List Stmt) : Str:=match b with
  | [.Return (some (.Call (.Attribute _ n _) _ _ _)) _] => n
  | _ => default
noncomputable def jnLine (b:List Stmt) : Bool:=match b with
  | [.Return (some (.Call (.Attribute _ _ p) _ _ q)) _] => p.endLine == q.line
  | _ => false
noncomputable def jnGen (b:List Stmt) : PySem.Expr:=match b with
  | [.Return (some (.Call _ [e] _ _)) _] => e
  | _ => default
noncomputable def jnFq (e:PySem.Expr) : Str:=match e with
  | .GeneratorExp (.Call (.Name f _) _ _ _) _ _ _ => f
  | _ => default
noncomputable def jnXq (e:PySem.Expr) : Str:=match e with
  | .GeneratorExp (.Call _ [.Name f _] _ _) _ _ _ => f
  | _ => default
noncomputable def jnX (e:PySem.Expr) : Str:=match e with
  | .GeneratorExp _ [⟨.Name x _,_,_,_⟩] _ _ => x
  | _ => default
noncomputable def jnIt (e:PySem.Expr) : Str:=match e with
  | .GeneratorExp _ [⟨_,.Name x _,_,_⟩] _ _ => x
  | _ => default
theorem ns_of {h:Heap} {a:Addr} {o:Obj} (e:h.get? a = some o) (c:(match o.data with | .dict es _ => es.all (fun x => match x.key with | .str .. => true | _ => false) | _ => false) = true) : h.isNs a = true:=by
  unfold Heap.isNs
  rw [e]
  exact c
theorem Hp.grow {w:World} {H h h':Heap} {F:List (Addr × Obj)} {o7 o7':Obj} (D:Hp w H h ((753,o7) :: F)) (hk:∀ b o,h.get? b = some o → b ≠ 753 → h'.get? b = some o) (h7:h'.get? 753 = some o7') : Hp w H h' ((753,o7') :: F):=by
  have nd:=D.nd
  rw [List.map_cons,List.nodup_cons] at nd
  have n7 : ∀ p ∈ F,p.1 ≠ 753:=fun p hp z => nd.1 (List.mem_map.mpr ⟨p,hp,z⟩)
  refine ⟨fun p hp => ?_,D.nd,?_,fun p hp => ?_,fun b o e q => hk b o (D.keep b o e q) q,fun p hp => ?_⟩
  · rcases List.mem_cons.mp hp with rfl | hp
    · exact h7
    · exact hk _ _ (D.own p (.tail _ hp)) (n7 p hp)
  · refine holds_of_keeps D.base fun a o e q => hk a o q fun z => ?_
    rw [z] at e
    have:=D.apart (753,o7) (.head _)
    rw [show (kt0 w.params).get 753 = none from this] at e
    cases e
  · rcases List.mem_cons.mp hp with rfl | hp
    · exact D.apart (753,o7) (.head _)
    · exact D.apart p (.tail _ hp)
  · rcases List.mem_cons.mp hp with rfl | hp
    · exact .inr rfl
    · exact D.new p (.tail _ hp)
structure Quoted (b:Bool) (w:World) (f:Fd) : Prop where
  run : ∀ (t:Tok) (A:Around) (v:Nat) (R:Result → Shared → Prop) (s:Shared),Lv A v → v ≤ 440 → KT.Holds s.heap 1 0 (kt0 (W b w).params) →
    (∀ s' tk,Keeps s s' → R (.ok (.ret (.str (sx f.text) tk))) s') → codeAny (model P0 (W b w)) A (.call (.ref 766) ⟨[.str (sx f.cs) t],[]⟩) R s
theorem quoted_sum {b:Bool} {w:World} {f:Fd} (h:∀ t,∃ (x:Sum),(∀ n T lv,x.Ok (G0 (W b w) n T lv)) ∧ x.c = .call (.ref 766) ⟨[.str (sx f.cs) t],[]⟩ ∧ (∀ n T,∃ tk,x.r n T = .ok (.ret (.str (sx f.text) tk))) ∧ x.need = [] ∧ 440 ≤ x.lv) : Quoted b w f:=by
  refine ⟨fun t A v R s L hv K post => ?_⟩
  obtain ⟨x,ok,hc,hr,hn,hl⟩:=h t
  rw [← hc]
  refine ok 0 0 0 A v R s L.depth L.units L.handled (by omega) K (fun y hy => by rw [hn] at hy; cases hy) (by rw [hn]; exact List.nodup_nil) (fun y hy => by rw [hn] at hy; cases hy) fun h' hz hk _ _ => ?_
  obtain ⟨tk,e⟩:=hr s.heap.objs.size s.toks
  rw [e]
  exact post _ _ ⟨h',_,rfl,fun b o e => hk b o e (by rw [hn]; exact fun h => nomatch h)⟩
theorem strsV_get : ∀ {ls:List (List Nat)} {vs:List Value},StrsV ls vs → ∀ {i:Nat} {v:Value},vs[i]? = some v → ∃ t l,ls[i]? = some l ∧ v = .str (sx l) t
  | _,_,.nil,i,v,h => by cases i <;> cases h
  | _,_,.cons (f:=f) (t:=t) r,0,v,h => by
    cases h
    exact ⟨t,f,rfl,rfl⟩
  | _,_,.cons r,i + 1,v,h => strsV_get r h
theorem strsV_len : ∀ {ls:List (List Nat)} {vs:List Value},StrsV ls vs → vs.length = ls.length
  | _,_,.nil => rfl
  | _,_,.cons r => congrArg (· + 1) (strsV_len r)
theorem o3_ns (P:Params) {h:Heap} (e:h.get? 3 = some (o3 P)) : h.isNs 3 = true:=ns_of e (by kernel_rfl)
theorem o3_map (P:Params) {h:Heap} (e:h.get? 3 = some (o3 P)) : h.nsMap 3 (jnFq (jnGen (bodyAt 26))) = some (.ref 766) ∧ h.nsMap 3 "__builtins__" = some (.ref 4):=by
  unfold Heap.nsMap
  rw [e]
  exact ⟨by kernel_rfl,by kernel_rfl⟩
theorem o766_fn (P:Params) : ∃ o fd,(kt0 P).get 766 = some o ∧ o.data = .func fd:=⟨o766 P,_,by rfl,rfl⟩
section
variable {b:Bool} {w:World}
theorem jn_elt {sep nm fq xq x it:Str} {k1:Nat} {p1 p2 pq pr p3 p4 p5 p6 p7 p8:Pos} {sc:Scope}
    (e:bodyAt 26 = [.Return (some (.Call (.Attribute (.Constant (.str sep) k1 p1) nm p2) [.GeneratorExp (.Call (.Name fq pq) [.Name xq pr] [] p3) [⟨.Name x p4,.Name it p5,[],0⟩] sc p6] [] p7)) p8])
    {fs:List Fd} {vs:List Value} (hq:∀ f ∈ fs,Quoted b w f) (hvs:StrsV (fs.map Fd.cs) vs) {A:Around} {v:Nat} (hL:Lv A v) (hv:v ≤ 440) {C:Addr} {code:Value} {bi:Addr} {n:Addr}
    {i:Nat} {u:Value} {s:Shared} {m:Str → Option Value} {E:Value → Shared → Prop} (hi:vs[i]? = some u) (hn:s.heap.Ns C m) (hm:m x = some u) (K:KT.Holds s.heap 1 0 (kt0 (W b w).params)) :
    wpAny (model P0 (W b w)) A (eval (.Call (.Name fq pq) [.Name xq pr] [] p3) (genEnv sc [] C code bi (jnEnv n))) (fun y s₃ => (∃ f u,fs[i]? = some f ∧ y = .str (sx f.text) u) ∧ Keeps s s₃) E s:=by
  have h3:=holds_at K (a:=3) (o:=o3 (W b w).params) (by rfl)
  obtain ⟨o,fd,h766,hfd⟩:=o766_fn (W b w).params
  have hmap:=(o3_map _ h3).1
  have f1 : (lcScope (jnGen (bodyAt 26))).kind = .function:=by kernel_rfl
  have f2 : (lcScope (jnGen (bodyAt 26))).names.lookup (jnFq (jnGen (bodyAt 26))) = some .globalImplicit:=by kernel_rfl
  have f3 : (lcScope (jnGen (bodyAt 26))).names.lookup (jnXq (jnGen (bodyAt 26))) = some .local:=by kernel_rfl
  have f4 : (jnFq (jnGen (bodyAt 26)) == ("__debug__" : Str)) = false:=by kernel_rfl
  have f5 : (jnXq (jnGen (bodyAt 26)) == ("__debug__" : Str)) = false:=by kernel_rfl
  have f6 : jnXq (jnGen (bodyAt 26)) = jnX (jnGen (bodyAt 26)):=by kernel_rfl
  rw [e] at f1 f2 f3 f4 f5 f6 hmap
  have f6 : xq = x:=f6
  refine wpAny_Call_NameR (Calls.Name_function_global f1 f2 (Calls.loadGlobal_global (mg:=s.heap.nsMap 3) (.of_isNs (o3_ns _ h3)) hmap ?_) f4)
  refine Calls.callWith_function (o:=o) (fd:=fd) (Calls.evalArgs_plain (Calls.spliced_cons (wpAny_Name (wpAny_loadName_local f1 f3 hn (by rw [f6]; exact hm) (Calls.spliced_nil ⟨⟨holds_at K h766,hfd⟩,?_⟩)) f5)))
  obtain ⟨t,l,hl,rfl⟩:=strsV_get hvs hi
  rw [List.getElem?_map] at hl
  cases hf : fs[i]? with
  | none => rw [hf] at hl; cases hl
  | some f =>
    rw [hf] at hl
    cases hl
    exact wpAny_call ((hq f (List.mem_of_getElem? hf)).run t A v _ s hL hv K fun s' tk hk => ⟨⟨f,tk,rfl,rfl⟩,hk⟩)
end
noncomputable def jnText : List Fd → List Nat
  | [] => []
  | f :: l => f.text ++ tailOf l
theorem str_join : ∀ (l2:List Fd) (f:Fd),(Str.join (sx [32]) ((f :: l2).map fun f => sx f.text)).cps.toList = f.text ++ tailOf l2
  | [],f => by
    show f.text = f.text ++ []
    rw [List.append_nil]
  | g :: l2,f => by
    have ih:=str_join l2 g
    have e : Str.join (sx [32]) ((f :: g :: l2).map fun f => sx f.text) = sx f.text ++ sx [32] ++ Str.join (sx [32]) ((g :: l2).map fun f => sx f.text):=rfl
    rw [e]
    show ((sx f.text ++ sx [32] ++ _ : Str)).cps.toList = f.text ++ (32 :: (g.text ++ tailOf l2))
    rw [← ih]
    show ((sx f.text).cps ++ (sx [32]).cps ++ _ : Array Nat).toList = _
    simp
theorem txt_joinS (l2:List Fd) (f:Fd) : Txt.join (sx [32]) ((f :: l2).map fun f => sx f.text) = sx (f.text ++ tailOf l2):=by
  have h:=str_join l2 f
  unfold Txt.join
  rw [StrLaws.glued_eq_join]
  generalize Str.join (sx [32]) ((f :: l2).map fun f => sx f.text) = x at h
  obtain ⟨⟨l⟩⟩:=x
  have h : l = f.text ++ tailOf l2:=h
  rw [h]
theorem join_fits {l:List Fd} (h:∀ f ∈ l,f.text.length ≤ 100) (hl:l.length ≤ 100) : JoinOk (sx [32]) (l.map fun f => sx f.text) = true:=by
  have key : ∀ (l:List Fd) (acc:Nat),(∀ f ∈ l,f.text.length ≤ 100) → (l.map fun f => sx f.text).foldl (fun x1 x2 => x1 + x2.length + (sx [32]).length) acc ≤ acc + 101 * l.length:=by
    intro l
    induction l with
    | nil => intro acc _; exact Nat.le_refl _
    | cons f l ih =>
      intro acc h
      rw [List.map_cons,List.foldl_cons,List.length_cons]
      have h1:=ih (acc + (sx f.text).length + (sx [32]).length) fun g hg => h g (.tail _ hg)
      have h2:=h f (.head _)
      have e1 : (sx f.text).length = f.text.length:=rfl
      have e2 : (sx [32]).length = 1:=rfl
      omega
  have h1:=key l 0 h
  unfold JoinOk
  rw [show ((l.map fun f => sx f.text).toArray.foldl (fun x1 x2 => x1 + x2.length + (sx [32]).length) 0) = (l.map fun f => sx f.text).foldl (fun x1 x2 => x1 + x2.length + (sx [32]).length) 0 by simp]
  generalize List.foldl (fun x1 x2 => x1 + x2.length + (sx [32]).length) 0 (l.map fun f => sx f.text) = n at h1
  have : n ≤ 16777216:=by omega
  unfold Builtin.Str.tooLong
  simp only [Bool.not_eq_true',decide_eq_false_iff_not]
  have hz : sizeLine = 16777216:=rfl
  omega
noncomputable def tbO (more:Array Value) : Obj:={ cls:=.none,data:=.fields more }
theorem pass_all (n:Nat) : passing (fun _ => true) n 0 = List.range n:=by
  unfold passing
  simp
section
variable {b:Bool} {w:World} {A:Around} {R:Result → Shared → Prop} {v:Nat} {F:List (Addr × Obj)} {H:Heap} {s:Shared} (hL:Lv A v) (hv:v ≤ 290)
include hL hv
theorem join_ok {li:Addr} {vs:List Value} {k:Nat} {f:Fd} {l2:List Fd} (hvs:StrsV ((f :: l2).map Fd.cs) vs) (hq:∀ g ∈ f :: l2,Quoted b w g) (hl:∀ g ∈ f :: l2,g.text.length ≤ 100) (hn:l2.length ≤ 90)
    (D:Hp (W b w) H s.heap ((753,o753 (W b w).params) :: (li,liO vs k) :: F))
    (post:∀ (s':Shared) (t:Tok) (more:Array Value),s'.drawn = s.drawn → s'.os = s.os → (AllBare s.gens → AllBare s'.gens) → Hp (W b w) H s'.heap ((753,tbO more) :: (li,liO vs k) :: F) → R (.ok (.ret (.str (sx (f.text ++ tailOf l2)) t))) s') :
    codeAny (model P0 (W b w)) A (.call (.ref 758) ⟨[.ref li],[]⟩) R s:=by
  refine g_jn0 (F_:=(753,o753 (W b w).params) :: (li,liO vs k) :: F) li (fun _ _ _ h => nomatch h) (fun n T q hq => nm hq) hL (by omega) D fun s1 N1 => ?_
  have D1:=N1.hp
  have e1:=N1.drawn
  have e2:=N1.os
  have e4:=N1.gens
  generalize s.heap.objs.size = n1 at D1 ⊢
  generalize s.toks = t1 at D1 ⊢
  refine codeAny_func ?_
  obtain ⟨sep,k1,p1,nm,p2,fq,pq,xq,pr,p3,x,p4,sc,p5,it,p6,p7,p8,e⟩:=jn_shape (b:=bodyAt 26) (by kernel_rfl)
  have f1 : jnSep (bodyAt 26) = sx [32]:=by kernel_rfl
  have f2 : jnNm (bodyAt 26) = "join":=by kernel_rfl
  have f3 : jnLine (bodyAt 26) = true:=by kernel_rfl
  have g1 : (lcScope (jnGen (bodyAt 26))).kind = .function:=by kernel_rfl
  have g2 : (lcScope (jnGen (bodyAt 26))).isCoroutine = false:=by kernel_rfl
  have g3 : closureFor (lcScope (jnGen (bodyAt 26))) (jnEnv n1) = pure []:=by kernel_rfl
  have g4 : ((lcScope (jnGen (bodyAt 26))).names.all fun y => match y.2 with | .cell => false | _ => true) = true:=by kernel_rfl
  have g5 : (lcScope (jnGen (bodyAt 26))).names.lookup (".0" : Str) = some NameKind.local:=by kernel_rfl
  have g6 : (lcScope (jnGen (bodyAt 26))).names.lookup (jnX (jnGen (bodyAt 26))) = some NameKind.local:=by kernel_rfl
  have g7 : (jnEnv n1).kindOf (jnIt (jnGen (bodyAt 26))) = some NameKind.local:=by kernel_rfl
  have g8 : (jnIt (jnGen (bodyAt 26)) == ("__debug__" : Str)) = false:=by kernel_rfl
  have g9 : (jnEnv n1).scope.kind = .function:=by kernel_rfl
  have hfr : s1.heap.get? n1 = some (obO "frame" (dcD (W b w).params [((sx [115,112,108,105,116,95,99,111,109,109,97,110,100]),t1,.ref li)] (0 + 1))):=D1.own (n1,_) (.head _)
  have hns : s1.heap.isNs n1 = true:=ns_of hfr (by kernel_rfl)
  have hmp : s1.heap.nsMap n1 (jnIt (jnGen (bodyAt 26))) = some (.ref li):=by
    unfold Heap.nsMap
    rw [hfr]
    kernel_rfl
  rw [e] at f1 f2 f3 g1 g2 g3 g4 g5 g6 g7 g8 hmp ⊢
  have f1 : sep = sx [32]:=f1
  have f2 : nm = "join":=f2
  have g4' : ∀ y ∈ sc.names,y.2 ≠ .cell:=fun y hy z => by
    have:=List.all_eq_true.mp g4 y hy
    rw [z] at this
    cases this
  subst f1 f2
  have hA : (A.deeper (jnEnv n1)).handled = none:=hL.handled
  have hdp : (A.deeper (jnEnv n1)).depth = A.depth + 1:=rfl
  have hun : (A.deeper (jnEnv n1)).units = A.units + 3:=rfl
  have d1:=hL.depth
  have d2:=hL.units
  have hli : s1.heap.get? li = some (liO vs k):=D1.own (li,_) (.tail _ (.tail _ (.head _)))
  have h753 : s1.heap.get? 753 = some (o753 (W b w).params):=D1.own (753,_) (.tail _ (.head _))
  have hl7 : li ≠ 753:=fun z => by
    rw [z,h753] at hli
    have : (o753 (W b w).params).cls = (liO vs k).cls:=by rw [Option.some.inj hli]
    cases this
  have h3 : s1.heap.get? 3 = some (o3 (W b w).params):=holds_at D1.base (by rfl)
  refine wpAny_execs_cons (wpAny_Return_some (Call_method1 rfl rfl f3 (Calls.Constant_str ?_)))
  refine ⟨"str","str.join",PySem.F.plainAttrs_str,PySem.F.slot_str_join,PySem.F.type_str_join,typeIs_str _ _ _,(fun _ e => nomatch e),?_⟩
  refine Calls.callWith_builtin rfl (Calls.evalArgs_plain (Calls.spliced_cons ?_))
  refine wpAny_GeneratorExp_walksQD hA g2 g3 g4' g5 g6 g1 (by rw [hdp]; have : recursionLimit = 1000:=rfl; omega) ?_ (fun _ => rfl)
  refine wpAny_Name (wpAny_loadName_local g9 g7 (.of_isNs hns) hmp ?_) g8
  have hlL : s1.heap.IsList li ⟨vs⟩:=⟨_,hli,rfl,k,rfl⟩
  refine wpAny_pyIter_list hlL ⟨?_,?_⟩
  · exact noLimit0 _ (holds_of_keeps D1.base fun a o _ q => Heap.get?_push_of_some _ q)
  generalize hs2 : (s1.heap.push { cls:=.type "list_iterator",data:=.fields #[.ref li,.int 0 0] }) = H2
  have k2 : ∀ b o,s1.heap.get? b = some o → H2.get? b = some o:=fun b o e => by rw [← hs2]; exact Heap.get?_push_of_some _ e
  have z2 : H2.objs.size = s1.heap.objs.size + 1:=by rw [← hs2,Heap.size_push]
  have i2 : H2.get? s1.heap.objs.size = some { cls:=.type "list_iterator",data:=.fields #[.ref li,.int 0 0] }:=by rw [← hs2]; exact Heap.get?_push_size _ rfl
  have h757 : s1.heap.get? 757 = some (o757 (W b w).params):=holds_at D1.base (by rfl)
  have hcode : H2.IsCode 757 753 #[]:=⟨_,_,_,_,_,_,_,_,_,_,k2 _ _ h757,rfl,rfl,rfl,rfl,rfl,rfl,k2 _ _ h753,rfl,trivial,by decide⟩
  refine wpAny_genexprCodeX (c:=757) (P:=753) rfl hcode ⟨⟨_,_,k2 _ _ h757,rfl,rfl,rfl⟩,k2 _ _ h753⟩ rfl fun c' h3' tk3 hx3 _ _ hcode3 _ htab3 _ => ?_
  have k3 : ∀ b o,b ≠ 753 → H2.get? b = some o → h3'.get? b = some o:=hx3
  have k13 : ∀ b o,b ≠ 753 → s1.heap.get? b = some o → h3'.get? b = some o:=fun b o hb e => k3 b o hb (k2 b o e)
  have h3'':=k13 3 _ (by decide) h3
  have h4 : h3'.get? 4 = some (o4 (W b w).params):=k13 4 _ (by decide) (holds_at D1.base (by rfl))
  have h7':=htab3.2
  generalize (#[] ++ #[rawInt p6.line,rawInt p6.col,Value.ref c'] : Array Value) = more7 at h7'
  have D3 : Hp (W b w) H h3' ((753,tbO more7) :: (li,liO vs k) :: F):=(D1.subl (List.sublist_cons_self _ _)).grow (fun b o e hb => k13 b o hb e) h7'
  have lt1 : ∀ b o,s1.heap.get? b = some o → b < s1.heap.objs.size:=fun b o e => Heap.lt_size e
  have i3:=k3 _ _ (Nat.ne_of_gt (lt1 _ _ h753)) i2
  have zI : s1.heap.objs.size < h3'.objs.size:=Heap.lt_size i3
  have hne : li ≠ s1.heap.objs.size:=Nat.ne_of_lt (lt1 _ _ hli)
  refine wpAny_builtinsFor (m:=h3'.nsMap 3) (bm:=4) (o:=o4 (W b w).params) (.of_isNs (o3_ns _ h3'')) (o3_map _ h3'').2 (by decide) h4 rfl rfl rfl ?_
  have hli3 : h3'.IsList li ⟨vs⟩:=⟨_,k13 _ _ hl7 hli,rfl,k,rfl⟩
  refine ⟨s1.heap.objs.size,[s1.heap.objs.size,li],[s1.heap.objs.size],vs.length,fun i v => (⟨vs⟩ : Array Value)[i]? = some v,fun i h => h.IsListIter s1.heap.objs.size li i ∧ h.IsList li ⟨vs⟩,fun _ => true,fun i y => ∃ g u,(f :: l2)[i]? = some g ∧ y = .str (sx g.text) u,rfl,fun A' hA => Walks.list hA _ _ hne ⟨vs⟩,⟨⟨_,i3,rfl,rfl⟩,hli3⟩,?_,noLimit0 _ D3.base,?_,fun href hkr => ⟨?_,?_⟩,fun a h₅ tk gs hbare hag hz5 hk5 WS hat => ?_⟩
  · intro b hb
    show b < h3'.objs.size
    rcases List.mem_cons.mp hb with rfl | hb
    · exact zI
    · cases List.mem_singleton.mp hb
      exact Heap.lt_size (k13 _ _ hl7 hli)
  · intro hm
    have q : s1.heap.get? cStatics = some (o2 (W b w).params):=holds_at D1.base (by rfl)
    exact Nat.lt_irrefl _ (Nat.lt_of_lt_of_eq (lt1 _ _ q) (List.mem_singleton.mp hm).symm)
  · intro A' E' i v s₂ m₂ _ _ _ _ _ _ _
    exact wpAny_pure ⟨rfl,s₂.heap,s₂.toks,rfl,fun _ _ e => e⟩
  · intro A' E' i v2 s₂ m₂ hh hd hu hPi _ hn2 hm2 hk2
    refine jn_elt e hq hvs (A:=A') (v:=v + 10) ⟨by omega,by omega,hh⟩ (by omega) (by rw [List.getElem?_toArray] at hPi; exact hPi) hn2 hm2 ?_
    refine holds_of_keeps D3.base fun a o e q => ?_
    refine hk2 a (List.mem_range.mpr (Heap.lt_size q)) (fun hm => ?_) o (hkr a o q)
    have:=List.mem_singleton.mp hm
    subst this
    have q1:=holds_at D1.base e
    exact absurd (lt1 _ _ q1) (Nat.lt_irrefl _)
  rw [pass_all] at WS
  refine Calls.spliced_nil ?_
  have hz1 : s1.heap.objs.size + 1 ≤ h3'.objs.size:=zI
  refine SC.joinGen (WalksS.in4_2 WS) (fun i s' st => st.1.typeIs) hat ?_ (.head _) (fun j y hj => ?_) (fun s' lt hm hacc => ?_) (by rw [List.length_range,strsV_len hvs]; simp only [List.length_map,List.length_cons]; have hz : sizeLine = 16777216:=rfl; omega)
  · intro b hb
    show b < h₅.objs.size
    have hag : h3'.objs.size < a:=hag
    rw [hz5]
    rcases List.mem_cons.mp hb with e0 | hb
    · rw [e0]; exact Nat.lt_succ_self _
    · rcases List.mem_cons.mp hb with e0 | hb
      · rw [e0]; exact Nat.lt_succ_of_lt hag
      · exact Nat.lt_succ_of_lt (Nat.lt_trans (List.mem_range.mp hb) hag)
  · obtain ⟨i,_,g,u,_,e⟩:=hj
    exact ⟨_,u,e⟩
  · have hl1 : (lt.map (·.1)) = (f :: l2).map fun f => sx f.text:=by
      have hz:=hacc.1
      rw [List.length_range,strsV_len hvs,List.length_map] at hz
      have hz : lt.length = (f :: l2).length:=by
        have : (strValues lt).toArray.size = (f :: l2).length:=hz
        rw [List.size_toArray] at this
        unfold strValues at this
        rw [List.length_map] at this
        exact this
      refine List.ext_getElem? fun j => ?_
      rw [List.getElem?_map,List.getElem?_map]
      cases q : lt[j]? with
      | none =>
        have : (f :: l2)[j]? = none:=by
          rw [List.getElem?_eq_none_iff] at q ⊢
          omega
        rw [this]; rfl
      | some p =>
        have h1 : (strValues lt).toArray[j]? = some (.str p.1 p.2):=by
          rw [List.getElem?_toArray]
          unfold strValues
          rw [List.getElem?_map,q]; rfl
        obtain ⟨i,hi,g,u,hg,e⟩:=hacc.2 j _ h1
        rw [List.getElem?_range] at hi
        · cases hi
          injection e with e _
          rw [hg]
          show some p.1 = some (sx g.text)
          rw [e]
        · have:=(List.getElem?_eq_some_iff.mp q).1
          rw [strsV_len hvs,List.length_map]
          omega
    rw [hl1]
    refine ⟨join_fits hl (by simp only [List.length_cons]; omega),fun t' k' => ?_⟩
    rw [txt_joinS]
    have hkeep : ∀ b o,h3'.get? b = some o → b ≠ h3'.objs.size → b ≠ s1.heap.objs.size → s'.heap.get? b = some o:=fun b o e q1 q2 => hm.heap b o (fun hb => by
      rcases List.mem_cons.mp hb with z | hb
      · exact q1 z
      · exact q2 (List.mem_singleton.mp hb)) (hk5 b o e)
    refine post _ t' more7 (hm.drawn.trans e1) (hm.os.trans e2) (fun hb => hm.gens.bare ((show AllBare s1.gens from e4 ▸ hb).push hbare)) ?_
    refine (D1.subl (List.sublist_cons_self _ _)).grow (h':=s'.heap) (fun b o e hb => ?_) ?_
    · exact hkeep b o (k13 b o hb e) (Nat.ne_of_lt (Heap.lt_size (k13 b o hb e))) (Nat.ne_of_lt (lt1 _ _ e))
    · exact hkeep 753 _ h7' (Nat.ne_of_lt (Heap.lt_size h7')) (Nat.ne_of_lt (lt1 _ _ h753))
end
noncomputable abbrev aZ (z:Int) : Int:=Int.fmod (Int.fdiv z (Int.ofNat 5)) (Int.ofNat 4)
noncomputable abbrev bZ (z:Int) : Int:=Int.fmod (Int.fdiv z (Int.ofNat 20)) (Int.ofNat 4)
noncomputable def aN (z:Int) : Nat:=(aZ z).toNat
noncomputable def bN (z:Int) : Nat:=(bZ z).toNat
theorem fmod4 (x:Int) : Int.fmod x (Int.ofNat 4) = ((Int.fmod x (Int.ofNat 4)).toNat : Int) ∧ (Int.fmod x (Int.ofNat 4)).toNat ≤ 3:=by
  have h1 : (0 : Int) ≤ Int.fmod x (Int.ofNat 4):=Int.fmod_nonneg_of_pos _ (by decide)
  have h2 : Int.fmod x (Int.ofNat 4) < Int.ofNat 4:=Int.fmod_lt_of_pos _ (by decide)
  have h3 : Int.ofNat 4 = 4:=rfl
  omega
theorem aZ_eq (z:Int) : aZ z = (aN z:Int):=(fmod4 _).1
theorem bZ_eq (z:Int) : bZ z = (bN z:Int):=(fmod4 _).1
theorem aN_le (z:Int) : aN z ≤ 3:=(fmod4 _).2
theorem bN_le (z:Int) : bN z ≤ 3:=(fmod4 _).2
noncomputable def padT (p:Nat) (y:List Nat) (q:Nat) : List Nat:=List.replicate p 32 ++ (y ++ List.replicate q 32)
theorem padT_len (p:Nat) (y:List Nat) (q:Nat) : (padT p y q).length = p + (y.length + q):=by simp [padT]
noncomputable def fz (z:Int) : List Nat:=fmText (Int.ofNat 32768 + Int.fmod z (Int.ofNat 4096))
theorem fz_len (z:Int) : (fz z).length = 10:=rfl
noncomputable def fld (z:Int) : List Nat:=padT (aN z) (fz z) (bN z)
theorem fld_len (z:Int) : (fld z).length ≤ 16:=by
  unfold fld
  rw [padT_len,fz_len]
  have:=aN_le z
  have:=bN_le z
  omega
theorem mode_reg : ∀ r : Fin 4096,(Builtin.bitAnd (Int.ofNat 32768 + Int.ofNat r.val) 61440 == 32768) = true:=by decide +kernel
theorem mode_ok (z:Int) : (Builtin.bitAnd (Int.ofNat 32768 + Int.fmod z (Int.ofNat 4096)) 61440 == 32768) = true:=by
  have h1 : (0 : Int) ≤ Int.fmod z (Int.ofNat 4096):=Int.fmod_nonneg_of_pos _ (by decide)
  have h2 : Int.fmod z (Int.ofNat 4096) < Int.ofNat 4096:=Int.fmod_lt_of_pos _ (by decide)
  obtain ⟨r,hr⟩:=Int.eq_ofNat_of_zero_le h1
  have h3 : r < 4096:=by
    rw [hr] at h2
    have : Int.ofNat 4096 = 4096:=rfl
    omega
  rw [hr]
  exact mode_reg ⟨r,h3⟩
theorem srep_eq (n:Nat) : srep (sx [32]) (n:Int) = sx (List.replicate n 32):=by
  unfold srep
  rw [Int.toNat_natCast]
  rfl
theorem catL (x y:List Nat) : cat (sx x) (sx y) = sx (x ++ y):=rfl
theorem slenL (x:List Nat) : slen (sx x) = x.length:=rfl
theorem ble_of {n:Nat} (h:n ≤ 1000) : Nat.ble n 16777216 = true:=Nat.ble_eq_true_of_le (by omega)
section
variable {b:Bool} {w:World} {A:Around} {R:Result → Shared → Prop} {v:Nat} {F:List (Addr × Obj)} {H:Heap} {s:Shared} (hL:Lv A v) (hv:v ≤ 430)
include hL hv
theorem field_ok {z:Int} {tz:Tok} (D:Hp (W b w) H s.heap F)
    (post:∀ (s':Shared) (t:Tok),Sm s s' → Hp (W b w) H s'.heap F → R (.ok (.ret (.str (sx (fld z)) t))) s') : codeAny (model P0 (W b w)) A (.call (.ref 820) ⟨[.int z tz],[]⟩) R s:=by
  have ea:=aZ_eq z
  have eb:=bZ_eq z
  have la:=aN_le z
  have lb:=bN_le z
  have c1 : decide ((aN z:Int) < Int.ofNat 1024) = true:=decide_eq_true (by have:Int.ofNat 1024 = 1024:=rfl; omega)
  have c2 : decide (Int.negSucc 1023 < (aN z:Int)) = true:=decide_eq_true (by have:Int.negSucc 1023 = -1024:=rfl; omega)
  have c3 : decide ((bN z:Int) < Int.ofNat 1024) = true:=decide_eq_true (by have:Int.ofNat 1024 = 1024:=rfl; omega)
  have c4 : decide (Int.negSucc 1023 < (bN z:Int)) = true:=decide_eq_true (by have:Int.negSucc 1023 = -1024:=rfl; omega)
  refine g_fl0 (F_:=F) z tz (fun n T y hy => nm hy) (fun n T => all_pairs ?_) hL (by omega) D fun A1 s1 L1 N1 M1 => ?_
  · unfold b_fl0
    simp only [ea,c1,c2]
    rfl
  have D1:=N1.hp
  generalize s.heap.objs.size = n0 at D1 M1 ⊢
  generalize hT : s.toks = T0 at D1 M1 ⊢
  generalize s.gens.toList = g0 at M1 ⊢
  refine fm_ok L1 (by omega) (mode_ok z) D1 fun s2 t2 S2 D2 => ?_
  refine g_fl1 (F_:=F) n0 T0 g0 z tz (fz z) t2 (fun n T y hy => nm hy) (fun n T => all_pairs ?_) (M1.sm S2) (by omega) D2 fun s3 N3 => ?_
  · unfold b_fl1
    have d1 : Nat.ble (slen (cat (cat (srep (sx [32]) (aN z:Int)) (sx (fz z))) (srep (sx [32]) (bN z:Int)))) 16777216 = true:=by
      rw [srep_eq,srep_eq,catL,catL,slenL]
      exact ble_of (by simp [fz_len]; omega)
    have d2 : Nat.ble (slen (cat (srep (sx [32]) (aN z:Int)) (sx (fz z)))) 16777216 = true:=by
      rw [srep_eq,catL,slenL]
      exact ble_of (by simp [fz_len]; omega)
    simp only [ea,eb,c3,c4,d1,d2]
    rfl
  have e : cat (cat (srep (sx [32]) (aZ z)) (sx (fz z))) (srep (sx [32]) (bZ z)) = sx (fld z):=by
    rw [ea,eb,srep_eq,srep_eq,catL,catL,List.append_assoc]
    rfl
  have k:=post s3
  rw [← e] at k
  exact k _ ((N1.sm.trans S2).trans N3.sm) N3.hp
end
theorem padT_get0 {p q:Nat} {y:List Nat} {i:Nat} (h:i < p) : (padT p y q)[i]? = some 32:=by
  unfold padT
  rw [List.getElem?_append_left (by simpa using h)]
  simp [h]
theorem padT_get1 {p q:Nat} {c:Nat} {y:List Nat} : (padT p (c :: y) q)[p]? = some c:=by
  unfold padT
  rw [List.getElem?_append_right (by simp)]
  simp
theorem padT_get2 {p q:Nat} {y:List Nat} {i:Nat} (h:i < q) : (padT p y q)[(padT p y q).length - 1 - i]? = some 32:=by
  have e:=padT_len p y q
  rw [e]
  unfold padT
  rw [← List.append_assoc,List.getElem?_append_right (by simp; omega)]
  rw [List.getElem?_replicate]
  rw [if_pos (by simp; omega)]
theorem padT_cut {p q t1 t2:Nat} {y:List Nat} (h1:t1 ≤ p) (h2:t2 ≤ q) : ((padT p y q).drop t1).take ((padT p y q).length - t1 - t2) = padT (p - t1) y (q - t2):=by
  rw [padT_len]
  unfold padT
  rw [List.drop_append_of_le_length (by simpa using h1),List.drop_replicate,← List.append_assoc,List.take_append,List.take_of_length_le (by simp; omega),List.append_assoc,List.take_replicate]
  congr 3
  simp
  omega
theorem strip_pad {b:Bool} {w:World} {p q n c:Nat} {y:List Nat} {ts:Tok} (hc:c ≠ 32) (hn:n ≤ p + q) (hz:p + (y.length + 1 + q) ≤ 1000) :
    ∃ (di:Nat) (tk:Tok → Tok),∀ n' T lv ta,(s_strip (padT p (c :: y) q) ts n ta (padT (p - n) (c :: y) (q - (n - p))) di tk).Ok (G0 (W b w) n' T lv):=by
  have hl:=padT_len p (c :: y) q
  rw [List.length_cons] at hl
  have hm : n = min n p + (n - p):=by omega
  obtain ⟨di,tk,h⟩:=strip_ok (b:=b) (w:=w) (x:=padT p (c :: y) q) (ts:=ts) (a:=n) (t1:=min n p) (t2:=n - p) (by omega) hm
    (fun i hi => padT_get0 (by omega)) (fun i hi => padT_get2 (by omega)) (by omega) (by
      by_cases hp : n ≤ p
      · exact .inl (by omega)
      · refine .inr ?_
        rw [show min n p = p by omega,padT_get1]
        intro z
        injection z with z
        exact hc z)
  refine ⟨di,tk,fun n' T lv ta => ?_⟩
  have z:=h n' T lv ta
  rw [padT_cut (by omega) (by omega),show p - min n p = p - n by omega] at z
  exact z
theorem stripZ_ok {b:Bool} {w:World} {x res:List Nat} {ts ta:Tok} {z:Int} {a di:Nat} {tk:Tok → Tok} {n T lv:Nat} (e:z = (a:Int)) (h:(s_strip x ts a ta res di tk).Ok (G0 (W b w) n T lv)) : (s_stripZ x ts z ta res di tk).Ok (G0 (W b w) n T lv):=by
  subst e
  exact h
noncomputable def rwT (p:Nat) (y:List Nat) (q:Nat) : List (List Nat):=(List.range (p + q + 1)).map fun j => padT (p - j) y (q - (j - p))
theorem rwT_len (p:Nat) (y:List Nat) (q:Nat) : (rwT p y q).length = p + q + 1:=by simp [rwT]
def amO (P:Params) (t:Tok) (v:Value) : Obj:=dcO P [(sx [97,109,111,117,110,116],t,v)] 1
theorem StrsV.app {l l':List (List Nat)} {v v':List Value} (h:StrsV l v) (h':StrsV l' v') : StrsV (l ++ l') (v ++ v'):=by
  induction h with
  | nil => exact h'
  | cons _ ih => exact .cons ih
section
variable {b:Bool} {w:World} {A:Around} {R:Result → Shared → Prop} {v:Nat} {F:List (Addr × Obj)} {H:Heap} (hL:Lv A v) (hv:v ≤ 330)
include hL hv
theorem row_turns {L it acc C fl:Addr} {fs:List Value} {kf i p q c:Nat} {tk tx:Tok} {y:List Nat} (hc:c ≠ 32) (hz:p + (y.length + 1 + q) ≤ 900) (hi:i ≤ 1000) (hx:fs[i]? = some (.str (sx (padT p (c :: y) q)) tx)) :
    ∀ (m j k:Nat) (l:List Value) (t0:Tok) (v0:Value) (s:Shared),j + m = p + q + 1 → l.length = j → StrsV ((List.range j).map fun j => padT (p - j) (c :: y) (q - (j - p))) l →
      Hp (W b w) H s.heap ((it,riO (Int.ofNat j) (Int.ofNat m)) :: (L + 3,ceO (some (.int (Int.ofNat i) tk))) :: (L + 2,ceO (some (.ref fl))) :: (fl,liO fs kf) :: (acc,liO l k) :: (C,amO (W b w).params t0 v0) :: F) →
      (∀ (s':Shared) (l':List Value) (k':Nat) (t1:Tok) (v1:Value),Sm s s' → StrsV (rwT p (c :: y) q) l' → Hp (W b w) H s'.heap ((L + 3,ceO (some (.int (Int.ofNat i) tk))) :: (L + 2,ceO (some (.ref fl))) :: (fl,liO fs kf) :: (acc,liO l' k') :: (C,amO (W b w).params t1 v1) :: F) → R (.ok .next) s') →
      codeAny (model P0 (W b w)) A (tlC1 L it acc C) R s:=by
  intro m
  induction m with
  | zero =>
    intro j k l t0 v0 s hj hl hs D post
    have hj : j = p + q + 1:=hj
    refine g_tce (F_:=(L + 3,ceO (some (.int (Int.ofNat i) tk))) :: (L + 2,ceO (some (.ref fl))) :: (fl,liO fs kf) :: (acc,liO l k) :: (C,amO (W b w).params t0 v0) :: F) L it acc C j (fun n T y hy => nm hy) (fun n T q hq => nm hq) hL (by omega) D fun s1 N1 => ?_
    subst hj
    exact post s1 l k t0 v0 N1.sm hs N1.hp
  | succ m ih =>
    intro j k l t0 v0 s hj hl hs D post
    obtain ⟨di,tr,ok⟩:=strip_pad (b:=b) (w:=w) (p:=p) (q:=q) (n:=j) (y:=y) (ts:=tx) hc (by omega) (by omega)
    have e1 : Int.ofNat j + 1 = Int.ofNat (j + 1):=rfl
    have e2 : Int.ofNat (m + 1) - 1 = Int.ofNat m:=by show ((m + 1 : Nat) : Int) - 1 = (m:Int); omega
    refine g_tcb (F_:=F) L it acc C fl fs l kf k i j (Int.ofNat (m + 1)) tk 0 (padT p (c :: y) q) (padT (p - j) (c :: y) (q - (j - p))) tx di tr t0 v0 (fun n T y hy => ?_) (fun n T q hq => nm hq) hL (by omega) D fun s1 N1 => ?_
    · rcases List.mem_cons.mp hy with rfl | hy
      · exact ok_rnext (by show (0 : Int) < ((m + 1 : Nat) : Int); omega)
      · rcases List.mem_cons.mp hy with rfl | hy
        · exact ok_get hi hx
        · rcases List.mem_cons.mp hy with rfl | hy
          · exact ok _ _ _ _
          · cases List.mem_singleton.mp hy
            exact ok_app (by omega)
    have D1:=N1.hp
    simp only [e1,e2] at D1
    generalize s.toks = T0 at D1
    refine ih (j + 1) (k + 1) _ _ _ s1 (by omega) (by rw [List.length_append,hl]; rfl) ?_ D1 fun s2 l' k' t1 v1 S2 h2 D2 => post s2 l' k' t1 v1 (N1.sm.trans S2) h2 D2
    rw [List.range_succ,List.map_append]
    exact hs.app (.cons .nil)
theorem row_loop {L it acc C fl:Addr} {fs:List Value} {kf i p q c k:Nat} {tk tx:Tok} {y:List Nat} {s:Shared} (hc:c ≠ 32) (hz:p + (y.length + 1 + q) ≤ 900) (hi:i ≤ 1000) (hx:fs[i]? = some (.str (sx (padT p (c :: y) q)) tx))
    (D:Hp (W b w) H s.heap ((it,riO 0 (Int.ofNat (p + q + 1))) :: (L + 3,ceO (some (.int (Int.ofNat i) tk))) :: (L + 2,ceO (some (.ref fl))) :: (fl,liO fs kf) :: (acc,liO [] k) :: (C,dcO (W b w).params [] 0) :: F))
    (post:∀ (s':Shared) (l':List Value) (k':Nat) (t1:Tok) (v1:Value),Sm s s' → StrsV (rwT p (c :: y) q) l' → Hp (W b w) H s'.heap ((L + 3,ceO (some (.int (Int.ofNat i) tk))) :: (L + 2,ceO (some (.ref fl))) :: (fl,liO fs kf) :: (acc,liO l' k') :: (C,amO (W b w).params t1 v1) :: F) → R (.ok .next) s') :
    codeAny (model P0 (W b w)) A (tlC1 L it acc C) R s:=by
  obtain ⟨di,tr,ok⟩:=strip_pad (b:=b) (w:=w) (p:=p) (q:=q) (n:=0) (y:=y) (ts:=tx) hc (by omega) (by omega)
  have e2 : Int.ofNat (p + q + 1) - 1 = Int.ofNat (p + q):=by show ((p + q + 1 : Nat) : Int) - 1 = ((p + q : Nat) : Int); omega
  refine g_tca (F_:=F) L it acc C fl fs [] kf k i 0 (Int.ofNat (p + q + 1)) tk 0 (padT p (c :: y) q) (padT (p - 0) (c :: y) (q - (0 - p))) tx di tr (fun n T y hy => ?_) (fun n T q hq => nm hq) hL (by omega) D fun s1 N1 => ?_
  · rcases List.mem_cons.mp hy with rfl | hy
    · exact ok_rnext (by show (0 : Int) < ((p + q + 1 : Nat) : Int); omega)
    · rcases List.mem_cons.mp hy with rfl | hy
      · exact ok_get hi hx
      · rcases List.mem_cons.mp hy with rfl | hy
        · exact ok _ _ _ _
        · cases List.mem_singleton.mp hy
          exact ok_app (by show 0 ≤ 1000; omega)
  have D1:=N1.hp
  simp only [e2] at D1
  generalize s.toks = T0 at D1
  refine row_turns hL hv hc hz hi hx (p + q) 1 (k + 1) _ _ _ s1 (by omega) rfl ?_ D1 fun s2 l' k' t1 v1 S2 h2 D2 => post s2 l' k' t1 v1 (N1.sm.trans S2) h2 D2
  exact .cons .nil
omit hL hv in
theorem strsV_at : ∀ {ls:List (List Nat)} {vs:List Value},StrsV ls vs → ∀ {i:Nat} {l:List Nat},ls[i]? = some l → ∃ t,vs[i]? = some (.str (sx l) t)
  | _,_,.nil,i,v,h => by cases i <;> cases h
  | _,_,.cons (f:=f) (t:=t) r,0,v,h => by
    cases h
    exact ⟨t,rfl⟩
  | _,_,.cons r,i + 1,v,h => strsV_at r h
omit hL hv in
theorem rwT_at {p q j:Nat} {y:List Nat} (h:j ≤ p + q) : (rwT p y q)[j]? = some (padT (p - j) y (q - (j - p))):=by
  unfold rwT
  rw [List.getElem?_map,List.getElem?_range (by omega)]
  rfl
omit hL hv in
theorem seqs_same (l:List Nat) : seqs (sx l) (sx l) = true:=by
  unfold seqs
  exact beq_self_eq_true _
theorem half_turns {L it acc C ro cl:Addr} {rs cs:List Value} {kr kc i p q c:Nat} {tk tc:Tok} {y:List Nat} (hc:c ≠ 32) (hz:p + (y.length + 1 + q) ≤ 900) (hi:i ≤ 1000) (hr:StrsV (rwT p (c :: y) q) rs) (hx:cs[i]? = some (.int (Int.ofNat (p + q)) tc)) :
    ∀ (m j k:Nat) (t0:Tok) (v0:Value) (s:Shared),j + m = p + q + 1 →
      Hp (W b w) H s.heap ((it,riO (Int.ofNat j) (Int.ofNat m)) :: (L + 4,ceO (some (.ref ro))) :: (ro,liO rs kr) :: (L + 1,ceO (some (.ref cl))) :: (L + 3,ceO (some (.int (Int.ofNat i) tk))) :: (cl,liO cs kc) :: (acc,liO (List.replicate j (.bool true)) k) :: (C,amO (W b w).params t0 v0) :: F) →
      (∀ (s':Shared) (k':Nat) (t1:Tok) (v1:Value),Sm s s' → Hp (W b w) H s'.heap ((L + 4,ceO (some (.ref ro))) :: (ro,liO rs kr) :: (L + 1,ceO (some (.ref cl))) :: (L + 3,ceO (some (.int (Int.ofNat i) tk))) :: (cl,liO cs kc) :: (acc,liO (List.replicate (p + q + 1) (.bool true)) k') :: (C,amO (W b w).params t1 v1) :: F) → R (.ok .next) s') →
      codeAny (model P0 (W b w)) A (tlC2 L it acc C) R s:=by
  intro m
  induction m with
  | zero =>
    intro j k t0 v0 s hj D post
    have hj : j = p + q + 1:=hj
    refine g_tde (F_:=(L + 4,ceO (some (.ref ro))) :: (ro,liO rs kr) :: (L + 1,ceO (some (.ref cl))) :: (L + 3,ceO (some (.int (Int.ofNat i) tk))) :: (cl,liO cs kc) :: (acc,liO (List.replicate j (.bool true)) k) :: (C,amO (W b w).params t0 v0) :: F) L it acc C j (fun n T y hy => nm hy) (fun n T q hq => nm hq) hL (by omega) D fun s1 N1 => ?_
    subst hj
    exact post s1 k t0 v0 N1.sm N1.hp
  | succ m ih =>
    intro j k t0 v0 s hj D post
    obtain ⟨tx,hxj⟩:=strsV_at hr (rwT_at (j:=j) (by omega))
    obtain ⟨tl,hxl⟩:=strsV_at hr (rwT_at (j:=p + q) (by omega))
    have hlen:=strsV_len hr
    rw [rwT_len] at hlen
    obtain ⟨di,tr,ok⟩:=strip_pad (b:=b) (w:=w) (p:=p - j) (q:=q - (j - p)) (n:=p + q - j) (y:=y) (ts:=tx) hc (by omega) (by omega)
    rw [show p - j - (p + q - j) = 0 by omega,show q - (j - p) - (p + q - j - (p - j)) = 0 by omega] at ok
    rw [show p - (p + q) = 0 by omega,show q - (p + q - p) = 0 by omega] at hxl
    have e1 : Int.ofNat j + 1 = Int.ofNat (j + 1):=rfl
    have e2 : Int.ofNat (m + 1) - 1 = Int.ofNat m:=by show ((m + 1 : Nat) : Int) - 1 = (m:Int); omega
    have e3 : Int.ofNat (p + q) - Int.ofNat j = ((p + q - j : Nat) : Int):=by show ((p + q : Nat) : Int) - (j:Int) = _; omega
    refine g_tdb (F_:=F) L it acc C ro cl rs cs (List.replicate j (.bool true)) kr kc k i j (Int.ofNat (m + 1)) (Int.ofNat (p + q)) tc tk (padT (p - j) (c :: y) (q - (j - p))) (padT 0 (c :: y) 0) (padT 0 (c :: y) 0) tx tl di tr t0 v0 (fun n T y hy => ?_) (fun n T => all_pairs ?_) hL (by omega) D fun s1 N1 => ?_
    · rcases List.mem_cons.mp hy with rfl | hy
      · exact ok_rnext (by show (0 : Int) < ((m + 1 : Nat) : Int); omega)
      · rcases List.mem_cons.mp hy with rfl | hy
        · exact ok_get (by omega) hxj
        · rcases List.mem_cons.mp hy with rfl | hy
          · exact ok_get hi hx
          · rcases List.mem_cons.mp hy with rfl | hy
            · exact stripZ_ok e3 (ok _ _ _ _)
            · rcases List.mem_cons.mp hy with rfl | hy
              · exact ok_last (by rw [List.getLast?_eq_getElem?,hlen]; exact hxl)
              · cases List.mem_singleton.mp hy
                exact ok_app (by rw [List.length_replicate]; omega)
    · unfold b_tdb
      simp only [seqs_same]
      rfl
    have D1:=N1.hp
    simp only [e1,e2] at D1
    generalize s.toks = T0 at D1
    rw [show List.replicate j (Value.bool true) ++ [.bool true] = List.replicate (j + 1) (.bool true) by rw [List.replicate_succ']] at D1
    exact ih (j + 1) (k + 1) _ _ s1 (by omega) D1 fun s2 k' t1 v1 S2 D2 => post s2 k' t1 v1 (N1.sm.trans S2) D2
theorem half_loop {L it acc C ro cl:Addr} {rs cs:List Value} {kr kc i p q c k:Nat} {tk tc:Tok} {y:List Nat} {s:Shared} (hc:c ≠ 32) (hz:p + (y.length + 1 + q) ≤ 900) (hi:i ≤ 1000) (hr:StrsV (rwT p (c :: y) q) rs) (hx:cs[i]? = some (.int (Int.ofNat (p + q)) tc))
    (D:Hp (W b w) H s.heap ((it,riO 0 (Int.ofNat (p + q + 1))) :: (L + 4,ceO (some (.ref ro))) :: (ro,liO rs kr) :: (L + 1,ceO (some (.ref cl))) :: (L + 3,ceO (some (.int (Int.ofNat i) tk))) :: (cl,liO cs kc) :: (acc,liO [] k) :: (C,dcO (W b w).params [] 0) :: F))
    (post:∀ (s':Shared) (k':Nat) (t1:Tok) (v1:Value),Sm s s' → Hp (W b w) H s'.heap ((L + 4,ceO (some (.ref ro))) :: (ro,liO rs kr) :: (L + 1,ceO (some (.ref cl))) :: (L + 3,ceO (some (.int (Int.ofNat i) tk))) :: (cl,liO cs kc) :: (acc,liO (List.replicate (p + q + 1) (.bool true)) k') :: (C,amO (W b w).params t1 v1) :: F) → R (.ok .next) s') :
    codeAny (model P0 (W b w)) A (tlC2 L it acc C) R s:=by
  obtain ⟨tx,hxj⟩:=strsV_at hr (rwT_at (j:=0) (by omega))
  obtain ⟨tl,hxl⟩:=strsV_at hr (rwT_at (j:=p + q) (by omega))
  have hlen:=strsV_len hr
  rw [rwT_len] at hlen
  obtain ⟨di,tr,ok⟩:=strip_pad (b:=b) (w:=w) (p:=p - 0) (q:=q - (0 - p)) (n:=p + q - 0) (y:=y) (ts:=tx) hc (by omega) (by omega)
  rw [show p - 0 - (p + q - 0) = 0 by omega,show q - (0 - p) - (p + q - 0 - (p - 0)) = 0 by omega] at ok
  rw [show p - (p + q) = 0 by omega,show q - (p + q - p) = 0 by omega] at hxl
  have e2 : Int.ofNat (p + q + 1) - 1 = Int.ofNat (p + q):=by show ((p + q + 1 : Nat) : Int) - 1 = ((p + q : Nat) : Int); omega
  have e3 : Int.ofNat (p + q) - Int.ofNat 0 = ((p + q - 0 : Nat) : Int):=by show ((p + q : Nat) : Int) - 0 = _; omega
  refine g_tda (F_:=F) L it acc C ro cl rs cs [] kr kc k i 0 (Int.ofNat (p + q + 1)) (Int.ofNat (p + q)) tc tk (padT (p - 0) (c :: y) (q - (0 - p))) (padT 0 (c :: y) 0) (padT 0 (c :: y) 0) tx tl di tr (fun n T y hy => ?_) (fun n T => all_pairs ?_) hL (by omega) D fun s1 N1 => ?_
  · rcases List.mem_cons.mp hy with rfl | hy
    · exact ok_rnext (by show (0 : Int) < ((p + q + 1 : Nat) : Int); omega)
    · rcases List.mem_cons.mp hy with rfl | hy
      · exact ok_get (by omega) hxj
      · rcases List.mem_cons.mp hy with rfl | hy
        · exact ok_get hi hx
        · rcases List.mem_cons.mp hy with rfl | hy
          · exact stripZ_ok e3 (ok _ _ _ _)
          · rcases List.mem_cons.mp hy with rfl | hy
            · exact ok_last (by rw [List.getLast?_eq_getElem?,hlen]; exact hxl)
            · cases List.mem_singleton.mp hy
              exact ok_app (by show 0 ≤ 1000; omega)
  · unfold b_tda
    simp only [seqs_same]
    rfl
  have D1:=N1.hp
  simp only [e2] at D1
  generalize s.toks = T0 at D1
  exact half_turns hL hv hc hz hi hr hx (p + q) 1 (k + 1) _ _ s1 (by omega) D1 fun s2 k' t1 v1 S2 D2 => post s2 k' t1 v1 (N1.sm.trans S2) D2
end
structure It where
  tp : Addr
  ro : Addr
  hv : Addr
  x : List Nat
  tx : Tok
  rs : List Value
  kr : Nat
  kh : Nat
  m : Nat
def itObs (t:It) : List (Addr × Obj):=[(t.tp,tupO [.str (sx t.x) t.tx,.ref t.ro,.ref t.hv] 0),(t.ro,liO t.rs t.kr),(t.hv,liO (List.replicate t.m (.bool true)) t.kh)]
structure It.For (t:It) (z:Int) : Prop where
  x : t.x = fld z
  rs : StrsV (rwT (aN z) (fz z) (bN z)) t.rs
  m : t.m = aN z + bN z + 1
noncomputable def fzT (z:Int) : List Nat:=(fz z).tail
theorem fz_cons (z:Int) : fz z = 45 :: fzT z:=rfl
theorem tlE1_lc : isLc tlE1 = true:=by kernel_rfl
theorem tlE2_lc : isLc tlE2 = true:=by kernel_rfl
theorem own_of {w:World} {H h:Heap} {S:List (Addr × Obj)} (D:Hp w H h S) {a:Addr} {o:Obj} (hm:(a,o) ∈ S) : h.get? a = some o:=D.own (a,o) hm
section
variable {b:Bool} {w:World} {A:Around} {R:Result → Shared → Prop} {v:Nat} {F:List (Addr × Obj)} {H:Heap} (hL:Lv A v) (hv:v ≤ 310)
include hL hv
theorem told_turn {L it fl cl li:Addr} {X:Obj} {vk vr:Option Value} {fs cs ts:List Value} {kf kc kt i m:Nat} {q:List Nat} {tq k0 k1 tx tc:Tok} {sl:Array (Option Value)} {z:Int} {s:Shared}
    (hX:X = tlF2 (W b w).params k0 k1 q tq li sl ∨ ∃ k2 hv,X = tlF3 (W b w).params k0 k1 k2 q tq li hv sl) (hi:i ≤ 900) (hfx:fs[i]? = some (.str (sx (fld z)) tx)) (hcx:cs[i]? = some (.int (Int.ofNat (aN z + bN z)) tc)) (hts:ts.length ≤ 900)
    (D:Hp (W b w) H s.heap ((it,riO (Int.ofNat i) (Int.ofNat (m + 1))) :: (L,X) :: (L + 1,ceO (some (.ref cl))) :: (L + 2,ceO (some (.ref fl))) :: (L + 3,ceO vk) :: (L + 4,ceO vr) :: (fl,liO fs kf) :: (cl,liO cs kc) :: (li,liO ts kt) :: F))
    (post:∀ (s':Shared) (t:It) (k2 tk:Tok) (hv':Addr),Sm s s' → t.For z → Hp (W b w) H s'.heap ((it,riO (Int.ofNat (i + 1)) (Int.ofNat m)) :: (L,tlF3 (W b w).params k0 k1 k2 q tq li hv' sl) :: (L + 1,ceO (some (.ref cl))) :: (L + 2,ceO (some (.ref fl))) :: (L + 3,ceO (some (.int (Int.ofNat i) tk))) :: (L + 4,ceO (some (.ref t.ro))) :: (fl,liO fs kf) :: (cl,liO cs kc) :: (li,liO (ts ++ [.ref t.tp]) (kt + 1)) :: (itObs t ++ F)) → codeAny (model P0 (W b w)) A (tlLoop L it) R s') :
    codeAny (model P0 (W b w)) A (tlLoop L it) R s:=by
  have la:=aN_le z
  have lb:=bN_le z
  have e1 : Int.ofNat i + 1 = Int.ofNat (i + 1):=rfl
  have e2 : Int.ofNat (m + 1) - 1 = Int.ofNat m:=by show ((m + 1 : Nat) : Int) - 1 = (m:Int); omega
  have e3 : Int.ofNat (aN z + bN z) + Int.ofNat 1 = Int.ofNat (aN z + bN z + 1):=rfl
  have hyl : aN z + ((fzT z).length + 1 + bN z) ≤ 900:=by
    have : (fzT z).length = 9:=rfl
    omega
  refine g_tla (F_:=(L,X) :: (L + 2,ceO (some (.ref fl))) :: (L + 4,ceO vr) :: (fl,liO fs kf) :: (li,liO ts kt) :: F) L it cl vk cs kc i (Int.ofNat (m + 1)) (Int.ofNat (aN z + bN z)) tc (fun n T y hy => ?_) (fun n T q hq => nm hq) hL (by omega)
    (D.pm) fun A1 s1 L1 N1 M1 => ?_
  · rcases List.mem_cons.mp hy with rfl | hy
    · exact ok_rnext (by show (0 : Int) < ((m + 1 : Nat) : Int); omega)
    · rcases List.mem_cons.mp hy with rfl | hy
      · exact ok_get (by omega) hcx
      · rcases List.mem_cons.mp hy with rfl | hy
        · exact ok_rnew
        · cases List.mem_singleton.mp hy
          exact ok_riter (by rw [e3]; show (0 : Int) ≤ ((aN z + bN z + 1 : Nat) : Int); omega) (by rw [e3]; show ((aN z + bN z + 1 : Nat) : Int) ≤ 1000; omega)
  have D1:=N1.hp
  simp only [e1,e2,e3] at D1
  generalize s.heap.objs.size = n1 at D1 M1 ⊢
  generalize s.toks = T1 at D1 M1 ⊢
  generalize s.gens.toList = g1 at M1 ⊢
  refine comp_startR (x:=0) (left:=Int.ofNat (aN z + bN z + 1)) tlE1_lc (own_of D1 (by simp)) ?_
  refine row_loop (F:=(it,riO (Int.ofNat (i + 1)) (Int.ofNat m)) :: (L,X) :: (L + 1,ceO (some (.ref cl))) :: (L + 4,ceO vr) :: (cl,liO cs kc) :: (li,liO ts kt) :: F) (i:=i) (tk:=T1) (k:=0) (c:=45) (y:=fzT z) (p:=aN z) (q:=bN z) (fl:=fl) (fs:=fs) (kf:=kf) (tx:=tx) L1 (by omega) (by decide) hyl (by omega) hfx
    (D1.pm) fun s2 rs kr t1 v1 S2 hrs D2 => ?_
  refine g_tlb (F_:=(it,riO (Int.ofNat (i + 1)) (Int.ofNat m)) :: (L,X) :: (L + 2,ceO (some (.ref fl))) :: (fl,liO fs kf) :: (n1 + 2,liO rs kr) :: (li,liO ts kt) :: F) n1 T1 g1 T1 vr t1 v1 L it cl vk cs kc i (Int.ofNat (m + 1)) (Int.ofNat (aN z + bN z)) tc (fun n T y hy => ?_) (fun n T q hq => nm hq) (M1.sm S2) (by omega)
    (D2.pm) fun A3 s3 L3 N3 M3 => ?_
  · rcases List.mem_cons.mp hy with rfl | hy
    · exact ok_get (by omega) hcx
    · rcases List.mem_cons.mp hy with rfl | hy
      · exact ok_rnew
      · cases List.mem_singleton.mp hy
        exact ok_riter (by rw [e3]; show (0 : Int) ≤ ((aN z + bN z + 1 : Nat) : Int); omega) (by rw [e3]; show ((aN z + bN z + 1 : Nat) : Int) ≤ 1000; omega)
  have D3:=N3.hp
  simp only [e3] at D3
  generalize s2.heap.objs.size = n3 at D3 M3 ⊢
  generalize s2.toks = T3 at D3 M3 ⊢
  generalize s2.gens.toList = g3 at M3 ⊢
  refine comp_startR (x:=0) (left:=Int.ofNat (aN z + bN z + 1)) tlE2_lc (own_of D3 (by simp)) ?_
  refine half_loop (F:=(it,riO (Int.ofNat (i + 1)) (Int.ofNat m)) :: (L,X) :: (L + 2,ceO (some (.ref fl))) :: (fl,liO fs kf) :: (li,liO ts kt) :: F) (i:=i) (tk:=T1) (k:=0) (c:=45) (y:=fzT z) (p:=aN z) (q:=bN z) (cl:=cl) (cs:=cs) (kc:=kc) (tc:=tc) (ro:=n1 + 2) (rs:=rs) (kr:=kr) L3 (by omega) (by decide) hyl (by omega) hrs hcx
    (D3.pm) fun s4 kh t2 v2 S4 D4 => ?_
  have SS : Sm s s4:=((N1.sm.trans S2).trans N3.sm).trans S4
  rcases hX with rfl | ⟨k2,hv0,rfl⟩
  · refine g_tlc (F_:=(it,riO (Int.ofNat (i + 1)) (Int.ofNat m)) :: (L + 1,ceO (some (.ref cl))) :: (cl,liO cs kc) :: (n1 + 2,liO rs kr) :: (n3 + 2,liO (List.replicate (aN z + bN z + 1) (.bool true)) kh) :: F) n3 T3 g3 n1 T1 g1 t2 v2 fl li (n1 + 2) k0 k1 q tq sl (fld z) tx fs ts kf kt T1 vr t1 v1 L it cl vk cs kc i (Int.ofNat (m + 1)) (Int.ofNat (aN z + bN z)) tc (fun n T y hy => ?_) (fun n T q hq => nm hq) (M3.sm S4) (by omega)
      (D4.pm) fun s5 N5 => ?_
    · rcases List.mem_cons.mp hy with rfl | hy
      · exact ok_get (by omega) hfx
      · cases List.mem_singleton.mp hy
        exact ok_app (by omega)
    · refine post s5 ⟨s4.heap.objs.size,n1 + 2,n3 + 2,fld z,tx,rs,kr,kh,aN z + bN z + 1⟩ s4.toks T1 (n3 + 2) (SS.trans N5.sm) ⟨rfl,hrs,rfl⟩ (N5.hp.pm)
  · refine g_tld (F_:=(it,riO (Int.ofNat (i + 1)) (Int.ofNat m)) :: (L + 1,ceO (some (.ref cl))) :: (cl,liO cs kc) :: (n1 + 2,liO rs kr) :: (n3 + 2,liO (List.replicate (aN z + bN z + 1) (.bool true)) kh) :: F) n3 T3 g3 n1 T1 g1 t2 v2 fl li (n1 + 2) k0 k1 q tq sl (fld z) tx fs ts kf kt T1 vr t1 v1 L it cl vk cs kc i (Int.ofNat (m + 1)) (Int.ofNat (aN z + bN z)) tc k2 hv0 (fun n T y hy => ?_) (fun n T q hq => nm hq) (M3.sm S4) (by omega)
      (D4.pm) fun s5 N5 => ?_
    · rcases List.mem_cons.mp hy with rfl | hy
      · exact ok_get (by omega) hfx
      · cases List.mem_singleton.mp hy
        exact ok_app (by omega)
    · refine post s5 ⟨s4.heap.objs.size,n1 + 2,n3 + 2,fld z,tx,rs,kr,kh,aN z + bN z + 1⟩ k2 T1 (n3 + 2) (SS.trans N5.sm) ⟨rfl,hrs,rfl⟩ (N5.hp.pm)
end
inductive ItsV : List Int → List It → Prop
  | nil : ItsV [] []
  | cons {z:Int} {t:It} {l:List Int} {ts:List It} : t.For z → ItsV l ts → ItsV (z :: l) (t :: ts)
theorem ItsV.app {l l':List Int} {v v':List It} (h:ItsV l v) (h':ItsV l' v') : ItsV (l ++ l') (v ++ v'):=by
  induction h with
  | nil => exact h'
  | cons x _ ih => exact .cons x ih
theorem ItsV.len {l:List Int} {v:List It} (h:ItsV l v) : v.length = l.length:=by
  induction h with
  | nil => rfl
  | cons _ _ ih => exact congrArg (· + 1) ih
inductive IntsV : List Int → List Value → Prop
  | nil : IntsV [] []
  | cons {z:Int} {t:Tok} {l:List Int} {vs:List Value} : IntsV l vs → IntsV (z :: l) (.int z t :: vs)
theorem intsV_at : ∀ {ls:List Int} {vs:List Value},IntsV ls vs → ∀ {i:Nat} {l:Int},ls[i]? = some l → ∃ t,vs[i]? = some (.int l t)
  | _,_,.nil,i,v,h => by cases i <;> cases h
  | _,_,.cons (z:=f) (t:=t) r,0,v,h => by
    cases h
    exact ⟨t,rfl⟩
  | _,_,.cons r,i + 1,v,h => intsV_at r h
theorem intsV_len : ∀ {ls:List Int} {vs:List Value},IntsV ls vs → vs.length = ls.length
  | _,_,.nil => rfl
  | _,_,.cons r => congrArg (· + 1) (intsV_len r)
noncomputable def cnt (z:Int) : Int:=Int.ofNat (aN z + bN z)
noncomputable def itRefs (l:List It) : List Value:=l.map fun t => .ref t.tp
section
variable {b:Bool} {w:World} {A:Around} {R:Result → Shared → Prop} {v:Nat} {F:List (Addr × Obj)} {H:Heap} (hL:Lv A v) (hv:v ≤ 310)
include hL hv
theorem told_turns {L it fl cl li:Addr} {fs cs:List Value} {kf kc:Nat} {q:List Nat} {tq k0 k1:Tok} {sl:Array (Option Value)} {zs:List Int} (hfs:StrsV (zs.map fld) fs) (hcs:IntsV (zs.map cnt) cs) (hz:zs.length ≤ 100) :
    ∀ (m i:Nat) (items:List It) (kt:Nat) (k2:Tok) (hv0:Addr) (vk vr:Option Value) (s:Shared),i + m = zs.length → ItsV (zs.take i) items →
      Hp (W b w) H s.heap ((it,riO (Int.ofNat i) (Int.ofNat m)) :: (L,tlF3 (W b w).params k0 k1 k2 q tq li hv0 sl) :: (L + 1,ceO (some (.ref cl))) :: (L + 2,ceO (some (.ref fl))) :: (L + 3,ceO vk) :: (L + 4,ceO vr) :: (fl,liO fs kf) :: (cl,liO cs kc) :: (li,liO (itRefs items) kt) :: (items.flatMap itObs ++ F)) →
      (∀ (s':Shared) (items:List It) (kt:Nat) (k2:Tok) (hv0:Addr),Sm s s' → ItsV zs items → Hp (W b w) H s'.heap ((L,tlF3 (W b w).params k0 k1 k2 q tq li hv0 sl) :: (cl,liO cs kc) :: (li,liO (itRefs items) kt) :: (items.flatMap itObs ++ F)) → R (.ok .next) s') →
      codeAny (model P0 (W b w)) A (tlLoop L it) R s:=by
  intro m
  induction m with
  | zero =>
    intro i items kt k2 hv0 vk vr s hi hit D post
    refine g_tle (F_:=(L,tlF3 (W b w).params k0 k1 k2 q tq li hv0 sl) :: (L + 1,ceO (some (.ref cl))) :: (L + 2,ceO (some (.ref fl))) :: (L + 3,ceO vk) :: (L + 4,ceO vr) :: (fl,liO fs kf) :: (cl,liO cs kc) :: (li,liO (itRefs items) kt) :: (items.flatMap itObs ++ F)) L it i (fun n T y hy => nm hy) (fun n T q hq => nm hq) hL (by omega) D fun s1 N1 => ?_
    rw [List.take_of_length_le (by omega)] at hit
    have D1 : Hp (W b w) H s1.heap ((L + 1,ceO (some (.ref cl))) :: (L + 2,ceO (some (.ref fl))) :: (L + 3,ceO vk) :: (L + 4,ceO vr) :: (fl,liO fs kf) :: ((L,tlF3 (W b w).params k0 k1 k2 q tq li hv0 sl) :: (cl,liO cs kc) :: (li,liO (itRefs items) kt) :: (items.flatMap itObs ++ F))) :=
      N1.hp.pm
    exact post s1 items kt k2 hv0 N1.sm hit (D1.subl (.cons _ (.cons _ (.cons _ (.cons _ (.cons _ (.refl _)))))))
  | succ m ih =>
    intro i items kt k2 hv0 vk vr s hi hit D post
    have hlt : i < zs.length:=by omega
    have hzi : zs[i]? = some zs[i]:=List.getElem?_eq_getElem hlt
    obtain ⟨tx,hfx⟩:=strsV_at hfs (i:=i) (l:=fld zs[i]) (by rw [List.getElem?_map,hzi]; rfl)
    obtain ⟨tc,hcx⟩:=intsV_at hcs (i:=i) (l:=cnt zs[i]) (by rw [List.getElem?_map,hzi]; rfl)
    have hil : items.length ≤ 100:=by
      have:=hit.len
      rw [List.length_take] at this
      omega
    refine told_turn (F:=items.flatMap itObs ++ F) hL hv (.inr ⟨k2,hv0,rfl⟩) (by omega) hfx hcx (by unfold itRefs; rw [List.length_map]; omega) D fun s1 t k2' tk hv' S1 ht D1 => ?_
    refine ih (i + 1) (items ++ [t]) (kt + 1) k2' hv' (some (.int (Int.ofNat i) tk)) (some (.ref t.ro)) s1 (by omega) ?_ (D1.perm (perm_by fun p => by simp only [itRefs,List.map_append,List.map_cons,List.map_nil,List.flatMap_append,List.flatMap_cons,List.flatMap_nil,List.countP_append,List.countP_cons,List.countP_nil]; omega)) fun s2 items2 kt2 k2b hv2 S2 h2 D2 => post s2 items2 kt2 k2b hv2 (S1.trans S2) h2 D2
    rw [List.take_add_one,hzi]
    exact hit.app (.cons ht .nil)
end
section
variable {b:Bool} {w:World} {A:Around} {R:Result → Shared → Prop} {v:Nat} {F Fo:List (Addr × Obj)} {H:Heap} {s:Shared} (hL:Lv A v) (hv:v ≤ 290)
include hL hv
theorem told_ok {outer:List Env} {f:Fd} {l2:List Fd} {tq:Tok} {cl:Addr} {cs:List Value} {kc:Nat} {zs:List Int} (hF:A.frames = some outer) (hfo:outer.filterMap (·.frame) = Fo.map (·.1)) (hk:∀ env ∈ outer,env.scope.kind ≠ .module ∧ ∃ L,env.frame = some L)
    (hfd:∀ p ∈ Fo,∀ vs,p.2.data ≠ .fields vs) (h7:∃ o,(753,o) ∈ F) (hl:(f.text ++ tailOf l2).length ≤ 16777216) (hOk:∀ g ∈ f :: l2,g.Ok) (hn:l2.length ≤ 8)
    (hz:(f :: l2).map Fd.cs = zs.map fld) (hcs:IntsV (zs.map cnt) cs)
    (D:Hp (W b w) H s.heap ((cl,liO cs kc) :: (F ++ Fo)))
    (post:∀ (s':Shared) (li:Addr) (items:List It) (k':Nat) (Fo':List (Addr × Obj)),Sm s s' → ItsV zs items → SlS Fo Fo' → Hp (W b w) H s'.heap ((cl,liO cs kc) :: (li,liO (itRefs items) k') :: (items.flatMap itObs ++ (F ++ Fo'))) → R (.ok (.ret (.ref li))) s') :
    codeAny (model P0 (W b w)) A (.call (.ref 825) ⟨[.str (sx (f.text ++ tailOf l2)) tq,.ref cl],[]⟩) R s:=by
  refine g_tl0 (F_:=(cl,liO cs kc) :: (F ++ Fo)) (f.text ++ tailOf l2) tq cl (fun n T y hy => nm hy) (fun n T q hq => nm hq) hL (by omega) D fun A1 s1 hA1 L1 N1 M1 => ?_
  have D1:=N1.hp
  have hA1:=hA1 outer hF
  generalize s.heap.objs.size = n1 at D1 M1 hA1 ⊢
  generalize s.toks = T1 at D1 M1 hA1 ⊢
  generalize s.gens.toList = g1 at M1 ⊢
  obtain ⟨fr,hfr⟩ : ∃ fr,fr = obO "frame" (dcD (W b w).params [(sx [108,105,110,101],T1,.str (sx (f.text ++ tailOf l2)) tq)] (0 + 1)):=⟨_,rfl⟩
  have hfrd : ∀ vs,fr.data ≠ .fields vs:=fun vs q => by rw [hfr] at q; cases q
  refine split_ok (F:=(n1 + 4,ceO none) :: (n1 + 3,ceO none) :: (n1 + 2,ceO none) :: (n1 + 1,ceO (some (.ref cl))) :: (cl,liO cs kc) :: F) (Fo:=(n1,fr) :: Fo) (outer:=tlEnv n1 :: outer) L1 (by omega) hA1 ?_ ?_ ?_ ?_ hl hOk hn (D1.perm (perm_by fun p => by simp only [hfr,List.countP_append,List.countP_cons,List.countP_nil]; omega)) fun s2 fl Fo2 fs kf S2 y hfs D2 => ?_
  · rw [List.filterMap_cons]
    show n1 :: outer.filterMap _ = _
    rw [hfo]; rfl
  · intro env he
    rcases List.mem_cons.mp he with rfl | he
    · exact ⟨(by kernel_rfl:(tlEnv n1).scope.kind = .function) ▸ (fun q => nomatch q),n1,rfl⟩
    · exact hk env he
  · intro p hp
    rcases List.mem_cons.mp hp with rfl | hp
    · exact hfrd
    · exact hfd p hp
  · obtain ⟨o7,h7⟩:=h7
    exact ⟨o7,by simp [h7]⟩
  cases y with
  | cons sl y =>
    rename_i Fo'
    subst hfr
    have D2' : Hp (W b w) H s2.heap ([(n1,{ obO "frame" (dcD (W b w).params [(sx [108,105,110,101],T1,.str (sx (f.text ++ tailOf l2)) tq)] 1) with slots:=sl }),(n1 + 1,ceO (some (.ref cl))),(n1 + 2,ceO none),(n1 + 3,ceO none),(n1 + 4,ceO none),(fl,liO fs kf)] ++ ((cl,liO cs kc) :: (F ++ Fo'))) :=
      D2.perm (perm_by fun p => by simp only [Nat.zero_add,List.countP_append,List.countP_cons,List.countP_nil]; omega)
    rw [hz] at hfs
    have hlen:=strsV_len hfs
    have hzl : zs.length = (f :: l2).length:=by
      have:=congrArg List.length hz
      rw [List.length_map,List.length_map] at this
      exact this.symm
    rw [List.length_map,hzl] at hlen
    simp only [List.length_cons] at hlen hzl
    refine g_tl1 (F_:=(cl,liO cs kc) :: (F ++ Fo')) n1 T1 g1 fl fs kf sl (f.text ++ tailOf l2) tq cl (fun n T y hy => ?_) (fun n T q hq => nm hq) (M1.sm S2) (by omega) D2' fun A3 s3 L3 N3 M3 => ?_
    · rcases List.mem_cons.mp hy with rfl | hy
      · exact ok_llen (by omega)
      · rcases List.mem_cons.mp hy with rfl | hy
        · exact ok_rnew
        · cases List.mem_singleton.mp hy
          exact ok_riter (by show (0 : Int) ≤ (fs.length : Int); omega) (by show (fs.length : Int) ≤ 1000; omega)
    have D3:=N3.hp
    generalize s2.heap.objs.size = n3 at D3 M3 ⊢
    generalize s2.toks = T3 at D3 M3 ⊢
    generalize s2.gens.toList = g3 at M3 ⊢
    have e0 : Int.ofNat fs.length = Int.ofNat (l2.length + 1):=by rw [hlen]
    rw [e0] at D3
    have e9 : riO 0 (Int.ofNat (l2.length + 1)) = riO (Int.ofNat 0) (Int.ofNat (l2.length + 1)):=rfl
    rw [e9] at D3
    have hz0 : zs[0]? = some (zs[0]'(by omega)):=List.getElem?_eq_getElem _
    obtain ⟨tx,hfx⟩:=strsV_at hfs (i:=0) (l:=fld (zs[0]'(by omega))) (by rw [List.getElem?_map,hz0]; rfl)
    obtain ⟨tc,hcx⟩:=intsV_at hcs (i:=0) (l:=cnt (zs[0]'(by omega))) (by rw [List.getElem?_map,hz0]; rfl)
    refine told_turn (F:=F ++ Fo') (i:=0) (m:=l2.length) (ts:=[]) (kt:=0) (vk:=none) (vr:=none) (li:=n3) (q:=f.text ++ tailOf l2) (tq:=tq) (k0:=T1) (k1:=T3) (sl:=sl) (fs:=fs) (kf:=kf) (fl:=fl) (cs:=cs) (kc:=kc) (cl:=cl) L3 (by omega) (.inl rfl) (by omega) hfx hcx (by show 0 ≤ 900; omega) (D3.pm) fun s4 t k2 tk hv4 S4 ht D4 => ?_
    refine told_turns (F:=F ++ Fo') (L:=n1) (it:=n3 + 2) (fl:=fl) (cl:=cl) (li:=n3) (kf:=kf) (kc:=kc) (q:=f.text ++ tailOf l2) (tq:=tq) (k0:=T1) (k1:=T3) (sl:=sl) L3 (by omega) hfs hcs (by omega) l2.length 1 [t] 1 k2 hv4 (some (.int (Int.ofNat 0) tk)) (some (.ref t.ro)) s4 (by omega) ?_ (D4.pm) fun s5 items kt k2b hvb S5 hit D5 => ?_
    · rw [show zs.take 1 = [zs[0]'(by omega)] by
        cases zs with
        | nil => cases hz0
        | cons z zs => rfl]
      exact .cons ht .nil
    have S25 : Sm s2 s5:=(N3.sm.trans S4).trans S5
    refine g_tlf (F_:=(cl,liO cs kc) :: (n3,liO (itRefs items) kt) :: (items.flatMap itObs ++ (F ++ Fo'))) n3 T3 g3 T1 T3 k2b n3 hvb fl fs kf sl n1 T1 g1 (f.text ++ tailOf l2) tq cl (fun n T y hy => nm hy) (fun n T q hq => nm hq) (M3.sm (S4.trans S5)) (by omega) D5 fun s6 N6 => ?_
    exact post s6 n3 items kt Fo' (((N1.sm.trans S2).trans S25).trans N6.sm) hit y N6.hp
end
theorem duE1_lc : isLc duE1 = true:=by kernel_rfl
theorem duE2_lc : isLc duE2 = true:=by kernel_rfl
theorem fm2 (x:Int) : decide (Int.ofNat 0 ≤ Int.fmod x (Int.ofNat 2)) = true ∧ decide (Int.fmod x (Int.ofNat 2) < Int.ofNat 2) = true ∧ ((Int.fmod x (Int.ofNat 2) == Int.ofNat 0) = false → (Int.fmod x (Int.ofNat 2) == Int.ofNat 1) = true):=by
  have h1 : (0 : Int) ≤ Int.fmod x (Int.ofNat 2):=Int.fmod_nonneg_of_pos _ (by decide)
  have h2 : Int.fmod x (Int.ofNat 2) < Int.ofNat 2:=Int.fmod_lt_of_pos _ (by decide)
  refine ⟨decide_eq_true h1,decide_eq_true h2,fun h => ?_⟩
  have h3 : Int.fmod x (Int.ofNat 2) ≠ 0:=by simpa using h
  have h4 : Int.ofNat 2 = 2:=rfl
  have h5 : Int.fmod x (Int.ofNat 2) = 1:=by omega
  rw [h5]; rfl
def dz (c0 c1 c2 c3:Nat) (T:List Nat) (z:Int) : List Nat :=
  due3 (match Int.fmod (Int.fdiv z (Int.ofNat c3)) (Int.ofNat 2) == Int.ofNat 0 with | true => [45,120] | false => T) (Int.fmod (Int.fdiv z (Int.ofNat c0)) (Int.ofNat 2)) (Int.fmod (Int.fdiv z (Int.ofNat c1)) (Int.ofNat 2)) (Int.fmod (Int.fdiv z (Int.ofNat c2)) (Int.ofNat 2))
section
variable {b:Bool} {w:World} {A:Around} {R:Result → Shared → Prop} {v:Nat} {F:List (Addr × Obj)} {H:Heap} (hL:Lv A v) (hv:v ≤ 310)
include hL hv
theorem dt02 {L it nl li:Addr} {vk:Option Value} {z:Int} {tz ts k0 k1 k2 k3:Tok} {vb vr:Value} {sg:List Nat} {s:Shared} (hg:sg.length ≤ 100)
    (D:Hp (W b w) H s.heap ((it,riO (Int.ofNat 0) (Int.ofNat 3)) :: (L,duF (W b w).params k0 k1 nl li) :: (L + 1,ceO (some (.int z tz))) :: (L + 2,ceO (some (.str (sx (45 :: sg)) ts))) :: (L + 3,ceO vk) :: F))
    (post:∀ (s':Shared) (ts' tk' k2':Tok) (vb':Value),Sm s s' → Hp (W b w) H s'.heap ((it,riO (Int.ofNat 1) (Int.ofNat 2)) :: (L,duF3 (W b w).params k0 k1 k2' nl li vb') :: (L + 1,ceO (some (.int z tz))) :: (L + 2,ceO (some (.str (sx (45 :: (sg ++ dz 256 128 64 2048 [83,115] z))) ts'))) :: (L + 3,ceO (some (.int (Int.ofNat 0) tk'))) :: F) → codeAny (model P0 (W b w)) A (duIn L it) R s') :
    codeAny (model P0 (W b w)) A (duIn L it) R s:=by
  have e1 : Int.ofNat 0 + 1 = Int.ofNat 1:=rfl
  have e2 : Int.ofNat 3 - 1 = Int.ofNat 2:=rfl
  have q0:=(fm2 (Int.fdiv z (Int.ofNat 256))).1
  have q1:=(fm2 (Int.fdiv z (Int.ofNat 128))).1
  have q2:=(fm2 (Int.fdiv z (Int.ofNat 64))).1
  have r0:=(fm2 (Int.fdiv z (Int.ofNat 256))).2.1
  have r1:=(fm2 (Int.fdiv z (Int.ofNat 128))).2.1
  have r2:=(fm2 (Int.fdiv z (Int.ofNat 64))).2.1
  refine g_db (F_:=(L,duF (W b w).params k0 k1 nl li) :: (L + 1,ceO (some (.int z tz))) :: (L + 2,ceO (some (.str (sx (45 :: sg)) ts))) :: F) L it vk 0 (Int.ofNat 3) (fun n T y hy => ?_) (fun n T q hq => nm hq) hL (by omega)
    (D.pm) fun A1 s1 L1 N1 M1 => ?_
  · cases List.mem_singleton.mp hy
    exact ok_rnext (by decide)
  have D1:=N1.hp
  simp only [e1,e2] at D1
  generalize s.heap.objs.size = n1 at D1 M1 ⊢
  generalize s.toks = T1 at D1 M1 ⊢
  generalize s.gens.toList = g1 at M1 ⊢
  refine comp_startR (x:=0) (left:=Int.ofNat 3) duE1_lc (own_of D1 (by simp)) ?_
  refine g_dc0 (F_:=(it,riO (Int.ofNat 1) (Int.ofNat 2)) :: (L,duF (W b w).params k0 k1 nl li) :: (L + 2,ceO (some (.str (sx (45 :: sg)) ts))) :: F) L (n1 + 1) (n1 + 2) (n1 + 3) z tz T1 (fun n T y hy => nm hy) (fun n T => all_pairs rfl) L1 (by omega)
    (D1.pm) fun s2 N2 => ?_
  have D2:=N2.hp
  generalize s1.toks = T2 at D2
  have hb':=(fm2 (Int.fdiv z (Int.ofNat 2048))).2.2
  rcases Bool.eq_false_or_eq_true ((Int.fmod (Int.fdiv z (Int.ofNat 2048)) (Int.ofNat 2)) == Int.ofNat 0) with hb | hb
  · have ez : dz 256 128 64 2048 [83,115] z = due3 [45,120] (Int.fmod (Int.fdiv z (Int.ofNat 256)) (Int.ofNat 2)) (Int.fmod (Int.fdiv z (Int.ofNat 128)) (Int.ofNat 2)) (Int.fmod (Int.fdiv z (Int.ofNat 64)) (Int.ofNat 2)):=by
      unfold dz
      rw [hb]
    refine g_dd020 (F_:=(it,riO (Int.ofNat 1) (Int.ofNat 2)) :: F) n1 T1 g1 (T2 + 1) (.int (Int.ofNat 2) (T2 + 24)) z (Int.fmod (Int.fdiv z (Int.ofNat 256)) (Int.ofNat 2)) (Int.fmod (Int.fdiv z (Int.ofNat 128)) (Int.ofNat 2)) (Int.fmod (Int.fdiv z (Int.ofNat 64)) (Int.ofNat 2)) tz T1 (T2 + 11) (T2 + 23) (T2 + 35) sg ts nl li k0 k1 k2 k3 vb vr L it vk (Int.ofNat 3) (fun n T y hy => nm hy) (fun n T => all_pairs ?_) (M1.sm N2.sm) (by omega)
      (D2.pm) fun s3 N3 => ?_
    · have z1 : Nat.ble (slen (cat (sx (45 :: sg)) (sx [(sat (sx [45,114]) (Int.toNat (Int.fmod (Int.fdiv z (Int.ofNat 256)) (Int.ofNat 2)))),(sat (sx [45,119]) (Int.toNat (Int.fmod (Int.fdiv z (Int.ofNat 128)) (Int.ofNat 2)))),(sat (sx [45,120]) (Int.toNat (Int.fmod (Int.fdiv z (Int.ofNat 64)) (Int.ofNat 2))))]))) 16777216 = true:=by
        rw [catL,slenL]
        exact ble_of (by simp; omega)
      unfold b_dd020
      simp only [z1,q0,q1,q2,r0,r1,r2,hb]
      rfl
    · have z:=post s3 (s2.toks + 23) T1 (s2.toks + 7) (.ref (s2.heap.objs.size + 1)) ((N1.sm.trans N2.sm).trans N3.sm)
      rw [ez] at z
      exact z (N3.hp.pm)
  · replace hb':=hb' hb
    have ez : dz 256 128 64 2048 [83,115] z = due3 [83,115] (Int.fmod (Int.fdiv z (Int.ofNat 256)) (Int.ofNat 2)) (Int.fmod (Int.fdiv z (Int.ofNat 128)) (Int.ofNat 2)) (Int.fmod (Int.fdiv z (Int.ofNat 64)) (Int.ofNat 2)):=by
      unfold dz
      rw [hb]
    refine g_dd021 (F_:=(it,riO (Int.ofNat 1) (Int.ofNat 2)) :: F) n1 T1 g1 (T2 + 1) (.int (Int.ofNat 2) (T2 + 24)) z (Int.fmod (Int.fdiv z (Int.ofNat 256)) (Int.ofNat 2)) (Int.fmod (Int.fdiv z (Int.ofNat 128)) (Int.ofNat 2)) (Int.fmod (Int.fdiv z (Int.ofNat 64)) (Int.ofNat 2)) tz T1 (T2 + 11) (T2 + 23) (T2 + 35) sg ts nl li k0 k1 k2 k3 vb vr L it vk (Int.ofNat 3) (fun n T y hy => nm hy) (fun n T => all_pairs ?_) (M1.sm N2.sm) (by omega)
      (D2.pm) fun s3 N3 => ?_
    · have z1 : Nat.ble (slen (cat (sx (45 :: sg)) (sx [(sat (sx [45,114]) (Int.toNat (Int.fmod (Int.fdiv z (Int.ofNat 256)) (Int.ofNat 2)))),(sat (sx [45,119]) (Int.toNat (Int.fmod (Int.fdiv z (Int.ofNat 128)) (Int.ofNat 2)))),(sat (sx [83,115]) (Int.toNat (Int.fmod (Int.fdiv z (Int.ofNat 64)) (Int.ofNat 2))))]))) 16777216 = true:=by
        rw [catL,slenL]
        exact ble_of (by simp; omega)
      unfold b_dd021
      simp only [z1,q0,q1,q2,r0,r1,r2,hb']
      rfl
    · have z:=post s3 (s2.toks + 23) T1 (s2.toks + 7) (.ref (s2.heap.objs.size + 1)) ((N1.sm.trans N2.sm).trans N3.sm)
      rw [ez] at z
      exact z (N3.hp.pm)
theorem dt13 {L it nl li:Addr} {vk:Option Value} {z:Int} {tz ts k0 k1 k2 k3:Tok} {vb vr:Value} {sg:List Nat} {s:Shared} (hg:sg.length ≤ 100)
    (D:Hp (W b w) H s.heap ((it,riO (Int.ofNat 1) (Int.ofNat 2)) :: (L,duF3 (W b w).params k0 k1 k2 nl li vb) :: (L + 1,ceO (some (.int z tz))) :: (L + 2,ceO (some (.str (sx (45 :: sg)) ts))) :: (L + 3,ceO vk) :: F))
    (post:∀ (s':Shared) (ts' tk' k2':Tok) (vb':Value),Sm s s' → Hp (W b w) H s'.heap ((it,riO (Int.ofNat 2) (Int.ofNat 1)) :: (L,duF3 (W b w).params k0 k1 k2' nl li vb') :: (L + 1,ceO (some (.int z tz))) :: (L + 2,ceO (some (.str (sx (45 :: (sg ++ dz 32 16 8 1024 [83,115] z))) ts'))) :: (L + 3,ceO (some (.int (Int.ofNat 1) tk'))) :: F) → codeAny (model P0 (W b w)) A (duIn L it) R s') :
    codeAny (model P0 (W b w)) A (duIn L it) R s:=by
  have e1 : Int.ofNat 1 + 1 = Int.ofNat 2:=rfl
  have e2 : Int.ofNat 2 - 1 = Int.ofNat 1:=rfl
  have q0:=(fm2 (Int.fdiv z (Int.ofNat 32))).1
  have q1:=(fm2 (Int.fdiv z (Int.ofNat 16))).1
  have q2:=(fm2 (Int.fdiv z (Int.ofNat 8))).1
  have r0:=(fm2 (Int.fdiv z (Int.ofNat 32))).2.1
  have r1:=(fm2 (Int.fdiv z (Int.ofNat 16))).2.1
  have r2:=(fm2 (Int.fdiv z (Int.ofNat 8))).2.1
  refine g_db (F_:=(L,duF3 (W b w).params k0 k1 k2 nl li vb) :: (L + 1,ceO (some (.int z tz))) :: (L + 2,ceO (some (.str (sx (45 :: sg)) ts))) :: F) L it vk 1 (Int.ofNat 2) (fun n T y hy => ?_) (fun n T q hq => nm hq) hL (by omega)
    (D.pm) fun A1 s1 L1 N1 M1 => ?_
  · cases List.mem_singleton.mp hy
    exact ok_rnext (by decide)
  have D1:=N1.hp
  simp only [e1,e2] at D1
  generalize s.heap.objs.size = n1 at D1 M1 ⊢
  generalize s.toks = T1 at D1 M1 ⊢
  generalize s.gens.toList = g1 at M1 ⊢
  refine comp_startR (x:=0) (left:=Int.ofNat 3) duE1_lc (own_of D1 (by simp)) ?_
  refine g_dc1 (F_:=(it,riO (Int.ofNat 2) (Int.ofNat 1)) :: (L,duF3 (W b w).params k0 k1 k2 nl li vb) :: (L + 2,ceO (some (.str (sx (45 :: sg)) ts))) :: F) L (n1 + 1) (n1 + 2) (n1 + 3) z tz T1 (fun n T y hy => nm hy) (fun n T => all_pairs rfl) L1 (by omega)
    (D1.pm) fun s2 N2 => ?_
  have D2:=N2.hp
  generalize s1.toks = T2 at D2
  have hb':=(fm2 (Int.fdiv z (Int.ofNat 1024))).2.2
  rcases Bool.eq_false_or_eq_true ((Int.fmod (Int.fdiv z (Int.ofNat 1024)) (Int.ofNat 2)) == Int.ofNat 0) with hb | hb
  · have ez : dz 32 16 8 1024 [83,115] z = due3 [45,120] (Int.fmod (Int.fdiv z (Int.ofNat 32)) (Int.ofNat 2)) (Int.fmod (Int.fdiv z (Int.ofNat 16)) (Int.ofNat 2)) (Int.fmod (Int.fdiv z (Int.ofNat 8)) (Int.ofNat 2)):=by
      unfold dz
      rw [hb]
    refine g_dd130 (F_:=(it,riO (Int.ofNat 2) (Int.ofNat 1)) :: F) n1 T1 g1 (T2 + 1) (.int (Int.ofNat 2) (T2 + 24)) z (Int.fmod (Int.fdiv z (Int.ofNat 32)) (Int.ofNat 2)) (Int.fmod (Int.fdiv z (Int.ofNat 16)) (Int.ofNat 2)) (Int.fmod (Int.fdiv z (Int.ofNat 8)) (Int.ofNat 2)) tz T1 (T2 + 11) (T2 + 23) (T2 + 35) sg ts nl li k0 k1 k2 k3 vb vr L it vk (Int.ofNat 2) (fun n T y hy => nm hy) (fun n T => all_pairs ?_) (M1.sm N2.sm) (by omega)
      (D2.pm) fun s3 N3 => ?_
    · have z1 : Nat.ble (slen (cat (sx (45 :: sg)) (sx [(sat (sx [45,114]) (Int.toNat (Int.fmod (Int.fdiv z (Int.ofNat 32)) (Int.ofNat 2)))),(sat (sx [45,119]) (Int.toNat (Int.fmod (Int.fdiv z (Int.ofNat 16)) (Int.ofNat 2)))),(sat (sx [45,120]) (Int.toNat (Int.fmod (Int.fdiv z (Int.ofNat 8)) (Int.ofNat 2))))]))) 16777216 = true:=by
        rw [catL,slenL]
        exact ble_of (by simp; omega)
      unfold b_dd130
      simp only [z1,q0,q1,q2,r0,r1,r2,hb]
      rfl
    · have z:=post s3 (s2.toks + 23) T1 (k2) (.ref (s2.heap.objs.size + 1)) ((N1.sm.trans N2.sm).trans N3.sm)
      rw [ez] at z
      exact z (N3.hp.pm)
  · replace hb':=hb' hb
    have ez : dz 32 16 8 1024 [83,115] z = due3 [83,115] (Int.fmod (Int.fdiv z (Int.ofNat 32)) (Int.ofNat 2)) (Int.fmod (Int.fdiv z (Int.ofNat 16)) (Int.ofNat 2)) (Int.fmod (Int.fdiv z (Int.ofNat 8)) (Int.ofNat 2)):=by
      unfold dz
      rw [hb]
    refine g_dd131 (F_:=(it,riO (Int.ofNat 2) (Int.ofNat 1)) :: F) n1 T1 g1 (T2 + 1) (.int (Int.ofNat 2) (T2 + 24)) z (Int.fmod (Int.fdiv z (Int.ofNat 32)) (Int.ofNat 2)) (Int.fmod (Int.fdiv z (Int.ofNat 16)) (Int.ofNat 2)) (Int.fmod (Int.fdiv z (Int.ofNat 8)) (Int.ofNat 2)) tz T1 (T2 + 11) (T2 + 23) (T2 + 35) sg ts nl li k0 k1 k2 k3 vb vr L it vk (Int.ofNat 2) (fun n T y hy => nm hy) (fun n T => all_pairs ?_) (M1.sm N2.sm) (by omega)
      (D2.pm) fun s3 N3 => ?_
    · have z1 : Nat.ble (slen (cat (sx (45 :: sg)) (sx [(sat (sx [45,114]) (Int.toNat (Int.fmod (Int.fdiv z (Int.ofNat 32)) (Int.ofNat 2)))),(sat (sx [45,119]) (Int.toNat (Int.fmod (Int.fdiv z (Int.ofNat 16)) (Int.ofNat 2)))),(sat (sx [83,115]) (Int.toNat (Int.fmod (Int.fdiv z (Int.ofNat 8)) (Int.ofNat 2))))]))) 16777216 = true:=by
        rw [catL,slenL]
        exact ble_of (by simp; omega)
      unfold b_dd131
      simp only [z1,q0,q1,q2,r0,r1,r2,hb']
      rfl
    · have z:=post s3 (s2.toks + 23) T1 (k2) (.ref (s2.heap.objs.size + 1)) ((N1.sm.trans N2.sm).trans N3.sm)
      rw [ez] at z
      exact z (N3.hp.pm)
theorem dt23 {L it nl li:Addr} {vk:Option Value} {z:Int} {tz ts k0 k1 k2 k3:Tok} {vb vr:Value} {sg:List Nat} {s:Shared} (hg:sg.length ≤ 100)
    (D:Hp (W b w) H s.heap ((it,riO (Int.ofNat 2) (Int.ofNat 1)) :: (L,duF3 (W b w).params k0 k1 k2 nl li vb) :: (L + 1,ceO (some (.int z tz))) :: (L + 2,ceO (some (.str (sx (45 :: sg)) ts))) :: (L + 3,ceO vk) :: F))
    (post:∀ (s':Shared) (ts' tk' k2':Tok) (vb':Value),Sm s s' → Hp (W b w) H s'.heap ((it,riO (Int.ofNat 3) (Int.ofNat 0)) :: (L,duF3 (W b w).params k0 k1 k2' nl li vb') :: (L + 1,ceO (some (.int z tz))) :: (L + 2,ceO (some (.str (sx (45 :: (sg ++ dz 4 2 1 512 [84,116] z))) ts'))) :: (L + 3,ceO (some (.int (Int.ofNat 2) tk'))) :: F) → codeAny (model P0 (W b w)) A (duIn L it) R s') :
    codeAny (model P0 (W b w)) A (duIn L it) R s:=by
  have e1 : Int.ofNat 2 + 1 = Int.ofNat 3:=rfl
  have e2 : Int.ofNat 1 - 1 = Int.ofNat 0:=rfl
  have q0:=(fm2 (Int.fdiv z (Int.ofNat 4))).1
  have q1:=(fm2 (Int.fdiv z (Int.ofNat 2))).1
  have q2:=(fm2 (Int.fdiv z (Int.ofNat 1))).1
  have r0:=(fm2 (Int.fdiv z (Int.ofNat 4))).2.1
  have r1:=(fm2 (Int.fdiv z (Int.ofNat 2))).2.1
  have r2:=(fm2 (Int.fdiv z (Int.ofNat 1))).2.1
  refine g_db (F_:=(L,duF3 (W b w).params k0 k1 k2 nl li vb) :: (L + 1,ceO (some (.int z tz))) :: (L + 2,ceO (some (.str (sx (45 :: sg)) ts))) :: F) L it vk 2 (Int.ofNat 1) (fun n T y hy => ?_) (fun n T q hq => nm hq) hL (by omega)
    (D.pm) fun A1 s1 L1 N1 M1 => ?_
  · cases List.mem_singleton.mp hy
    exact ok_rnext (by decide)
  have D1:=N1.hp
  simp only [e1,e2] at D1
  generalize s.heap.objs.size = n1 at D1 M1 ⊢
  generalize s.toks = T1 at D1 M1 ⊢
  generalize s.gens.toList = g1 at M1 ⊢
  refine comp_startR (x:=0) (left:=Int.ofNat 3) duE1_lc (own_of D1 (by simp)) ?_
  refine g_dc2 (F_:=(it,riO (Int.ofNat 3) (Int.ofNat 0)) :: (L,duF3 (W b w).params k0 k1 k2 nl li vb) :: (L + 2,ceO (some (.str (sx (45 :: sg)) ts))) :: F) L (n1 + 1) (n1 + 2) (n1 + 3) z tz T1 (fun n T y hy => nm hy) (fun n T => all_pairs rfl) L1 (by omega)
    (D1.pm) fun s2 N2 => ?_
  have D2:=N2.hp
  generalize s1.toks = T2 at D2
  have hb':=(fm2 (Int.fdiv z (Int.ofNat 512))).2.2
  rcases Bool.eq_false_or_eq_true ((Int.fmod (Int.fdiv z (Int.ofNat 512)) (Int.ofNat 2)) == Int.ofNat 0) with hb | hb
  · have ez : dz 4 2 1 512 [84,116] z = due3 [45,120] (Int.fmod (Int.fdiv z (Int.ofNat 4)) (Int.ofNat 2)) (Int.fmod (Int.fdiv z (Int.ofNat 2)) (Int.ofNat 2)) (Int.fmod (Int.fdiv z (Int.ofNat 1)) (Int.ofNat 2)):=by
      unfold dz
      rw [hb]
    refine g_dd230 (F_:=(it,riO (Int.ofNat 3) (Int.ofNat 0)) :: F) n1 T1 g1 (T2 + 1) (.int (Int.ofNat 2) (T2 + 24)) z (Int.fmod (Int.fdiv z (Int.ofNat 4)) (Int.ofNat 2)) (Int.fmod (Int.fdiv z (Int.ofNat 2)) (Int.ofNat 2)) (Int.fmod (Int.fdiv z (Int.ofNat 1)) (Int.ofNat 2)) tz T1 (T2 + 11) (T2 + 23) (T2 + 35) sg ts nl li k0 k1 k2 k3 vb vr L it vk (Int.ofNat 1) (fun n T y hy => nm hy) (fun n T => all_pairs ?_) (M1.sm N2.sm) (by omega)
      (D2.pm) fun s3 N3 => ?_
    · have z1 : Nat.ble (slen (cat (sx (45 :: sg)) (sx [(sat (sx [45,114]) (Int.toNat (Int.fmod (Int.fdiv z (Int.ofNat 4)) (Int.ofNat 2)))),(sat (sx [45,119]) (Int.toNat (Int.fmod (Int.fdiv z (Int.ofNat 2)) (Int.ofNat 2)))),(sat (sx [45,120]) (Int.toNat (Int.fmod (Int.fdiv z (Int.ofNat 1)) (Int.ofNat 2))))]))) 16777216 = true:=by
        rw [catL,slenL]
        exact ble_of (by simp; omega)
      unfold b_dd230
      simp only [z1,q0,q1,q2,r0,r1,r2,hb]
      rfl
    · have z:=post s3 (s2.toks + 23) T1 (k2) (.ref (s2.heap.objs.size + 1)) ((N1.sm.trans N2.sm).trans N3.sm)
      rw [ez] at z
      exact z (N3.hp.pm)
  · replace hb':=hb' hb
    have ez : dz 4 2 1 512 [84,116] z = due3 [84,116] (Int.fmod (Int.fdiv z (Int.ofNat 4)) (Int.ofNat 2)) (Int.fmod (Int.fdiv z (Int.ofNat 2)) (Int.ofNat 2)) (Int.fmod (Int.fdiv z (Int.ofNat 1)) (Int.ofNat 2)):=by
      unfold dz
      rw [hb]
    refine g_dd231 (F_:=(it,riO (Int.ofNat 3) (Int.ofNat 0)) :: F) n1 T1 g1 (T2 + 1) (.int (Int.ofNat 2) (T2 + 24)) z (Int.fmod (Int.fdiv z (Int.ofNat 4)) (Int.ofNat 2)) (Int.fmod (Int.fdiv z (Int.ofNat 2)) (Int.ofNat 2)) (Int.fmod (Int.fdiv z (Int.ofNat 1)) (Int.ofNat 2)) tz T1 (T2 + 11) (T2 + 23) (T2 + 35) sg ts nl li k0 k1 k2 k3 vb vr L it vk (Int.ofNat 1) (fun n T y hy => nm hy) (fun n T => all_pairs ?_) (M1.sm N2.sm) (by omega)
      (D2.pm) fun s3 N3 => ?_
    · have z1 : Nat.ble (slen (cat (sx (45 :: sg)) (sx [(sat (sx [45,114]) (Int.toNat (Int.fmod (Int.fdiv z (Int.ofNat 4)) (Int.ofNat 2)))),(sat (sx [45,119]) (Int.toNat (Int.fmod (Int.fdiv z (Int.ofNat 2)) (Int.ofNat 2)))),(sat (sx [84,116]) (Int.toNat (Int.fmod (Int.fdiv z (Int.ofNat 1)) (Int.ofNat 2))))]))) 16777216 = true:=by
        rw [catL,slenL]
        exact ble_of (by simp; omega)
      unfold b_dd231
      simp only [z1,q0,q1,q2,r0,r1,r2,hb']
      rfl
    · have z:=post s3 (s2.toks + 23) T1 (k2) (.ref (s2.heap.objs.size + 1)) ((N1.sm.trans N2.sm).trans N3.sm)
      rw [ez] at z
      exact z (N3.hp.pm)
theorem dt04 {L it nl li:Addr} {vk:Option Value} {z:Int} {tz ts k0 k1 k2 k3:Tok} {vb vr:Value} {sg:List Nat} {s:Shared} (hg:sg.length ≤ 100)
    (D:Hp (W b w) H s.heap ((it,riO (Int.ofNat 0) (Int.ofNat 3)) :: (L,duF4 (W b w).params k0 k1 k2 k3 nl li vb vr) :: (L + 1,ceO (some (.int z tz))) :: (L + 2,ceO (some (.str (sx (45 :: sg)) ts))) :: (L + 3,ceO vk) :: F))
    (post:∀ (s':Shared) (ts' tk' k2':Tok) (vb':Value),Sm s s' → Hp (W b w) H s'.heap ((it,riO (Int.ofNat 1) (Int.ofNat 2)) :: (L,duF4 (W b w).params k0 k1 k2' k3 nl li vb' vr) :: (L + 1,ceO (some (.int z tz))) :: (L + 2,ceO (some (.str (sx (45 :: (sg ++ dz 256 128 64 2048 [83,115] z))) ts'))) :: (L + 3,ceO (some (.int (Int.ofNat 0) tk'))) :: F) → codeAny (model P0 (W b w)) A (duIn L it) R s') :
    codeAny (model P0 (W b w)) A (duIn L it) R s:=by
  have e1 : Int.ofNat 0 + 1 = Int.ofNat 1:=rfl
  have e2 : Int.ofNat 3 - 1 = Int.ofNat 2:=rfl
  have q0:=(fm2 (Int.fdiv z (Int.ofNat 256))).1
  have q1:=(fm2 (Int.fdiv z (Int.ofNat 128))).1
  have q2:=(fm2 (Int.fdiv z (Int.ofNat 64))).1
  have r0:=(fm2 (Int.fdiv z (Int.ofNat 256))).2.1
  have r1:=(fm2 (Int.fdiv z (Int.ofNat 128))).2.1
  have r2:=(fm2 (Int.fdiv z (Int.ofNat 64))).2.1
  refine g_db (F_:=(L,duF4 (W b w).params k0 k1 k2 k3 nl li vb vr) :: (L + 1,ceO (some (.int z tz))) :: (L + 2,ceO (some (.str (sx (45 :: sg)) ts))) :: F) L it vk 0 (Int.ofNat 3) (fun n T y hy => ?_) (fun n T q hq => nm hq) hL (by omega)
    (D.pm) fun A1 s1 L1 N1 M1 => ?_
  · cases List.mem_singleton.mp hy
    exact ok_rnext (by decide)
  have D1:=N1.hp
  simp only [e1,e2] at D1
  generalize s.heap.objs.size = n1 at D1 M1 ⊢
  generalize s.toks = T1 at D1 M1 ⊢
  generalize s.gens.toList = g1 at M1 ⊢
  refine comp_startR (x:=0) (left:=Int.ofNat 3) duE1_lc (own_of D1 (by simp)) ?_
  refine g_dc0 (F_:=(it,riO (Int.ofNat 1) (Int.ofNat 2)) :: (L,duF4 (W b w).params k0 k1 k2 k3 nl li vb vr) :: (L + 2,ceO (some (.str (sx (45 :: sg)) ts))) :: F) L (n1 + 1) (n1 + 2) (n1 + 3) z tz T1 (fun n T y hy => nm hy) (fun n T => all_pairs rfl) L1 (by omega)
    (D1.pm) fun s2 N2 => ?_
  have D2:=N2.hp
  generalize s1.toks = T2 at D2
  have hb':=(fm2 (Int.fdiv z (Int.ofNat 2048))).2.2
  rcases Bool.eq_false_or_eq_true ((Int.fmod (Int.fdiv z (Int.ofNat 2048)) (Int.ofNat 2)) == Int.ofNat 0) with hb | hb
  · have ez : dz 256 128 64 2048 [83,115] z = due3 [45,120] (Int.fmod (Int.fdiv z (Int.ofNat 256)) (Int.ofNat 2)) (Int.fmod (Int.fdiv z (Int.ofNat 128)) (Int.ofNat 2)) (Int.fmod (Int.fdiv z (Int.ofNat 64)) (Int.ofNat 2)):=by
      unfold dz
      rw [hb]
    refine g_dd040 (F_:=(it,riO (Int.ofNat 1) (Int.ofNat 2)) :: F) n1 T1 g1 (T2 + 1) (.int (Int.ofNat 2) (T2 + 24)) z (Int.fmod (Int.fdiv z (Int.ofNat 256)) (Int.ofNat 2)) (Int.fmod (Int.fdiv z (Int.ofNat 128)) (Int.ofNat 2)) (Int.fmod (Int.fdiv z (Int.ofNat 64)) (Int.ofNat 2)) tz T1 (T2 + 11) (T2 + 23) (T2 + 35) sg ts nl li k0 k1 k2 k3 vb vr L it vk (Int.ofNat 3) (fun n T y hy => nm hy) (fun n T => all_pairs ?_) (M1.sm N2.sm) (by omega)
      (D2.pm) fun s3 N3 => ?_
    · have z1 : Nat.ble (slen (cat (sx (45 :: sg)) (sx [(sat (sx [45,114]) (Int.toNat (Int.fmod (Int.fdiv z (Int.ofNat 256)) (Int.ofNat 2)))),(sat (sx [45,119]) (Int.toNat (Int.fmod (Int.fdiv z (Int.ofNat 128)) (Int.ofNat 2)))),(sat (sx [45,120]) (Int.toNat (Int.fmod (Int.fdiv z (Int.ofNat 64)) (Int.ofNat 2))))]))) 16777216 = true:=by
        rw [catL,slenL]
        exact ble_of (by simp; omega)
      unfold b_dd040
      simp only [z1,q0,q1,q2,r0,r1,r2,hb]
      rfl
    · have z:=post s3 (s2.toks + 23) T1 (k2) (.ref (s2.heap.objs.size + 1)) ((N1.sm.trans N2.sm).trans N3.sm)
      rw [ez] at z
      exact z (N3.hp.pm)
  · replace hb':=hb' hb
    have ez : dz 256 128 64 2048 [83,115] z = due3 [83,115] (Int.fmod (Int.fdiv z (Int.ofNat 256)) (Int.ofNat 2)) (Int.fmod (Int.fdiv z (Int.ofNat 128)) (Int.ofNat 2)) (Int.fmod (Int.fdiv z (Int.ofNat 64)) (Int.ofNat 2)):=by
      unfold dz
      rw [hb]
    refine g_dd041 (F_:=(it,riO (Int.ofNat 1) (Int.ofNat 2)) :: F) n1 T1 g1 (T2 + 1) (.int (Int.ofNat 2) (T2 + 24)) z (Int.fmod (Int.fdiv z (Int.ofNat 256)) (Int.ofNat 2)) (Int.fmod (Int.fdiv z (Int.ofNat 128)) (Int.ofNat 2)) (Int.fmod (Int.fdiv z (Int.ofNat 64)) (Int.ofNat 2)) tz T1 (T2 + 11) (T2 + 23) (T2 + 35) sg ts nl li k0 k1 k2 k3 vb vr L it vk (Int.ofNat 3) (fun n T y hy => nm hy) (fun n T => all_pairs ?_) (M1.sm N2.sm) (by omega)
      (D2.pm) fun s3 N3 => ?_
    · have z1 : Nat.ble (slen (cat (sx (45 :: sg)) (sx [(sat (sx [45,114]) (Int.toNat (Int.fmod (Int.fdiv z (Int.ofNat 256)) (Int.ofNat 2)))),(sat (sx [45,119]) (Int.toNat (Int.fmod (Int.fdiv z (Int.ofNat 128)) (Int.ofNat 2)))),(sat (sx [83,115]) (Int.toNat (Int.fmod (Int.fdiv z (Int.ofNat 64)) (Int.ofNat 2))))]))) 16777216 = true:=by
        rw [catL,slenL]
        exact ble_of (by simp; omega)
      unfold b_dd041
      simp only [z1,q0,q1,q2,r0,r1,r2,hb']
      rfl
    · have z:=post s3 (s2.toks + 23) T1 (k2) (.ref (s2.heap.objs.size + 1)) ((N1.sm.trans N2.sm).trans N3.sm)
      rw [ez] at z
      exact z (N3.hp.pm)
theorem dt14 {L it nl li:Addr} {vk:Option Value} {z:Int} {tz ts k0 k1 k2 k3:Tok} {vb vr:Value} {sg:List Nat} {s:Shared} (hg:sg.length ≤ 100)
    (D:Hp (W b w) H s.heap ((it,riO (Int.ofNat 1) (Int.ofNat 2)) :: (L,duF4 (W b w).params k0 k1 k2 k3 nl li vb vr) :: (L + 1,ceO (some (.int z tz))) :: (L + 2,ceO (some (.str (sx (45 :: sg)) ts))) :: (L + 3,ceO vk) :: F))
    (post:∀ (s':Shared) (ts' tk' k2':Tok) (vb':Value),Sm s s' → Hp (W b w) H s'.heap ((it,riO (Int.ofNat 2) (Int.ofNat 1)) :: (L,duF4 (W b w).params k0 k1 k2' k3 nl li vb' vr) :: (L + 1,ceO (some (.int z tz))) :: (L + 2,ceO (some (.str (sx (45 :: (sg ++ dz 32 16 8 1024 [83,115] z))) ts'))) :: (L + 3,ceO (some (.int (Int.ofNat 1) tk'))) :: F) → codeAny (model P0 (W b w)) A (duIn L it) R s') :
    codeAny (model P0 (W b w)) A (duIn L it) R s:=by
  have e1 : Int.ofNat 1 + 1 = Int.ofNat 2:=rfl
  have e2 : Int.ofNat 2 - 1 = Int.ofNat 1:=rfl
  have q0:=(fm2 (Int.fdiv z (Int.ofNat 32))).1
  have q1:=(fm2 (Int.fdiv z (Int.ofNat 16))).1
  have q2:=(fm2 (Int.fdiv z (Int.ofNat 8))).1
  have r0:=(fm2 (Int.fdiv z (Int.ofNat 32))).2.1
  have r1:=(fm2 (Int.fdiv z (Int.ofNat 16))).2.1
  have r2:=(fm2 (Int.fdiv z (Int.ofNat 8))).2.1
  refine g_db (F_:=(L,duF4 (W b w).params k0 k1 k2 k3 nl li vb vr) :: (L + 1,ceO (some (.int z tz))) :: (L + 2,ceO (some (.str (sx (45 :: sg)) ts))) :: F) L it vk 1 (Int.ofNat 2) (fun n T y hy => ?_) (fun n T q hq => nm hq) hL (by omega)
    (D.pm) fun A1 s1 L1 N1 M1 => ?_
  · cases List.mem_singleton.mp hy
    exact ok_rnext (by decide)
  have D1:=N1.hp
  simp only [e1,e2] at D1
  generalize s.heap.objs.size = n1 at D1 M1 ⊢
  generalize s.toks = T1 at D1 M1 ⊢
  generalize s.gens.toList = g1 at M1 ⊢
  refine comp_startR (x:=0) (left:=Int.ofNat 3) duE1_lc (own_of D1 (by simp)) ?_
  refine g_dc1 (F_:=(it,riO (Int.ofNat 2) (Int.ofNat 1)) :: (L,duF4 (W b w).params k0 k1 k2 k3 nl li vb vr) :: (L + 2,ceO (some (.str (sx (45 :: sg)) ts))) :: F) L (n1 + 1) (n1 + 2) (n1 + 3) z tz T1 (fun n T y hy => nm hy) (fun n T => all_pairs rfl) L1 (by omega)
    (D1.pm) fun s2 N2 => ?_
  have D2:=N2.hp
  generalize s1.toks = T2 at D2
  have hb':=(fm2 (Int.fdiv z (Int.ofNat 1024))).2.2
  rcases Bool.eq_false_or_eq_true ((Int.fmod (Int.fdiv z (Int.ofNat 1024)) (Int.ofNat 2)) == Int.ofNat 0) with hb | hb
  · have ez : dz 32 16 8 1024 [83,115] z = due3 [45,120] (Int.fmod (Int.fdiv z (Int.ofNat 32)) (Int.ofNat 2)) (Int.fmod (Int.fdiv z (Int.ofNat 16)) (Int.ofNat 2)) (Int.fmod (Int.fdiv z (Int.ofNat 8)) (Int.ofNat 2)):=by
      unfold dz
      rw [hb]
    refine g_dd140 (F_:=(it,riO (Int.ofNat 2) (Int.ofNat 1)) :: F) n1 T1 g1 (T2 + 1) (.int (Int.ofNat 2) (T2 + 24)) z (Int.fmod (Int.fdiv z (Int.ofNat 32)) (Int.ofNat 2)) (Int.fmod (Int.fdiv z (Int.ofNat 16)) (Int.ofNat 2)) (Int.fmod (Int.fdiv z (Int.ofNat 8)) (Int.ofNat 2)) tz T1 (T2 + 11) (T2 + 23) (T2 + 35) sg ts nl li k0 k1 k2 k3 vb vr L it vk (Int.ofNat 2) (fun n T y hy => nm hy) (fun n T => all_pairs ?_) (M1.sm N2.sm) (by omega)
      (D2.pm) fun s3 N3 => ?_
    · have z1 : Nat.ble (slen (cat (sx (45 :: sg)) (sx [(sat (sx [45,114]) (Int.toNat (Int.fmod (Int.fdiv z (Int.ofNat 32)) (Int.ofNat 2)))),(sat (sx [45,119]) (Int.toNat (Int.fmod (Int.fdiv z (Int.ofNat 16)) (Int.ofNat 2)))),(sat (sx [45,120]) (Int.toNat (Int.fmod (Int.fdiv z (Int.ofNat 8)) (Int.ofNat 2))))]))) 16777216 = true:=by
        rw [catL,slenL]
        exact ble_of (by simp; omega)
      unfold b_dd140
      simp only [z1,q0,q1,q2,r0,r1,r2,hb]
      rfl
    · have z:=post s3 (s2.toks + 23) T1 (k2) (.ref (s2.heap.objs.size + 1)) ((N1.sm.trans N2.sm).trans N3.sm)
      rw [ez] at z
      exact z (N3.hp.pm)
  · replace hb':=hb' hb
    have ez : dz 32 16 8 1024 [83,115] z = due3 [83,115] (Int.fmod (Int.fdiv z (Int.ofNat 32)) (Int.ofNat 2)) (Int.fmod (Int.fdiv z (Int.ofNat 16)) (Int.ofNat 2)) (Int.fmod (Int.fdiv z (Int.ofNat 8)) (Int.ofNat 2)):=by
      unfold dz
      rw [hb]
    refine g_dd141 (F_:=(it,riO (Int.ofNat 2) (Int.ofNat 1)) :: F) n1 T1 g1 (T2 + 1) (.int (Int.ofNat 2) (T2 + 24)) z (Int.fmod (Int.fdiv z (Int.ofNat 32)) (Int.ofNat 2)) (Int.fmod (Int.fdiv z (Int.ofNat 16)) (Int.ofNat 2)) (Int.fmod (Int.fdiv z (Int.ofNat 8)) (Int.ofNat 2)) tz T1 (T2 + 11) (T2 + 23) (T2 + 35) sg ts nl li k0 k1 k2 k3 vb vr L it vk (Int.ofNat 2) (fun n T y hy => nm hy) (fun n T => all_pairs ?_) (M1.sm N2.sm) (by omega)
      (D2.pm) fun s3 N3 => ?_
    · have z1 : Nat.ble (slen (cat (sx (45 :: sg)) (sx [(sat (sx [45,114]) (Int.toNat (Int.fmod (Int.fdiv z (Int.ofNat 32)) (Int.ofNat 2)))),(sat (sx [45,119]) (Int.toNat (Int.fmod (Int.fdiv z (Int.ofNat 16)) (Int.ofNat 2)))),(sat (sx [83,115]) (Int.toNat (Int.fmod (Int.fdiv z (Int.ofNat 8)) (Int.ofNat 2))))]))) 16777216 = true:=by
        rw [catL,slenL]
        exact ble_of (by simp; omega)
      unfold b_dd141
      simp only [z1,q0,q1,q2,r0,r1,r2,hb']
      rfl
    · have z:=post s3 (s2.toks + 23) T1 (k2) (.ref (s2.heap.objs.size + 1)) ((N1.sm.trans N2.sm).trans N3.sm)
      rw [ez] at z
      exact z (N3.hp.pm)
theorem dt24 {L it nl li:Addr} {vk:Option Value} {z:Int} {tz ts k0 k1 k2 k3:Tok} {vb vr:Value} {sg:List Nat} {s:Shared} (hg:sg.length ≤ 100)
    (D:Hp (W b w) H s.heap ((it,riO (Int.ofNat 2) (Int.ofNat 1)) :: (L,duF4 (W b w).params k0 k1 k2 k3 nl li vb vr) :: (L + 1,ceO (some (.int z tz))) :: (L + 2,ceO (some (.str (sx (45 :: sg)) ts))) :: (L + 3,ceO vk) :: F))
    (post:∀ (s':Shared) (ts' tk' k2':Tok) (vb':Value),Sm s s' → Hp (W b w) H s'.heap ((it,riO (Int.ofNat 3) (Int.ofNat 0)) :: (L,duF4 (W b w).params k0 k1 k2' k3 nl li vb' vr) :: (L + 1,ceO (some (.int z tz))) :: (L + 2,ceO (some (.str (sx (45 :: (sg ++ dz 4 2 1 512 [84,116] z))) ts'))) :: (L + 3,ceO (some (.int (Int.ofNat 2) tk'))) :: F) → codeAny (model P0 (W b w)) A (duIn L it) R s') :
    codeAny (model P0 (W b w)) A (duIn L it) R s:=by
  have e1 : Int.ofNat 2 + 1 = Int.ofNat 3:=rfl
  have e2 : Int.ofNat 1 - 1 = Int.ofNat 0:=rfl
  have q0:=(fm2 (Int.fdiv z (Int.ofNat 4))).1
  have q1:=(fm2 (Int.fdiv z (Int.ofNat 2))).1
  have q2:=(fm2 (Int.fdiv z (Int.ofNat 1))).1
  have r0:=(fm2 (Int.fdiv z (Int.ofNat 4))).2.1
  have r1:=(fm2 (Int.fdiv z (Int.ofNat 2))).2.1
  have r2:=(fm2 (Int.fdiv z (Int.ofNat 1))).2.1
  refine g_db (F_:=(L,duF4 (W b w).params k0 k1 k2 k3 nl li vb vr) :: (L + 1,ceO (some (.int z tz))) :: (L + 2,ceO (some (.str (sx (45 :: sg)) ts))) :: F) L it vk 2 (Int.ofNat 1) (fun n T y hy => ?_) (fun n T q hq => nm hq) hL (by omega)
    (D.pm) fun A1 s1 L1 N1 M1 => ?_
  · cases List.mem_singleton.mp hy
    exact ok_rnext (by decide)
  have D1:=N1.hp
  simp only [e1,e2] at D1
  generalize s.heap.objs.size = n1 at D1 M1 ⊢
  generalize s.toks = T1 at D1 M1 ⊢
  generalize s.gens.toList = g1 at M1 ⊢
  refine comp_startR (x:=0) (left:=Int.ofNat 3) duE1_lc (own_of D1 (by simp)) ?_
  refine g_dc2 (F_:=(it,riO (Int.ofNat 3) (Int.ofNat 0)) :: (L,duF4 (W b w).params k0 k1 k2 k3 nl li vb vr) :: (L + 2,ceO (some (.str (sx (45 :: sg)) ts))) :: F) L (n1 + 1) (n1 + 2) (n1 + 3) z tz T1 (fun n T y hy => nm hy) (fun n T => all_pairs rfl) L1 (by omega)
    (D1.pm) fun s2 N2 => ?_
  have D2:=N2.hp
  generalize s1.toks = T2 at D2
  have hb':=(fm2 (Int.fdiv z (Int.ofNat 512))).2.2
  rcases Bool.eq_false_or_eq_true ((Int.fmod (Int.fdiv z (Int.ofNat 512)) (Int.ofNat 2)) == Int.ofNat 0) with hb | hb
  · have ez : dz 4 2 1 512 [84,116] z = due3 [45,120] (Int.fmod (Int.fdiv z (Int.ofNat 4)) (Int.ofNat 2)) (Int.fmod (Int.fdiv z (Int.ofNat 2)) (Int.ofNat 2)) (Int.fmod (Int.fdiv z (Int.ofNat 1)) (Int.ofNat 2)):=by
      unfold dz
      rw [hb]
    refine g_dd240 (F_:=(it,riO (Int.ofNat 3) (Int.ofNat 0)) :: F) n1 T1 g1 (T2 + 1) (.int (Int.ofNat 2) (T2 + 24)) z (Int.fmod (Int.fdiv z (Int.ofNat 4)) (Int.ofNat 2)) (Int.fmod (Int.fdiv z (Int.ofNat 2)) (Int.ofNat 2)) (Int.fmod (Int.fdiv z (Int.ofNat 1)) (Int.ofNat 2)) tz T1 (T2 + 11) (T2 + 23) (T2 + 35) sg ts nl li k0 k1 k2 k3 vb vr L it vk (Int.ofNat 1) (fun n T y hy => nm hy) (fun n T => all_pairs ?_) (M1.sm N2.sm) (by omega)
      (D2.pm) fun s3 N3 => ?_
    · have z1 : Nat.ble (slen (cat (sx (45 :: sg)) (sx [(sat (sx [45,114]) (Int.toNat (Int.fmod (Int.fdiv z (Int.ofNat 4)) (Int.ofNat 2)))),(sat (sx [45,119]) (Int.toNat (Int.fmod (Int.fdiv z (Int.ofNat 2)) (Int.ofNat 2)))),(sat (sx [45,120]) (Int.toNat (Int.fmod (Int.fdiv z (Int.ofNat 1)) (Int.ofNat 2))))]))) 16777216 = true:=by
        rw [catL,slenL]
        exact ble_of (by simp; omega)
      unfold b_dd240
      simp only [z1,q0,q1,q2,r0,r1,r2,hb]
      rfl
    · have z:=post s3 (s2.toks + 23) T1 (k2) (.ref (s2.heap.objs.size + 1)) ((N1.sm.trans N2.sm).trans N3.sm)
      rw [ez] at z
      exact z (N3.hp.pm)
  · replace hb':=hb' hb
    have ez : dz 4 2 1 512 [84,116] z = due3 [84,116] (Int.fmod (Int.fdiv z (Int.ofNat 4)) (Int.ofNat 2)) (Int.fmod (Int.fdiv z (Int.ofNat 2)) (Int.ofNat 2)) (Int.fmod (Int.fdiv z (Int.ofNat 1)) (Int.ofNat 2)):=by
      unfold dz
      rw [hb]
    refine g_dd241 (F_:=(it,riO (Int.ofNat 3) (Int.ofNat 0)) :: F) n1 T1 g1 (T2 + 1) (.int (Int.ofNat 2) (T2 + 24)) z (Int.fmod (Int.fdiv z (Int.ofNat 4)) (Int.ofNat 2)) (Int.fmod (Int.fdiv z (Int.ofNat 2)) (Int.ofNat 2)) (Int.fmod (Int.fdiv z (Int.ofNat 1)) (Int.ofNat 2)) tz T1 (T2 + 11) (T2 + 23) (T2 + 35) sg ts nl li k0 k1 k2 k3 vb vr L it vk (Int.ofNat 1) (fun n T y hy => nm hy) (fun n T => all_pairs ?_) (M1.sm N2.sm) (by omega)
      (D2.pm) fun s3 N3 => ?_
    · have z1 : Nat.ble (slen (cat (sx (45 :: sg)) (sx [(sat (sx [45,114]) (Int.toNat (Int.fmod (Int.fdiv z (Int.ofNat 4)) (Int.ofNat 2)))),(sat (sx [45,119]) (Int.toNat (Int.fmod (Int.fdiv z (Int.ofNat 2)) (Int.ofNat 2)))),(sat (sx [84,116]) (Int.toNat (Int.fmod (Int.fdiv z (Int.ofNat 1)) (Int.ofNat 2))))]))) 16777216 = true:=by
        rw [catL,slenL]
        exact ble_of (by simp; omega)
      unfold b_dd241
      simp only [z1,q0,q1,q2,r0,r1,r2,hb']
      rfl
    · have z:=post s3 (s2.toks + 23) T1 (k2) (.ref (s2.heap.objs.size + 1)) ((N1.sm.trans N2.sm).trans N3.sm)
      rw [ez] at z
      exact z (N3.hp.pm)
end
theorem sm1024 {n:Nat} (h:n ≤ 100) : decide ((n:Int) < Int.ofNat 1024) = true ∧ decide (Int.negSucc 1023 < (n:Int)) = true:=by
  have e1 : Int.ofNat 1024 = 1024:=rfl
  have e2 : Int.negSucc 1023 = -1024:=rfl
  exact ⟨decide_eq_true (by omega),decide_eq_true (by omega)⟩
theorem fits_cat {x y:List Nat} (h:x.length + y.length ≤ 1000) : Nat.ble (slen (cat (sx x) (sx y))) 16777216 = true:=by
  rw [catL,slenL,List.length_append]
  exact ble_of h
theorem dgt_ok {p q j:Nat} {sg:List Nat} (h:j < p) (hp:p ≤ 10) (hq:q ≤ 10) (hs:sg.length ≤ 100) : dgXt (p:Int) (q:Int) j sg = sx (padT (p - j) (45 :: sg) (q - (j - p))) ∧ ∀ x ∈ dgBt (p:Int) (q:Int) j sg,x.1 = x.2:=by
  have e1 : (p:Int) - Int.ofNat j = ((p - j : Nat) : Int):=by show (p:Int) - (j:Int) = _; omega
  have e2 : (q:Int) - Int.ofNat 0 = (q:Int):=by show (q:Int) - 0 = _; omega
  have e3 : decide (Int.ofNat j - (p:Int) > Int.ofNat 0) = false:=decide_eq_false (by show ¬ ((j:Int) - (p:Int) > 0); omega)
  have e4 : decide (((p - j : Nat) : Int) > Int.ofNat 0) = true:=decide_eq_true (by show ((p - j : Nat) : Int) > 0; omega)
  constructor
  · unfold dgXt
    rw [e1,e2,srep_eq,srep_eq,catL,catL,List.append_assoc,show q - (j - p) = q by omega]
    rfl
  · refine all_pairs ?_
    have f1 : Nat.ble (slen (cat (sx (List.replicate (p - j) 32)) (sx (45 :: sg)))) 16777216 = true:=fits_cat (by simp; omega)
    have f2 : Nat.ble (slen (cat (cat (sx (List.replicate (p - j) 32)) (sx (45 :: sg))) (sx (List.replicate q 32)))) 16777216 = true:=by
      rw [catL]
      exact fits_cat (by simp; omega)
    unfold dgBt
    simp only [e1,e2,e3,e4,srep_eq,f1,f2,(sm1024 (show q ≤ 100 by omega)).1,(sm1024 (show q ≤ 100 by omega)).2,(sm1024 (show p - j ≤ 100 by omega)).1,(sm1024 (show p - j ≤ 100 by omega)).2]
    rfl
theorem dge_ok {p q j:Nat} {sg:List Nat} (h:j = p) (hp:p ≤ 10) (hq:q ≤ 10) (hs:sg.length ≤ 100) : dgXe (p:Int) (q:Int) j sg = sx (padT (p - j) (45 :: sg) (q - (j - p))) ∧ ∀ x ∈ dgBe (p:Int) (q:Int) j sg,x.1 = x.2:=by
  have e2 : (q:Int) - Int.ofNat 0 = (q:Int):=by show (q:Int) - 0 = _; omega
  have e3 : decide (Int.ofNat j - (p:Int) > Int.ofNat 0) = false:=decide_eq_false (by show ¬ ((j:Int) - (p:Int) > 0); omega)
  have e4 : decide ((p:Int) - Int.ofNat j > Int.ofNat 0) = false:=decide_eq_false (by show ¬ ((p:Int) - (j:Int) > 0); omega)
  constructor
  · unfold dgXe
    rw [e2,srep_eq,catL,show p - j = 0 by omega,show q - (j - p) = q by omega]
    rfl
  · refine all_pairs ?_
    have f2 : Nat.ble (slen (cat (sx (45 :: sg)) (sx (List.replicate q 32)))) 16777216 = true:=fits_cat (by simp; omega)
    unfold dgBe
    simp only [e2,e3,e4,srep_eq,f2,(sm1024 (show q ≤ 100 by omega)).1,(sm1024 (show q ≤ 100 by omega)).2]
    rfl
theorem dgf_ok {p q j:Nat} {sg:List Nat} (h:p < j) (hj:j ≤ p + q) (hp:p ≤ 10) (hq:q ≤ 10) (hs:sg.length ≤ 100) : dgXf (p:Int) (q:Int) j sg = sx (padT (p - j) (45 :: sg) (q - (j - p))) ∧ ∀ x ∈ dgBf (p:Int) (q:Int) j sg,x.1 = x.2:=by
  have e2 : (q:Int) - (Int.ofNat j - (p:Int)) = ((q - (j - p) : Nat) : Int):=by show (q:Int) - ((j:Int) - (p:Int)) = _; omega
  have e3 : decide (Int.ofNat j - (p:Int) > Int.ofNat 0) = true:=decide_eq_true (by show (j:Int) - (p:Int) > 0; omega)
  have e4 : decide ((p:Int) - Int.ofNat j > Int.ofNat 0) = false:=decide_eq_false (by show ¬ ((p:Int) - (j:Int) > 0); omega)
  constructor
  · unfold dgXf
    rw [e2,srep_eq,catL,show p - j = 0 by omega]
    rfl
  · refine all_pairs ?_
    have f2 : Nat.ble (slen (cat (sx (45 :: sg)) (sx (List.replicate (q - (j - p)) 32)))) 16777216 = true:=fits_cat (by simp; omega)
    unfold dgBf
    simp only [e2,e3,e4,srep_eq,f2,(sm1024 (show q - (j - p) ≤ 100 by omega)).1,(sm1024 (show q - (j - p) ≤ 100 by omega)).2]
    rfl
def kO (P:Params) (t:Tok) (v:Value) : Obj:=dcO P [(sx [107],t,v)] 1
section
variable {b:Bool} {w:World} {A:Around} {R:Result → Shared → Prop} {v:Nat} {F:List (Addr × Obj)} {H:Heap} (hL:Lv A v) (hv:v ≤ 330)
include hL hv
theorem drow_turns {L it acc C:Addr} {p q:Nat} {ta tb ts:Tok} {sg:List Nat} (hp:p ≤ 10) (hq:q ≤ 10) (hs:sg.length ≤ 100) :
    ∀ (m j k:Nat) (l:List Value) (t0:Tok) (v0:Value) (s:Shared),j + m = p + q + 1 → l.length = j → StrsV ((List.range j).map fun j => padT (p - j) (45 :: sg) (q - (j - p))) l →
      Hp (W b w) H s.heap ((it,riO (Int.ofNat j) (Int.ofNat m)) :: (L + 4,ceO (some (.int (p:Int) ta))) :: (L + 2,ceO (some (.str (sx (45 :: sg)) ts))) :: (L + 5,ceO (some (.int (q:Int) tb))) :: (acc,liO l k) :: (C,kO (W b w).params t0 v0) :: F) →
      (∀ (s':Shared) (l':List Value) (k':Nat) (t1:Tok) (v1:Value),Sm s s' → StrsV (rwT p (45 :: sg) q) l' → Hp (W b w) H s'.heap ((L + 4,ceO (some (.int (p:Int) ta))) :: (L + 2,ceO (some (.str (sx (45 :: sg)) ts))) :: (L + 5,ceO (some (.int (q:Int) tb))) :: (acc,liO l' k') :: (C,kO (W b w).params t1 v1) :: F) → R (.ok .next) s') →
      codeAny (model P0 (W b w)) A (duC2 L it acc C) R s:=by
  intro m
  induction m with
  | zero =>
    intro j k l t0 v0 s hj hl hs D post
    have hj : j = p + q + 1:=hj
    refine g_dge (F_:=(L + 4,ceO (some (.int (p:Int) ta))) :: (L + 2,ceO (some (.str (sx (45 :: sg)) ts))) :: (L + 5,ceO (some (.int (q:Int) tb))) :: (acc,liO l k) :: (C,kO (W b w).params t0 v0) :: F) L it acc C j (fun n T y hy => nm hy) (fun n T q hq => nm hq) hL (by omega) D fun s1 N1 => ?_
    subst hj
    exact post s1 l k t0 v0 N1.sm hs N1.hp
  | succ m ih =>
    intro j k l t0 v0 s hj hl hst D post
    have e1 : Int.ofNat j + 1 = Int.ofNat (j + 1):=rfl
    have e2 : Int.ofNat (m + 1) - 1 = Int.ofNat m:=by show ((m + 1 : Nat) : Int) - 1 = (m:Int); omega
    have h0 : (0 : Int) < Int.ofNat (m + 1):=by show (0 : Int) < ((m + 1 : Nat) : Int); omega
    have fin : ∀ (s1:Shared) (tk:Tok) (v1:Value),Sm s s1 → Hp (W b w) H s1.heap ((it,riO (Int.ofNat (j + 1)) (Int.ofNat m)) :: (L + 4,ceO (some (.int (p:Int) ta))) :: (L + 2,ceO (some (.str (sx (45 :: sg)) ts))) :: (L + 5,ceO (some (.int (q:Int) tb))) :: (acc,liO (l ++ [.str (sx (padT (p - j) (45 :: sg) (q - (j - p)))) tk]) (k + 1)) :: (C,kO (W b w).params t0 v1) :: F) →
        codeAny (model P0 (W b w)) A (duC2 L it acc C) R s1:=by
      intro s1 tk v1 S1 D1
      refine ih (j + 1) (k + 1) _ _ _ s1 (by omega) (by rw [List.length_append,hl]; rfl) ?_ D1 fun s2 l' k' t1 v1 S2 h2 D2 => post s2 l' k' t1 v1 (S1.trans S2) h2 D2
      rw [List.range_succ,List.map_append]
      exact hst.app (.cons .nil)
    rcases Nat.lt_trichotomy j p with h | h | h
    · obtain ⟨hX,hB⟩:=dgt_ok (sg:=sg) h hp hq hs
      refine g_dgtb (F_:=F) L it acc C l k j (Int.ofNat (m + 1)) (p:Int) (q:Int) ta tb ts sg t0 v0 (fun n T y hy => ?_) (fun n T => hB) hL (by omega) D fun s1 N1 => ?_
      · rcases List.mem_cons.mp hy with rfl | hy
        · exact ok_rnext h0
        · cases List.mem_singleton.mp hy
          exact ok_app (by omega)
      have D1:=N1.hp
      simp only [e1,e2,hX] at D1
      exact fin s1 _ _ N1.sm D1
    · obtain ⟨hX,hB⟩:=dge_ok (sg:=sg) h hp hq hs
      refine g_dgeb (F_:=F) L it acc C l k j (Int.ofNat (m + 1)) (p:Int) (q:Int) ta tb ts sg t0 v0 (fun n T y hy => ?_) (fun n T => hB) hL (by omega) D fun s1 N1 => ?_
      · rcases List.mem_cons.mp hy with rfl | hy
        · exact ok_rnext h0
        · cases List.mem_singleton.mp hy
          exact ok_app (by omega)
      have D1:=N1.hp
      simp only [e1,e2,hX] at D1
      exact fin s1 _ _ N1.sm D1
    · obtain ⟨hX,hB⟩:=dgf_ok (sg:=sg) h (by omega) hp hq hs
      refine g_dgfb (F_:=F) L it acc C l k j (Int.ofNat (m + 1)) (p:Int) (q:Int) ta tb ts sg t0 v0 (fun n T y hy => ?_) (fun n T => hB) hL (by omega) D fun s1 N1 => ?_
      · rcases List.mem_cons.mp hy with rfl | hy
        · exact ok_rnext h0
        · cases List.mem_singleton.mp hy
          exact ok_app (by omega)
      have D1:=N1.hp
      simp only [e1,e2,hX] at D1
      exact fin s1 _ _ N1.sm D1
theorem drow_loop {L it acc C:Addr} {p q k:Nat} {ta tb ts:Tok} {sg:List Nat} {s:Shared} (hp:p ≤ 10) (hq:q ≤ 10) (hs:sg.length ≤ 100)
    (D:Hp (W b w) H s.heap ((it,riO 0 (Int.ofNat (p + q + 1))) :: (L + 4,ceO (some (.int (p:Int) ta))) :: (L + 2,ceO (some (.str (sx (45 :: sg)) ts))) :: (L + 5,ceO (some (.int (q:Int) tb))) :: (acc,liO [] k) :: (C,dcO (W b w).params [] 0) :: F))
    (post:∀ (s':Shared) (l':List Value) (k':Nat) (t1:Tok) (v1:Value),Sm s s' → StrsV (rwT p (45 :: sg) q) l' → Hp (W b w) H s'.heap ((L + 4,ceO (some (.int (p:Int) ta))) :: (L + 2,ceO (some (.str (sx (45 :: sg)) ts))) :: (L + 5,ceO (some (.int (q:Int) tb))) :: (acc,liO l' k') :: (C,kO (W b w).params t1 v1) :: F) → R (.ok .next) s') :
    codeAny (model P0 (W b w)) A (duC2 L it acc C) R s:=by
  have e1 : Int.ofNat 0 + 1 = Int.ofNat (0 + 1):=rfl
  have e2 : Int.ofNat (p + q + 1) - 1 = Int.ofNat (p + q):=by show ((p + q + 1 : Nat) : Int) - 1 = ((p + q : Nat) : Int); omega
  have h0 : (0 : Int) < Int.ofNat (p + q + 1):=by show (0 : Int) < ((p + q + 1 : Nat) : Int); omega
  have fin : ∀ (s1:Shared) (tk t1:Tok) (v1:Value),Sm s s1 → Hp (W b w) H s1.heap ((it,riO (Int.ofNat (0 + 1)) (Int.ofNat (p + q))) :: (L + 4,ceO (some (.int (p:Int) ta))) :: (L + 2,ceO (some (.str (sx (45 :: sg)) ts))) :: (L + 5,ceO (some (.int (q:Int) tb))) :: (acc,liO ([] ++ [.str (sx (padT (p - 0) (45 :: sg) (q - (0 - p)))) tk]) (k + 1)) :: (C,kO (W b w).params t1 v1) :: F) →
      codeAny (model P0 (W b w)) A (duC2 L it acc C) R s1:=by
    intro s1 tk t1 v1 S1 D1
    exact drow_turns hL hv hp hq hs (p + q) 1 (k + 1) _ _ _ s1 (by omega) rfl (.cons .nil) D1 fun s2 l' k' t1 v1 S2 h2 D2 => post s2 l' k' t1 v1 (S1.trans S2) h2 D2
  rcases Nat.lt_or_ge 0 p with h | h
  · obtain ⟨hX,hB⟩:=dgt_ok (sg:=sg) h hp hq hs
    refine g_dgta (F_:=F) L it acc C [] k 0 (Int.ofNat (p + q + 1)) (p:Int) (q:Int) ta tb ts sg (fun n T y hy => ?_) (fun n T => hB) hL (by omega) D fun s1 N1 => ?_
    · rcases List.mem_cons.mp hy with rfl | hy
      · exact ok_rnext h0
      · cases List.mem_singleton.mp hy
        exact ok_app (by show 0 ≤ 1000; omega)
    have D1:=N1.hp
    simp only [e1,e2,hX] at D1
    exact fin s1 _ _ _ N1.sm D1
  · obtain ⟨hX,hB⟩:=dge_ok (sg:=sg) (j:=0) (p:=p) (by omega) hp hq hs
    refine g_dgea (F_:=F) L it acc C [] k 0 (Int.ofNat (p + q + 1)) (p:Int) (q:Int) ta tb ts sg (fun n T y hy => ?_) (fun n T => hB) hL (by omega) D fun s1 N1 => ?_
    · rcases List.mem_cons.mp hy with rfl | hy
      · exact ok_rnext h0
      · cases List.mem_singleton.mp hy
        exact ok_app (by show 0 ≤ 1000; omega)
    have D1:=N1.hp
    simp only [e1,e2,hX] at D1
    exact fin s1 _ _ _ N1.sm D1
end
def sgZ (z:Int) : List Nat:=(([] ++ dz 256 128 64 2048 [83,115] z) ++ dz 32 16 8 1024 [83,115] z) ++ dz 4 2 1 512 [84,116] z
theorem sgZ_len (z:Int) : (sgZ z).length = 9:=rfl
noncomputable def dzN (c0 c1 c2 c3:Nat) (T:List Nat) (r:Nat) : List Nat:=[sat (sx [45,114]) (r / c0 % 2),sat (sx [45,119]) (r / c1 % 2),sat (sx (match Nat.beq (r / c3 % 2) 0 with | true => [45,120] | false => T)) (r / c2 % 2)]
noncomputable def sgN (r:Nat) : List Nat:=(([] ++ dzN 256 128 64 2048 [83,115] r) ++ dzN 32 16 8 1024 [83,115] r) ++ dzN 4 2 1 512 [84,116] r
noncomputable def allB (f:Nat → Bool) : Nat → Bool
  | 0 => true
  | n + 1 => match f n with
    | true => allB f n
    | false => false
theorem allB_of {f:Nat → Bool} : ∀ {n:Nat},allB f n = true → ∀ {k:Nat},k < n → f k = true
  | 0,_,_,hk => absurd hk (Nat.not_lt_zero _)
  | n + 1,h,k,hk => by
    unfold allB at h
    cases q : f n with
    | false => rw [q] at h; cases h
    | true =>
      rw [q] at h
      rcases Nat.lt_or_ge k n with x | x
      · exact allB_of h x
      · have : k = n:=by omega
        rw [this]; exact q
noncomputable def sg1N (m b c:Nat) : Nat:=match Nat.beq (Nat.land m b) b with
  | true => c
  | false => 45
noncomputable def sg3N (m xs s x cs cS:Nat) : Nat:=match Nat.beq (Nat.land m xs) xs with
  | true => cs
  | false => match Nat.beq (Nat.land m s) s with
    | true => cS
    | false => match Nat.beq (Nat.land m x) x with
      | true => 120
      | false => 45
theorem and_nat (m b:Nat) : (Builtin.bitAnd ((m:Nat) : Int) ((b:Nat) : Int) == ((b:Nat) : Int)) = Nat.beq (Nat.land m b) b:=by
  have h1 : Builtin.bitAnd ((m:Nat) : Int) ((b:Nat) : Int) = ((Nat.land m b : Nat) : Int):=by
    unfold Builtin.bitAnd
    rw [decide_eq_true (Int.natCast_nonneg m),decide_eq_true (Int.natCast_nonneg b)]
    rfl
  rw [h1]
  generalize Nat.land m b = x
  cases q : Nat.beq x b with
  | true => rw [Nat.eq_of_beq_eq_true q]; exact beq_self_eq_true _
  | false =>
    have:=Nat.ne_of_beq_eq_false q
    simp only [beq_eq_false_iff_ne,ne_eq]; omega
theorem sg1_nat (m b c:Nat) : sg1 ((m:Nat) : Int) b c = sg1N m b c:=by
  unfold sg1 sg1N
  rw [and_nat] <;> rfl
theorem sg3_nat (m xs s x cs cS:Nat) : sg3 ((m:Nat) : Int) xs s x cs cS = sg3N m xs s x cs cS:=by
  unfold sg3 sg3N
  rw [and_nat,and_nat,and_nat] <;> rfl
noncomputable def lsB : List Nat → List Nat → Bool
  | [],[] => true
  | x :: l,y :: m => match Nat.beq x y with
    | true => lsB l m
    | false => false
  | _,_ => false
theorem lsB_eq : ∀ {l m:List Nat},lsB l m = true → l = m
  | [],[],_ => rfl
  | [],_ :: _,h => by cases h
  | _ :: _,[],h => by cases h
  | x :: l,y :: m,h => by
    unfold lsB at h
    cases q : Nat.beq x y with
    | false => rw [q] at h; cases h
    | true =>
      rw [q] at h
      rw [Nat.eq_of_beq_eq_true q,lsB_eq h]
noncomputable def fmN (m:Nat) : List Nat:=[45,sg1N m 256 114,sg1N m 128 119,sg3N m 2112 2048 64 115 83,sg1N m 32 114,sg1N m 16 119,sg3N m 1032 1024 8 115 83,sg1N m 4 114,sg1N m 2 119,sg3N m 513 512 1 116 84]
theorem fm_nat (m:Nat) : fmText ((m:Nat) : Int) = fmN m:=by
  unfold fmText fmN
  simp only [sg1_nat,sg3_nat]
theorem signs_all : allB (fun r => lsB (fmN (32768 + r)) (45 :: sgN r)) 4096 = true:=by kernel_rfl
theorem signs_reg {r:Nat} (h:r < 4096) : fmText (Int.ofNat 32768 + Int.ofNat r) = 45 :: sgN r :=
  (fm_nat (32768 + r)).trans (lsB_eq (allB_of signs_all h))
theorem bit_eq {z:Int} {c r:Nat} (hd:c * (2 * (2048 / c)) = 4096) (hz:z % 4096 = (r:Int)) : Int.fmod (Int.fdiv z (Int.ofNat c)) (Int.ofNat 2) = ((r / c % 2 : Nat) : Int):=by
  have h1 : Int.fdiv z (Int.ofNat c) = z / (c:Int):=Int.fdiv_eq_ediv_of_nonneg _ (Int.natCast_nonneg _)
  rw [h1,Int.fmod_eq_emod_of_nonneg _ (by decide)]
  have hc : (c:Int) ≠ 0:=fun e => by
    have e : c = 0:=Int.ofNat.inj e
    subst e
    simp at hd
  generalize 2048 / c = d at hd
  have hd' : (4096 : Int) = (c:Int) * (2 * (d:Int)):=by rw [show (4096 : Int) = ((4096 : Nat) : Int) from rfl,← hd]; simp
  have t : z = r + 4096 * (z / 4096):=by rw [← hz]; exact (Int.emod_add_mul_ediv z 4096).symm
  generalize z / 4096 = q at t
  rw [t,hd',Int.mul_assoc,Int.add_mul_ediv_left _ _ hc,Int.mul_assoc]
  show _ % (2 : Int) = _
  rw [Int.add_mul_emod_self_left]
  rfl
theorem dz_eq {z:Int} {r c0 c1 c2 c3:Nat} {T:List Nat} (h0:Int.fmod (Int.fdiv z (Int.ofNat c0)) (Int.ofNat 2) = ((r / c0 % 2 : Nat) : Int)) (h1:Int.fmod (Int.fdiv z (Int.ofNat c1)) (Int.ofNat 2) = ((r / c1 % 2 : Nat) : Int)) (h2:Int.fmod (Int.fdiv z (Int.ofNat c2)) (Int.ofNat 2) = ((r / c2 % 2 : Nat) : Int)) (h3:Int.fmod (Int.fdiv z (Int.ofNat c3)) (Int.ofNat 2) = ((r / c3 % 2 : Nat) : Int)) : dz c0 c1 c2 c3 T z = dzN c0 c1 c2 c3 T r:=by
  unfold dz due3 dzN
  rw [h0,h1,h2,h3]
  simp only [Int.toNat_natCast]
  generalize r / c3 % 2 = n
  cases n <;> rfl
theorem signs_eq (z:Int) : fz z = 45 :: sgZ z:=by
  have h1 : (0 : Int) ≤ Int.fmod z (Int.ofNat 4096):=Int.fmod_nonneg_of_pos _ (by decide)
  have h2 : Int.fmod z (Int.ofNat 4096) < Int.ofNat 4096:=Int.fmod_lt_of_pos _ (by decide)
  obtain ⟨r,hr⟩:=Int.eq_ofNat_of_zero_le h1
  have h3 : r < 4096:=by
    rw [hr] at h2
    have : Int.ofNat 4096 = 4096:=rfl
    omega
  have hm : Int.fmod z (Int.ofNat 4096) = z % 4096:=Int.fmod_eq_emod_of_nonneg _ (by decide)
  have hz : z % 4096 = (r:Int):=by rw [← hm]; exact hr
  unfold fz
  rw [hr]
  refine (signs_reg h3).trans ?_
  congr 1
  unfold sgZ sgN
  rw [dz_eq (r:=r) (bit_eq (by decide) hz) (bit_eq (by decide) hz) (bit_eq (by decide) hz) (bit_eq (by decide) hz),
    dz_eq (r:=r) (bit_eq (by decide) hz) (bit_eq (by decide) hz) (bit_eq (by decide) hz) (bit_eq (by decide) hz),
    dz_eq (r:=r) (bit_eq (by decide) hz) (bit_eq (by decide) hz) (bit_eq (by decide) hz) (bit_eq (by decide) hz)]
def u_dh3 (w:World) (n T:Nat) (n0 T0:Nat) (g0:List GenState) (n1 T1:Nat) (g1:List GenState) (t1:Tok) (v1:Value) (rs ds:List Value) (kr kd:Nat) (x:List Nat) (tx:Tok) (li:Nat) (k0 k1 k2 k3:Tok) (vb vr:Value) (va vc:Option Value) (L it nl:Nat) (vn vs:Option Value) (ns:List Value) (kn i:Nat) (z:Int) (tz:Tok) : List Sum:=[s_get 2 (n0 + 2) rs kr (Int.ofNat 0) (T + 1) (.str (sx x) tx),s_llen 3 (n0 + 2) rs kr,s_lmul 0 n (.bool true) 0 rs.length (T + 3),s_app 6 li ds kd (.ref (n + 2))]
def r_dh3 (w:World) (n T:Nat) (g:List GenState) (n0 T0:Nat) (g0:List GenState) (n1 T1:Nat) (g1:List GenState) (t1:Tok) (v1:Value) (rs ds:List Value) (kr kd:Nat) (x:List Nat) (tx:Tok) (li:Nat) (k0 k1 k2 k3:Tok) (vb vr:Value) (va vc:Option Value) (L it nl:Nat) (vn vs:Option Value) (ns:List Value) (kn i:Nat) (z:Int) (tz:Tok) : Out:=runK w n T 310 20000 (digits 28 17723584497218323800574752947401816224113185001602) (u_dh3 w n T n0 T0 g0 n1 T1 g1 t1 v1 rs ds kr kd x tx li k0 k1 k2 k3 vb vr va vc L it nl vn vs ns kn i z tz) (r_df w n0 T0 g0 n1 T1 g1 va vc L it nl vn vs ns kn i z tz) (.ok .next) [((n0 + 3),dcO w.params [((sx [107]),t1,v1)] 1),(L,duF3 w.params k0 k1 k2 nl li vb),((n0 + 2),liO rs kr),(li,liO ds kd)] g
def b_dh3 (n T:Nat) (n0 T0:Nat) (g0:List GenState) (n1 T1:Nat) (g1:List GenState) (t1:Tok) (v1:Value) (rs ds:List Value) (kr kd:Nat) (x:List Nat) (tx:Tok) (li:Nat) (k0 k1 k2 k3:Tok) (vb vr:Value) (va vc:Option Value) (L it nl:Nat) (vn vs:Option Value) (ns:List Value) (kn i:Nat) (z:Int) (tz:Tok) : List (Bool × Bool):=[]
theorem e_dh3 (b:Bool) (w:World) (n T:Nat) (g:List GenState) (n0 T0:Nat) (g0:List GenState) (n1 T1:Nat) (g1:List GenState) (t1:Tok) (v1:Value) (rs ds:List Value) (kr kd:Nat) (x:List Nat) (tx:Tok) (li:Nat) (k0 k1 k2 k3:Tok) (vb vr:Value) (va vc:Option Value) (L it nl:Nat) (vn vs:Option Value) (ns:List Value) (kn i:Nat) (z:Int) (tz:Tok) : (r_dh3 (W b w) n T g n0 T0 g0 n1 T1 g1 t1 v1 rs ds kr kd x tx li k0 k1 k2 k3 vb vr va vc L it nl vn vs ns kn i z tz).M [true,true,false,false] = (r_dh3 (W b w) n T g n0 T0 g0 n1 T1 g1 t1 v1 rs ds kr kd x tx li k0 k1 k2 k3 vb vr va vc L it nl vn vs ns kn i z tz).N (b_dh3 n T n0 T0 g0 n1 T1 g1 t1 v1 rs ds kr kd x tx li k0 k1 k2 k3 vb vr va vc L it nl vn vs ns kn i z tz) (.again (duLoop L it)) (3) (4) g [((n + 2),tupO [.str (sx x) tx,.ref (n0 + 2),.ref (n + 1)] 0),((n + 1),liO (List.replicate rs.length (.bool true)) 0),(L,duF4 (W b w).params k0 k1 k2 T nl li vb (.ref (n0 + 2))),((n0 + 2),liO rs kr),(li,liO (ds ++ [.ref (n + 2)]) (kd + 1))]:=by cases b <;> kernel_rfl
noncomputable def g_dh3 {b:Bool} {w:World} (n0 T0:Nat) (g0:List GenState) (n1 T1:Nat) (g1:List GenState) (t1:Tok) (v1:Value) (rs ds:List Value) (kr kd:Nat) (x:List Nat) (tx:Tok) (li:Nat) (k0 k1 k2 k3:Tok) (vb vr:Value) (va vc:Option Value) (L it nl:Nat) (vn vs:Option Value) (ns:List Value) (kn i:Nat) (z:Int) (tz:Tok):=mkKA (fun n T g => e_dh3 b w n T g n0 T0 g0 n1 T1 g1 t1 v1 rs ds kr kd x tx li k0 k1 k2 k3 vb vr va vc L it nl vn vs ns kn i z tz) (fun _ _ _ => rfl) (by decide)
def u_dh4 (w:World) (n T:Nat) (n0 T0:Nat) (g0:List GenState) (n1 T1:Nat) (g1:List GenState) (t1:Tok) (v1:Value) (rs ds:List Value) (kr kd:Nat) (x:List Nat) (tx:Tok) (li:Nat) (k0 k1 k2 k3:Tok) (vb vr:Value) (va vc:Option Value) (L it nl:Nat) (vn vs:Option Value) (ns:List Value) (kn i:Nat) (z:Int) (tz:Tok) : List Sum:=[s_get 2 (n0 + 2) rs kr (Int.ofNat 0) (T + 1) (.str (sx x) tx),s_llen 3 (n0 + 2) rs kr,s_lmul 0 n (.bool true) 0 rs.length (T + 3),s_app 6 li ds kd (.ref (n + 2))]
def r_dh4 (w:World) (n T:Nat) (g:List GenState) (n0 T0:Nat) (g0:List GenState) (n1 T1:Nat) (g1:List GenState) (t1:Tok) (v1:Value) (rs ds:List Value) (kr kd:Nat) (x:List Nat) (tx:Tok) (li:Nat) (k0 k1 k2 k3:Tok) (vb vr:Value) (va vc:Option Value) (L it nl:Nat) (vn vs:Option Value) (ns:List Value) (kn i:Nat) (z:Int) (tz:Tok) : Out:=runK w n T 310 20000 (digits 28 17723584497218323800574752947401816224113185001602) (u_dh4 w n T n0 T0 g0 n1 T1 g1 t1 v1 rs ds kr kd x tx li k0 k1 k2 k3 vb vr va vc L it nl vn vs ns kn i z tz) (r_df w n0 T0 g0 n1 T1 g1 va vc L it nl vn vs ns kn i z tz) (.ok .next) [((n0 + 3),dcO w.params [((sx [107]),t1,v1)] 1),(L,duF4 w.params k0 k1 k2 k3 nl li vb vr),((n0 + 2),liO rs kr),(li,liO ds kd)] g
def b_dh4 (n T:Nat) (n0 T0:Nat) (g0:List GenState) (n1 T1:Nat) (g1:List GenState) (t1:Tok) (v1:Value) (rs ds:List Value) (kr kd:Nat) (x:List Nat) (tx:Tok) (li:Nat) (k0 k1 k2 k3:Tok) (vb vr:Value) (va vc:Option Value) (L it nl:Nat) (vn vs:Option Value) (ns:List Value) (kn i:Nat) (z:Int) (tz:Tok) : List (Bool × Bool):=[]
theorem e_dh4 (b:Bool) (w:World) (n T:Nat) (g:List GenState) (n0 T0:Nat) (g0:List GenState) (n1 T1:Nat) (g1:List GenState) (t1:Tok) (v1:Value) (rs ds:List Value) (kr kd:Nat) (x:List Nat) (tx:Tok) (li:Nat) (k0 k1 k2 k3:Tok) (vb vr:Value) (va vc:Option Value) (L it nl:Nat) (vn vs:Option Value) (ns:List Value) (kn i:Nat) (z:Int) (tz:Tok) : (r_dh4 (W b w) n T g n0 T0 g0 n1 T1 g1 t1 v1 rs ds kr kd x tx li k0 k1 k2 k3 vb vr va vc L it nl vn vs ns kn i z tz).M [true,true,false,false] = (r_dh4 (W b w) n T g n0 T0 g0 n1 T1 g1 t1 v1 rs ds kr kd x tx li k0 k1 k2 k3 vb vr va vc L it nl vn vs ns kn i z tz).N (b_dh4 n T n0 T0 g0 n1 T1 g1 t1 v1 rs ds kr kd x tx li k0 k1 k2 k3 vb vr va vc L it nl vn vs ns kn i z tz) (.again (duLoop L it)) (3) (4) g [((n + 2),tupO [.str (sx x) tx,.ref (n0 + 2),.ref (n + 1)] 0),((n + 1),liO (List.replicate rs.length (.bool true)) 0),(L,duF4 (W b w).params k0 k1 k2 k3 nl li vb (.ref (n0 + 2))),((n0 + 2),liO rs kr),(li,liO (ds ++ [.ref (n + 2)]) (kd + 1))]:=by cases b <;> kernel_rfl
noncomputable def g_dh4 {b:Bool} {w:World} (n0 T0:Nat) (g0:List GenState) (n1 T1:Nat) (g1:List GenState) (t1:Tok) (v1:Value) (rs ds:List Value) (kr kd:Nat) (x:List Nat) (tx:Tok) (li:Nat) (k0 k1 k2 k3:Tok) (vb vr:Value) (va vc:Option Value) (L it nl:Nat) (vn vs:Option Value) (ns:List Value) (kn i:Nat) (z:Int) (tz:Tok):=mkKA (fun n T g => e_dh4 b w n T g n0 T0 g0 n1 T1 g1 t1 v1 rs ds kr kd x tx li k0 k1 k2 k3 vb vr va vc L it nl vn vs ns kn i z tz) (fun _ _ _ => rfl) (by decide)
def u_di (w:World) (n T:Nat) (L it nl:Nat) (ns:List Value) (kn i:Nat) : List Sum:=[s_lend 0 1 it nl ns kn i]
def r_di (w:World) (n T:Nat) (g:List GenState) (L it nl:Nat) (ns:List Value) (kn i:Nat) : Out:=runC (G0 w n T 310) 20000 (digits 4 4225) (u_di w n T L it nl ns kn i) (duLoop L it) [(it,itO nl i),(nl,liO ns kn)] g
def b_di (n T:Nat) (L it nl:Nat) (ns:List Value) (kn i:Nat) : List (Bool × Bool):=[]
theorem e_di (b:Bool) (w:World) (n T:Nat) (g:List GenState) (L it nl:Nat) (ns:List Value) (kn i:Nat) : (r_di (W b w) n T g L it nl ns kn i).M [false,false,false] = (r_di (W b w) n T g L it nl ns kn i).N (b_di n T L it nl ns kn i) (.done (.ok .next)) (2) (0) g [(nl,liO ns kn)]:=by cases b <;> kernel_rfl
noncomputable def g_di {b:Bool} {w:World} (L it nl:Nat) (ns:List Value) (kn i:Nat):=mkD (fun n T g => e_di b w n T g L it nl ns kn i) (fun _ _ _ => rfl) rfl (by decide)
def u_dj (w:World) (n T:Nat) (n0 T0:Nat) (g0:List GenState) (li:Nat) (k0 k1 k2 k3:Tok) (vb vr:Value) (nl:Nat) (ns:List Value) (kn:Nat) : List Sum:=[]
def r_dj (w:World) (n T:Nat) (g:List GenState) (n0 T0:Nat) (g0:List GenState) (li:Nat) (k0 k1 k2 k3:Tok) (vb vr:Value) (nl:Nat) (ns:List Value) (kn:Nat) : Out:=runK w n T 300 20000 (digits 1 1) (u_dj w n T n0 T0 g0 li k0 k1 k2 k3 vb vr nl ns kn) (r_du0 w n0 T0 g0 nl ns kn) (.ok .next) [(n0,duF4 w.params k0 k1 k2 k3 nl li vb vr)] g
def b_dj (n T:Nat) (n0 T0:Nat) (g0:List GenState) (li:Nat) (k0 k1 k2 k3:Tok) (vb vr:Value) (nl:Nat) (ns:List Value) (kn:Nat) : List (Bool × Bool):=[]
theorem e_dj (b:Bool) (w:World) (n T:Nat) (g:List GenState) (n0 T0:Nat) (g0:List GenState) (li:Nat) (k0 k1 k2 k3:Tok) (vb vr:Value) (nl:Nat) (ns:List Value) (kn:Nat) : (r_dj (W b w) n T g n0 T0 g0 li k0 k1 k2 k3 vb vr nl ns kn).M [false] = (r_dj (W b w) n T g n0 T0 g0 li k0 k1 k2 k3 vb vr nl ns kn).N (b_dj n T n0 T0 g0 li k0 k1 k2 k3 vb vr nl ns kn) (.done (.ok (.ret (.ref li)))) (0) (0) g []:=by cases b <;> kernel_rfl
noncomputable def g_dj {b:Bool} {w:World} (n0 T0:Nat) (g0:List GenState) (li:Nat) (k0 k1 k2 k3:Tok) (vb vr:Value) (nl:Nat) (ns:List Value) (kn:Nat):=mkK (fun n T g => e_dj b w n T g n0 T0 g0 li k0 k1 k2 k3 vb vr nl ns kn) (fun _ _ _ => rfl) (by decide)
def u_lz1 (w:World) (n T:Nat) (L it dl acc C:Nat) (ds:List Value) (kd i:Nat) : List Sum:=[s_lend 0 1 it dl ds kd i]
def r_lz1 (w:World) (n T:Nat) (g:List GenState) (L it dl acc C:Nat) (ds:List Value) (kd i:Nat) : Out:=runC (G0 w n T 320) 20000 (digits 3 4225) (u_lz1 w n T L it dl acc C ds kd i) (lwC1 L it acc C) [(it,itO dl i),(dl,liO ds kd)] g
def b_lz1 (n T:Nat) (L it dl acc C:Nat) (ds:List Value) (kd i:Nat) : List (Bool × Bool):=[]
theorem e_lz1 (b:Bool) (w:World) (n T:Nat) (g:List GenState) (L it dl acc C:Nat) (ds:List Value) (kd i:Nat) : (r_lz1 (W b w) n T g L it dl acc C ds kd i).M [false,false,false] = (r_lz1 (W b w) n T g L it dl acc C ds kd i).N (b_lz1 n T L it dl acc C ds kd i) (.done (.ok .next)) (2) (0) g [(dl,liO ds kd)]:=by cases b <;> kernel_rfl
noncomputable def g_lz1 {b:Bool} {w:World} (L it dl acc C:Nat) (ds:List Value) (kd i:Nat):=mkD (fun n T g => e_lz1 b w n T g L it dl acc C ds kd i) (fun _ _ _ => rfl) rfl (by decide)
def u_lz2 (w:World) (n T:Nat) (L it dl acc C:Nat) (ds:List Value) (kd i:Nat) : List Sum:=[s_lend 0 1 it dl ds kd i]
def r_lz2 (w:World) (n T:Nat) (g:List GenState) (L it dl acc C:Nat) (ds:List Value) (kd i:Nat) : Out:=runC (G0 w n T 320) 20000 (digits 3 4225) (u_lz2 w n T L it dl acc C ds kd i) (lwC2 L it acc C) [(it,itO dl i),(dl,liO ds kd)] g
def b_lz2 (n T:Nat) (L it dl acc C:Nat) (ds:List Value) (kd i:Nat) : List (Bool × Bool):=[]
theorem e_lz2 (b:Bool) (w:World) (n T:Nat) (g:List GenState) (L it dl acc C:Nat) (ds:List Value) (kd i:Nat) : (r_lz2 (W b w) n T g L it dl acc C ds kd i).M [false,false,false] = (r_lz2 (W b w) n T g L it dl acc C ds kd i).N (b_lz2 n T L it dl acc C ds kd i) (.done (.ok .next)) (2) (0) g [(dl,liO ds kd)]:=by cases b <;> kernel_rfl
noncomputable def g_lz2 {b:Bool} {w:World} (L it dl acc C:Nat) (ds:List Value) (kd i:Nat):=mkD (fun n T g => e_lz2 b w n T g L it dl acc C ds kd i) (fun _ _ _ => rfl) rfl (by decide)
theorem for_due {z:Int} {t:It} (h1:t.x = fld z) (h2:StrsV (rwT (aN z) (45 :: sgZ z) (bN z)) t.rs) (h3:t.m = t.rs.length) : t.For z:=by
  refine ⟨h1,?_,?_⟩
  · rw [signs_eq]; exact h2
  · rw [h3,strsV_len h2,rwT_len]
section
variable {b:Bool} {w:World} {A:Around} {R:Result → Shared → Prop} {v:Nat} {F:List (Addr × Obj)} {H:Heap} (hL:Lv A v) (hv:v ≤ 300)
include hL hv
theorem du_first {L it nl li:Addr} {k0 k1 k2 k3 tz:Tok} {vb vr:Value} {c1 c2 c3 c4 c5:Option Value} {ns ds:List Value} {kn kd i:Nat} {z:Int} {s:Shared} (hz:ns[i]? = some (.int z tz)) (hd:ds.length ≤ 900)
    (D:Hp (W b w) H s.heap ((it,itO nl i) :: (nl,liO ns kn) :: (L,duF (W b w).params k0 k1 nl li) :: (L + 1,ceO c1) :: (L + 2,ceO c2) :: (L + 3,ceO c3) :: (L + 4,ceO c4) :: (L + 5,ceO c5) :: (li,liO ds kd) :: F))
    (post:∀ (s':Shared) (t:It) (k2 k3:Tok) (vb vr:Value) (c1 c2 c3 c4 c5:Option Value),Sm s s' → t.For z → Hp (W b w) H s'.heap ((it,itO nl (i + 1)) :: (nl,liO ns kn) :: (L,duF4 (W b w).params k0 k1 k2 k3 nl li vb vr) :: (L + 1,ceO c1) :: (L + 2,ceO c2) :: (L + 3,ceO c3) :: (L + 4,ceO c4) :: (L + 5,ceO c5) :: (li,liO (ds ++ [.ref t.tp]) (kd + 1)) :: (itObs t ++ F)) → codeAny (model P0 (W b w)) A (duLoop L it) R s') :
    codeAny (model P0 (W b w)) A (duLoop L it) R s:=by
  have la:=aN_le z
  have lb:=bN_le z
  have ea : Int.fmod (Int.fdiv z (Int.ofNat 5)) (Int.ofNat 4) = (aN z:Int):=aZ_eq z
  have eb : Int.fmod (Int.fdiv z (Int.ofNat 20)) (Int.ofNat 4) = (bN z:Int):=bZ_eq z
  have e3 : (aN z:Int) + (bN z:Int) + Int.ofNat 1 = Int.ofNat (aN z + bN z + 1):=rfl
  refine g_dua (F_:=(L,duF (W b w).params k0 k1 nl li) :: (L + 3,ceO c3) :: (L + 4,ceO c4) :: (L + 5,ceO c5) :: (li,liO ds kd) :: F) L it nl c1 c2 ns kn i z tz (fun n T y hy => ?_) (fun n T q hq => nm hq) hL (by omega) (D.pm) fun A1 s1 L1 N1 M1 => ?_
  · cases List.mem_singleton.mp hy
    exact ok_lnext hz
  have D1:=N1.hp
  generalize s.heap.objs.size = n1 at D1 M1 ⊢
  generalize s.toks = T1 at D1 M1 ⊢
  generalize s.gens.toList = g1 at M1 ⊢
  have e9 : riO 0 (Int.ofNat 3) = riO (Int.ofNat 0) (Int.ofNat 3):=rfl
  rw [e9] at D1
  refine dt02 (F:=(it,itO nl (i + 1)) :: (nl,liO ns kn) :: (L + 4,ceO c4) :: (L + 5,ceO c5) :: (li,liO ds kd) :: F) (L:=L) (it:=n1 + 1) (nl:=nl) (li:=li) (vk:=c3) (z:=z) (tz:=tz) (ts:=T1) (k0:=k0) (k1:=k1) (k2:=k2) (k3:=k3) (vb:=vb) (vr:=vr) (sg:=[]) L1 (by omega) (by show 0 ≤ 100; omega) (D1.pm) fun s2 ts2 tk2 k2a vb2 S2 D2 => ?_
  refine dt13 (F:=(it,itO nl (i + 1)) :: (nl,liO ns kn) :: (L + 4,ceO c4) :: (L + 5,ceO c5) :: (li,liO ds kd) :: F) (L:=L) (it:=n1 + 1) (nl:=nl) (li:=li) (vk:=some (.int (Int.ofNat 0) tk2)) (z:=z) (tz:=tz) (ts:=ts2) (k0:=k0) (k1:=k1) (k2:=k2a) (k3:=k3) (vb:=vb2) (vr:=vr) (sg:=[] ++ dz 256 128 64 2048 [83,115] z) L1 (by omega) (by show 3 ≤ 100; omega) D2 fun s3 ts3 tk3 k2b vb3 S3 D3 => ?_
  refine dt23 (F:=(it,itO nl (i + 1)) :: (nl,liO ns kn) :: (L + 4,ceO c4) :: (L + 5,ceO c5) :: (li,liO ds kd) :: F) (L:=L) (it:=n1 + 1) (nl:=nl) (li:=li) (vk:=some (.int (Int.ofNat 1) tk3)) (z:=z) (tz:=tz) (ts:=ts3) (k0:=k0) (k1:=k1) (k2:=k2b) (k3:=k3) (vb:=vb3) (vr:=vr) (sg:=([] ++ dz 256 128 64 2048 [83,115] z) ++ dz 32 16 8 1024 [83,115] z) L1 (by omega) (by show 6 ≤ 100; omega) D3 fun s4 ts4 tk4 k2c vb4 S4 D4 => ?_
  refine g_de (F_:=(L,duF3 (W b w).params k0 k1 k2c nl li vb4) :: (L + 1,ceO (some (.int z tz))) :: (L + 2,ceO (some (.str (sx (45 :: sgZ z)) ts4))) :: (L + 3,ceO (some (.int (Int.ofNat 2) tk4))) :: (it,itO nl (i + 1)) :: (nl,liO ns kn) :: (L + 4,ceO c4) :: (L + 5,ceO c5) :: (li,liO ds kd) :: F) L (n1 + 1) 3 (fun n T y hy => nm hy) (fun n T q hq => nm hq) L1 (by omega) D4 fun s5 N5 => ?_
  have S15 : Sm s1 s5:=(S2.trans S3).trans (S4.trans N5.sm)
  refine g_df (F_:=(L,duF3 (W b w).params k0 k1 k2c nl li vb4) :: (L + 2,ceO (some (.str (sx (45 :: sgZ z)) ts4))) :: (L + 3,ceO (some (.int (Int.ofNat 2) tk4))) :: (it,itO nl (i + 1)) :: (nl,liO ns kn) :: (li,liO ds kd) :: F) n1 T1 g1 c4 c5 L it nl c1 c2 ns kn i z tz (fun n T y hy => ?_) (fun n T => all_pairs rfl) (M1.sm S15) (by omega) (N5.hp.pm) fun A6 s6 L6 N6 M6 => ?_
  · rcases List.mem_cons.mp hy with rfl | hy
    · exact ok_rnew
    · cases List.mem_singleton.mp hy
      exact ok_riter (by rw [ea,eb,e3]; show (0 : Int) ≤ ((aN z + bN z + 1 : Nat) : Int); omega) (by rw [ea,eb,e3]; show ((aN z + bN z + 1 : Nat) : Int) ≤ 1000; omega)
  have D6:=N6.hp
  simp only [ea,eb,e3] at D6
  generalize s5.heap.objs.size = n6 at D6 M6 ⊢
  generalize s5.toks = T6 at D6 M6 ⊢
  generalize s5.gens.toList = g6 at M6 ⊢
  refine comp_startR (x:=0) (left:=Int.ofNat (aN z + bN z + 1)) duE2_lc (own_of D6 (by simp)) ?_
  refine drow_loop (F:=(L,duF3 (W b w).params k0 k1 k2c nl li vb4) :: (L + 1,ceO (some (.int z tz))) :: (L + 3,ceO (some (.int (Int.ofNat 2) tk4))) :: (it,itO nl (i + 1)) :: (nl,liO ns kn) :: (li,liO ds kd) :: F) (p:=aN z) (q:=bN z) (ta:=T6 + 3) (tb:=T6 + 7) (ts:=ts4) (sg:=sgZ z) (k:=0) L6 (by omega) (by omega) (by omega) (by rw [sgZ_len]; omega) (D6.pm) fun s7 rs kr t1 v1 S7 hrs D7 => ?_
  obtain ⟨tx,hx0⟩:=strsV_at hrs (rwT_at (j:=0) (by omega))
  have hx : padT (aN z - 0) (45 :: sgZ z) (bN z - (0 - aN z)) = fld z:=by
    rw [← signs_eq,Nat.zero_sub]
    rfl
  rw [hx] at hx0
  have hlen:=strsV_len hrs
  rw [rwT_len] at hlen
  refine g_dh3 (F_:=(L + 1,ceO (some (.int z tz))) :: (L + 2,ceO (some (.str (sx (45 :: sgZ z)) ts4))) :: (L + 3,ceO (some (.int (Int.ofNat 2) tk4))) :: (L + 4,ceO (some (.int (aN z:Int) (T6 + 3)))) :: (L + 5,ceO (some (.int (bN z:Int) (T6 + 7)))) :: (it,itO nl (i + 1)) :: (nl,liO ns kn) :: F) n6 T6 g6 n1 T1 g1 t1 v1 rs ds kr kd (fld z) tx li k0 k1 k2c k3 vb4 vr c4 c5 L it nl c1 c2 ns kn i z tz (fun n T y hy => ?_) (fun n T q hq => nm hq) (M6.sm S7) (by omega) (D7.pm) fun s8 N8 => ?_
  · rcases List.mem_cons.mp hy with rfl | hy
    · exact ok_get (by omega) hx0
    · rcases List.mem_cons.mp hy with rfl | hy
      · exact ok_llen (by omega)
      · rcases List.mem_cons.mp hy with rfl | hy
        · exact ok_lmul (by omega)
        · cases List.mem_singleton.mp hy
          exact ok_app (by omega)
  exact post s8 ⟨s7.heap.objs.size + 2,n6 + 2,s7.heap.objs.size + 1,fld z,tx,rs,kr,0,rs.length⟩ k2c s7.toks vb4 (.ref (n6 + 2)) (some (.int z tz)) (some (.str (sx (45 :: sgZ z)) ts4)) (some (.int (Int.ofNat 2) tk4)) (some (.int (aN z:Int) (T6 + 3))) (some (.int (bN z:Int) (T6 + 7))) ((N1.sm.trans S15).trans (N6.sm.trans (S7.trans N8.sm))) (for_due rfl hrs rfl) (N8.hp.pm)
theorem du_later {L it nl li:Addr} {k0 k1 k2 k3 tz:Tok} {vb vr:Value} {c1 c2 c3 c4 c5:Option Value} {ns ds:List Value} {kn kd i:Nat} {z:Int} {s:Shared} (hz:ns[i]? = some (.int z tz)) (hd:ds.length ≤ 900)
    (D:Hp (W b w) H s.heap ((it,itO nl i) :: (nl,liO ns kn) :: (L,duF4 (W b w).params k0 k1 k2 k3 nl li vb vr) :: (L + 1,ceO c1) :: (L + 2,ceO c2) :: (L + 3,ceO c3) :: (L + 4,ceO c4) :: (L + 5,ceO c5) :: (li,liO ds kd) :: F))
    (post:∀ (s':Shared) (t:It) (k2 k3:Tok) (vb vr:Value) (c1 c2 c3 c4 c5:Option Value),Sm s s' → t.For z → Hp (W b w) H s'.heap ((it,itO nl (i + 1)) :: (nl,liO ns kn) :: (L,duF4 (W b w).params k0 k1 k2 k3 nl li vb vr) :: (L + 1,ceO c1) :: (L + 2,ceO c2) :: (L + 3,ceO c3) :: (L + 4,ceO c4) :: (L + 5,ceO c5) :: (li,liO (ds ++ [.ref t.tp]) (kd + 1)) :: (itObs t ++ F)) → codeAny (model P0 (W b w)) A (duLoop L it) R s') :
    codeAny (model P0 (W b w)) A (duLoop L it) R s:=by
  have la:=aN_le z
  have lb:=bN_le z
  have ea : Int.fmod (Int.fdiv z (Int.ofNat 5)) (Int.ofNat 4) = (aN z:Int):=aZ_eq z
  have eb : Int.fmod (Int.fdiv z (Int.ofNat 20)) (Int.ofNat 4) = (bN z:Int):=bZ_eq z
  have e3 : (aN z:Int) + (bN z:Int) + Int.ofNat 1 = Int.ofNat (aN z + bN z + 1):=rfl
  refine g_dua (F_:=(L,duF4 (W b w).params k0 k1 k2 k3 nl li vb vr) :: (L + 3,ceO c3) :: (L + 4,ceO c4) :: (L + 5,ceO c5) :: (li,liO ds kd) :: F) L it nl c1 c2 ns kn i z tz (fun n T y hy => ?_) (fun n T q hq => nm hq) hL (by omega) (D.pm) fun A1 s1 L1 N1 M1 => ?_
  · cases List.mem_singleton.mp hy
    exact ok_lnext hz
  have D1:=N1.hp
  generalize s.heap.objs.size = n1 at D1 M1 ⊢
  generalize s.toks = T1 at D1 M1 ⊢
  generalize s.gens.toList = g1 at M1 ⊢
  have e9 : riO 0 (Int.ofNat 3) = riO (Int.ofNat 0) (Int.ofNat 3):=rfl
  rw [e9] at D1
  refine dt04 (F:=(it,itO nl (i + 1)) :: (nl,liO ns kn) :: (L + 4,ceO c4) :: (L + 5,ceO c5) :: (li,liO ds kd) :: F) (L:=L) (it:=n1 + 1) (nl:=nl) (li:=li) (vk:=c3) (z:=z) (tz:=tz) (ts:=T1) (k0:=k0) (k1:=k1) (k2:=k2) (k3:=k3) (vb:=vb) (vr:=vr) (sg:=[]) L1 (by omega) (by show 0 ≤ 100; omega) (D1.pm) fun s2 ts2 tk2 k2a vb2 S2 D2 => ?_
  refine dt14 (F:=(it,itO nl (i + 1)) :: (nl,liO ns kn) :: (L + 4,ceO c4) :: (L + 5,ceO c5) :: (li,liO ds kd) :: F) (L:=L) (it:=n1 + 1) (nl:=nl) (li:=li) (vk:=some (.int (Int.ofNat 0) tk2)) (z:=z) (tz:=tz) (ts:=ts2) (k0:=k0) (k1:=k1) (k2:=k2a) (k3:=k3) (vb:=vb2) (vr:=vr) (sg:=[] ++ dz 256 128 64 2048 [83,115] z) L1 (by omega) (by show 3 ≤ 100; omega) D2 fun s3 ts3 tk3 k2b vb3 S3 D3 => ?_
  refine dt24 (F:=(it,itO nl (i + 1)) :: (nl,liO ns kn) :: (L + 4,ceO c4) :: (L + 5,ceO c5) :: (li,liO ds kd) :: F) (L:=L) (it:=n1 + 1) (nl:=nl) (li:=li) (vk:=some (.int (Int.ofNat 1) tk3)) (z:=z) (tz:=tz) (ts:=ts3) (k0:=k0) (k1:=k1) (k2:=k2b) (k3:=k3) (vb:=vb3) (vr:=vr) (sg:=([] ++ dz 256 128 64 2048 [83,115] z) ++ dz 32 16 8 1024 [83,115] z) L1 (by omega) (by show 6 ≤ 100; omega) D3 fun s4 ts4 tk4 k2c vb4 S4 D4 => ?_
  refine g_de (F_:=(L,duF4 (W b w).params k0 k1 k2c k3 nl li vb4 vr) :: (L + 1,ceO (some (.int z tz))) :: (L + 2,ceO (some (.str (sx (45 :: sgZ z)) ts4))) :: (L + 3,ceO (some (.int (Int.ofNat 2) tk4))) :: (it,itO nl (i + 1)) :: (nl,liO ns kn) :: (L + 4,ceO c4) :: (L + 5,ceO c5) :: (li,liO ds kd) :: F) L (n1 + 1) 3 (fun n T y hy => nm hy) (fun n T q hq => nm hq) L1 (by omega) D4 fun s5 N5 => ?_
  have S15 : Sm s1 s5:=(S2.trans S3).trans (S4.trans N5.sm)
  refine g_df (F_:=(L,duF4 (W b w).params k0 k1 k2c k3 nl li vb4 vr) :: (L + 2,ceO (some (.str (sx (45 :: sgZ z)) ts4))) :: (L + 3,ceO (some (.int (Int.ofNat 2) tk4))) :: (it,itO nl (i + 1)) :: (nl,liO ns kn) :: (li,liO ds kd) :: F) n1 T1 g1 c4 c5 L it nl c1 c2 ns kn i z tz (fun n T y hy => ?_) (fun n T => all_pairs rfl) (M1.sm S15) (by omega) (N5.hp.pm) fun A6 s6 L6 N6 M6 => ?_
  · rcases List.mem_cons.mp hy with rfl | hy
    · exact ok_rnew
    · cases List.mem_singleton.mp hy
      exact ok_riter (by rw [ea,eb,e3]; show (0 : Int) ≤ ((aN z + bN z + 1 : Nat) : Int); omega) (by rw [ea,eb,e3]; show ((aN z + bN z + 1 : Nat) : Int) ≤ 1000; omega)
  have D6:=N6.hp
  simp only [ea,eb,e3] at D6
  generalize s5.heap.objs.size = n6 at D6 M6 ⊢
  generalize s5.toks = T6 at D6 M6 ⊢
  generalize s5.gens.toList = g6 at M6 ⊢
  refine comp_startR (x:=0) (left:=Int.ofNat (aN z + bN z + 1)) duE2_lc (own_of D6 (by simp)) ?_
  refine drow_loop (F:=(L,duF4 (W b w).params k0 k1 k2c k3 nl li vb4 vr) :: (L + 1,ceO (some (.int z tz))) :: (L + 3,ceO (some (.int (Int.ofNat 2) tk4))) :: (it,itO nl (i + 1)) :: (nl,liO ns kn) :: (li,liO ds kd) :: F) (p:=aN z) (q:=bN z) (ta:=T6 + 3) (tb:=T6 + 7) (ts:=ts4) (sg:=sgZ z) (k:=0) L6 (by omega) (by omega) (by omega) (by rw [sgZ_len]; omega) (D6.pm) fun s7 rs kr t1 v1 S7 hrs D7 => ?_
  obtain ⟨tx,hx0⟩:=strsV_at hrs (rwT_at (j:=0) (by omega))
  have hx : padT (aN z - 0) (45 :: sgZ z) (bN z - (0 - aN z)) = fld z:=by
    rw [← signs_eq,Nat.zero_sub]
    rfl
  rw [hx] at hx0
  have hlen:=strsV_len hrs
  rw [rwT_len] at hlen
  refine g_dh4 (F_:=(L + 1,ceO (some (.int z tz))) :: (L + 2,ceO (some (.str (sx (45 :: sgZ z)) ts4))) :: (L + 3,ceO (some (.int (Int.ofNat 2) tk4))) :: (L + 4,ceO (some (.int (aN z:Int) (T6 + 3)))) :: (L + 5,ceO (some (.int (bN z:Int) (T6 + 7)))) :: (it,itO nl (i + 1)) :: (nl,liO ns kn) :: F) n6 T6 g6 n1 T1 g1 t1 v1 rs ds kr kd (fld z) tx li k0 k1 k2c k3 vb4 vr c4 c5 L it nl c1 c2 ns kn i z tz (fun n T y hy => ?_) (fun n T q hq => nm hq) (M6.sm S7) (by omega) (D7.pm) fun s8 N8 => ?_
  · rcases List.mem_cons.mp hy with rfl | hy
    · exact ok_get (by omega) hx0
    · rcases List.mem_cons.mp hy with rfl | hy
      · exact ok_llen (by omega)
      · rcases List.mem_cons.mp hy with rfl | hy
        · exact ok_lmul (by omega)
        · cases List.mem_singleton.mp hy
          exact ok_app (by omega)
  exact post s8 ⟨s7.heap.objs.size + 2,n6 + 2,s7.heap.objs.size + 1,fld z,tx,rs,kr,0,rs.length⟩ k2c k3 vb4 (.ref (n6 + 2)) (some (.int z tz)) (some (.str (sx (45 :: sgZ z)) ts4)) (some (.int (Int.ofNat 2) tk4)) (some (.int (aN z:Int) (T6 + 3))) (some (.int (bN z:Int) (T6 + 7))) ((N1.sm.trans S15).trans (N6.sm.trans (S7.trans N8.sm))) (for_due rfl hrs rfl) (N8.hp.pm)
end
section
variable {b:Bool} {w:World} {A:Around} {R:Result → Shared → Prop} {v:Nat} {F:List (Addr × Obj)} {H:Heap} (hL:Lv A v) (hv:v ≤ 300)
include hL hv
theorem due_turns {L it nl li:Addr} {k0 k1:Tok} {ns:List Value} {kn:Nat} {zs:List Int} (hns:IntsV zs ns) (hz:zs.length ≤ 100) :
    ∀ (m i:Nat) (items:List It) (kt:Nat) (k2 k3:Tok) (vb vr:Value) (c1 c2 c3 c4 c5:Option Value) (s:Shared),i + m = zs.length → ItsV (zs.take i) items →
      Hp (W b w) H s.heap ((it,itO nl i) :: (nl,liO ns kn) :: (L,duF4 (W b w).params k0 k1 k2 k3 nl li vb vr) :: (L + 1,ceO c1) :: (L + 2,ceO c2) :: (L + 3,ceO c3) :: (L + 4,ceO c4) :: (L + 5,ceO c5) :: (li,liO (itRefs items) kt) :: (items.flatMap itObs ++ F)) →
      (∀ (s':Shared) (items:List It) (kt:Nat) (k2 k3:Tok) (vb vr:Value),Sm s s' → ItsV zs items → Hp (W b w) H s'.heap ((L,duF4 (W b w).params k0 k1 k2 k3 nl li vb vr) :: (nl,liO ns kn) :: (li,liO (itRefs items) kt) :: (items.flatMap itObs ++ F)) → R (.ok .next) s') →
      codeAny (model P0 (W b w)) A (duLoop L it) R s:=by
  intro m
  induction m with
  | zero =>
    intro i items kt k2 k3 vb vr c1 c2 c3 c4 c5 s hi hit D post
    refine g_di (F_:=(L,duF4 (W b w).params k0 k1 k2 k3 nl li vb vr) :: (L + 1,ceO c1) :: (L + 2,ceO c2) :: (L + 3,ceO c3) :: (L + 4,ceO c4) :: (L + 5,ceO c5) :: (li,liO (itRefs items) kt) :: (items.flatMap itObs ++ F)) L it nl ns kn i (fun n T y hy => ?_) (fun n T q hq => nm hq) hL (by omega) D fun s1 N1 => ?_
    · cases List.mem_singleton.mp hy
      exact ok_lend (List.getElem?_eq_none (by rw [intsV_len hns]; omega))
    rw [List.take_of_length_le (by omega)] at hit
    have D1 : Hp (W b w) H s1.heap ((L + 1,ceO c1) :: (L + 2,ceO c2) :: (L + 3,ceO c3) :: (L + 4,ceO c4) :: (L + 5,ceO c5) :: ((L,duF4 (W b w).params k0 k1 k2 k3 nl li vb vr) :: (nl,liO ns kn) :: (li,liO (itRefs items) kt) :: (items.flatMap itObs ++ F))) :=
      N1.hp.pm
    exact post s1 items kt k2 k3 vb vr N1.sm hit (D1.subl (.cons _ (.cons _ (.cons _ (.cons _ (.cons _ (.refl _)))))))
  | succ m ih =>
    intro i items kt k2 k3 vb vr c1 c2 c3 c4 c5 s hi hit D post
    have hlt : i < zs.length:=by omega
    have hzi : zs[i]? = some zs[i]:=List.getElem?_eq_getElem hlt
    obtain ⟨tz,hnx⟩:=intsV_at hns hzi
    have hil : items.length ≤ 100:=by
      have:=hit.len
      rw [List.length_take] at this
      omega
    refine du_later (F:=items.flatMap itObs ++ F) hL hv hnx (by unfold itRefs; rw [List.length_map]; omega) D fun s1 t k2' k3' vb' vr' d1 d2 d3 d4 d5 S1 ht D1 => ?_
    refine ih (i + 1) (items ++ [t]) (kt + 1) k2' k3' vb' vr' d1 d2 d3 d4 d5 s1 (by omega) ?_ (D1.perm (perm_by fun p => by simp only [itRefs,List.map_append,List.map_cons,List.map_nil,List.flatMap_append,List.flatMap_cons,List.flatMap_nil,List.countP_append,List.countP_cons,List.countP_nil]; omega)) fun s2 items2 kt2 k2b k3b vb2 vr2 S2 h2 D2 => post s2 items2 kt2 k2b k3b vb2 vr2 (S1.trans S2) h2 D2
    rw [List.take_add_one,hzi]
    exact hit.app (.cons ht .nil)
end
section
variable {b:Bool} {w:World} {A:Around} {R:Result → Shared → Prop} {v:Nat} {F:List (Addr × Obj)} {H:Heap} {s:Shared} (hL:Lv A v) (hv:v ≤ 290)
include hL hv
theorem due_ok {nl:Addr} {ns:List Value} {kn:Nat} {z0:Int} {zs:List Int} (hns:IntsV (z0 :: zs) ns) (hz:zs.length ≤ 90) (D:Hp (W b w) H s.heap ((nl,liO ns kn) :: F))
    (post:∀ (s':Shared) (li:Addr) (items:List It) (k':Nat),Sm s s' → ItsV (z0 :: zs) items → Hp (W b w) H s'.heap ((nl,liO ns kn) :: (li,liO (itRefs items) k') :: (items.flatMap itObs ++ F)) → R (.ok (.ret (.ref li))) s') :
    codeAny (model P0 (W b w)) A (.call (.ref 830) ⟨[.ref nl],[]⟩) R s:=by
  refine g_du0 (F_:=F) nl ns kn (fun n T y hy => nm hy) (fun n T q hq => nm hq) hL (by omega) D fun A1 s1 L1 N1 M1 => ?_
  have D1:=N1.hp
  generalize s.heap.objs.size = n1 at D1 M1 ⊢
  generalize s.toks = T1 at D1 M1 ⊢
  generalize s.gens.toList = g1 at M1 ⊢
  obtain ⟨tz,hn0⟩:=intsV_at hns (i:=0) (l:=z0) rfl
  refine du_first (F:=F) (L:=n1) (it:=n1 + 7) (nl:=nl) (li:=n1 + 6) (k0:=T1) (k1:=T1 + 1) (k2:=0) (k3:=0) (tz:=tz) (vb:=.none) (vr:=.none) (c1:=none) (c2:=none) (c3:=none) (c4:=none) (c5:=none) (ns:=ns) (ds:=[]) (kn:=kn) (kd:=0) (i:=0) (z:=z0) L1 (by omega) hn0 (by show 0 ≤ 900; omega)
    (D1.pm) fun s2 t k2 k3 vb vr c1 c2 c3 c4 c5 S2 ht D2 => ?_
  refine due_turns (F:=F) (L:=n1) (it:=n1 + 7) (nl:=nl) (li:=n1 + 6) (k0:=T1) (k1:=T1 + 1) (ns:=ns) (kn:=kn) L1 (by omega) hns (by simp only [List.length_cons]; omega) zs.length 1 [t] 1 k2 k3 vb vr c1 c2 c3 c4 c5 s2 (by simp only [List.length_cons]; omega) (.cons ht .nil)
    (D2.pm) fun s3 items kt k2b k3b vb2 vr2 S3 hit D3 => ?_
  refine g_dj (F_:=(nl,liO ns kn) :: (n1 + 6,liO (itRefs items) kt) :: (items.flatMap itObs ++ F)) n1 T1 g1 (n1 + 6) T1 (T1 + 1) k2b k3b vb2 vr2 nl ns kn (fun n T y hy => nm hy) (fun n T q hq => nm hq) (M1.sm (S2.trans S3)) (by omega) D3 fun s4 N4 => ?_
  exact post s4 (n1 + 6) items kt ((N1.sm.trans (S2.trans S3)).trans N4.sm) hit N4.hp
end
theorem own_func {A:Around} {R:Result → Shared → Prop} {s:Shared} {p:Program} {w:World} {body:List Stmt} {env:Env}
    (h:∀ E',wpOwn (model p w) A (.func body env) (execs body env) (fun f s' => R (.ok (.ret (match f with | .ret v => v | _ => .none))) s') E' s) : codeAny (model p w) A (.func body env) R s:=by
  refine y_code _ _ _ _ _ _ ?_
  show wpOwn _ A (.func body env) (point >>= fun _ => (execs body env).onRaise (leaving env) >>= fun f => match f with | .ret v => ret v | _ => ret .none) _ _ s
  refine wpOwn_bind (wpOwn_of_wpAny (wpAny_point ?_))
  refine wpOwn_bind (wpOwn_onRaise ?_)
  refine wpOwn_mono (h _) (fun f s' h' => ?_) (fun _ _ h' => h')
  cases f <;> exact wpOwn_of_wpAny (wpAny_pure h')
theorem own_execs2 {M:Model} {A:Around} {c:Code} {a b:Stmt} {env:Env} {Q:Flow → Shared → Prop} {E:Value → Shared → Prop} {s:Shared}
    (h:wpOwn M A c (execs [a] env) (fun f s' => match f with | .next => wpOwn M A c (exec b env) Q E s' | f => Q f s') E s) : wpOwn M A c (execs [a,b] env) Q E s:=by
  have e : execs [a,b] env = (execs [a] env >>= fun f => match f with | .next => execs [b] env | f => pure f):=by
    show (exec a env >>= fun f => match f with | .next => execs [b] env | f => pure f) = ((exec a env >>= fun f => match f with | .next => execs [] env | f => pure f) >>= fun f => match f with | .next => execs [b] env | f => pure f)
    rw [bind_assoc]
    congr 1
    funext f
    cases f <;> rfl
  rw [e]
  refine wpOwn_bind (wpOwn_mono h (fun f s' h' => ?_) fun _ _ h' => h')
  cases f with
  | next =>
    show wpOwn M A c (execs [b] env) Q E s'
    rw [execs_cons]
    refine wpOwn_bind (wpOwn_mono h' (fun f s' h' => ?_) fun _ _ h' => h')
    cases f <;> exact wpOwn_of_wpAny (wpAny_pure h')
  | cont => exact wpOwn_of_wpAny (wpAny_pure h')
  | brk => exact wpOwn_of_wpAny (wpAny_pure h')
  | ret v => exact wpOwn_of_wpAny (wpAny_pure h')
theorem own_Return {M:Model} {A:Around} {c:Code} {e:PySem.Expr} {pos:Pos} {env:Env} {Q:Flow → Shared → Prop} {E:Value → Shared → Prop} {s:Shared}
    (h:wpOwn M A c (eval e env) (fun v => Q (.ret v)) E s) : wpOwn M A c (exec (.Return (some e) pos) env) Q E s:=fun Γ p hc hΓ => by
  simp only [exec_Return_some,Sem.wp_bind',Sem.wp_cmd_standAt,Sem.wp_pure']
  exact h Γ _ hc hΓ
theorem own_Compare1 {M:Model} {A:Around} {c:Code} {l r:PySem.Expr} {op:CmpOp} {pos:Pos} {env:Env} {Q E:Value → Shared → Prop} {s:Shared}
    (h:wpOwn M A c (eval l env) (fun a s₁ => wpOwn M A c (eval r env) (fun b s₂ => wpOwn M A c (compareOp op a b) Q E s₂) E s₁) E s)
    (hm:behindInMarks op r = false) : wpOwn M A c (eval (.Compare l [op] [r] pos) env) Q E s:=fun Γ p hc hΓ => by
  simp only [eval_Compare1,markedBehindIn_of_false hm,Sem.wp_bind',Sem.wp_holding,Sem.wp_cmd_standAt,Sem.wp_operate]
  exact Sem.wp_mono M Γ _ (fun a p₁ s₁ h₁ => Sem.wp_mono M Γ _ (fun b _ s₂ h₂ => h₂ Γ _ hc hΓ) (fun _ _ _ h' => h') _ _ (h₁ Γ p₁ hc hΓ))
    (fun _ _ _ h' => h') _ _ (h Γ p hc hΓ)
noncomputable def zData (z:Int) : PyData:=.tuple [.str (sx (fld z)),.list ((rwT (aN z) (fz z) (bN z)).map fun x => .str (sx x)),.list (List.replicate (aN z + bN z + 1) (.bool true))]
theorem strs_reads {h:Heap} : ∀ {ls:List (List Nat)} {vs:List Value},StrsV ls vs → ReadsAll h vs (ls.map fun x => .str (sx x)) []
  | _,_,.nil => .nil
  | _,_,.cons (f:=f) (t:=t) r => .cons (as:=[]) (.str _ t) (strs_reads r)
theorem bools_reads {h:Heap} : ∀ (m:Nat),ReadsAll h (List.replicate m (.bool true)) (List.replicate m (.bool true)) []
  | 0 => .nil
  | m + 1 => .cons (as:=[]) (.bool true) (bools_reads m)
theorem it_reads {h:Heap} {t:It} {z:Int} (f:t.For z) (ho:∀ p ∈ itObs t,h.get? p.1 = some p.2) : ∃ as,Reads h (.ref t.tp) (zData z) as:=by
  have h1:=ho (t.tp,tupO [.str (sx t.x) t.tx,.ref t.ro,.ref t.hv] 0) (.head _)
  have h2:=ho (t.ro,liO t.rs t.kr) (.tail _ (.head _))
  have h3:=ho (t.hv,liO (List.replicate t.m (.bool true)) t.kh) (.tail _ (.tail _ (.head _)))
  rw [f.x,f.m] at *
  exact ⟨_,.tuple h1 rfl rfl (.cons (.str _ _) (.cons (.list h2 rfl rfl (strs_reads f.rs)) (.cons (.list h3 rfl rfl (bools_reads _)) .nil)))⟩
theorem its_reads {h:Heap} : ∀ {zs:List Int} {ts:List It},ItsV zs ts → (∀ p ∈ ts.flatMap itObs,h.get? p.1 = some p.2) → ∃ as,ReadsAll h (itRefs ts) (zs.map zData) as
  | _,_,.nil,_ => ⟨_,.nil⟩
  | _,_,.cons (t:=t) f r,ho => by
    obtain ⟨as,h1⟩:=it_reads f fun p hp => ho p (by rw [List.flatMap_cons]; exact List.mem_append_left _ hp)
    obtain ⟨bs,h2⟩:=its_reads r fun p hp => ho p (by rw [List.flatMap_cons]; exact List.mem_append_right _ hp)
    exact ⟨_,.cons h1 h2⟩
theorem fm_small (m:Int) : ∀ c ∈ fmText m,c < 1114112:=by
  have h1 : ∀ b c,c < 1114112 → sg1 m b c < 1114112:=fun b c h => by
    unfold sg1
    split
    · exact h
    · decide
  have h3 : ∀ xs s x cs cS,cs < 1114112 → cS < 1114112 → sg3 m xs s x cs cS < 1114112:=fun xs s x cs cS h k => by
    unfold sg3
    split
    · exact h
    · split
      · exact k
      · split <;> decide
  intro c hc
  unfold fmText at hc
  simp only [List.mem_cons,List.not_mem_nil,or_false] at hc
  rcases hc with rfl | rfl | rfl | rfl | rfl | rfl | rfl | rfl | rfl | rfl
  · decide
  · exact h1 _ _ (by decide)
  · exact h1 _ _ (by decide)
  · exact h3 _ _ _ _ _ (by decide) (by decide)
  · exact h1 _ _ (by decide)
  · exact h1 _ _ (by decide)
  · exact h3 _ _ _ _ _ (by decide) (by decide)
  · exact h1 _ _ (by decide)
  · exact h1 _ _ (by decide)
  · exact h3 _ _ _ _ _ (by decide) (by decide)
theorem pad_ok {p q:Nat} {z:Int} : PyData.strOk (sx (padT p (fz z) q)) = true:=by
  unfold PyData.strOk
  rw [Array.all_eq_true']
  intro c hc
  have hc : c ∈ padT p (fz z) q:=by simpa using hc
  unfold padT at hc
  rcases List.mem_append.mp hc with hc | hc
  · rw [(List.mem_replicate.mp hc).2]; decide
  · rcases List.mem_append.mp hc with hc | hc
    · exact decide_eq_true (fm_small _ c hc)
    · rw [(List.mem_replicate.mp hc).2]; decide
theorem all_lay {ds:List PyData} (h:∀ d ∈ ds,d.canLay0 = true) : PyData.canLayAll0 ds = true:=by
  induction ds with
  | nil => rfl
  | cons d ds ih =>
    unfold PyData.canLayAll0
    rw [h d (.head _),ih fun e he => h e (.tail _ he)]
    rfl
theorem all_depth {ds:List PyData} {n:Nat} (h:∀ d ∈ ds,d.depth ≤ n) : PyData.depthAll ds ≤ n:=by
  induction ds with
  | nil => exact Nat.zero_le _
  | cons d ds ih =>
    unfold PyData.depthAll
    exact Nat.max_le.mpr ⟨h d (.head _),ih fun e he => h e (.tail _ he)⟩
theorem zData_lay (z:Int) : (zData z).canLay0 = true:=by
  unfold zData PyData.canLay0
  refine all_lay fun d hd => ?_
  simp only [List.mem_cons,List.not_mem_nil,or_false] at hd
  rcases hd with rfl | rfl | rfl
  · exact pad_ok
  · unfold PyData.canLay0
    refine all_lay fun d hd => ?_
    obtain ⟨x,hx,rfl⟩:=List.mem_map.mp hd
    unfold rwT at hx
    obtain ⟨j,_,rfl⟩:=List.mem_map.mp hx
    exact pad_ok
  · unfold PyData.canLay0
    refine all_lay fun d hd => ?_
    rw [(List.mem_replicate.mp hd).2]; rfl
theorem zData_depth (z:Int) : (zData z).depth ≤ 2:=by
  unfold zData PyData.depth
  refine Nat.succ_le_succ (all_depth fun d hd => ?_)
  simp only [List.mem_cons,List.not_mem_nil,or_false] at hd
  rcases hd with rfl | rfl | rfl
  · exact Nat.zero_le _
  · unfold PyData.depth
    refine Nat.succ_le_succ (all_depth fun d hd => ?_)
    obtain ⟨x,hx,rfl⟩:=List.mem_map.mp hd
    exact Nat.zero_le _
  · unfold PyData.depth
    refine Nat.succ_le_succ (all_depth fun d hd => ?_)
    rw [(List.mem_replicate.mp hd).2]; exact Nat.zero_le _
theorem law_eq {prog:Program} {w:World} {A:Around} {E Q:Value → Shared → Prop} {s:Shared} {a1 a2:Addr} {t1 t2:List It} {k1 k2:Nat} {zs:List Int} (h1:ItsV zs t1) (h2:ItsV zs t2)
    (g1:s.heap.get? a1 = some (liO (itRefs t1) k1)) (g2:s.heap.get? a2 = some (liO (itRefs t2) k2)) (o1:∀ p ∈ t1.flatMap itObs,s.heap.get? p.1 = some p.2) (o2:∀ p ∈ t2.flatMap itObs,s.heap.get? p.1 = some p.2)
    (hu:A.units ≤ 5000) (h:Q (.bool true) s) : wpAny (model prog w) A (compareOp .Eq (.ref a1) (.ref a2)) Q E s:=by
  obtain ⟨as,r1⟩:=its_reads h1 o1
  obtain ⟨bs,r2⟩:=its_reads h2 o2
  have l : (PyData.list (zs.map zData)).canLay0 = true:=by
    unfold PyData.canLay0
    refine all_lay fun d hd => ?_
    obtain ⟨z,_,rfl⟩:=List.mem_map.mp hd
    exact zData_lay z
  have d : (PyData.list (zs.map zData)).depth ≤ 3:=by
    unfold PyData.depth
    refine Nat.succ_le_succ (all_depth fun d hd => ?_)
    obtain ⟨z,_,rfl⟩:=List.mem_map.mp hd
    exact zData_depth z
  refine SeqAt.compareEq_reads (da:=.list (zs.map zData)) (db:=.list (zs.map zData)) (.list g1 rfl rfl r1) (.list g2 rfl rfl r2) l l ?_ ?_
  · rw [Nat.min_self]
    have : cLine = 9900:=rfl
    omega
  · rw [SeqAt.eqv_refl _ l]
    exact h
abbrev twEval:=@PySem.W.Fast.tw14044960220447912780
def eCmp : PySem.Expr:=eVal (stAt (bodyAt 57) 1)
def eRight (e:PySem.Expr) : PySem.Expr:=match e with
  | .Compare _ _ [r] _ => r
  | _ => default
def lwCode (L:Addr) : Code:=.func (bodyAt 57) (lwEnv L)
def lwF1 (P:Params) (k0:Tok) (li:Addr) : Obj:=obO "frame" (dcD P [((sx [115,99,114,105,112,116]),k0,.ref li)] 1)
def dr0 (T:Nat) : List Value:=[.int (Int.ofNat 493) T,.int (Int.ofNat 2468) (T + 1),.int (Int.ofNat 4001) (T + 2),.int (Int.ofNat 0) (T + 3)]
noncomputable def toFlow (t:Sem Value) : Sem Flow:=Sem.bind t fun v => .pure (.ret v)
def u_lv0 (w:World) (n T:Nat) (li:Nat) : List Sum:=[]
def r_lv0 (w:World) (n T:Nat) (g:List GenState) (li:Nat) : Out:=runE w n T 300 20000 (digits 3 4160) (.call (.ref 835) ⟨[.ref li],[]⟩) [] g
def b_lv0 (n T:Nat) (li:Nat) : List (Bool × Bool):=[]
theorem e_lv0 (b:Bool) (w:World) (n T:Nat) (g:List GenState) (li:Nat) : (r_lv0 (W b w) n T g li).M [] = (r_lv0 (W b w) n T g li).N (b_lv0 n T li) (.again (lwCode n)) (1) (1) g [(n,lwF1 (W b w).params T li)]:=by cases b <;> kernel_rfl
noncomputable def g_lv0 {b:Bool} {w:World} (li:Nat):=mkE (fun n T g => e_lv0 b w n T g li) (fun _ _ _ => rfl) (by decide)
def u_lv1 (w:World) (n T:Nat) (L li:Nat) (k0:Tok) (vs:List Value) (k:Nat) : List Sum:=[s_lupto 3 0 li (n + 1) vs k 5 (T + 4),s_ladd 2 0 n (n + 2) (dr0 T) (vs.take 5) 0 0]
def r_lv1 (w:World) (n T:Nat) (g:List GenState) (L li:Nat) (k0:Tok) (vs:List Value) (k:Nat) : Out:=runT w n T 300 20000 (digits 11 5855255731649921282) (u_lv1 w n T L li k0 vs k) (lwCode L) (partT (twExecs [stAt (bodyAt 57) 0] (lwEnv L))) [(L,lwF1 w.params k0 li),(li,liO vs k)] g
def b_lv1 (n T:Nat) (L li:Nat) (k0:Tok) (vs:List Value) (k:Nat) : List (Bool × Bool):=[]
theorem e_lv1 (b:Bool) (w:World) (n T:Nat) (g:List GenState) (L li:Nat) (k0:Tok) (vs:List Value) (k:Nat) : (r_lv1 (W b w) n T g L li k0 vs k).M [true,false,false,false] = (r_lv1 (W b w) n T g L li k0 vs k).N (b_lv1 n T L li k0 vs k) (.done (.ok .next)) (4) (6) g [((n + 3),liO (dr0 T ++ vs.take 5) 0),(L,lwF (W b w).params k0 (T + 5) li (n + 3)),(li,liO vs k)]:=by cases b <;> kernel_rfl
noncomputable def g_lv1 {b:Bool} {w:World} (L li:Nat) (k0:Tok) (vs:List Value) (k:Nat):=mkP (fun n T g => e_lv1 b w n T g L li k0 vs k) (fun _ _ _ => rfl) rfl (by decide)
def u_lv2 (w:World) (n T:Nat) (L li dl:Nat) (k0 k1:Tok) (ds:List Value) (kd:Nat) : List Sum:=[]
def r_lv2 (w:World) (n T:Nat) (g:List GenState) (L li dl:Nat) (k0 k1:Tok) (ds:List Value) (kd:Nat) : Out:=runT w n T 300 20000 (digits 10 54324739241680896) (u_lv2 w n T L li dl k0 k1 ds kd) (lwCode L) (partT (toFlow (twEval (eLeft eCmp) (lwEnv L)))) [(dl,liO ds kd),(L,lwF w.params k0 k1 li dl)] g
def b_lv2 (n T:Nat) (L li dl:Nat) (k0 k1:Tok) (ds:List Value) (kd:Nat) : List (Bool × Bool):=[]
theorem e_lv2 (b:Bool) (w:World) (n T:Nat) (g:List GenState) (L li dl:Nat) (k0 k1:Tok) (ds:List Value) (kd:Nat) : (r_lv2 (W b w) n T g L li dl k0 k1 ds kd).M3 [] = (r_lv2 (W b w) n T g L li dl k0 k1 ds kd).N3 (b_lv2 n T L li dl k0 k1 ds kd) (.compStart lwE1 0 (.ref n) (.ref (n + 1)) (compEnvC (lcScope lwE1) [] (n + 2) (lwEnv L))) (1) (3) (0) g [((n + 2),dcO (W b w).params [] 0),((n + 1),liO [] 0),(n,itO dl 0),(dl,liO ds kd),(L,obO "frame" (dcD (W b w).params [((sx [115,99,114,105,112,116]),k0,.ref li),((sx [100,114,97,119,110]),k1,.ref dl)] 2))]:=by cases b <;> kernel_rfl
noncomputable def g_lv2 {b:Bool} {w:World} (L li dl:Nat) (k0 k1:Tok) (ds:List Value) (kd:Nat):=mkPS (fun n T g => e_lv2 b w n T g L li dl k0 k1 ds kd) (fun _ _ _ => rfl) rfl (by decide)
def u_lv3 (w:World) (n T:Nat) (n0 T0:Nat) (g0:List GenState) (t1:Tok) (v1:Value) (e1:Nat) (L li dl:Nat) (k0 k1:Tok) (ds:List Value) (kd:Nat) : List Sum:=[]
def r_lv3 (w:World) (n T:Nat) (g:List GenState) (n0 T0:Nat) (g0:List GenState) (t1:Tok) (v1:Value) (e1:Nat) (L li dl:Nat) (k0 k1:Tok) (ds:List Value) (kd:Nat) : Out:=runK w n T 300 20000 (digits 5 50335809) (u_lv3 w n T n0 T0 g0 t1 v1 e1 L li dl k0 k1 ds kd) (r_lv2 w n0 T0 g0 L li dl k0 k1 ds kd) (.ok .next) [((n0 + 2),dcO w.params [((sx [110]),t1,v1)] e1)] g
def b_lv3 (n T:Nat) (n0 T0:Nat) (g0:List GenState) (t1:Tok) (v1:Value) (e1:Nat) (L li dl:Nat) (k0 k1:Tok) (ds:List Value) (kd:Nat) : List (Bool × Bool):=[]
theorem e_lv3 (b:Bool) (w:World) (n T:Nat) (g:List GenState) (n0 T0:Nat) (g0:List GenState) (t1:Tok) (v1:Value) (e1:Nat) (L li dl:Nat) (k0 k1:Tok) (ds:List Value) (kd:Nat) : (r_lv3 (W b w) n T g n0 T0 g0 t1 v1 e1 L li dl k0 k1 ds kd).M3 [false] = (r_lv3 (W b w) n T g n0 T0 g0 t1 v1 e1 L li dl k0 k1 ds kd).N3 (b_lv3 n T n0 T0 g0 t1 v1 e1 L li dl k0 k1 ds kd) (.call (.ref 758) ⟨[.ref (n0 + 1)],[]⟩) (1) (0) (0) g []:=by cases b <;> kernel_rfl
noncomputable def g_lv3 {b:Bool} {w:World} (n0 T0:Nat) (g0:List GenState) (t1:Tok) (v1:Value) (e1:Nat) (L li dl:Nat) (k0 k1:Tok) (ds:List Value) (kd:Nat):=mkKS (fun n T g => e_lv3 b w n T g n0 T0 g0 t1 v1 e1 L li dl k0 k1 ds kd) (fun _ _ _ => rfl) (by decide)
def u_lv4 (w:World) (n T:Nat) (n0 T0:Nat) (g0:List GenState) (n1 T1:Nat) (g1:List GenState) (q:List Nat) (tq:Tok) (t1:Tok) (v1:Value) (e1:Nat) (L li dl:Nat) (k0 k1:Tok) (ds:List Value) (kd:Nat) : List Sum:=[]
def r_lv4 (w:World) (n T:Nat) (g:List GenState) (n0 T0:Nat) (g0:List GenState) (n1 T1:Nat) (g1:List GenState) (q:List Nat) (tq:Tok) (t1:Tok) (v1:Value) (e1:Nat) (L li dl:Nat) (k0 k1:Tok) (ds:List Value) (kd:Nat) : Out:=runK w n T 300 20000 (digits 8 13262875791426) (u_lv4 w n T n0 T0 g0 n1 T1 g1 q tq t1 v1 e1 L li dl k0 k1 ds kd) (r_lv3 w n0 T0 g0 n1 T1 g1 t1 v1 e1 L li dl k0 k1 ds kd) (.ok (.ret (.str (sx q) tq))) [(dl,liO ds kd),(L,lwF w.params k0 k1 li dl)] g
def b_lv4 (n T:Nat) (n0 T0:Nat) (g0:List GenState) (n1 T1:Nat) (g1:List GenState) (q:List Nat) (tq:Tok) (t1:Tok) (v1:Value) (e1:Nat) (L li dl:Nat) (k0 k1:Tok) (ds:List Value) (kd:Nat) : List (Bool × Bool):=[]
theorem e_lv4 (b:Bool) (w:World) (n T:Nat) (g:List GenState) (n0 T0:Nat) (g0:List GenState) (n1 T1:Nat) (g1:List GenState) (q:List Nat) (tq:Tok) (t1:Tok) (v1:Value) (e1:Nat) (L li dl:Nat) (k0 k1:Tok) (ds:List Value) (kd:Nat) : (r_lv4 (W b w) n T g n0 T0 g0 n1 T1 g1 q tq t1 v1 e1 L li dl k0 k1 ds kd).M3 [] = (r_lv4 (W b w) n T g n0 T0 g0 n1 T1 g1 q tq t1 v1 e1 L li dl k0 k1 ds kd).N3 (b_lv4 n T n0 T0 g0 n1 T1 g1 q tq t1 v1 e1 L li dl k0 k1 ds kd) (.compStart lwE2 0 (.ref n) (.ref (n + 1)) (compEnvC (lcScope lwE2) [] (n + 2) (lwEnv L))) (1) (3) (0) g [((n + 2),dcO (W b w).params [] 0),((n + 1),liO [] 0),(n,itO dl 0),(dl,liO ds kd),(L,obO "frame" (dcD (W b w).params [((sx [115,99,114,105,112,116]),k0,.ref li),((sx [100,114,97,119,110]),k1,.ref dl)] 2))]:=by cases b <;> kernel_rfl
noncomputable def g_lv4 {b:Bool} {w:World} (n0 T0:Nat) (g0:List GenState) (n1 T1:Nat) (g1:List GenState) (q:List Nat) (tq:Tok) (t1:Tok) (v1:Value) (e1:Nat) (L li dl:Nat) (k0 k1:Tok) (ds:List Value) (kd:Nat):=mkKS (fun n T g => e_lv4 b w n T g n0 T0 g0 n1 T1 g1 q tq t1 v1 e1 L li dl k0 k1 ds kd) (fun _ _ _ => rfl) (by decide)
def u_lv5 (w:World) (n T:Nat) (n0 T0:Nat) (g0:List GenState) (n2 T2:Nat) (g2:List GenState) (t2:Tok) (v2:Value) (e2:Nat) (n1 T1:Nat) (g1:List GenState) (q:List Nat) (tq:Tok) (t1:Tok) (v1:Value) (e1:Nat) (L li dl:Nat) (k0 k1:Tok) (ds:List Value) (kd:Nat) : List Sum:=[]
def r_lv5 (w:World) (n T:Nat) (g:List GenState) (n0 T0:Nat) (g0:List GenState) (n2 T2:Nat) (g2:List GenState) (t2:Tok) (v2:Value) (e2:Nat) (n1 T1:Nat) (g1:List GenState) (q:List Nat) (tq:Tok) (t1:Tok) (v1:Value) (e1:Nat) (L li dl:Nat) (k0 k1:Tok) (ds:List Value) (kd:Nat) : Out:=runK w n T 300 20000 (digits 5 50335809) (u_lv5 w n T n0 T0 g0 n2 T2 g2 t2 v2 e2 n1 T1 g1 q tq t1 v1 e1 L li dl k0 k1 ds kd) (r_lv4 w n0 T0 g0 n2 T2 g2 n1 T1 g1 q tq t1 v1 e1 L li dl k0 k1 ds kd) (.ok .next) [((n0 + 2),dcO w.params [((sx [110]),t2,v2)] e2)] g
def b_lv5 (n T:Nat) (n0 T0:Nat) (g0:List GenState) (n2 T2:Nat) (g2:List GenState) (t2:Tok) (v2:Value) (e2:Nat) (n1 T1:Nat) (g1:List GenState) (q:List Nat) (tq:Tok) (t1:Tok) (v1:Value) (e1:Nat) (L li dl:Nat) (k0 k1:Tok) (ds:List Value) (kd:Nat) : List (Bool × Bool):=[]
theorem e_lv5 (b:Bool) (w:World) (n T:Nat) (g:List GenState) (n0 T0:Nat) (g0:List GenState) (n2 T2:Nat) (g2:List GenState) (t2:Tok) (v2:Value) (e2:Nat) (n1 T1:Nat) (g1:List GenState) (q:List Nat) (tq:Tok) (t1:Tok) (v1:Value) (e1:Nat) (L li dl:Nat) (k0 k1:Tok) (ds:List Value) (kd:Nat) : (r_lv5 (W b w) n T g n0 T0 g0 n2 T2 g2 t2 v2 e2 n1 T1 g1 q tq t1 v1 e1 L li dl k0 k1 ds kd).M3 [false] = (r_lv5 (W b w) n T g n0 T0 g0 n2 T2 g2 t2 v2 e2 n1 T1 g1 q tq t1 v1 e1 L li dl k0 k1 ds kd).N3 (b_lv5 n T n0 T0 g0 n2 T2 g2 t2 v2 e2 n1 T1 g1 q tq t1 v1 e1 L li dl k0 k1 ds kd) (.call (.ref 825) ⟨[.str (sx q) tq,.ref (n0 + 1)],[]⟩) (1) (0) (0) g []:=by cases b <;> kernel_rfl
theorem ef_lv5 (b:Bool) (w:World) (n T:Nat) (g:List GenState) (n0 T0:Nat) (g0:List GenState) (n2 T2:Nat) (g2:List GenState) (t2:Tok) (v2:Value) (e2:Nat) (n1 T1:Nat) (g1:List GenState) (q:List Nat) (tq:Tok) (t1:Tok) (v1:Value) (e1:Nat) (L li dl:Nat) (k0 k1:Tok) (ds:List Value) (kd:Nat) : ((r_lv5 (W b w) n T g n0 T0 g0 n2 T2 g2 t2 v2 e2 n1 T1 g1 q tq t1 v1 e1 L li dl k0 k1 ds kd).fr,plainK (r_lv5 (W b w) n T g n0 T0 g0 n2 T2 g2 t2 v2 e2 n1 T1 g1 q tq t1 v1 e1 L li dl k0 k1 ds kd).κ) = ([lwEnv L],true):=by cases b <;> kernel_rfl
noncomputable def g_lv5 {b:Bool} {w:World} (n0 T0:Nat) (g0:List GenState) (n2 T2:Nat) (g2:List GenState) (t2:Tok) (v2:Value) (e2:Nat) (n1 T1:Nat) (g1:List GenState) (q:List Nat) (tq:Tok) (t1:Tok) (v1:Value) (e1:Nat) (L li dl:Nat) (k0 k1:Tok) (ds:List Value) (kd:Nat):=mkKSF (fun n T g => e_lv5 b w n T g n0 T0 g0 n2 T2 g2 t2 v2 e2 n1 T1 g1 q tq t1 v1 e1 L li dl k0 k1 ds kd) (fun n T g => ef_lv5 b w n T g n0 T0 g0 n2 T2 g2 t2 v2 e2 n1 T1 g1 q tq t1 v1 e1 L li dl k0 k1 ds kd) (fun _ _ _ => rfl) (by decide)
def u_lv6 (w:World) (n T:Nat) (n0 T0:Nat) (g0:List GenState) (n3 T3:Nat) (g3:List GenState) (a1:Nat) (n2 T2:Nat) (g2:List GenState) (t2:Tok) (v2:Value) (e2:Nat) (n1 T1:Nat) (g1:List GenState) (q:List Nat) (tq:Tok) (t1:Tok) (v1:Value) (e1:Nat) (L li dl:Nat) (k0 k1:Tok) (ds:List Value) (kd:Nat) : List Sum:=[]
def r_lv6 (w:World) (n T:Nat) (g:List GenState) (n0 T0:Nat) (g0:List GenState) (n3 T3:Nat) (g3:List GenState) (a1:Nat) (n2 T2:Nat) (g2:List GenState) (t2:Tok) (v2:Value) (e2:Nat) (n1 T1:Nat) (g1:List GenState) (q:List Nat) (tq:Tok) (t1:Tok) (v1:Value) (e1:Nat) (L li dl:Nat) (k0 k1:Tok) (ds:List Value) (kd:Nat) : Out:=runK w n T 300 20000 (digits 0 0) (u_lv6 w n T n0 T0 g0 n3 T3 g3 a1 n2 T2 g2 t2 v2 e2 n1 T1 g1 q tq t1 v1 e1 L li dl k0 k1 ds kd) (r_lv5 w n0 T0 g0 n3 T3 g3 n2 T2 g2 t2 v2 e2 n1 T1 g1 q tq t1 v1 e1 L li dl k0 k1 ds kd) (.ok (.ret (.ref a1))) [] g
def b_lv6 (n T:Nat) (n0 T0:Nat) (g0:List GenState) (n3 T3:Nat) (g3:List GenState) (a1:Nat) (n2 T2:Nat) (g2:List GenState) (t2:Tok) (v2:Value) (e2:Nat) (n1 T1:Nat) (g1:List GenState) (q:List Nat) (tq:Tok) (t1:Tok) (v1:Value) (e1:Nat) (L li dl:Nat) (k0 k1:Tok) (ds:List Value) (kd:Nat) : List (Bool × Bool):=[]
theorem e_lv6 (b:Bool) (w:World) (n T:Nat) (g:List GenState) (n0 T0:Nat) (g0:List GenState) (n3 T3:Nat) (g3:List GenState) (a1:Nat) (n2 T2:Nat) (g2:List GenState) (t2:Tok) (v2:Value) (e2:Nat) (n1 T1:Nat) (g1:List GenState) (q:List Nat) (tq:Tok) (t1:Tok) (v1:Value) (e1:Nat) (L li dl:Nat) (k0 k1:Tok) (ds:List Value) (kd:Nat) : (r_lv6 (W b w) n T g n0 T0 g0 n3 T3 g3 a1 n2 T2 g2 t2 v2 e2 n1 T1 g1 q tq t1 v1 e1 L li dl k0 k1 ds kd).M [] = (r_lv6 (W b w) n T g n0 T0 g0 n3 T3 g3 a1 n2 T2 g2 t2 v2 e2 n1 T1 g1 q tq t1 v1 e1 L li dl k0 k1 ds kd).N (b_lv6 n T n0 T0 g0 n3 T3 g3 a1 n2 T2 g2 t2 v2 e2 n1 T1 g1 q tq t1 v1 e1 L li dl k0 k1 ds kd) (.done (.ok (.ret (.ref a1)))) (0) (0) g []:=by cases b <;> kernel_rfl
noncomputable def g_lv6 {b:Bool} {w:World} (n0 T0:Nat) (g0:List GenState) (n3 T3:Nat) (g3:List GenState) (a1:Nat) (n2 T2:Nat) (g2:List GenState) (t2:Tok) (v2:Value) (e2:Nat) (n1 T1:Nat) (g1:List GenState) (q:List Nat) (tq:Tok) (t1:Tok) (v1:Value) (e1:Nat) (L li dl:Nat) (k0 k1:Tok) (ds:List Value) (kd:Nat):=mkK (fun n T g => e_lv6 b w n T g n0 T0 g0 n3 T3 g3 a1 n2 T2 g2 t2 v2 e2 n1 T1 g1 q tq t1 v1 e1 L li dl k0 k1 ds kd) (fun _ _ _ => rfl) (by decide)
def u_lv7 (w:World) (n T:Nat) (L li dl:Nat) (k0 k1:Tok) (sl:Array (Option Value)) : List Sum:=[]
def r_lv7 (w:World) (n T:Nat) (g:List GenState) (L li dl:Nat) (k0 k1:Tok) (sl:Array (Option Value)) : Out:=runT w n T 300 20000 (digits 4 786496) (u_lv7 w n T L li dl k0 k1 sl) (lwCode L) (partT (toFlow (twEval (eRight eCmp) (lwEnv L)))) [(L,{ lwF w.params k0 k1 li dl with slots:=sl })] g
def b_lv7 (n T:Nat) (L li dl:Nat) (k0 k1:Tok) (sl:Array (Option Value)) : List (Bool × Bool):=[]
theorem e_lv7 (b:Bool) (w:World) (n T:Nat) (g:List GenState) (L li dl:Nat) (k0 k1:Tok) (sl:Array (Option Value)) : (r_lv7 (W b w) n T g L li dl k0 k1 sl).M3 [] = (r_lv7 (W b w) n T g L li dl k0 k1 sl).N3 (b_lv7 n T L li dl k0 k1 sl) (.call (.ref 830) ⟨[.ref dl],[]⟩) (1) (0) (0) g [(L,{ lwF (W b w).params k0 k1 li dl with slots:=sl })]:=by cases b <;> kernel_rfl
noncomputable def g_lv7 {b:Bool} {w:World} (L li dl:Nat) (k0 k1:Tok) (sl:Array (Option Value)):=mkPS (fun n T g => e_lv7 b w n T g L li dl k0 k1 sl) (fun _ _ _ => rfl) rfl (by decide)
def u_lv8 (w:World) (n T:Nat) (n0 T0:Nat) (g0:List GenState) (a2:Nat) (L li dl:Nat) (k0 k1:Tok) (sl:Array (Option Value)) : List Sum:=[]
def r_lv8 (w:World) (n T:Nat) (g:List GenState) (n0 T0:Nat) (g0:List GenState) (a2:Nat) (L li dl:Nat) (k0 k1:Tok) (sl:Array (Option Value)) : Out:=runK w n T 300 20000 (digits 0 0) (u_lv8 w n T n0 T0 g0 a2 L li dl k0 k1 sl) (r_lv7 w n0 T0 g0 L li dl k0 k1 sl) (.ok (.ret (.ref a2))) [] g
def b_lv8 (n T:Nat) (n0 T0:Nat) (g0:List GenState) (a2:Nat) (L li dl:Nat) (k0 k1:Tok) (sl:Array (Option Value)) : List (Bool × Bool):=[]
theorem e_lv8 (b:Bool) (w:World) (n T:Nat) (g:List GenState) (n0 T0:Nat) (g0:List GenState) (a2:Nat) (L li dl:Nat) (k0 k1:Tok) (sl:Array (Option Value)) : (r_lv8 (W b w) n T g n0 T0 g0 a2 L li dl k0 k1 sl).M [] = (r_lv8 (W b w) n T g n0 T0 g0 a2 L li dl k0 k1 sl).N (b_lv8 n T n0 T0 g0 a2 L li dl k0 k1 sl) (.done (.ok (.ret (.ref a2)))) (0) (0) g []:=by cases b <;> kernel_rfl
noncomputable def g_lv8 {b:Bool} {w:World} (n0 T0:Nat) (g0:List GenState) (a2:Nat) (L li dl:Nat) (k0 k1:Tok) (sl:Array (Option Value)):=mkK (fun n T g => e_lv8 b w n T g n0 T0 g0 a2 L li dl k0 k1 sl) (fun _ _ _ => rfl) (by decide)
theorem fm_safe (m:Int) : ∀ c ∈ fmText m,c ∈ safe8:=by
  have h1 : ∀ b c,c ∈ safe8 → sg1 m b c ∈ safe8:=fun b c h => by
    unfold sg1
    split
    · exact h
    · decide
  have h3 : ∀ xs s x cs cS,cs ∈ safe8 → cS ∈ safe8 → sg3 m xs s x cs cS ∈ safe8:=fun xs s x cs cS h k => by
    unfold sg3
    split
    · exact h
    · split
      · exact k
      · split <;> decide
  intro c hc
  unfold fmText at hc
  simp only [List.mem_cons,List.not_mem_nil,or_false] at hc
  rcases hc with rfl | rfl | rfl | rfl | rfl | rfl | rfl | rfl | rfl | rfl
  · decide
  · exact h1 _ _ (by decide)
  · exact h1 _ _ (by decide)
  · exact h3 _ _ _ _ _ (by decide) (by decide)
  · exact h1 _ _ (by decide)
  · exact h1 _ _ (by decide)
  · exact h3 _ _ _ _ _ (by decide) (by decide)
  · exact h1 _ _ (by decide)
  · exact h1 _ _ (by decide)
  · exact h3 _ _ _ _ _ (by decide) (by decide)
theorem safe_sg {c:Nat} (h:c ∈ safe8) : sgOk c ∧ qOk c:=by
  simp only [safe8,List.mem_cons,List.not_mem_nil,or_false] at h
  rcases h with rfl | rfl | rfl | rfl | rfl | rfl | rfl | rfl <;> exact ⟨⟨by decide,by decide,by decide⟩,by decide,by decide,by decide⟩
theorem fld_q (z:Int) : ∀ c ∈ fld z,qOk c:=by
  intro c hc
  unfold fld padT at hc
  have h32 : qOk 32:=⟨by decide,by decide,by decide⟩
  rcases List.mem_append.mp hc with hc | hc
  · rw [(List.mem_replicate.mp hc).2]; exact h32
  · rcases List.mem_append.mp hc with hc | hc
    · exact (safe_sg (fm_safe _ c hc)).2
    · rw [(List.mem_replicate.mp hc).2]; exact h32
noncomputable def fdZ (z:Int) : Fd:=match Nat.beq (aN z + bN z) 0 with
  | true => ⟨true,45,fzT z⟩
  | false => ⟨false,(fld z).headD 0,(fld z).tail⟩
theorem fld_ne (z:Int) : fld z ≠ []:=fun h => by
  have:=congrArg List.length h
  unfold fld at this
  rw [padT_len,fz_len] at this
  simp at this
theorem fld_ht (z:Int) : (fld z).headD 0 :: (fld z).tail = fld z:=by
  cases h : fld z with
  | nil => exact absurd h (fld_ne z)
  | cons x l => rfl
theorem fld_plain {z:Int} (h:aN z + bN z = 0) : fld z = 45 :: fzT z:=by
  unfold fld
  rw [show aN z = 0 by omega,show bN z = 0 by omega]
  show fz z ++ [] = _
  rw [List.append_nil]; rfl
theorem fdZ_cs (z:Int) : (fdZ z).cs = fld z:=by
  unfold fdZ
  cases h : Nat.beq (aN z + bN z) 0 with
  | true => exact (fld_plain (Nat.eq_of_beq_eq_true h)).symm
  | false => exact fld_ht z
theorem fdZ_ok (z:Int) : (fdZ z).Ok:=by
  unfold fdZ
  cases h : Nat.beq (aN z + bN z) 0 with
  | true => exact ⟨rfl,(fun q => nomatch q),fun c hc => (safe_sg (fm_safe (Int.ofNat 32768 + Int.fmod z (Int.ofNat 4096)) c (.tail _ hc))).1⟩
  | false => exact ⟨fld_q z _ (by rw [← fld_ht z]; exact .head _),fun c hc => fld_q z c (List.mem_of_mem_tail hc)⟩
theorem fdZ_len (z:Int) : (fdZ z).text.length ≤ 18:=by
  have h1:=fld_len z
  have h2:=congrArg List.length (fdZ_cs z)
  generalize fdZ z = f at h2
  obtain ⟨pl,x,q⟩:=f
  unfold Fd.cs at h2
  simp only [List.length_cons] at h2
  cases pl with
  | true => show (x :: q).length ≤ 18; simp only [List.length_cons]; omega
  | false => show (39 :: x :: (q ++ [39])).length ≤ 18; simp only [List.length_cons,List.length_append,List.length_nil]; omega
theorem search_fld {z:Int} (h:aN z + bN z ≠ 0) : ∃ m,(Sre.forSearch code0 ⟨fld z⟩ 0 0 (fld z).length false).runFor 4 = m ∧ m.outcome = some .matched:=by
  have ha:=aN_le z
  cases hp : aN z with
  | succ p =>
    have e : fld z = 32 :: (List.replicate p 32 ++ (fz z ++ List.replicate (bN z) 32)):=by
      unfold fld padT
      rw [hp]; rfl
    rw [e]
    exact search_some0 _
  | zero =>
    cases hq : bN z with
    | zero => exact absurd (by rw [hp,hq]) h
    | succ q =>
      have e : fld z = fz z ++ 32 :: List.replicate q 32:=by
        unfold fld padT
        rw [hp,hq]; rfl
      rw [e]
      have hs:=fm_safe (Int.ofNat 32768 + Int.fmod z (Int.ofNat 4096))
      exact search_some10 _ _ _ _ _ _ _ _ _ _ _ hs
theorem fdZ_quoted {b:Bool} {w:World} (z:Int) : Quoted b w (fdZ z):=by
  have hl:=fld_len z
  unfold fdZ
  cases h : Nat.beq (aN z + bN z) 0 with
  | true =>
    have e:=fld_plain (Nat.eq_of_beq_eq_true h)
    refine quoted_sum fun t => ⟨s_qtN (W b w) 45 (fzT z) t,fun n T lv => quote_plain (fun c hc => fm_safe _ c hc) (by rw [← e]; omega),rfl,fun n T => ⟨t,rfl⟩,rfl,by show 440 ≤ 470; omega⟩
  | false =>
    obtain ⟨m,e,ho⟩:=search_fld (Nat.ne_of_beq_eq_false h)
    rw [← fld_ht z] at e
    have h39 : 39 ∉ (fld z).headD 0 :: (fld z).tail:=fun hm => (fld_q z 39 (by rw [← fld_ht z]; exact hm)).1 rfl
    have hlen : ((fld z).headD 0 :: (fld z).tail).length ≤ 16:=by rw [fld_ht]; exact hl
    refine quoted_sum fun t => ⟨s_qtS (W b w) ((fld z).headD 0) (fld z).tail t,fun n T lv => quote_quoted e ho (by omega) h39,rfl,fun n T => ⟨T + 8,rfl⟩,rfl,by show 440 ≤ 470; omega⟩
def nO (P:Params) (t:Tok) (v:Value) (e:Nat) : Obj:=dcO P [(sx [110],t,v)] e
theorem lwE1_lc : isLc lwE1 = true:=by kernel_rfl
theorem lwE2_lc : isLc lwE2 = true:=by kernel_rfl
theorem intsV_app {l l':List Int} {v v':List Value} (h:IntsV l v) (h':IntsV l' v') : IntsV (l ++ l') (v ++ v'):=by
  induction h with
  | nil => exact h'
  | cons _ ih => exact .cons ih
section
variable {b:Bool} {w:World} {A:Around} {R:Result → Shared → Prop} {v:Nat} {F:List (Addr × Obj)} {H:Heap} (hL:Lv A v) (hv:v ≤ 300)
include hL hv
theorem c1_turns {L it dl acc C:Addr} {ds:List Value} {kd:Nat} {zs:List Int} (hds:IntsV zs ds) (hz:zs.length ≤ 100) :
    ∀ (m i k:Nat) (l:List Value) (t0:Tok) (v0:Value) (e0:Nat) (s:Shared),i + m = zs.length → l.length = i → StrsV ((zs.take i).map fld) l →
      Hp (W b w) H s.heap ((it,itO dl i) :: (dl,liO ds kd) :: (acc,liO l k) :: (C,nO (W b w).params t0 v0 e0) :: F) →
      (∀ (s':Shared) (l':List Value) (k':Nat) (t1:Tok) (v1:Value) (e1:Nat),Sm s s' → StrsV (zs.map fld) l' → Hp (W b w) H s'.heap ((dl,liO ds kd) :: (acc,liO l' k') :: (C,nO (W b w).params t1 v1 e1) :: F) → R (.ok .next) s') →
      codeAny (model P0 (W b w)) A (lwC1 L it acc C) R s:=by
  intro m
  induction m with
  | zero =>
    intro i k l t0 v0 e0 s hi hl hs D post
    refine g_lz1 (F_:=(acc,liO l k) :: (C,nO (W b w).params t0 v0 e0) :: F) L it dl acc C ds kd i (fun n T y hy => ?_) (fun n T q hq => nm hq) hL (by omega) D fun s1 N1 => ?_
    · cases List.mem_singleton.mp hy
      exact ok_lend (List.getElem?_eq_none (by rw [intsV_len hds]; omega))
    rw [List.take_of_length_le (by omega)] at hs
    exact post s1 l k t0 v0 e0 N1.sm hs N1.hp
  | succ m ih =>
    intro i k l t0 v0 e0 s hi hl hs D post
    have hlt : i < zs.length:=by omega
    have hzi : zs[i]? = some zs[i]:=List.getElem?_eq_getElem hlt
    obtain ⟨tz,hx⟩:=intsV_at hds hzi
    refine g_lcb (F_:=F) L it dl acc C ds l kd k i zs[i] tz t0 v0 e0 (fun n T y hy => ?_) (fun n T q hq => nm hq) hL (by omega) D fun A1 s1 L1 N1 M1 => ?_
    · cases List.mem_singleton.mp hy
      exact ok_lnext hx
    have D1:=N1.hp
    generalize s.heap.objs.size = n1 at D1 M1 ⊢
    generalize s.toks = T1 at D1 M1 ⊢
    generalize s.gens.toList = g1 at M1 ⊢
    refine field_ok L1 (by omega) D1 fun s2 tq S2 D2 => ?_
    refine g_ldb (F_:=(it,itO dl (i + 1)) :: (dl,liO ds kd) :: (C,nO (W b w).params t0 (.int zs[i] tz) e0) :: F) n1 T1 g1 L it dl acc C ds l kd k i zs[i] tz t0 v0 e0 (fld zs[i]) tq 0 0 (fun n T y hy => ?_) (fun n T q hq => nm hq) (M1.sm S2) (by omega) (D2.pm) fun s3 N3 => ?_
    · cases List.mem_singleton.mp hy
      exact ok_app (by omega)
    refine ih (i + 1) (k + 1) _ _ _ _ s3 (by omega) (by rw [List.length_append,hl]; rfl) ?_ (N3.hp.pm (S':=(it,itO dl (i + 1)) :: (dl,liO ds kd) :: (acc,liO (l ++ [.str (sx (fld zs[i])) tq]) (k + 1)) :: (C,nO (W b w).params t0 (.int zs[i] tz) e0) :: F)) fun s4 l' k' t1 v1 e1 S4 h4 D4 => post s4 l' k' t1 v1 e1 ((N1.sm.trans S2).trans (N3.sm.trans S4)) h4 D4
    rw [List.take_add_one,hzi,List.map_append]
    exact hs.app (.cons .nil)
theorem c1_loop {L it dl acc C:Addr} {ds:List Value} {kd k:Nat} {z0:Int} {zs:List Int} {s:Shared} (hds:IntsV (z0 :: zs) ds) (hz:zs.length ≤ 90)
    (D:Hp (W b w) H s.heap ((it,itO dl 0) :: (dl,liO ds kd) :: (acc,liO [] k) :: (C,dcO (W b w).params [] 0) :: F))
    (post:∀ (s':Shared) (l':List Value) (k':Nat) (t1:Tok) (v1:Value) (e1:Nat),Sm s s' → StrsV ((z0 :: zs).map fld) l' → Hp (W b w) H s'.heap ((dl,liO ds kd) :: (acc,liO l' k') :: (C,nO (W b w).params t1 v1 e1) :: F) → R (.ok .next) s') :
    codeAny (model P0 (W b w)) A (lwC1 L it acc C) R s:=by
  obtain ⟨tz,hx⟩:=intsV_at hds (i:=0) (l:=z0) rfl
  refine g_lca (F_:=F) L it dl acc C ds [] kd k 0 z0 tz (fun n T y hy => ?_) (fun n T q hq => nm hq) hL (by omega) D fun A1 s1 L1 N1 M1 => ?_
  · cases List.mem_singleton.mp hy
    exact ok_lnext hx
  have D1:=N1.hp
  generalize s.heap.objs.size = n1 at D1 M1 ⊢
  generalize s.toks = T1 at D1 M1 ⊢
  generalize s.gens.toList = g1 at M1 ⊢
  refine field_ok L1 (by omega) D1 fun s2 tq S2 D2 => ?_
  refine g_lda (F_:=(it,itO dl (0 + 1)) :: (dl,liO ds kd) :: (C,nO (W b w).params T1 (.int z0 tz) 1) :: F) n1 T1 g1 L it dl acc C ds [] kd k 0 z0 tz (fld z0) tq 0 0 (fun n T y hy => ?_) (fun n T q hq => nm hq) (M1.sm S2) (by omega) (D2.pm) fun s3 N3 => ?_
  · cases List.mem_singleton.mp hy
    exact ok_app (by show 0 ≤ 1000; omega)
  refine c1_turns hL hv hds (by simp only [List.length_cons]; omega) zs.length 1 (k + 1) _ T1 (.int z0 tz) 1 s3 (by simp only [List.length_cons]; omega) rfl (.cons .nil) (N3.hp.pm (S':=(it,itO dl 1) :: (dl,liO ds kd) :: (acc,liO ([] ++ [.str (sx (fld z0)) tq]) (k + 1)) :: (C,nO (W b w).params T1 (.int z0 tz) 1) :: F)) fun s4 l' k' t1 v1 e1 S4 h4 D4 => post s4 l' k' t1 v1 e1 ((N1.sm.trans S2).trans (N3.sm.trans S4)) h4 D4
theorem c2_turns {L it dl acc C:Addr} {ds:List Value} {kd:Nat} {zs:List Int} (hds:IntsV zs ds) (hz:zs.length ≤ 100) :
    ∀ (m i k:Nat) (l:List Value) (t0:Tok) (v0:Value) (e0:Nat) (s:Shared),i + m = zs.length → l.length = i → IntsV ((zs.take i).map cnt) l →
      Hp (W b w) H s.heap ((it,itO dl i) :: (dl,liO ds kd) :: (acc,liO l k) :: (C,nO (W b w).params t0 v0 e0) :: F) →
      (∀ (s':Shared) (l':List Value) (k':Nat) (t1:Tok) (v1:Value) (e1:Nat),Sm s s' → IntsV (zs.map cnt) l' → Hp (W b w) H s'.heap ((dl,liO ds kd) :: (acc,liO l' k') :: (C,nO (W b w).params t1 v1 e1) :: F) → R (.ok .next) s') →
      codeAny (model P0 (W b w)) A (lwC2 L it acc C) R s:=by
  intro m
  induction m with
  | zero =>
    intro i k l t0 v0 e0 s hi hl hs D post
    refine g_lz2 (F_:=(acc,liO l k) :: (C,nO (W b w).params t0 v0 e0) :: F) L it dl acc C ds kd i (fun n T y hy => ?_) (fun n T q hq => nm hq) hL (by omega) D fun s1 N1 => ?_
    · cases List.mem_singleton.mp hy
      exact ok_lend (List.getElem?_eq_none (by rw [intsV_len hds]; omega))
    rw [List.take_of_length_le (by omega)] at hs
    exact post s1 l k t0 v0 e0 N1.sm hs N1.hp
  | succ m ih =>
    intro i k l t0 v0 e0 s hi hl hs D post
    have hlt : i < zs.length:=by omega
    have hzi : zs[i]? = some zs[i]:=List.getElem?_eq_getElem hlt
    obtain ⟨tz,hx⟩:=intsV_at hds hzi
    refine g_leb (F_:=F) L it dl acc C ds l kd k i zs[i] tz t0 v0 e0 (fun n T y hy => ?_) (fun n T => all_pairs rfl) hL (by omega) D fun s1 N1 => ?_
    · rcases List.mem_cons.mp hy with rfl | hy
      · exact ok_lnext hx
      · cases List.mem_singleton.mp hy
        exact ok_app (by omega)
    have ec : Int.fmod (Int.fdiv zs[i] (Int.ofNat 5)) (Int.ofNat 4) + Int.fmod (Int.fdiv zs[i] (Int.ofNat 20)) (Int.ofNat 4) = cnt zs[i]:=by
      have ea : Int.fmod (Int.fdiv zs[i] (Int.ofNat 5)) (Int.ofNat 4) = (aN zs[i] : Int):=aZ_eq _
      have eb : Int.fmod (Int.fdiv zs[i] (Int.ofNat 20)) (Int.ofNat 4) = (bN zs[i] : Int):=bZ_eq _
      rw [ea,eb]; rfl
    have D1:=N1.hp
    simp only [ec] at D1
    generalize s.toks = T1 at D1
    refine ih (i + 1) (k + 1) _ _ _ _ s1 (by omega) (by rw [List.length_append,hl]; rfl) ?_ (D1.pm (S':=(it,itO dl (i + 1)) :: (dl,liO ds kd) :: (acc,liO (l ++ [.int (cnt zs[i]) (T1 + 9)]) (k + 1)) :: (C,nO (W b w).params t0 (.int zs[i] tz) e0) :: F)) fun s4 l' k' t1 v1 e1 S4 h4 D4 => post s4 l' k' t1 v1 e1 (N1.sm.trans S4) h4 D4
    rw [List.take_add_one,hzi,List.map_append]
    exact intsV_app hs (.cons .nil)
theorem c2_loop {L it dl acc C:Addr} {ds:List Value} {kd k:Nat} {z0:Int} {zs:List Int} {s:Shared} (hds:IntsV (z0 :: zs) ds) (hz:zs.length ≤ 90)
    (D:Hp (W b w) H s.heap ((it,itO dl 0) :: (dl,liO ds kd) :: (acc,liO [] k) :: (C,dcO (W b w).params [] 0) :: F))
    (post:∀ (s':Shared) (l':List Value) (k':Nat) (t1:Tok) (v1:Value) (e1:Nat),Sm s s' → IntsV ((z0 :: zs).map cnt) l' → Hp (W b w) H s'.heap ((dl,liO ds kd) :: (acc,liO l' k') :: (C,nO (W b w).params t1 v1 e1) :: F) → R (.ok .next) s') :
    codeAny (model P0 (W b w)) A (lwC2 L it acc C) R s:=by
  obtain ⟨tz,hx⟩:=intsV_at hds (i:=0) (l:=z0) rfl
  refine g_lea (F_:=F) L it dl acc C ds [] kd k 0 z0 tz (fun n T y hy => ?_) (fun n T => all_pairs rfl) hL (by omega) D fun s1 N1 => ?_
  · rcases List.mem_cons.mp hy with rfl | hy
    · exact ok_lnext hx
    · cases List.mem_singleton.mp hy
      exact ok_app (by show 0 ≤ 1000; omega)
  have ec : Int.fmod (Int.fdiv z0 (Int.ofNat 5)) (Int.ofNat 4) + Int.fmod (Int.fdiv z0 (Int.ofNat 20)) (Int.ofNat 4) = cnt z0:=by
    have ea : Int.fmod (Int.fdiv z0 (Int.ofNat 5)) (Int.ofNat 4) = (aN z0:Int):=aZ_eq _
    have eb : Int.fmod (Int.fdiv z0 (Int.ofNat 20)) (Int.ofNat 4) = (bN z0:Int):=bZ_eq _
    rw [ea,eb]; rfl
  have D1:=N1.hp
  simp only [ec] at D1
  generalize s.toks = T1 at D1
  refine c2_turns hL hv hds (by simp only [List.length_cons]; omega) zs.length 1 (k + 1) _ _ _ _ s1 (by simp only [List.length_cons]; omega) rfl (.cons .nil) D1 fun s4 l' k' t1 v1 e1 S4 h4 D4 => post s4 l' k' t1 v1 e1 (N1.sm.trans S4) h4 D4
end
theorem own_of_part {M:Model} {A:Around} {c:Code} {t:Sem Flow} {Q:Flow → Shared → Prop} {E:Value → Shared → Prop} {s:Shared}
    (h:∀ R' : Result → Shared → Prop,(∀ f s',Q f s' → R' (.ok f) s') → wpOwn M A c t (fun f s' => R' (.ok f) s') (fun e s' => R' (.error e) s') s) : wpOwn M A c t Q E s :=
  h (fun r s' => match r with | .ok f => Q f s' | .error e => E e s') fun _ _ q => q
noncomputable def retOk (st:Stmt) : Bool:=match st with
  | .Return (some (.Compare _ [.Eq] [_] _)) _ => true
  | _ => false
theorem ret_shape {st:Stmt} (h:retOk st = true) : ∃ p1 p2,st = .Return (some (.Compare (eLeft (eVal st)) [.Eq] [eRight (eVal st)] p1)) p2:=by
  unfold retOk at h
  split at h
  · exact ⟨_,_,rfl⟩
  · cases h
theorem body57 : bodyAt 57 = [stAt (bodyAt 57) 0,stAt (bodyAt 57) 1]:=by kernel_rfl
theorem ret57 : retOk (stAt (bodyAt 57) 1) = true:=by kernel_rfl
theorem mark57 : behindInMarks .Eq (eRight eCmp) = false:=by kernel_rfl
theorem intsV_take : ∀ {l:List Int} {vs:List Value},IntsV l vs → ∀ n,IntsV (l.take n) (vs.take n)
  | _,_,_,0 => by rw [List.take_zero,List.take_zero]; exact .nil
  | _,_,.nil,n + 1 => .nil
  | _,_,.cons r,n + 1 => .cons (intsV_take r n)
theorem tail_len : ∀ {l:List Fd},(∀ g ∈ l,g.text.length ≤ 18) → (tailOf l).length ≤ 19 * l.length
  | [],_ => Nat.zero_le _
  | g :: l,h => by
    have h1:=tail_len (l:=l) fun f hf => h f (.tail _ hf)
    have h2:=h g (.head _)
    show (32 :: (g.text ++ tailOf l)).length ≤ _
    simp only [List.length_cons,List.length_append]
    omega
theorem fdZ_map (l:List Int) : (l.map fdZ).map Fd.cs = l.map fld:=by
  rw [List.map_map]
  exact List.map_congr_left fun z _ => fdZ_cs z
section
variable {b:Bool} {w:World} {A:Around} {R:Result → Shared → Prop} {v:Nat} {F:List (Addr × Obj)} {H:Heap} {s:Shared} (hL:Lv A v) (hv:v ≤ 270)
include hL hv
theorem law_ok (hF:A.frames = some []) {li:Addr} {xs:List Int} {vs:List Value} {k:Nat} (hvs:IntsV xs vs) (hlen:vs.length ≤ 1000)
    (D:Hp (W b w) H s.heap ((753,o753 (W b w).params) :: (li,liO vs k) :: F))
    (post:∀ (s':Shared) (more:Array Value),s'.drawn = s.drawn → s'.os = s.os → (AllBare s.gens → AllBare s'.gens) → Hp (W b w) H s'.heap ((753,tbO more) :: (li,liO vs k) :: F) → R (.ok (.ret (.bool true))) s') :
    codeAny (model P0 (W b w)) A (.call (.ref 835) ⟨[.ref li],[]⟩) R s:=by
  refine g_lv0 (F_:=(753,o753 (W b w).params) :: (li,liO vs k) :: F) li (fun _ _ _ h => nomatch h) (fun n T q hq => nm hq) hL (by omega) D fun s1 N1 => ?_
  have D1:=N1.hp
  have S01:=N1.sm
  generalize s.heap.objs.size = L at D1 ⊢
  generalize s.toks = T0 at D1 ⊢
  refine own_func fun E' => ?_
  rw [show execs (bodyAt 57) (lwEnv L) = execs [stAt (bodyAt 57) 0,stAt (bodyAt 57) 1] (lwEnv L) from congrArg (fun x => execs x (lwEnv L)) body57]
  refine own_execs2 ?_
  rw [show @execs = twExecs from PySem.W.Fast.te12563942051412417395]
  refine own_of_part fun R1 hR1 => ?_
  refine g_lv1 (R_:=R1) (F_:=(753,o753 (W b w).params) :: F) L li T0 vs k (fun n T y hy => ?_) (fun n T q hq => nm hq) hL (by omega) (D1.pm) fun s2 N2 => hR1 _ _ ?_
  · rcases List.mem_cons.mp hy with rfl | hy
    · exact ok_lupto hlen
    · cases List.mem_singleton.mp hy
      exact ok_ladd (by show 4 + (vs.take 5).length ≤ 1000; rw [List.length_take]; omega)
  have D2:=N2.hp
  have S02:=S01.trans N2.sm
  generalize s1.heap.objs.size = n1 at D2
  generalize s1.toks = T1 at D2
  obtain ⟨ds,hds⟩ : ∃ ds,ds = dr0 T1 ++ vs.take 5:=⟨_,rfl⟩
  have hz : IntsV (493 :: ([2468,4001,0] ++ xs.take 5)) ds:=by
    rw [hds]
    exact .cons (.cons (.cons (.cons (intsV_take hvs 5))))
  have hzl : ([2468,4001,0] ++ xs.take 5 : List Int).length ≤ 8:=by
    rw [List.length_append,List.length_take]
    show 3 + _ ≤ 8
    omega
  try dsimp only at D2
  rw [← hds] at D2
  generalize ([2468,4001,0] ++ xs.take 5 : List Int) = zr at hz hzl
  obtain ⟨p1,p2,e1⟩:=ret_shape ret57
  have e1 : stAt (bodyAt 57) 1 = .Return (some (.Compare (eLeft eCmp) [.Eq] [eRight eCmp] p1)) p2:=e1
  show wpOwn _ A _ (exec (stAt (bodyAt 57) 1) (lwEnv L)) _ _ s2
  rw [e1]
  refine own_Return (own_Compare1 ?_ mark57)
  refine own_val ?_
  rw [show @eval = twEval from PySem.W.Fast.te14044960220447912780]
  refine g_lv2 (F_:=(753,o753 (W b w).params) :: (li,liO vs k) :: F) L li (n1 + 3) T0 (T1 + 5) ds 0 (fun n T y hy => nm hy) (fun n T q hq => nm hq) hL (by omega) (D2.pm) fun A3 s3 L3 N3 M3 => ?_
  have D3:=N3.hp
  have S3:=N3.sm
  generalize s2.heap.objs.size = n3 at D3 M3 ⊢
  generalize s2.toks = T3 at D3 M3 ⊢
  generalize s2.gens.toList = g3 at M3 ⊢
  refine comp_startL (li:=n1 + 3) (i:=0) lwE1_lc (own_of D3 (by simp)) ?_
  refine c1_loop (F:=(L,lwF (W b w).params T0 (T1 + 5) li (n1 + 3)) :: (753,o753 (W b w).params) :: (li,liO vs k) :: F) (it:=n3) (dl:=n1 + 3) (acc:=n3 + 1) (C:=n3 + 2) (ds:=ds) (kd:=0) (k:=0) (z0:=493) (zs:=zr) L3 (by omega) hz (by omega) (D3.pm) fun s4 fl kf t1 v1 e1' S4 hfl D4 => ?_
  refine g_lv3 (F_:=(n1 + 3,liO ds 0) :: (n3 + 1,liO fl kf) :: (L,lwF (W b w).params T0 (T1 + 5) li (n1 + 3)) :: (753,o753 (W b w).params) :: (li,liO vs k) :: F) n3 T3 g3 t1 v1 e1' L li (n1 + 3) T0 (T1 + 5) ds 0 (fun n T y hy => nm hy) (fun n T q hq => nm hq) (M3.sm S4) (by omega) (D4.pm) fun A5 s5 L5 N5 M5 => ?_
  have D5:=N5.hp
  generalize s4.heap.objs.size = n5 at D5 M5 ⊢
  generalize s4.toks = T5 at D5 M5 ⊢
  generalize s4.gens.toList = g5 at M5 ⊢
  have hfl' : StrsV ((fdZ 493 :: zr.map fdZ).map Fd.cs) fl:=by
    rw [show fdZ 493 :: zr.map fdZ = (493 :: zr).map fdZ from rfl,fdZ_map]
    exact hfl
  have hg18 : ∀ g ∈ fdZ 493 :: zr.map fdZ,g.text.length ≤ 18:=fun g hg => by
    rw [show fdZ 493 :: zr.map fdZ = (493 :: zr).map fdZ from rfl] at hg
    obtain ⟨z,_,rfl⟩:=List.mem_map.mp hg
    exact fdZ_len z
  have hgo : ∀ g ∈ fdZ 493 :: zr.map fdZ,g.Ok:=fun g hg => by
    rw [show fdZ 493 :: zr.map fdZ = (493 :: zr).map fdZ from rfl] at hg
    obtain ⟨z,_,rfl⟩:=List.mem_map.mp hg
    exact fdZ_ok z
  have hgq : ∀ g ∈ fdZ 493 :: zr.map fdZ,Quoted b w g:=fun g hg => by
    rw [show fdZ 493 :: zr.map fdZ = (493 :: zr).map fdZ from rfl] at hg
    obtain ⟨z,_,rfl⟩:=List.mem_map.mp hg
    exact fdZ_quoted z
  have hml : (zr.map fdZ).length ≤ 8:=by rw [List.length_map]; exact hzl
  refine join_ok (k:=kf) (F:=(n1 + 3,liO ds 0) :: (L,lwF (W b w).params T0 (T1 + 5) li (n1 + 3)) :: (li,liO vs k) :: F) L5 (by omega) hfl' hgq (fun g hg => Nat.le_trans (hg18 g hg) (by omega)) (by omega) (D5.pm) fun s6 tq more d6 o6 b6 D6 => ?_
  refine g_lv4 (F_:=(753,tbO more) :: (n3 + 1,liO fl kf) :: (li,liO vs k) :: F) n5 T5 g5 n3 T3 g3 ((fdZ 493).text ++ tailOf (zr.map fdZ)) tq t1 v1 e1' L li (n1 + 3) T0 (T1 + 5) ds 0 (fun n T y hy => nm hy) (fun n T q hq => nm hq) (M5.nx d6 o6) (by omega) (D6.pm) fun A7 s7 L7 N7 M7 => ?_
  have D7:=N7.hp
  have S7:=N7.sm
  generalize s6.heap.objs.size = n7 at D7 M7 ⊢
  generalize s6.toks = T7 at D7 M7 ⊢
  generalize s6.gens.toList = g7 at M7 ⊢
  refine comp_startL (li:=n1 + 3) (i:=0) lwE2_lc (own_of D7 (by simp)) ?_
  refine c2_loop (F:=(L,lwF (W b w).params T0 (T1 + 5) li (n1 + 3)) :: (753,tbO more) :: (n3 + 1,liO fl kf) :: (li,liO vs k) :: F) (it:=n7) (dl:=n1 + 3) (acc:=n7 + 1) (C:=n7 + 2) (ds:=ds) (kd:=0) (k:=0) (z0:=493) (zs:=zr) L7 (by omega) hz (by omega) (D7.pm) fun s8 cs kc t2 v2 e2' S8 hcs D8 => ?_
  refine g_lv5 (F_:=(n1 + 3,liO ds 0) :: (n7 + 1,liO cs kc) :: (L,lwF (W b w).params T0 (T1 + 5) li (n1 + 3)) :: (753,tbO more) :: (li,liO vs k) :: F) n7 T7 g7 n5 T5 g5 t2 v2 e2' n3 T3 g3 ((fdZ 493).text ++ tailOf (zr.map fdZ)) tq t1 v1 e1' L li (n1 + 3) T0 (T1 + 5) ds 0 (fun n T y hy => nm hy) (fun n T q hq => nm hq) (M7.sm S8) (by omega)
    ((D8.subl (S':=(n1 + 3,liO ds 0) :: (n7 + 1,liO cs kc) :: (n7 + 2,nO (W b w).params t2 v2 e2') :: (L,lwF (W b w).params T0 (T1 + 5) li (n1 + 3)) :: (753,tbO more) :: (li,liO vs k) :: F) (.cons₂ _ (.cons₂ _ (.cons₂ _ (.cons₂ _ (.cons₂ _ (.cons _ (.refl _)))))))).pm) fun A9 s9 hA9 L9 N9 M9 => ?_
  have D9:=N9.hp
  have hA9:=hA9 [] hF
  generalize s8.heap.objs.size = n9 at D9 M9 hA9 ⊢
  generalize s8.toks = T9 at D9 M9 hA9 ⊢
  generalize s8.gens.toList = g9 at M9 ⊢
  obtain ⟨fr,hfr⟩ : ∃ fr,fr = lwF (W b w).params T0 (T1 + 5) li (n1 + 3):=⟨_,rfl⟩
  have htl : ((fdZ 493).text ++ tailOf (zr.map fdZ)).length ≤ 16777216:=by
    have h1:=hg18 (fdZ 493) (.head _)
    have h2:=tail_len (l:=zr.map fdZ) fun g hg => hg18 g (.tail _ hg)
    rw [List.length_append]
    omega
  refine told_ok (outer:=[lwEnv L]) (F:=(n1 + 3,liO ds 0) :: (753,tbO more) :: (li,liO vs k) :: F) (Fo:=[(L,fr)]) (f:=fdZ 493) (l2:=zr.map fdZ) (zs:=493 :: zr) (cs:=cs) (kc:=kc) (cl:=n7 + 1) L9 (by omega) hA9 rfl (fun env he => ?_) (fun p hp vs q => ?_) ⟨_,.tail _ (.head _)⟩ htl hgo hml ?_ hcs (D9.perm (perm_by fun p => by simp only [hfr,lwF,List.countP_append,List.countP_cons,List.countP_nil]; omega)) fun s10 a1 it1 k1 Fo' S10 hit1 y D10 => ?_
  · cases List.mem_singleton.mp he
    exact ⟨(by kernel_rfl:(lwEnv L).scope.kind = .function) ▸ (fun q => nomatch q),L,rfl⟩
  · cases List.mem_singleton.mp hp
    rw [hfr] at q
    cases q
  · rw [show fdZ 493 :: zr.map fdZ = (493 :: zr).map fdZ from rfl,fdZ_map]
  cases y with
  | cons sl y =>
    cases y with
    | nil =>
      subst hfr
      refine g_lv6 (F_:=(L,{ lwF (W b w).params T0 (T1 + 5) li (n1 + 3) with slots:=sl }) :: (n1 + 3,liO ds 0) :: (a1,liO (itRefs it1) k1) :: (it1.flatMap itObs ++ ((753,tbO more) :: (li,liO vs k) :: F))) n9 T9 g9 n7 T7 g7 a1 n5 T5 g5 t2 v2 e2' n3 T3 g3 ((fdZ 493).text ++ tailOf (zr.map fdZ)) tq t1 v1 e1' L li (n1 + 3) T0 (T1 + 5) ds 0 (fun n T y hy => nm hy) (fun n T q hq => nm hq) (M9.sm S10) (by omega)
        ((D10.subl (List.sublist_cons_self _ _)).perm (perm_by fun p => by simp only [lwF,List.countP_append,List.countP_cons,List.countP_nil]; omega)) fun s11 N11 => ?_
      have D11:=N11.hp
      show wpOwn _ A _ (twEval (eRight eCmp) (lwEnv L)) _ _ s11
      refine own_val ?_
      refine g_lv7 (F_:=(n1 + 3,liO ds 0) :: (a1,liO (itRefs it1) k1) :: (it1.flatMap itObs ++ ((753,tbO more) :: (li,liO vs k) :: F))) L li (n1 + 3) T0 (T1 + 5) sl (fun n T y hy => nm hy) (fun n T q hq => nm hq) hL (by omega) D11 fun A12 s12 L12 N12 M12 => ?_
      have D12:=N12.hp
      generalize s11.heap.objs.size = n12 at D12 M12 ⊢
      generalize s11.toks = T12 at D12 M12 ⊢
      generalize s11.gens.toList = g12 at M12 ⊢
      refine due_ok (F:=(a1,liO (itRefs it1) k1) :: (it1.flatMap itObs ++ ((753,tbO more) :: (li,liO vs k) :: F))) (ns:=ds) (kn:=0) (z0:=493) (zs:=zr) L12 (by omega) hz (by omega) (D12.subl (List.sublist_append_right _ _)) fun s13 a2 it2 k2 S13 hit2 D13 => ?_
      refine g_lv8 (F_:=(n1 + 3,liO ds 0) :: (a2,liO (itRefs it2) k2) :: (it2.flatMap itObs ++ (a1,liO (itRefs it1) k1) :: (it1.flatMap itObs ++ ((753,tbO more) :: (li,liO vs k) :: F)))) n12 T12 g12 a2 L li (n1 + 3) T0 (T1 + 5) sl (fun n T y hy => nm hy) (fun n T q hq => nm hq) (M12.sm S13) (by omega) D13 fun s14 N14 => ?_
      have D14:=N14.hp
      show wpOwn _ A _ (compareOp .Eq (.ref a1) (.ref a2)) _ _ s14
      refine wpOwn_of_wpAny (law_eq (k1:=k1) (k2:=k2) hit1 hit2 (own_of D14 (by simp)) (own_of D14 (by simp)) (fun p hp => D14.own p (by simp [hp])) (fun p hp => D14.own p (by simp [hp])) ?_ ?_)
      · have:=hL.units
        have:=units_wt (lwCode L)
        show A.units + (lwCode L).cUnits ≤ 5000
        have : wtC (lwCode L) ≤ 5:=by unfold wtC; split <;> omega
        omega
      · have SA : Sm s2 s4:=S3.trans S4
        have SB:=((S7.trans S8).trans N9.sm).trans (S10.trans (N11.sm.trans (N12.sm.trans (S13.trans N14.sm))))
        have SC:=(S02.trans SA).trans N5.sm
        refine post s14 more ((SB.drawn.trans d6).trans SC.drawn) ((SB.os.trans o6).trans SC.os) (fun hb => ?_) ?_
        · rw [show s14.gens = s6.gens from SB.gens]
          exact b6 (by rw [show s5.gens = s.gens from SC.gens]; exact hb)
        · exact D14.subl (.cons _ (.cons _ ((List.Sublist.cons _ (List.sublist_append_right _ _)).trans (List.sublist_append_right _ _))))
end
theorem a0_keys (P:Params) : A0 = (K0 P).map (·.1):=by kernel_rfl
theorem allIn_at {h:Heap} {a:Addr} {o:Obj} : ∀ {K:Frag},AllIn h K → K.lookup a = some o → h.get? a = some o
  | [],_,e => by cases e
  | p :: K,A,e => by
    obtain ⟨x,y⟩:=p
    rw [List.lookup_cons] at e
    cases q : (a == x) with
    | true =>
      rw [q] at e
      cases e
      have : a = x:=by simpa using q
      rw [this]; exact A.1
    | false =>
      rw [q] at e
      exact allIn_at A.2 e
theorem allIn_filter {h:Heap} {f:Addr × Obj → Bool} : ∀ {K:Frag},AllIn h K → AllIn h (K.filter f)
  | [],_ => trivial
  | p :: K,A => by
    rw [List.filter_cons]
    split
    · exact ⟨A.1,allIn_filter A.2⟩
    · exact allIn_filter A.2
theorem script_heap {R:WRecords} {w:World} {s₀ s₁:Shared} {ns:List Int} {a:Addr} {as:List Addr} (L:Laid R w s₀ s₁ [ofPy (PyData.list (ns.map PyData.int))] [.ref a] as) : ∃ o,s₁.heap = s₀.heap.push o:=by
  obtain ⟨ord,_,e⟩:=L.laid
  simp only [ofPy,layAllW,layW] at e
  cases q : layAllW R (classAt s₀.heap) w.params ord (ofPys (List.map PyData.int ns)) s₀ with
  | none => rw [q] at e; cases e
  | some r =>
    rw [q] at e
    have hh:=lay_ints ns s₀ r q
    simp only [Option.some.injEq,Prod.mk.injEq,List.cons.injEq,Value.ref.injEq] at e
    obtain ⟨⟨ea,_⟩,es⟩:=e
    rw [← es,← hh]
    exact ⟨_,rfl⟩
theorem get_push {h:Heap} {o o':Obj} {b:Addr} (e:(h.push o).get? b = some o') (hb:b ≠ h.objs.size) : h.get? b = some o':=by
  obtain ⟨objs,life⟩:=h
  unfold Heap.get? Heap.push at e
  unfold Heap.get?
  have : (objs.push o)[b]? = objs[b]?:=by
    rw [Array.getElem?_push]
    rw [if_neg hb]
  dsimp only at e
  rw [this] at e
  exact e
theorem ints_of : ∀ {vs:List Value} {ns:List Int},IntsAre vs ns → IntsV ns vs
  | _,_,.nil => .nil
  | _,_,.cons _ _ r => .cons (ints_of r)
theorem caller_lv : Lv callerA 0:=⟨by decide,by decide,rfl⟩
noncomputable def dictE (d:Data) : Array DictEntry:=match d with
  | .dict es _ => es
  | _ => #[]
theorem find835 (P:Params) : nsFind (dictE (o3 P).data) d0.name = some (.ref 835):=by kernel_rfl
theorem law835 {P:Params} {h:Heap} {mg:Str → Option Value} {fa:Addr} (T:h.Ns mainGlobals mg) (e3:h.get? 3 = some (o3 P)) (hm:mg d0.name = some (.ref fa)) : fa = 835:=by
  obtain ⟨o',es,ep,ho',hd',_,hf⟩:=T
  have e3 : h.get? mainGlobals = some (o3 P):=e3
  have eo : o' = o3 P:=Option.some.inj (ho'.symm.trans e3)
  rw [eo] at hd'
  have hes : dictE (o3 P).data = es:=congrArg dictE hd'
  have e1:=hf d0.name
  rw [hm,← hes,find835 P] at e1
  injection e1 with e1
  injection e1 with e1
  exact e1.symm
theorem ap753 (P:Params) : (kt0 P).get 753 = none:=by kernel_rfl
theorem ap836 (P:Params) : (kt0 P).get 836 = none:=by kernel_rfl
theorem look753 (P:Params) : (K0 P).lookup 753 = some (o753 P):=by kernel_rfl
theorem look3 (P:Params) : (kt0 P).get 3 = some (o3 P):=by kernel_rfl
theorem look757 (P:Params) : (kt0 P).get 757 = some (o757 P):=by kernel_rfl
theorem holds_gen {h:Heap} {K:Frag} {t:KT} (A:AllIn h K) (e:KT.of K = t) : KT.Holds h 1 0 t:=by
  subst e
  exact holds_of A
theorem k1_in {P:Params} {h:Heap} (A:AllIn h (K0 P)) : AllIn h (K1 P):=allIn_filter (f:=fun p => p.1 != 753) (K:=K0 P) A
theorem base_of {P:Params} {h:Heap} (A:AllIn h (K0 P)) : KT.Holds h 1 0 (kt0 P):=holds_gen (K:=K1 P) (t:=kt0 P) (k1_in A) (kt0_eq P)
theorem walk0 : Walk0:=by
  intro w s₀ s₁ mg mb G Y fa o pm cd doc dV kV ho hd hcd hD hmg hg args vals as L hpre hlay hrd hwl hlo
  obtain ⟨hall,hin,hsz0,htk0⟩:=z_facts a0_keys Y
  refine Ground.open G ?_
  intro T B D TE TW
  wrow_args hpre hlay hrd hwl hlo
  rename_i ns hs1 hlay0 hL1 hr1 hl2 w4 w3 la its w0 hLi ra w1 r0 hI hr hc1 hc2
  obtain ⟨hat,hsz1⟩:=script_at L
  obtain ⟨ox,hpush⟩:=script_heap L
  have hla:=script_obj L hLi
  rw [hsz0] at hat
  subst hat
  have keep : ∀ b o,s₀.heap.get? b = some o → s₁.heap.get? b = some o:=fun b o e => by rw [hpush]; exact Heap.get?_push_of_some _ e
  have back : ∀ b o,s₁.heap.get? b = some o → b ≠ 836 → s₀.heap.get? b = some o:=fun b o e hb => by
    rw [hpush] at e
    exact get_push e (by rw [hsz0]; exact hb)
  have base : KT.Holds s₁.heap 1 0 (kt0 w.params):=KT.Holds.keeps keep (base_of hall)
  have h753 : s₁.heap.get? 753 = some (o753 w.params):=keep _ _ (allIn_at hall (look753 _))
  have h3 : s₁.heap.get? 3 = some (o3 w.params):=holds_at base (look3 _)
  have h757 : s₁.heap.get? 757 = some (o757 w.params):=holds_at base (look757 _)
  have hfa : fa = 835:=law835 T.g h3 hmg
  subst hfa
  have hw : W (w.params.followText "special-get-raises") w = w:=World.withFollow_self w _
  have hnl : ns.length ≤ 63:=by
    have : ¬ ((63 : Int) < (ns.length : Int)):=hc1
    omega
  have hil : IntsV ns its:=ints_of hI
  have D0 : Hp w s₀.heap s₁.heap ((753,o753 w.params) :: (836,liO its 0) :: []):=by
    refine ⟨fun p hp => ?_,(show [753,836].Nodup from by decide),base,fun p hp => ?_,fun b o e _ => keep b o e,fun p hp => ?_⟩
    · rcases List.mem_cons.mp hp with rfl | hp
      · exact h753
      · cases List.mem_singleton.mp hp
        exact hla
    · rcases List.mem_cons.mp hp with rfl | hp
      · exact ap753 _
      · cases List.mem_singleton.mp hp
        exact ap836 _
    · rcases List.mem_cons.mp hp with rfl | hp
      · exact .inr rfl
      · cases List.mem_singleton.mp hp
        refine .inl ?_
        cases q : s₀.heap.get? 836 with
        | none => rfl
        | some o =>
          have h9:=Heap.lt_size q
          rw [hsz0] at h9
          exact absurd h9 (Nat.lt_irrefl _)
  have key:=law_ok (b:=w.params.followText "special-get-raises") (w:=w) (A:=callerA) (v:=0) (s:=s₁) (F:=[]) (H:=s₀.heap) (R:=fun r s' => match r with
      | .ok (.ret v) => GoodWG L0.row.claim (classAt s₀.heap) (ExcName.means s₀.heap) [ofPy (PyData.list (ns.map PyData.int))] s₁ (.ok (.ret v)) s'
      | .ok _ => False
      | .error e => GoodWG L0.row.claim (classAt s₀.heap) (ExcName.means s₀.heap) [ofPy (PyData.list (ns.map PyData.int))] s₁ (.error e) s') caller_lv (by decide) rfl (li:=836) (k:=0) hil (by rw [intsV_len hil]; omega)
  rw [hw] at key
  refine wpAny_call (key D0 fun s' more hdr hos hgb D' => ?_)
  have hk : ∀ b o,b ≠ 753 → s₁.heap.get? b = some o → s'.heap.get? b = some o:=fun b o hb e => by
    by_cases z : b = 836
    · subst z
      rw [hla] at e
      cases e
      exact D'.own (836,liO its 0) (.tail _ (.head _))
    · exact D'.keep b o (back b o e z) hb
  have h7' : s'.heap.get? 753 = some (tbO more):=D'.own (753,tbO more) (.head _)
  refine ⟨.inl ⟨_,_,[],rfl,fun _ => rfl,ReadsW.bool true,by wrow_post,fun _ => ⟨List.nodup_nil,fun _ hm => (nomatch hm)⟩⟩,?_,hos,hgb (.of_eq hg)⟩
  refine (OldK.refl s₁.heap).step_table (c₀:=757) (c:=757) (P:=753) (ps₀:=#[]) (ps:=#[]) (more:=more) ⟨⟨_,_,h757,rfl,rfl,rfl⟩,h753⟩ ⟨⟨_,_,h757,rfl,rfl,rfl⟩,h753⟩ ⟨⟨_,_,hk _ _ (by decide) h757,rfl,rfl,rfl⟩,?_⟩ (fun b o hb e => hk b o hb e) (by decide)
  rw [h7']
  unfold tbO
  simp
end Mine
end
theorem PySem.Challenge.cw_ny0386_01_holds : PySem.Challenge.rw_ny0386_01.Holds := by
  exact Mine.head0 Mine.said0 Mine.walk0
