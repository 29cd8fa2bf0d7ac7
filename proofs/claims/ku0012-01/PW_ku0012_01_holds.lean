import PyProof.Rows.All
import Wide.All
import OpenK.AllK
import Wide.FinOn
import PySem.Challenge.RW_ku0012_01

set_option Elab.async false
set_option linter.all false

section -- HD
set_option maxRecDepth 100000
set_option maxHeartbeats 8000000
open PySem PySem.W PyProof.Rows
namespace Mine
/-- the ways of the top's run that the kernel takes: each may stand in its quick form -/
structure Ways where
  imp : Program → World → Nat → Shared → Thread → Option Shared
  beg : Program → Shared × Thread
  fen : Program → Shared → Option Shared
  st : Program → World → SharedT → Thread → Option (SharedT × Thread)
  ok : Nat → Option Value → Thread → Bool
noncomputable def slow : Ways := ⟨importEnds treeTable, start, fenceModules?, stepT (denote treeTable), stepOk⟩
noncomputable def runG (W : Ways) (p : Program) (w : World) (n₀ : Nat) (ann : Option Value) : Nat → SharedT → Thread → Option SharedT
  | 0, _, _ => none
  | n + 1, s, t => match through t with
    | true => some s
    | false => match W.ok n₀ ann t with
      | false => none
      | true => match W.st p w s t with
        | some (s', t') => runG W p w n₀ ann n s' t'
        | none => none
noncomputable def treeG : List Obj → BT → Nat → Option BT
  | [], t, _ => some t
  | o :: l, t, n => match ((t.ins n o).get n).isSome with
    | true => treeG l (t.ins n o) (n + 1)
    | false => none
noncomputable def treeOf (s : Shared) : Option SharedT := match treeG s.heap.objs.toList .nil 0 with
  | some t => some ⟨t, s.heap.objs.size, s.heap.life, s.gens, s.drawn, s.toks, s.os⟩
  | none => none
noncomputable def openG (W : Ways) (p : Program) (w : World) (N : Nat) : Option Shared :=
  (W.imp (opening p) w N (W.beg (opening p)).1 (W.beg (opening p)).2).bind (W.fen p)
noncomputable def hxRunS (W : Ways) (p : Program) (w : World) (N : Nat) (s₀ : Shared) : Option Shared := match treeOf s₀ with
  | none => none
  | some T => match runG W p w s₀.heap.objs.size (s₀.heap.nsMap mainGlobals "__annotations__") N T (topStub p) with
    | none => none
    | some t => some t.abs
theorem runG_spec {p : Program} {w : World} {n₀ : Nat} {ann : Option Value} : ∀ {n : Nat} {s s' : SharedT} {t : Thread}, runG slow p w n₀ ann n s t = some s' → topRun treeTable p w n₀ ann n s.abs t = some s'.abs
  | 0, _, _, _, h => by cases h
  | n + 1, s, s', t, h => by
    unfold runG at h
    unfold topRun
    cases ht : through t with
    | true => rw [ht] at h; cases h; rfl
    | false =>
      rw [ht] at h
      dsimp only [slow] at h ⊢
      cases hk : stepOk n₀ ann t with
      | false => rw [hk] at h; cases h
      | true =>
        rw [hk] at h
        cases hs : stepT (denote treeTable) p w s t with
        | none => rw [hs] at h; cases h
        | some r => obtain ⟨s₂, t₂⟩ := r; rw [hs] at h; dsimp only; rw [stepT_spec hs]; exact runG_spec h
theorem treeG_spec (life : Life) : ∀ {l : List Obj} {t t' : BT} {n : Nat}, treeG l t n = some t' → (absHeap t' (n + l.length) life).objs = (absHeap t n life).objs ++ l.toArray
  | [], t, t', n, h => by cases h; simp
  | o :: l, t, t', n, h => by
    unfold treeG at h
    cases e : ((t.ins n o).get n).isSome with
    | false => rw [e] at h; cases h
    | true =>
      rw [e] at h
      have := treeG_spec life h
      rw [show n + (o :: l).length = n + 1 + l.length by simp only [List.length_cons]; lia, this, absHeap_ins e]
      show (absHeap t n life).objs.push o ++ _ = _
      apply Array.toList_inj.mp
      simp
theorem treeOf_spec {s : Shared} {T : SharedT} (h : treeOf s = some T) : T.abs = s := by
  unfold treeOf at h
  obtain ⟨⟨objs, life⟩, gens, drawn, toks, os⟩ := s
  cases e : treeG objs.toList .nil 0 with
  | none => rw [e] at h; cases h
  | some t =>
    rw [e] at h
    cases h
    have := treeG_spec life e
    rw [Nat.zero_add, show objs.toList.length = objs.size from Array.length_toList] at this
    have z : (absHeap .nil 0 life).objs = #[] := by unfold absHeap BT.list; simp
    rw [z] at this
    have q : (absHeap t objs.size life).objs = objs := by rw [this]; simp
    show Shared.mk (absHeap t objs.size life) gens drawn toks os = _
    exact congrArg (fun h => Shared.mk h gens drawn toks os) (show absHeap t objs.size life = ⟨objs, life⟩ from congrArg (Heap.mk · life) q)
theorem hxRunS_spec {p : Program} {w : World} {N : Nat} {s₀ s : Shared} (h : hxRunS slow p w N s₀ = some s) : topRun treeTable p w s₀.heap.objs.size (s₀.heap.nsMap mainGlobals "__annotations__") N s₀ (topStub p) = some s := by
  unfold hxRunS at h
  cases c : treeOf s₀ with
  | none => rw [c] at h; cases h
  | some T =>
    rw [c] at h
    dsimp only at h
    cases e : runG slow p w s₀.heap.objs.size (s₀.heap.nsMap mainGlobals "__annotations__") N T (topStub p) with
    | none => rw [e] at h; cases h
    | some t =>
      rw [e] at h
      cases h
      have := runG_spec e
      rw [treeOf_spec c] at this
      exact this

noncomputable def quick : Ways := ⟨PySem.W.Fast.tw10274390034422433532 PySem.W.Fast.tw14364793385576792824, PySem.W.Fast.tw1435165496053646825, PySem.W.Fast.tw14289696077712309145, PySem.W.Fast.tw10156331382660048174 (PySem.W.Fast.tw11892475500146522536 PySem.W.Fast.tw14364793385576792824), PySem.W.Fast.tw6613529449190102663⟩
theorem slow_quick : slow = quick := by
  unfold slow quick
  rw [PySem.W.Fast.te10274390034422433532, PySem.W.Fast.te14364793385576792824, PySem.W.Fast.te1435165496053646825, PySem.W.Fast.te14289696077712309145, PySem.W.Fast.te10156331382660048174, PySem.W.Fast.te11892475500146522536, PySem.W.Fast.te6613529449190102663]
theorem left_of {p q : Program} {loose : List Str} {Xt : Shared → Bool} {α : Type} {Yf : Shared → α} {Ya : World → α} {N : Nat} {g0 : Bool} {S0 S1 : World → Shared} (r1 r2 : String)
    (hO : ∀ w : World, openG quick p w N = some (S0 w)) (hG : ∀ w : World, ((S0 w).heap.isNs mainGlobals && (S0 w).gens.size == 0) = true)
    (hR : ∀ (b1 b2 : Bool) (w : World), hxRunS quick p ((w.withFollow r2 b2).withFollow r1 b1) N (S0 w) = some (S1 w))
    (hL : ∀ w : World, (staticsOk (importedModules p.main.body) (S0 w).heap (S1 w).heap && namesBound p (S1 w).heap && gensDone (S1 w) && laidKept (S0 w).heap (S1 w).heap) = true)
    (hS : ∀ w : World, PySem.W.Fast.tw4187177175401517315 q loose (importedModules p.main.body) Xt g0 (S1 w) = openGood q loose) (hY : ∀ w : World, Yf (S1 w) = Ya w) :
    LeftO p q loose Xt Yf Ya N g0 := fun w => by
  have hO := hO w
  have hR := hR ((w.withFollow r2 (w.params.followText r2)).params.followText r1) (w.params.followText r2) w
  have hS := hS w
  rw [World.withFollow_self, World.withFollow_self] at hR
  rw [← slow_quick] at hO hR
  rw [← PySem.W.Fast.te4187177175401517315] at hS
  have e : fencedOpening treeTable p w N = some (S0 w) := hO
  unfold openEnds
  rw [e]
  show (topFrom treeTable p w N (S0 w)).map _ = _
  unfold topFrom
  rw [hG w]
  dsimp only
  rw [hxRunS_spec hR]
  dsimp only [Option.bind]
  rw [hL w]
  dsimp only [Option.map]
  rw [hS, hY w]

noncomputable def vw : Program := view PySem.Challenge.pw_ku0012_01 [0, 2, 3, 4, 5, 7, 8, 10, 11, 13, 14, 16, 17, 18, 19, 21, 22, 23, 24, 25, 26, 27, 28, 29, 30]
noncomputable def los : List Str := ["twin_re_1_quoprimime", "twin_re_1_fnmatch", "_special_chars_map", "twin_re_1_shlex", "_find_unsafe"]
theorem said0 : PySem.Challenge.rw_ku0012_01.wellSaid = true := by
  rw [PySem.W.Fast.te9446332074065402090]
  delta PySem.W.Fast.tw9446332074065402090
  dsimp only
  repeat' (with_reducible refine look_both ?_ ?_)
  -- the first look (the whole text's) taken apart, so that each piece is a small step of the kernel's
  all_goals try (delta PySem.W.Fast.tw17960256430627541270; (try dsimp only); repeat' (with_reducible refine look_both ?_ ?_))
  all_goals try (delta PySem.W.Fast.tw2436336058641802641; (try dsimp only); repeat' (with_reducible refine look_both ?_ ?_))
  all_goals try (delta PySem.W.Fast.tw12908688711261696721; (try dsimp only); repeat' (with_reducible refine look_both ?_ ?_))
  all_goals (as_aux_lemma => kernel_rfl)
section
local macro_rules | `(tactic| o_head $_) => `(tactic| assumption)
/-- lays the written part of the heap (Mine.mk0.heap_1) -/
theorem mk0 (h : OpenRow.Holds (OpenLaw.row PySem.Challenge.rw_ku0012_01)) : OpenRow.Holds (OpenLaw.row PySem.Challenge.rw_ku0012_01) := by k_head
end
noncomputable def asK : List Addr := [2, 3, 35, 36, 37, 39, 40, 42, 43, 44, 46, 47, 49, 50, 51, 53, 54, 56, 57, 61, 62, 63, 65, 66, 68, 69, 71, 75, 77, 78, 80, 81, 82, 84, 85, 87, 88, 89, 91, 92, 94, 95, 99, 100, 101, 103, 104, 106, 107, 108, 109, 111, 112, 114, 115, 116, 119, 120, 121, 123, 124, 126, 127, 128, 130, 131, 133, 134, 135, 137, 138, 140, 141, 142, 145, 146, 147, 150, 151, 152, 155, 156, 157, 159, 160, 162, 163, 164, 167, 168, 169, 172, 173]
theorem asK_eq : ∀ P, asK = (Mine.mk0.heap_1 P).map (·.1) := fun _ => by kernel_rfl
noncomputable abbrev Hk : Hook := kmHook Mine.mk0.heap_1 asK asK_eq [83]
noncomputable abbrev Xk (s : Shared) : Bool := xlAt vw [] s && recOk (RowW.records (OpenRow.toRowW (OpenLaw.row PySem.Challenge.rw_ku0012_01))) s
noncomputable abbrev hxP : Program := PySem.Challenge.pw_ku0012_01
-- the heap ahead of the top's run and behind it
noncomputable def hxEn (P : Params) (x : String) (t : Nat) (v : Value) : DictEntry := ⟨PyData.keyHash P (Str.ofString x), .str (Str.ofString x) t, v⟩
noncomputable def hxS (x : String) (t : Nat) : Value := .str (Str.ofString x) t
noncomputable def hxN (n : Int) : Value := .int n 0
noncomputable def hxR (a : Addr) : Value := .ref a
noncomputable def hxF (o : Obj) : FuncData := match o.data with
  | .func f => f
  | _ => default
noncomputable def hxNth : List (Addr × Obj) → Nat → Obj
  | [], _ => default
  | x :: _, 0 => x.2
  | _ :: l, n + 1 => hxNth l n
noncomputable def hxA (P : Params) (k : Nat) : Obj := hxNth (Mine.mk0.heap_1 P) k
noncomputable def hxB (P : Params) : List Obj := [
  ⟨(Value.type "dict"), none, (Data.dict #[(hxEn P "__name__" 1 (hxS "builtins" 160)), (hxEn P "__doc__" 2 (Value.builtin "builtins.__doc__:str#op\x61que")), (hxEn P "__package__" 3 (Value.builtin "builtins.__package__:str#op\x61que")), (hxEn P "__loader__" 4 (Value.builtin "builtins.__loader__:shared#op\x61que")), (hxEn P "__spec__" 5 (Value.builtin "builtins.__spec__#op\x61que")), (hxEn P "__build_class__" 6 (Value.builtin "__build_class__")), (hxEn P "__im\x70ort__" 7 (Value.builtin "__im\x70ort__")), (hxEn P "abs" 8 (Value.builtin "abs")), (hxEn P "all" 9 (Value.builtin "all")), (hxEn P "any" 10 (Value.builtin "any")), (hxEn P "ascii" 11 (Value.builtin "ascii")), (hxEn P "bin" 12 (Value.builtin "bin")), (hxEn P "breakpoint" 13 (Value.builtin "breakpoint")), (hxEn P "callable" 14 (Value.builtin "callable")), (hxEn P "chr" 15 (Value.builtin "chr")), (hxEn P "compile" 16 (Value.builtin "compile")), (hxEn P "delattr" 17 (Value.builtin "delattr")), (hxEn P "dir" 18 (Value.builtin "dir")), (hxEn P "divmod" 19 (Value.builtin "divmod")), (hxEn P "ev\x61l" 20 (Value.builtin "ev\x61l")), (hxEn P "exec" 21 (Value.builtin "exec")), (hxEn P "format" 22 (Value.builtin "format")), (hxEn P "getattr" 23 (Value.builtin "getattr")), (hxEn P "globals" 24 (Value.builtin "globals")), (hxEn P "hasattr" 25 (Value.builtin "hasattr")), (hxEn P "hash" 26 (Value.builtin "hash")), (hxEn P "hex" 27 (Value.builtin "hex")), (hxEn P "id" 28 (Value.builtin "id")), (hxEn P "input" 29 (Value.builtin "input")), (hxEn P "isinst\x61nce" 30 (Value.builtin "isinst\x61nce")), (hxEn P "issubclass" 31 (Value.builtin "issubclass")), (hxEn P "iter" 32 (Value.builtin "iter")), (hxEn P "aiter" 33 (Value.builtin "aiter")), (hxEn P "len" 34 (Value.builtin "len")), (hxEn P "locals" 35 (Value.builtin "locals")), (hxEn P "max" 36 (Value.builtin "max")), (hxEn P "min" 37 (Value.builtin "min")), (hxEn P "next" 38 (Value.builtin "next")), (hxEn P "anext" 39 (Value.builtin "anext")), (hxEn P "oct" 40 (Value.builtin "oct")), (hxEn P "ord" 41 (Value.builtin "ord")), (hxEn P "pow" 42 (Value.builtin "pow")), (hxEn P "print" 43 (Value.builtin "print")), (hxEn P "repr" 44 (Value.builtin "repr")), (hxEn P "round" 45 (Value.builtin "round")), (hxEn P "setattr" 46 (Value.builtin "setattr")), (hxEn P "sorted" 47 (Value.builtin "sorted")), (hxEn P "sum" 48 (Value.builtin "sum")), (hxEn P "vars" 49 (Value.builtin "vars")), (hxEn P "None" 50 Value.none), (hxEn P "Ellipsis" 51 Value.ellipsis), (hxEn P "NotImplemented" 52 Value.notImplemented), (hxEn P "False" 53 (Value.bool Bool.false)), (hxEn P "True" 54 (Value.bool Bool.true)), (hxEn P "bool" 55 (Value.type "bool")), (hxEn P "memoryview" 56 (Value.type "memoryview")), (hxEn P "bytearray" 57 (Value.type "bytearray")), (hxEn P "bytes" 58 (Value.type "bytes")), (hxEn P "classmethod" 59 (Value.type "classmethod")), (hxEn P "complex" 60 (Value.type "complex")), (hxEn P "dict" 61 (Value.type "dict")), (hxEn P "enumerate" 62 (Value.type "enumerate")), (hxEn P "filter" 63 (Value.type "filter")), (hxEn P "float" 64 (Value.type "float")), (hxEn P "frozenset" 65 (Value.type "frozenset")), (hxEn P "property" 66 (Value.type "property")), (hxEn P "int" 67 (Value.type "int")), (hxEn P "list" 68 (Value.type "list")), (hxEn P "map" 69 (Value.type "map")), (hxEn P "object" 70 (Value.type "object")), (hxEn P "range" 71 (Value.type "range")), (hxEn P "reversed" 72 (Value.type "reversed")), (hxEn P "set" 73 (Value.type "set")), (hxEn P "slice" 74 (Value.type "slice")), (hxEn P "staticmethod" 75 (Value.type "staticmethod")), (hxEn P "str" 76 (Value.type "str")), (hxEn P "super" 77 (Value.type "super")), (hxEn P "tuple" 78 (Value.type "tuple")), (hxEn P "type" 79 (Value.type "type")), (hxEn P "zip" 80 (Value.type "zip")), (hxEn P "__debug__" 81 (Value.bool Bool.true)), (hxEn P "BaseException" 82 (Value.type "BaseException")), (hxEn P "BaseExceptionGroup" 83 (Value.type "BaseExceptionGroup")), (hxEn P "Exception" 84 (Value.type "Exception")), (hxEn P "GeneratorExit" 85 (Value.type "GeneratorExit")), (hxEn P "KeyboardInterrupt" 86 (Value.type "KeyboardInterrupt")), (hxEn P "SystemExit" 87 (Value.type "SystemExit")), (hxEn P "ArithmeticError" 88 (Value.type "ArithmeticError")), (hxEn P "AssertionError" 89 (Value.type "AssertionError")), (hxEn P "AttributeError" 90 (Value.type "AttributeError")), (hxEn P "BufferError" 91 (Value.type "BufferError")), (hxEn P "EOFError" 92 (Value.type "EOFError")), (hxEn P "ImportError" 93 (Value.type "ImportError")), (hxEn P "LookupError" 94 (Value.type "LookupError")), (hxEn P "MemoryError" 95 (Value.type "MemoryError")), (hxEn P "NameError" 96 (Value.type "NameError")), (hxEn P "OSError" 97 (Value.type "OSError")), (hxEn P "ReferenceError" 98 (Value.type "ReferenceError")), (hxEn P "RuntimeError" 99 (Value.type "RuntimeError")), (hxEn P "StopAsyncIteration" 100 (Value.type "StopAsyncIteration")), (hxEn P "StopIteration" 101 (Value.type "StopIteration")), (hxEn P "SyntaxError" 102 (Value.type "SyntaxError")), (hxEn P "SystemError" 103 (Value.type "SystemError")), (hxEn P "TypeError" 104 (Value.type "TypeError")), (hxEn P "ValueError" 105 (Value.type "ValueError")), (hxEn P "Warning" 106 (Value.type "Warning")), (hxEn P "FloatingPointError" 107 (Value.type "FloatingPointError")), (hxEn P "OverflowError" 108 (Value.type "OverflowError")), (hxEn P "ZeroDivisionError" 109 (Value.type "ZeroDivisionError")), (hxEn P "BytesWarning" 110 (Value.type "BytesWarning")), (hxEn P "DeprecationWarning" 111 (Value.type "DeprecationWarning")), (hxEn P "EncodingWarning" 112 (Value.type "EncodingWarning")), (hxEn P "FutureWarning" 113 (Value.type "FutureWarning")), (hxEn P "ImportWarning" 114 (Value.type "ImportWarning")), (hxEn P "PendingDeprecationWarning" 115 (Value.type "PendingDeprecationWarning")), (hxEn P "ResourceWarning" 116 (Value.type "ResourceWarning")), (hxEn P "RuntimeWarning" 117 (Value.type "RuntimeWarning")), (hxEn P "SyntaxWarning" 118 (Value.type "SyntaxWarning")), (hxEn P "UnicodeWarning" 119 (Value.type "UnicodeWarning")), (hxEn P "UserWarning" 120 (Value.type "UserWarning")), (hxEn P "BlockingIOError" 121 (Value.type "BlockingIOError")), (hxEn P "ChildProcessError" 122 (Value.type "ChildProcessError")), (hxEn P "ConnectionError" 123 (Value.type "ConnectionError")), (hxEn P "FileExistsError" 124 (Value.type "FileExistsError")), (hxEn P "FileNotFoundError" 125 (Value.type "FileNotFoundError")), (hxEn P "InterruptedError" 126 (Value.type "InterruptedError")), (hxEn P "IsADirectoryError" 127 (Value.type "IsADirectoryError")), (hxEn P "NotADirectoryError" 128 (Value.type "NotADirectoryError")), (hxEn P "PermissionError" 129 (Value.type "PermissionError")), (hxEn P "ProcessLookupError" 130 (Value.type "ProcessLookupError")), (hxEn P "TimeoutError" 131 (Value.type "TimeoutError")), (hxEn P "IndentationError" 132 (Value.type "IndentationError")), (hxEn P "_IncompleteInputError" 133 (Value.type "_IncompleteInputError")), (hxEn P "IndexError" 134 (Value.type "IndexError")), (hxEn P "KeyError" 135 (Value.type "KeyError")), (hxEn P "ModuleNotFoundError" 136 (Value.type "ModuleNotFoundError")), (hxEn P "NotImplementedError" 137 (Value.type "NotImplementedError")), (hxEn P "PythonFinalizationError" 138 (Value.type "PythonFinalizationError")), (hxEn P "RecursionError" 139 (Value.type "RecursionError")), (hxEn P "UnboundLocalError" 140 (Value.type "UnboundLocalError")), (hxEn P "UnicodeError" 141 (Value.type "UnicodeError")), (hxEn P "BrokenPipeError" 142 (Value.type "BrokenPipeError")), (hxEn P "ConnectionAbortedError" 143 (Value.type "ConnectionAbortedError")), (hxEn P "ConnectionRefusedError" 144 (Value.type "ConnectionRefusedError")), (hxEn P "ConnectionResetError" 145 (Value.type "ConnectionResetError")), (hxEn P "TabError" 146 (Value.type "TabError")), (hxEn P "UnicodeDecodeError" 147 (Value.type "UnicodeDecodeError")), (hxEn P "UnicodeEncodeError" 148 (Value.type "UnicodeEncodeError")), (hxEn P "UnicodeTranslateError" 149 (Value.type "UnicodeTranslateError")), (hxEn P "ExceptionGroup" 150 (Value.type "ExceptionGroup")), (hxEn P "EnvironmentError" 151 (Value.type "OSError")), (hxEn P "IOError" 152 (Value.type "OSError")), (hxEn P "open" 153 (Value.builtin "open")), (hxEn P "quit" 154 (Value.builtin "builtins.quit#op\x61que")), (hxEn P "exit" 155 (Value.builtin "builtins.exit#op\x61que")), (hxEn P "copyright" 156 (Value.builtin "builtins.copyright#op\x61que")), (hxEn P "credits" 157 (Value.builtin "builtins.credits#op\x61que")), (hxEn P "license" 158 (Value.builtin "builtins.license#op\x61que")), (hxEn P "help" 159 (Value.builtin "builtins.help#op\x61que"))] 159), #[]⟩,
  ⟨(Value.type "dict"), none, (Data.dict #[(hxEn P "builtins" 162 (hxR 4)), (hxEn P "__main__" 163 (hxR 5)), (hxEn P "_sre" 244 (hxR 12))] 3), #[]⟩,
  hxA P 0,
  hxA P 1,
  ⟨(Value.type "module"), (some 0), Data.plain, #[]⟩,
  ⟨(Value.type "module"), (some 3), Data.plain, #[]⟩,
  ⟨(Value.type "dict"), none, (Data.dict #[] 0), #[]⟩,
  ⟨(Value.type "tuple"), none, (Data.seq #[] 0), #[]⟩,
  ⟨Value.none, none, (Data.fields #[]), #[]⟩,
  ⟨(Value.type "code"), none, (Data.fields #[(hxS "<module>" 176), (hxS "<module>" 177), (hxS "/claim/cut.py" 178), (hxN 1), (hxN 0), (hxN 0), (hxN 0), (hxN 0), (hxR 7), (Value.bool Bool.false), (hxN 175), (hxR 8), Value.none, Value.none, Value.none, Value.none, (hxN 179), (hxN 1), (hxS "/claim/cut.py" 180)]), #[]⟩,
  ⟨(Value.type "frame"), none, Data.plain, #[(some (hxR 9)), (some (hxR 3)), (some (hxR 3)), none, (some (hxS "__main__" 164)), none, (some (hxR 0))]⟩,
  ⟨(Value.type "dict"), none, (Data.dict #[(hxEn P "__name__" 247 (hxS "_sre" 246)), (hxEn P "__doc__" 248 Value.none), (hxEn P "__package__" 250 (hxS "" 249)), (hxEn P "__loader__" 251 (Value.builtin "off-the-table:_sre.__loader__:shared#op\x61que")), (hxEn P "__spec__" 252 (Value.builtin "off-the-table:_sre.__spec__:shared#op\x61que")), (hxEn P "compile" 253 (Value.builtin "_sre.compile")), (hxEn P "template" 254 (Value.builtin "off-the-table:_sre.template:shared#op\x61que")), (hxEn P "getcodesize" 255 (Value.builtin "off-the-table:_sre.getcodesize:shared#op\x61que")), (hxEn P "ascii_iscased" 256 (Value.builtin "off-the-table:_sre.ascii_iscased:shared#op\x61que")), (hxEn P "unicode_iscased" 257 (Value.builtin "off-the-table:_sre.unicode_iscased:shared#op\x61que")), (hxEn P "ascii_tolower" 258 (Value.builtin "off-the-table:_sre.ascii_tolower:shared#op\x61que")), (hxEn P "unicode_tolower" 259 (Value.builtin "off-the-table:_sre.unicode_tolower:shared#op\x61que")), (hxEn P "MAGIC" 261 (Value.int 20230612 260)), (hxEn P "CODESIZE" 263 (Value.int 4 262)), (hxEn P "MAXREPEAT" 265 (Value.int 4294967295 264)), (hxEn P "MAXGROUPS" 267 (Value.int 1073741823 266)), (hxEn P "copyright" 269 (hxS " SRE 2.2.2 Copyright (c) 1997-2002 by Secret Labs AB " 268))] 17), #[]⟩,
  ⟨(Value.type "module"), (some 11), Data.plain, #[]⟩,
  ⟨(Value.type "dict"), none, (Data.dict #[(hxEn P "__module__" 189 (hxS "_frozen_im\x70ortlib" 186)), (hxEn P "__firstlineno__" 190 (Value.int 971 187)), (hxEn P "__doc__" 191 (Value.builtin "_frozen_im\x70ortlib.BuiltinImporter.__doc__:str#op\x61que")), (hxEn P "_ORIGIN" 192 (hxS "built-in" 188)), (hxEn P "find_spec" 193 (Value.builtin "_frozen_im\x70ortlib.BuiltinImporter.find_spec#op\x61que")), (hxEn P "create_module" 194 (Value.builtin "_frozen_im\x70ortlib.BuiltinImporter.create_module#op\x61que")), (hxEn P "exec_module" 195 (Value.builtin "_frozen_im\x70ortlib.BuiltinImporter.exec_module#op\x61que")), (hxEn P "get_code" 196 (Value.builtin "_frozen_im\x70ortlib.BuiltinImporter.get_code#op\x61que")), (hxEn P "get_source" 197 (Value.builtin "_frozen_im\x70ortlib.BuiltinImporter.get_source#op\x61que")), (hxEn P "is_package" 198 (Value.builtin "_frozen_im\x70ortlib.BuiltinImporter.is_package#op\x61que")), (hxEn P "load_module" 199 (Value.builtin "_frozen_im\x70ortlib.BuiltinImporter.load_module#op\x61que")), (hxEn P "__static_\x61ttributes__" 200 (hxR 15)), (hxEn P "__dict__" 202 (hxR 16)), (hxEn P "__weakref__" 204 (hxR 17))] 14), #[]⟩,
  ⟨(Value.type "type"), none, (Data.cls (ClassData.mk (Str.ofString "BuiltinImporter") [(Value.type "object")] [(hxR 14), (Value.type "object")] 13 (Str.ofString "BuiltinImporter") Bool.true [] [] Bool.false none Bool.false)), #[]⟩,
  ⟨(Value.type "tuple"), none, (Data.seq #[] 0), #[]⟩,
  ⟨(Value.type "getset_descriptor"), none, (Data.fields #[(hxS "__dict__" 201), (hxR 14), (Value.builtin "function.__dict__"), (Value.builtin "function.__dict__#set")]), #[]⟩,
  ⟨(Value.type "getset_descriptor"), none, (Data.fields #[(hxS "__weakref__" 203), (hxR 14), (Value.builtin "ExceptionGroup.__weakref__"), Value.none]), #[]⟩,
  ⟨Value.none, none, (Data.seq #[(hxN 13), (Value.str (Str.mk #[6, 189, 10, 95, 95, 109, 111, 100, 117, 108, 101, 95, 95, 6, 186, 17, 95, 102, 114, 111, 122, 101, 110, 95, 105, 109, 112, 111, 114, 116, 108, 105, 98, 6, 190, 15, 95, 95, 102, 105, 114, 115, 116, 108, 105, 110, 101, 110, 111, 95, 95, 4, 187, 0, 971, 6, 191, 7, 95, 95, 100, 111, 99, 95, 95, 9, 52, 95, 102, 114, 111, 122, 101, 110, 95, 105, 109, 112, 111, 114, 116, 108, 105, 98, 46, 66, 117, 105, 108, 116, 105, 110, 73, 109, 112, 111, 114, 116, 101, 114, 46, 95, 95, 100, 111, 99, 95, 95, 58, 115, 116, 114, 35, 111, 112, 97, 113, 117, 101, 6, 192, 7, 95, 79, 82, 73, 71, 73, 78, 6, 188, 8, 98, 117, 105, 108, 116, 45, 105, 110, 6, 193, 9, 102, 105, 110, 100, 95, 115, 112, 101, 99, 9, 50, 95, 102, 114, 111, 122, 101, 110, 95, 105, 109, 112, 111, 114, 116, 108, 105, 98, 46, 66, 117, 105, 108, 116, 105, 110, 73, 109, 112, 111, 114, 116, 101, 114, 46, 102, 105, 110, 100, 95, 115, 112, 101, 99, 35, 111, 112, 97, 113, 117, 101, 6, 194, 13, 99, 114, 101, 97, 116, 101, 95, 109, 111, 100, 117, 108, 101, 9, 54, 95, 102, 114, 111, 122, 101, 110, 95, 105, 109, 112, 111, 114, 116, 108, 105, 98, 46, 66, 117, 105, 108, 116, 105, 110, 73, 109, 112, 111, 114, 116, 101, 114, 46, 99, 114, 101, 97, 116, 101, 95, 109, 111, 100, 117, 108, 101, 35, 111, 112, 97, 113, 117, 101, 6, 195, 11, 101, 120, 101, 99, 95, 109, 111, 100, 117, 108, 101, 9, 52, 95, 102, 114, 111, 122, 101, 110, 95, 105, 109, 112, 111, 114, 116, 108, 105, 98, 46, 66, 117, 105, 108, 116, 105, 110, 73, 109, 112, 111, 114, 116, 101, 114, 46, 101, 120, 101, 99, 95, 109, 111, 100, 117, 108, 101, 35, 111, 112, 97, 113, 117, 101, 6, 196, 8, 103, 101, 116, 95, 99, 111, 100, 101, 9, 49, 95, 102, 114, 111, 122, 101, 110, 95, 105, 109, 112, 111, 114, 116, 108, 105, 98, 46, 66, 117, 105, 108, 116, 105, 110, 73, 109, 112, 111, 114, 116, 101, 114, 46, 103, 101, 116, 95, 99, 111, 100, 101, 35, 111, 112, 97, 113, 117, 101, 6, 197, 10, 103, 101, 116, 95, 115, 111, 117, 114, 99, 101, 9, 51, 95, 102, 114, 111, 122, 101, 110, 95, 105, 109, 112, 111, 114, 116, 108, 105, 98, 46, 66, 117, 105, 108, 116, 105, 110, 73, 109, 112, 111, 114, 116, 101, 114, 46, 103, 101, 116, 95, 115, 111, 117, 114, 99, 101, 35, 111, 112, 97, 113, 117, 101, 6, 198, 10, 105, 115, 95, 112, 97, 99, 107, 97, 103, 101, 9, 51, 95, 102, 114, 111, 122, 101, 110, 95, 105, 109, 112, 111, 114, 116, 108, 105, 98, 46, 66, 117, 105, 108, 116, 105, 110, 73, 109, 112, 111, 114, 116, 101, 114, 46, 105, 115, 95, 112, 97, 99, 107, 97, 103, 101, 35, 111, 112, 97, 113, 117, 101, 6, 199, 11, 108, 111, 97, 100, 95, 109, 111, 100, 117, 108, 101, 9, 52, 95, 102, 114, 111, 122, 101, 110, 95, 105, 109, 112, 111, 114, 116, 108, 105, 98, 46, 66, 117, 105, 108, 116, 105, 110, 73, 109, 112, 111, 114, 116, 101, 114, 46, 108, 111, 97, 100, 95, 109, 111, 100, 117, 108, 101, 35, 111, 112, 97, 113, 117, 101, 6, 200, 21, 95, 95, 115, 116, 97, 116, 105, 99, 95, 97, 116, 116, 114, 105, 98, 117, 116, 101, 115, 95, 95, 4, 0, 0, 15, 6, 202, 8, 95, 95, 100, 105, 99, 116, 95, 95, 4, 0, 0, 16, 6, 204, 11, 95, 95, 119, 101, 97, 107, 114, 101, 102, 95, 95, 4, 0, 0, 17]) 0), (Value.bool Bool.true), (Value.bool Bool.true), (hxS "" 205), (hxN 21), (Value.str (Str.mk #[6, 227, 10, 95, 95, 109, 111, 100, 117, 108, 101, 95, 95, 6, 217, 17, 95, 102, 114, 111, 122, 101, 110, 95, 105, 109, 112, 111, 114, 116, 108, 105, 98, 6, 228, 15, 95, 95, 102, 105, 114, 115, 116, 108, 105, 110, 101, 110, 111, 95, 95, 4, 218, 0, 562, 6, 229, 7, 95, 95, 100, 111, 99, 95, 95, 9, 47, 95, 102, 114, 111, 122, 101, 110, 95, 105, 109, 112, 111, 114, 116, 108, 105, 98, 46, 77, 111, 100, 117, 108, 101, 83, 112, 101, 99, 46, 95, 95, 100, 111, 99, 95, 95, 58, 115, 116, 114, 35, 111, 112, 97, 113, 117, 101, 6, 230, 8, 95, 95, 105, 110, 105, 116, 95, 95, 9, 44, 95, 102, 114, 111, 122, 101, 110, 95, 105, 109, 112, 111, 114, 116, 108, 105, 98, 46, 77, 111, 100, 117, 108, 101, 83, 112, 101, 99, 46, 95, 95, 105, 110, 105, 116, 95, 95, 35, 111, 112, 97, 113, 117, 101, 6, 231, 8, 95, 95, 114, 101, 112, 114, 95, 95, 9, 44, 95, 102, 114, 111, 122, 101, 110, 95, 105, 109, 112, 111, 114, 116, 108, 105, 98, 46, 77, 111, 100, 117, 108, 101, 83, 112, 101, 99, 46, 95, 95, 114, 101, 112, 114, 95, 95, 35, 111, 112, 97, 113, 117, 101, 6, 232, 6, 95, 95, 101, 113, 95, 95, 9, 42, 95, 102, 114, 111, 122, 101, 110, 95, 105, 109, 112, 111, 114, 116, 108, 105, 98, 46, 77, 111, 100, 117, 108, 101, 83, 112, 101, 99, 46, 95, 95, 101, 113, 95, 95, 35, 111, 112, 97, 113, 117, 101, 6, 233, 6, 99, 97, 99, 104, 101, 100, 9, 42, 95, 102, 114, 111, 122, 101, 110, 95, 105, 109, 112, 111, 114, 116, 108, 105, 98, 46, 77, 111, 100, 117, 108, 101, 83, 112, 101, 99, 46, 99, 97, 99, 104, 101, 100, 35, 111, 112, 97, 113, 117, 101, 6, 234, 6, 112, 97, 114, 101, 110, 116, 9, 42, 95, 102, 114, 111, 122, 101, 110, 95, 105, 109, 112, 111, 114, 116, 108, 105, 98, 46, 77, 111, 100, 117, 108, 101, 83, 112, 101, 99, 46, 112, 97, 114, 101, 110, 116, 35, 111, 112, 97, 113, 117, 101, 6, 235, 12, 104, 97, 115, 95, 108, 111, 99, 97, 116, 105, 111, 110, 9, 48, 95, 102, 114, 111, 122, 101, 110, 95, 105, 109, 112, 111, 114, 116, 108, 105, 98, 46, 77, 111, 100, 117, 108, 101, 83, 112, 101, 99, 46, 104, 97, 115, 95, 108, 111, 99, 97, 116, 105, 111, 110, 35, 111, 112, 97, 113, 117, 101, 6, 236, 21, 95, 95, 115, 116, 97, 116, 105, 99, 95, 97, 116, 116, 114, 105, 98, 117, 116, 101, 115, 95, 95, 4, 0, 0, 23, 6, 238, 8, 95, 95, 100, 105, 99, 116, 95, 95, 4, 0, 0, 24, 6, 240, 11, 95, 95, 119, 101, 97, 107, 114, 101, 102, 95, 95, 4, 0, 0, 25, 6, 241, 8, 95, 95, 104, 97, 115, 104, 95, 95, 0]) 0), (Value.bool Bool.true), (Value.bool Bool.true), (hxS "" 242)] 1), #[]⟩,
  ⟨(Value.type "list"), none, (Data.seq #[] 0), #[]⟩,
  ⟨(Value.type "dict"), none, (Data.dict #[(hxEn P "name" 208 (hxS "_sre" 207)), (hxEn P "loader" 209 (hxR 14)), (hxEn P "origin" 210 (hxS "built-in" 184)), (hxEn P "loader_state" 211 Value.none), (hxEn P "submodule_search_locations" 212 Value.none), (hxEn P "_uniniti\x61lized_submodules" 213 (hxR 19)), (hxEn P "_set_fileattr" 214 (Value.bool Bool.false)), (hxEn P "_cached" 215 Value.none), (hxEn P "_initializing" 243 (Value.bool Bool.false))] 9), #[]⟩,
  ⟨(Value.type "dict"), none, (Data.dict #[(hxEn P "__module__" 227 (hxS "_frozen_im\x70ortlib" 217)), (hxEn P "__firstlineno__" 228 (Value.int 562 218)), (hxEn P "__doc__" 229 (Value.builtin "_frozen_im\x70ortlib.ModuleSpec.__doc__:str#op\x61que")), (hxEn P "__init__" 230 (Value.builtin "_frozen_im\x70ortlib.ModuleSpec.__init__#op\x61que")), (hxEn P "__repr__" 231 (Value.builtin "_frozen_im\x70ortlib.ModuleSpec.__repr__#op\x61que")), (hxEn P "__eq__" 232 (Value.builtin "_frozen_im\x70ortlib.ModuleSpec.__eq__#op\x61que")), (hxEn P "cached" 233 (Value.builtin "_frozen_im\x70ortlib.ModuleSpec.cached#op\x61que")), (hxEn P "parent" 234 (Value.builtin "_frozen_im\x70ortlib.ModuleSpec.parent#op\x61que")), (hxEn P "has_location" 235 (Value.builtin "_frozen_im\x70ortlib.ModuleSpec.has_location#op\x61que")), (hxEn P "__static_\x61ttributes__" 236 (hxR 23)), (hxEn P "__dict__" 238 (hxR 24)), (hxEn P "__weakref__" 240 (hxR 25)), (hxEn P "__hash__" 241 Value.none)] 13), #[]⟩,
  ⟨(Value.type "type"), none, (Data.cls (ClassData.mk (Str.ofString "ModuleSpec") [(Value.type "object")] [(hxR 22), (Value.type "object")] 21 (Str.ofString "ModuleSpec") Bool.true [] [] Bool.false none Bool.false)), #[]⟩,
  ⟨(Value.type "tuple"), none, (Data.seq #[(hxS "_cached" 219), (hxS "_set_fileattr" 220), (hxS "_uniniti\x61lized_submodules" 221), (hxS "loader" 222), (hxS "loader_state" 223), (hxS "name" 224), (hxS "origin" 225), (hxS "submodule_search_locations" 226)] 0), #[]⟩,
  ⟨(Value.type "getset_descriptor"), none, (Data.fields #[(hxS "__dict__" 237), (hxR 22), (Value.builtin "function.__dict__"), (Value.builtin "function.__dict__#set")]), #[]⟩,
  ⟨(Value.type "getset_descriptor"), none, (Data.fields #[(hxS "__weakref__" 239), (hxR 22), (Value.builtin "ExceptionGroup.__weakref__"), Value.none]), #[]⟩,
  ⟨(hxR 22), (some 20), Data.plain, #[]⟩,
  ⟨Value.none, none, (Data.seq #[(hxN 11), (Value.str (Str.mk #[6, 247, 8, 95, 95, 110, 97, 109, 101, 95, 95, 6, 246, 4, 95, 115, 114, 101, 6, 248, 7, 95, 95, 100, 111, 99, 95, 95, 0, 6, 250, 11, 95, 95, 112, 97, 99, 107, 97, 103, 101, 95, 95, 6, 249, 0, 6, 251, 10, 95, 95, 108, 111, 97, 100, 101, 114, 95, 95, 4, 0, 0, 14, 6, 252, 8, 95, 95, 115, 112, 101, 99, 95, 95, 4, 0, 0, 26, 6, 253, 7, 99, 111, 109, 112, 105, 108, 101, 9, 12, 95, 115, 114, 101, 46, 99, 111, 109, 112, 105, 108, 101, 6, 254, 8, 116, 101, 109, 112, 108, 97, 116, 101, 9, 13, 95, 115, 114, 101, 46, 116, 101, 109, 112, 108, 97, 116, 101, 6, 255, 11, 103, 101, 116, 99, 111, 100, 101, 115, 105, 122, 101, 9, 16, 95, 115, 114, 101, 46, 103, 101, 116, 99, 111, 100, 101, 115, 105, 122, 101, 6, 256, 13, 97, 115, 99, 105, 105, 95, 105, 115, 99, 97, 115, 101, 100, 9, 18, 95, 115, 114, 101, 46, 97, 115, 99, 105, 105, 95, 105, 115, 99, 97, 115, 101, 100, 6, 257, 15, 117, 110, 105, 99, 111, 100, 101, 95, 105, 115, 99, 97, 115, 101, 100, 9, 20, 95, 115, 114, 101, 46, 117, 110, 105, 99, 111, 100, 101, 95, 105, 115, 99, 97, 115, 101, 100, 6, 258, 13, 97, 115, 99, 105, 105, 95, 116, 111, 108, 111, 119, 101, 114, 9, 18, 95, 115, 114, 101, 46, 97, 115, 99, 105, 105, 95, 116, 111, 108, 111, 119, 101, 114, 6, 259, 15, 117, 110, 105, 99, 111, 100, 101, 95, 116, 111, 108, 111, 119, 101, 114, 9, 20, 95, 115, 114, 101, 46, 117, 110, 105, 99, 111, 100, 101, 95, 116, 111, 108, 111, 119, 101, 114, 6, 261, 5, 77, 65, 71, 73, 67, 4, 260, 0, 20230612, 6, 263, 8, 67, 79, 68, 69, 83, 73, 90, 69, 4, 262, 0, 4, 6, 265, 9, 77, 65, 88, 82, 69, 80, 69, 65, 84, 4, 264, 0, 4294967295, 6, 267, 9, 77, 65, 88, 71, 82, 79, 85, 80, 83, 4, 266, 0, 1073741823, 6, 269, 9, 99, 111, 112, 121, 114, 105, 103, 104, 116, 6, 268, 53, 32, 83, 82, 69, 32, 50, 46, 50, 46, 50, 32, 67, 111, 112, 121, 114, 105, 103, 104, 116, 32, 40, 99, 41, 32, 49, 57, 57, 55, 45, 50, 48, 48, 50, 32, 98, 121, 32, 83, 101, 99, 114, 101, 116, 32, 76, 97, 98, 115, 32, 65, 66, 32]) 0), (Value.bool Bool.true), (Value.bool Bool.false), (hxS "_sre" 271)] 0), #[]⟩,
  ⟨(Value.type "tuple"), none, (Data.seq #[] 0), #[]⟩,
  ⟨Value.none, none, (Data.fields #[(hxN 4), (hxN 0), (hxR 42), (hxN 6), (hxN 0), (hxR 49), (hxN 9), (hxN 0), (hxR 56), (hxN 14), (hxN 0), (hxR 68), (hxN 20), (hxN 0), (hxR 80), (hxN 27), (hxN 0), (hxR 87), (hxN 89), (hxN 0), (hxR 94), (hxN 118), (hxN 0), (hxR 106), (hxN 121), (hxN 0), (hxR 114), (hxN 128), (hxN 0), (hxR 119), (hxN 133), (hxN 0), (hxR 126), (hxN 142), (hxN 0), (hxR 133), (hxN 158), (hxN 0), (hxR 140), (hxN 166), (hxN 0), (hxR 145), (hxN 179), (hxN 0), (hxR 150), (hxN 193), (hxN 0), (hxR 155), (hxN 198), (hxN 0), (hxR 162), (hxN 233), (hxN 0), (hxR 167), (hxN 240), (hxN 0), (hxR 172)]), #[]⟩,
  ⟨(Value.type "code"), none, (Data.fields #[(hxS "<module>" 277), (hxS "<module>" 278), (hxS "/claim/cut.py" 279), (hxN 1), (hxN 0), (hxN 0), (hxN 0), (hxN 0), (hxR 28), (Value.bool Bool.false), (hxN 276), (hxR 29), Value.none, Value.none, Value.none, Value.none, (hxN 280), (hxN 1), (hxS "/claim/cut.py" 281)]), #[]⟩,
  ⟨(Value.type "frame"), none, Data.plain, #[(some (hxR 30)), (some (hxR 3)), (some (hxR 3)), none, (some (hxS "__main__" 164)), none, (some (hxR 0))]⟩,
  ⟨(Value.type "list"), none, (Data.seq #[(Value.int 14 287), (Value.int 8 288), (Value.int 1 289), (Value.int 3 290), (Value.int 3 291), (Value.int 1 292), (Value.int 1 293), (Value.int 61 294), (Value.int 0 295), (Value.int 16 296), (Value.int 61 297), (Value.int 24 298), (Value.int 16 299), (Value.int 2 300), (Value.int 2 301), (Value.int 13 302), (Value.int 11 303), (Value.int 9 304), (Value.int 0 305), (Value.int 67043328 306), (Value.int 126 307), (Value.int 126 308), (Value.int 0 309), (Value.int 0 310), (Value.int 0 311), (Value.int 0 312), (Value.int 0 313), (Value.int 1 314), (Value.int 1 315)] 0), #[]⟩,
  ⟨(Value.type "dict"), none, (Data.dict #[] 0), #[]⟩,
  ⟨(Value.type "tuple"), none, (Data.seq #[Value.none] 0), #[]⟩,
  hxA P 2,
  hxA P 3,
  hxA P 4,
  ⟨Value.none, none, (Data.fields #[]), #[]⟩,
  hxA P 5,
  hxA P 6,
  ⟨Value.none, none, Data.func { hxF (hxA P 8) with globals := 0, pyModule := Value.none, code := Value.none }, #[]⟩,
  hxA P 7,
  hxA P 8,
  hxA P 9,
  ⟨Value.none, none, (Data.fields #[]), #[]⟩,
  hxA P 10,
  hxA P 11,
  ⟨Value.none, none, Data.func { hxF (hxA P 13) with globals := 0, pyModule := Value.none, code := Value.none }, #[]⟩,
  hxA P 12,
  hxA P 13,
  hxA P 14,
  ⟨Value.none, none, (Data.fields #[]), #[]⟩,
  hxA P 15,
  hxA P 16,
  ⟨Value.none, none, Data.func { hxF (hxA P 18) with globals := 0, pyModule := Value.none, code := Value.none }, #[]⟩,
  hxA P 17,
  hxA P 18,
  ⟨(Value.type "list"), none, (Data.seq #[(Value.int 14 346), (Value.int 14 347), (Value.int 4 348), (Value.int 1 349), (Value.int 1 350), (Value.int 9 351), (Value.int 0 352), (Value.int 64 353), (Value.int 0 354), (Value.int 1342177280 355), (Value.int 0 356), (Value.int 0 357), (Value.int 0 358), (Value.int 0 359), (Value.int 0 360), (Value.int 17 361), (Value.int 0 362), (Value.int 13 363), (Value.int 11 364), (Value.int 9 365), (Value.int 0 366), (Value.int 64 367), (Value.int 0 368), (Value.int 1342177280 369), (Value.int 0 370), (Value.int 0 371), (Value.int 0 372), (Value.int 0 373), (Value.int 0 374), (Value.int 17 375), (Value.int 1 376), (Value.int 1 377)] 0), #[]⟩,
  ⟨(Value.type "dict"), none, (Data.dict #[] 0), #[]⟩,
  ⟨(Value.type "tuple"), none, (Data.seq #[Value.none, Value.none] 0), #[]⟩,
  hxA P 19,
  hxA P 20,
  hxA P 21,
  ⟨Value.none, none, (Data.fields #[]), #[]⟩,
  hxA P 22,
  hxA P 23,
  ⟨Value.none, none, Data.func { hxF (hxA P 25) with globals := 0, pyModule := Value.none, code := Value.none }, #[]⟩,
  hxA P 24,
  hxA P 25,
  ⟨(Value.type "bytes_iterator"), none, (Data.fields #[Value.none, (hxN 24)]), #[]⟩,
  hxA P 26,
  ⟨(Value.type "dict"), none, (Data.dict #[] 2), #[]⟩,
  ⟨(Value.type "tuple"), none, (Data.seq #[] 0), #[]⟩,
  ⟨(Value.type "StopIteration"), none, (Data.fields #[(hxR 73), Value.none, Value.none, Value.none, (Value.bool Bool.false), Value.none]), #[]⟩,
  hxA P 27,
  ⟨Value.none, none, (Data.fields #[]), #[]⟩,
  hxA P 28,
  hxA P 29,
  ⟨Value.none, none, Data.func { hxF (hxA P 31) with globals := 0, pyModule := Value.none, code := Value.none }, #[]⟩,
  hxA P 30,
  hxA P 31,
  hxA P 32,
  ⟨Value.none, none, (Data.fields #[]), #[]⟩,
  hxA P 33,
  hxA P 34,
  ⟨Value.none, none, Data.func { hxF (hxA P 36) with globals := 0, pyModule := Value.none, code := Value.none }, #[]⟩,
  hxA P 35,
  hxA P 36,
  hxA P 37,
  ⟨Value.none, none, (Data.fields #[]), #[]⟩,
  hxA P 38,
  hxA P 39,
  ⟨Value.none, none, Data.func { hxF (hxA P 41) with globals := 0, pyModule := Value.none, code := Value.none }, #[]⟩,
  hxA P 40,
  hxA P 41,
  ⟨(Value.type "list"), none, (Data.seq #[(Value.int 14 584), (Value.int 17 585), (Value.int 4 586), (Value.int 1 587), (Value.int 1 588), (Value.int 21 589), (Value.int 9 590), (Value.int 0 591), (Value.int 604043296 592), (Value.int 1 593), (Value.int 0 594), (Value.int 0 595), (Value.int 0 596), (Value.int 0 597), (Value.int 0 598), (Value.int 8 599), (Value.int 4 600), (Value.int 0 601), (Value.int 13 602), (Value.int 14 603), (Value.int 21 604), (Value.int 9 605), (Value.int 0 606), (Value.int 604043296 607), (Value.int 1 608), (Value.int 0 609), (Value.int 0 610), (Value.int 0 611), (Value.int 0 612), (Value.int 0 613), (Value.int 8 614), (Value.int 4 615), (Value.int 0 616), (Value.int 1 617)] 0), #[]⟩,
  ⟨(Value.type "dict"), none, (Data.dict #[] 0), #[]⟩,
  ⟨(Value.type "tuple"), none, (Data.seq #[Value.none] 0), #[]⟩,
  hxA P 42,
  hxA P 43,
  hxA P 44,
  ⟨Value.none, none, (Data.fields #[]), #[]⟩,
  hxA P 45,
  hxA P 46,
  ⟨Value.none, none, Data.func { hxF (hxA P 48) with globals := 0, pyModule := Value.none, code := Value.none }, #[]⟩,
  hxA P 47,
  hxA P 48,
  hxA P 49,
  hxA P 50,
  ⟨Value.none, none, (Data.fields #[]), #[]⟩,
  hxA P 51,
  hxA P 52,
  ⟨Value.none, none, Data.func { hxF (hxA P 54) with globals := 0, pyModule := Value.none, code := Value.none }, #[]⟩,
  hxA P 53,
  hxA P 54,
  hxA P 55,
  ⟨Value.none, none, (Data.fields #[]), #[]⟩,
  ⟨Value.none, none, Data.func { hxF (hxA P 57) with globals := 0, pyModule := Value.none, code := Value.none }, #[]⟩,
  hxA P 56,
  hxA P 57,
  hxA P 58,
  ⟨Value.none, none, (Data.fields #[]), #[]⟩,
  hxA P 59,
  hxA P 60,
  ⟨Value.none, none, Data.func { hxF (hxA P 62) with globals := 0, pyModule := Value.none, code := Value.none }, #[]⟩,
  hxA P 61,
  hxA P 62,
  hxA P 63,
  ⟨Value.none, none, (Data.fields #[]), #[]⟩,
  hxA P 64,
  hxA P 65,
  ⟨Value.none, none, Data.func { hxF (hxA P 67) with globals := 0, pyModule := Value.none, code := Value.none }, #[]⟩,
  hxA P 66,
  hxA P 67,
  hxA P 68,
  ⟨Value.none, none, (Data.fields #[]), #[]⟩,
  hxA P 69,
  hxA P 70,
  ⟨Value.none, none, Data.func { hxF (hxA P 72) with globals := 0, pyModule := Value.none, code := Value.none }, #[]⟩,
  hxA P 71,
  hxA P 72,
  hxA P 73,
  ⟨Value.none, none, (Data.fields #[]), #[]⟩,
  ⟨Value.none, none, Data.func { hxF (hxA P 75) with globals := 0, pyModule := Value.none, code := Value.none }, #[]⟩,
  hxA P 74,
  hxA P 75,
  hxA P 76,
  ⟨Value.none, none, (Data.fields #[]), #[]⟩,
  ⟨Value.none, none, Data.func { hxF (hxA P 78) with globals := 0, pyModule := Value.none, code := Value.none }, #[]⟩,
  hxA P 77,
  hxA P 78,
  hxA P 79,
  ⟨Value.none, none, (Data.fields #[]), #[]⟩,
  ⟨Value.none, none, Data.func { hxF (hxA P 81) with globals := 0, pyModule := Value.none, code := Value.none }, #[]⟩,
  hxA P 80,
  hxA P 81,
  hxA P 82,
  ⟨Value.none, none, (Data.fields #[]), #[]⟩,
  hxA P 83,
  hxA P 84,
  ⟨Value.none, none, Data.func { hxF (hxA P 86) with globals := 0, pyModule := Value.none, code := Value.none }, #[]⟩,
  hxA P 85,
  hxA P 86,
  hxA P 87,
  ⟨Value.none, none, (Data.fields #[]), #[]⟩,
  ⟨Value.none, none, Data.func { hxF (hxA P 89) with globals := 0, pyModule := Value.none, code := Value.none }, #[]⟩,
  hxA P 88,
  hxA P 89,
  hxA P 90,
  ⟨Value.none, none, (Data.fields #[]), #[]⟩,
  ⟨Value.none, none, Data.func { hxF (hxA P 92) with globals := 0, pyModule := Value.none, code := Value.none }, #[]⟩,
  hxA P 91,
  hxA P 92]
noncomputable def hxM (P : Params) : Obj := ⟨(Value.type "dict"), none, (Data.dict #[(hxEn P "__name__" 165 (hxS "__main__" 164)), (hxEn P "__doc__" 166 Value.none), (hxEn P "__package__" 167 Value.none), (hxEn P "__loader__" 168 (Value.builtin "__main__.__loader__#op\x61que")), (hxEn P "__spec__" 169 Value.none), (hxEn P "__annot\x61tions__" 170 (hxR 6)), (hxEn P "__builtins__" 171 (hxR 4)), (hxEn P "__file__" 173 (hxS "/claim/cut.py" 172)), (hxEn P "__cached__" 174 Value.none), (hxEn P "_sre" 275 (hxR 12))] 10), #[]⟩

noncomputable def hxH (P : Params) : List Obj := (hxB P).take 3 ++ hxM P :: ((hxB P).drop 4).take 24
noncomputable def hxOs : OsState := (start (opening hxP)).1.os
noncomputable def hxS0 (w : World) : Shared := ⟨⟨⟨hxH w.params⟩, {}⟩, #[], {}, 276, hxOs⟩
noncomputable def hxS1 (w : World) : Shared := ⟨⟨⟨hxB w.params⟩, {}⟩, #[], {}, 719, hxOs⟩
theorem hx_open : ∀ w : World, openG quick hxP w 4416 = some (hxS0 w) := fun w => by kernel_rfl
theorem hx_guard : ∀ w : World, ((hxS0 w).heap.isNs mainGlobals && (hxS0 w).gens.size == 0) = true := fun w => by kernel_rfl
noncomputable abbrev HxRun (b1 b2 : Bool) : Prop := ∀ w : World, hxRunS quick hxP ((w.withFollow "special-get-raises" b2).withFollow "comprehension-iter-twice" b1) 4416 (hxS0 w) = some (hxS1 w)
theorem hx_run_ff : HxRun false false := fun w => by kernel_rfl
theorem hx_run_ft : HxRun false true := fun w => by kernel_rfl
theorem hx_run_tf : HxRun true false := fun w => by kernel_rfl
theorem hx_run_tt : HxRun true true := fun w => by kernel_rfl
theorem hx_looks : ∀ w : World, (staticsOk (importedModules hxP.main.body) (hxS0 w).heap (hxS1 w).heap && namesBound hxP (hxS1 w).heap && gensDone (hxS1 w) && laidKept (hxS0 w).heap (hxS1 w).heap) = true := fun w => by kernel_rfl
theorem hx_seen : ∀ w : World, PySem.W.Fast.tw4187177175401517315 vw los (importedModules hxP.main.body) Xk true (hxS1 w) = openGood vw los := fun w => by kernel_rfl
theorem hx_obs : ∀ w : World, Hk.obs (hxS1 w) = Hk.val w := fun w => by kernel_rfl
theorem left0 : LeftO PySem.Challenge.pw_ku0012_01 vw los Xk Hk.obs Hk.val 4416 :=
  left_of "comprehension-iter-twice" "special-get-raises" hx_open hx_guard (fun b1 b2 => by
    cases b1 <;> cases b2
    · exact hx_run_ff
    · exact hx_run_ft
    · exact hx_run_tf
    · exact hx_run_tt) hx_looks hx_seen hx_obs
theorem hd0 {d : DefRec} {kwd : List (Str × Expr)} (hdef : defOf vw (OpenLaw.row PySem.Challenge.rw_ku0012_01).name = some (d, kwd)) (hp : (OpenLaw.row PySem.Challenge.rw_ku0012_01).prog.theDef (OpenLaw.row PySem.Challenge.rw_ku0012_01).name = some (d.params, d.body, d.scope))
    (hk : kwWritten? d.params.kwonlyargs d.params.kw_defaults = some kwd) (k1 : (OpenLaw.row PySem.Challenge.rw_ku0012_01).wellSaid = true) (hw : (OpenLaw.row PySem.Challenge.rw_ku0012_01).toRowW.promised)
    (hc : WalkO vw los (XL vw []) (Hook.says Hk) (OpenLaw.row PySem.Challenge.rw_ku0012_01).toRowW d kwd fun f vs => PySem.call f vs) : (OpenLaw.row PySem.Challenge.rw_ku0012_01).Holds :=
  holds_open (q := Mine.vw) (loose := Mine.los) (Xt := Mine.Xk) (XP := XL Mine.vw []) (Yf := Hook.obs Mine.Hk) (Ya := Hook.val Mine.Hk) (YP := Hook.says Mine.Hk) (N := 4416) Mine.left0 (Hook.of Mine.Hk) (Hook.keeps Mine.Hk) (fun s e => xl_of s (Bool.and_eq_true_iff.mp e).1) XL.keeps hdef hp hk (fun s e => recFacts_of (Bool.and_eq_true_iff.mp e).2) (by rfl) k1 (by decide +kernel) ⟨rfl, rfl, rfl, rfl, rfl, by decide +kernel⟩ hw hc
section
local macro_rules | `(tactic| o_law) => `(tactic| refine holds_law said0 fun _ => ?_)
local macro_rules | `(tactic| o_head $_) => `(tactic| (refine Mine.hd0 (by rfl) (by rfl) (by rfl) (by assumption) ?hw ?hc; all_goals (rename_i z; clear z)))
open_top hd for PySem.Challenge.rw_ku0012_01
end
end Mine
end

open PySem.W in
theorem Mine.off0 : True := by w_top off; exact trivial

section -- R0
set_option maxRecDepth 100000
set_option maxHeartbeats 4000000
set_option linter.unusedSimpArgs false
set_option linter.unusedVariables false
namespace Mine
open PySem PySem.Sre
theorem runFor_done {m : M} (h : m.outcome.isSome = true) : ∀ k, m.runFor k = m
  | 0 => rfl
  | k + 1 => by rw [M.runFor, if_pos h]
theorem runFor_step {m : M} (h : m.outcome.isSome = false) (k : Nat) : m.runFor (k + 1) = m.step.runFor k := by
  rw [M.runFor, if_neg (by rw [h]; decide)]
/-- m ends at e within n steps -/
noncomputable def Ends (n : Nat) (m e : M) : Prop := ∃ k, k ≤ n ∧ m.runFor k = e ∧ e.outcome.isSome = true
theorem Ends.here {m : M} (h : m.outcome.isSome = true) (n : Nat) : Ends n m m := ⟨0, Nat.zero_le _, rfl, h⟩
theorem Ends.next {n : Nat} {m e : M} (h : m.outcome.isSome = false) (x : Ends n m.step e) : Ends (n + 1) m e := by
  obtain ⟨k, hk, hr, he⟩ := x
  exact ⟨k + 1, by lia, by rw [runFor_step h, hr], he⟩
theorem Ends.mono {n n' : Nat} {m e : M} (x : Ends n m e) (h : n ≤ n') : Ends n' m e := by
  obtain ⟨k, hk, hr, he⟩ := x
  exact ⟨k, by lia, hr, he⟩
theorem runFor_over {m e : M} (he : e.outcome.isSome = true) : ∀ k j, m.runFor k = e → m.runFor (k + j) = e
  | 0, j, h => by
    have h' : m = e := h
    subst h'; exact runFor_done he _
  | k + 1, j, h => by
    cases ho : m.outcome.isSome with
    | true =>
      rw [runFor_done ho] at h ⊢; exact h
    | false =>
      rw [runFor_step ho] at h
      rw [show k + 1 + j = (k + j) + 1 by lia, runFor_step ho]
      exact runFor_over he k j h
theorem runFor_add {m : M} : ∀ a b, m.runFor (a + b) = (m.runFor a).runFor b
  | 0, b => by rw [Nat.zero_add]; rfl
  | a + 1, b => by
    cases ho : m.outcome.isSome with
    | true => rw [runFor_done ho, runFor_done ho, runFor_done ho]
    | false => rw [show a + 1 + b = (a + b) + 1 by lia, runFor_step ho, runFor_step ho]; exact runFor_add a b
theorem Ends.turn {n : Nat} {m e : M} (x : Ends n m e) (a : Nat) : Ends (n - a) (m.runFor a) e := by
  obtain ⟨k, hk, hr, he⟩ := x
  by_cases h : k ≤ a
  · refine ⟨0, Nat.zero_le _, ?_, he⟩
    show m.runFor a = e
    rw [show a = k + (a - k) by lia]
    exact runFor_over he _ _ hr
  · refine ⟨k - a, by lia, ?_, he⟩
    rw [← runFor_add, show a + (k - a) = k by lia]
    exact hr

/-- email.quoprimime's pattern -/
noncomputable def codeQ : Array Nat := #[14, 8, 1, 3, 3, 1, 1, 61, 0, 16, 61, 24, 16, 2, 2, 13, 11, 9, 0, 67043328, 126, 126, 0, 0, 0, 0, 0, 1, 1]
theorem qsz : codeQ.size = 29 := rfl
theorem q9 : codeQ.getD 9 0 = 16 := rfl
theorem q10 : codeQ.getD (9 + 1) 0 = 61 := rfl
theorem o16 : ops[16]? = some .LITERAL := rfl
noncomputable def isHex (c : Nat) : Bool := (48 ≤ c && c ≤ 57) || (65 ≤ c && c ≤ 70) || (97 ≤ c && c ≤ 102)
noncomputable def frQ (s : Nat) (first : Bool) : Sre.Frame := { wait := .nextStart, pc := 9, pos := s, outermost := first }
noncomputable def atQ (text : Array Nat) (lim s : Nat) (first : Bool) (seen : Seen) : M :=
  { code := codeQ, text, lim, start := s, lastStart := lim, pc := 9, pos := s, handed := s, outermost := first, marks := #[], frames := [frQ s first], weight := 1, seen }
section
variable {text : Array Nat} {lim s : Nat} {first : Bool} {seen : Seen}
theorem atQ_over (h : lim ≤ s) : Ends 3 (atQ text lim s first seen) { (atQ text lim s first seen) with pos := s, frames := [], weight := 0, answer := some false, outcome := some .failed, seen := seen.add 16 } := by
  refine Ends.next rfl ?_
  have e1 : (atQ text lim s first seen).step = { (atQ text lim s first seen) with answer := some false, seen := seen.add 16 } := by
    show (if s ≥ lim then _ else _) = _
    rw [if_pos h]; rfl
  rw [e1]
  refine Ends.next rfl ?_
  have e2 : ({ (atQ text lim s first seen) with answer := some false, seen := seen.add 16 } : M).step = { (atQ text lim s first seen) with frames := [], weight := 0, answer := some false, seen := seen.add 16 } := by
    show (if _ then _ else if s < lim then _ else _) = _
    rw [if_neg (by intro h; cases h), if_neg (by lia)]; rfl
  rw [e2]
  refine Ends.next rfl ?_
  exact Ends.here rfl 0
theorem atQ_no (h : s < lim) (hc : text.getD s 0 ≠ 61) : (atQ text lim s first seen).step = { (atQ text lim s first seen) with answer := some false, seen := seen.add 16 } := by
  have h' : ¬ s ≥ lim := by lia
  have hb : (text.getD s 0 == 61) = false := beq_false_of_ne hc
  simp only [M.step, M.exec, M.word, atQ, accepts, M.say, if_neg h', hb, qsz, q9, q10, o16, Nat.add_zero, Option.isSome_none, Bool.false_eq_true, if_false, if_true, (by decide : 9 < 29)]
theorem atQ_yes (h : s < lim) (hc : text.getD s 0 = 61) : (atQ text lim s first seen).step = { (atQ text lim s first seen) with pc := 11, pos := s + 1, seen := seen.add 16 } := by
  have h' : ¬ s ≥ lim := by lia
  have hb : (text.getD s 0 == 61) = true := beq_iff_eq.mpr hc
  simp only [M.step, M.exec, M.word, atQ, accepts, M.say, if_neg h', hb, qsz, q9, q10, o16, itemWidth, Nat.add_zero, Option.isSome_none, Bool.false_eq_true, if_false, if_true, (by decide : 9 < 29)]
theorem atQ_back (f : Bool) (seen' : Seen) (h : s < lim) (pc pos : Nat) : M.step { (atQ text lim s first seen) with pc, pos, answer := some false, seen := seen' } = atQ text lim (s + 1) false seen' := by
  show (if _ then _ else if s < lim then _ else _ : M) = _
  rw [if_neg (by intro h; cases h), if_pos (by lia)]
  rfl
theorem hexBit {c : Nat} : (decide (c < 256) && (codeQ.getD (17 + (1 + c / 32)) 0).testBit (c % 32)) = isHex c := by
  by_cases h : c < 256
  · have := (by decide +kernel : ∀ x : Fin 256, (decide (x.val < 256) && (codeQ.getD (17 + (1 + x.val / 32)) 0).testBit (x.val % 32)) = isHex x.val) ⟨c, h⟩
    exact this
  · unfold isHex
    rw [decide_eq_false h, decide_eq_false (show ¬ c ≤ 57 by lia), decide_eq_false (show ¬ c ≤ 70 by lia), decide_eq_false (show ¬ c ≤ 102 by lia)]
    simp
theorem acc15 (c : Nat) (seen : Seen) : ∃ seen', accepts codeQ 15 c seen = .ok (isHex c, seen') := by
  have e : accepts codeQ 15 c seen = inSet codeQ c 29 17 true seen := rfl
  rw [e]
  have e2 : inSet codeQ c 29 17 true seen = if (decide (c < 256) && (codeQ.getD (17 + (1 + c / 32)) 0).testBit (c % 32)) = true then .ok (true, seen.add 9) else inSet codeQ c 28 26 true (seen.add 9) := rfl
  rw [e2, hexBit]
  cases isHex c with
  | true => exact ⟨_, rfl⟩
  | false => exact ⟨_, rfl⟩
theorem run0 {p f : Nat} {seen : Seen} : run codeQ text 15 0 p f seen = .ok (f, seen) := rfl
theorem runS {n p f : Nat} {seen : Seen} : ∃ seen', run codeQ text 15 (n + 1) p f seen = if isHex (text.getD p 0) then run codeQ text 15 n (p + 1) (f + 1) seen' else .ok (f, seen') := by
  obtain ⟨seen', e⟩ := acc15 (text.getD p 0) seen
  refine ⟨seen', ?_⟩
  show (accepts codeQ 15 (text.getD p 0) seen >>= _) = _
  rw [e]
  rfl
/-- two hex figures stand behind s -/
noncomputable def hex2 (text : Array Nat) (s : Nat) : Bool := isHex (text.getD (s + 1) 0) && isHex (text.getD (s + 2) 0)
theorem run2 {s : Nat} {seen : Seen} : ∃ n seen', run codeQ text 15 2 (s + 1) 0 seen = .ok (n, seen') ∧ n ≤ 2 ∧ (hex2 text s = decide (n = 2)) := by
  obtain ⟨s1, e1⟩ := runS (text := text) (n := 1) (p := s + 1) (f := 0) (seen := seen)
  obtain ⟨s2, e2⟩ := runS (text := text) (n := 0) (p := s + 1 + 1) (f := 0 + 1) (seen := s1)
  rw [e1]
  unfold hex2
  cases h1 : isHex (text.getD (s + 1) 0) with
  | false => exact ⟨0, s1, rfl, by decide, by simp⟩
  | true =>
    rw [if_pos rfl, e2]
    cases h2 : isHex (text.getD (s + 1 + 1) 0) with
    | false => exact ⟨1, s2, rfl, by decide, by simp [h2]⟩
    | true => exact ⟨2, s2, rfl, by decide, by simp [h2]⟩
theorem o24 : ops[24]? = some .REPEAT_ONE := rfl
theorem q11 : codeQ.getD 11 0 = 24 := rfl
theorem q12 : codeQ.getD (11 + 1) 0 = 16 := rfl
theorem q13 : codeQ.getD (11 + 2) 0 = 2 := rfl
theorem q14 : codeQ.getD (11 + 3) 0 = 2 := rfl
theorem q15 : codeQ.getD (11 + 4) 0 = 13 := rfl
theorem atQ_rep (seen1 : Seen) (h : s < lim) : ∃ seen', M.step { (atQ text lim s first seen) with pc := 11, pos := s + 1, seen := seen1 } =
    if s + 2 < lim && hex2 text s then { (atQ text lim s first seen) with pc := 28, pos := s + 3, handed := s + 3, frames := [{ wait := .giveBack, pc := 11, pos := s + 3, outermost := first, count := 2, kept := {} }, frQ s first], weight := 2, seen := seen' }
    else { (atQ text lim s first seen) with pc := 11, pos := s + 1, answer := some false, seen := seen' } := by
  by_cases h1 : s + 2 < lim
  · obtain ⟨n, seen', e, hn, hh⟩ := run2 (text := text) (s := s) (seen := ((seen1.add 24).add 13))
    refine ⟨seen', ?_⟩
    have r1 : ¬ ((2 : Nat) : Int) > (lim : Int) - ((s + 1 : Nat) : Int) := by lia
    have r2 : min 2 ((lim : Int) - ((s + 1 : Nat) : Int)).toNat = 2 := by lia
    have w : ¬ (1 + 1 + 0 > 16777216) := by decide
    rw [hh]
    have d1 : decide (s + 2 < lim) = true := decide_eq_true h1
    by_cases h2 : n = 2
    · subst h2
      simp only [M.step, M.exec, M.word, atQ, qsz, q11, q12, q13, q14, q15, o24, e, Nat.add_zero, Option.isSome_none, Bool.false_eq_true, if_false, if_true, (by decide : 11 < 29), if_neg r1, r2, (by decide : ¬ 2 < 2), d1, decide_true, Bool.and_self]
      rfl
    · simp only [M.step, M.exec, M.word, atQ, qsz, q11, q12, q13, q14, q15, o24, e, Nat.add_zero, Option.isSome_none, Bool.false_eq_true, if_false, if_true, (by decide : 11 < 29), if_neg r1, r2, (by lia : n < 2), d1, decide_eq_false h2, Bool.and_false, M.say]
  · refine ⟨seen1.add 24, ?_⟩
    have r1 : ((2 : Nat) : Int) > (lim : Int) - ((s + 1 : Nat) : Int) := by lia
    simp only [M.step, M.exec, M.word, atQ, qsz, q11, q12, q13, q14, q15, o24, Nat.add_zero, Option.isSome_none, Bool.false_eq_true, if_false, if_true, (by decide : 11 < 29), if_pos r1, decide_eq_false h1, Bool.false_and, M.say]
/-- what a match at s leaves -/
structure MatQ (text : Array Nat) (lim s : Nat) (e : M) : Prop where
  outcome : e.outcome = some .matched
  start : e.start = s
  handed : e.handed = s + 3
  marks : e.marks = #[]
  lastindex : e.lastindex = -1
  lastmark : e.lastmark = -1
theorem atQ_hit (seen1 : Seen) : ∃ e, MatQ text lim s e ∧ Ends 4 { (atQ text lim s first seen) with pc := 28, pos := s + 3, handed := s + 3, frames := [{ wait := .giveBack, pc := 11, pos := s + 3, outermost := first, count := 2, kept := {} }, frQ s first], weight := 2, seen := seen1 } e := by
  refine ⟨{ (atQ text lim s first seen) with pc := 9, pos := s, handed := s + 3, frames := [], weight := 0, seen := seen1.add 1, answer := some true, outcome := some .matched }, ⟨rfl, rfl, rfl, rfl, rfl, rfl⟩, ?_⟩
  refine Ends.next rfl ?_
  have e1 : M.step { (atQ text lim s first seen) with pc := 28, pos := s + 3, handed := s + 3, frames := [{ wait := .giveBack, pc := 11, pos := s + 3, outermost := first, count := 2, kept := {} }, frQ s first], weight := 2, seen := seen1 } = { (atQ text lim s first seen) with pc := 28, pos := s + 3, handed := s + 3, frames := [{ wait := .giveBack, pc := 11, pos := s + 3, outermost := first, count := 2, kept := {} }, frQ s first], weight := 2, seen := seen1.add 1, answer := some true } := by
    cases first <;> rfl
  rw [e1]
  refine Ends.next rfl (Ends.next rfl (Ends.next rfl (Ends.here rfl 0)))
/-- the first start from s on -/
noncomputable def findQ (text : Array Nat) (lim : Nat) : (fuel s : Nat) → Option Nat
  | 0, _ => none
  | fuel + 1, s => if s ≥ lim then none else if text.getD s 0 = 61 ∧ s + 2 < lim ∧ hex2 text s = true then some s else findQ text lim fuel (s + 1)
theorem searchQ : ∀ (fuel s : Nat) (first : Bool) (seen : Seen), lim ≤ s + fuel →
    ∃ e, Ends (3 * fuel + 6) (atQ text lim s first seen) e ∧ (match findQ text lim fuel s with | some k => MatQ text lim k e | none => e.outcome = some .failed)
  | 0, s, first, seen, h => ⟨_, (atQ_over (by lia)).mono (by lia), rfl⟩
  | fuel + 1, s, first, seen, h => by
    unfold findQ
    by_cases hs : s ≥ lim
    · rw [if_pos hs]
      exact ⟨_, (atQ_over hs).mono (by lia), rfl⟩
    · rw [if_neg hs]
      by_cases hc : text.getD s 0 = 61
      · obtain ⟨s2, e2⟩ := atQ_rep (text := text) (lim := lim) (s := s) (first := first) (seen := seen) (seen.add 16) (by lia)
        by_cases hx : s + 2 < lim ∧ hex2 text s = true
        · rw [if_pos ⟨hc, hx⟩]
          obtain ⟨e, he, hE⟩ := atQ_hit (text := text) (lim := lim) (s := s) (first := first) (seen := seen) s2
          refine ⟨e, ?_, he⟩
          refine Ends.mono (Ends.next (n := 5) rfl ?_) (by lia)
          rw [atQ_yes (by lia) hc]
          refine Ends.next rfl ?_
          rw [e2, if_pos (by simp [hx])]
          exact hE
        · rw [if_neg (fun h => hx h.2)]
          obtain ⟨e, hE, he⟩ := searchQ fuel (s + 1) false s2 (by lia)
          refine ⟨e, ?_, he⟩
          refine Ends.mono (Ends.next (n := 3 * fuel + 6 + 2) rfl ?_) (by lia)
          rw [atQ_yes (by lia) hc]
          refine Ends.next rfl ?_
          rw [e2, if_neg (by simpa using hx)]
          refine Ends.next rfl ?_
          rw [atQ_back first s2 (by lia)]
          exact hE
      · rw [if_neg (fun h => hc h.1)]
        obtain ⟨e, hE, he⟩ := searchQ fuel (s + 1) false (seen.add 16) (by lia)
        refine ⟨e, ?_, he⟩
        refine Ends.mono (Ends.next (n := 3 * fuel + 6 + 1) rfl ?_) (by lia)
        rw [atQ_no (by lia) hc]
        refine Ends.next rfl ?_
        have := atQ_back (text := text) (lim := lim) (s := s) (first := first) (seen := seen) first (seen.add 16) (by lia) 9 s
        rw [show ({ (atQ text lim s first seen) with answer := some false, seen := seen.add 16 } : M).step = _ from this]
        exact hE
theorem findQ_none : ∀ {fuel s : Nat}, lim ≤ s + 2 → findQ text lim fuel s = none
  | 0, _, _ => rfl
  | fuel + 1, s, h => by
    unfold findQ
    split
    · rfl
    · rw [if_neg (by rintro ⟨_, h2, _⟩; lia)]
      exact findQ_none (by lia)
theorem forQ (text : Array Nat) (s lim : Nat) : ∃ e, Ends (3 * lim + 6) (Sre.forSearch codeQ text 0 s lim false) e ∧ (match findQ text lim (lim - s) s with | some k => MatQ text lim k e | none => e.outcome = some .failed) := by
  have e0 : Sre.forSearch codeQ text 0 s lim false = if decide (s > lim) || decide (lim - s < 3) then M.say _ false else atQ text lim s true (({} : Seen).add 14) := rfl
  rw [e0]
  by_cases h : lim - s < 3
  · rw [if_pos (by simp [h])]
    refine ⟨_, Ends.mono (Ends.next (n := 0) rfl (Ends.here rfl 0)) (by lia), ?_⟩
    rw [findQ_none (by lia)]
    rfl
  · rw [if_neg (by simp only [Bool.or_eq_true, decide_eq_true_eq]; lia)]
    obtain ⟨e, hE, he⟩ := searchQ (text := text) (lim := lim) (lim - s) s true (({} : Seen).add 14) (by lia)
    exact ⟨e, hE.mono (by lia), he⟩
end
end Mine
end

section -- R1
set_option maxRecDepth 100000
set_option maxHeartbeats 4000000
set_option linter.unusedSimpArgs false
set_option linter.unusedVariables false
namespace Mine
open PySem PySem.Sre
/-- shlex's pattern -/
noncomputable def codeS : Array Nat := #[14, 17, 4, 1, 1, 21, 9, 0, 604043296, 1, 0, 0, 0, 0, 0, 8, 4, 0, 13, 14, 21, 9, 0, 604043296, 1, 0, 0, 0, 0, 0, 8, 4, 0, 1]
noncomputable def plainS (c : Nat) : Bool := isWord c || c = 37 || c = 43 || (44 ≤ c && c ≤ 47) || c = 58 || c = 61 || c = 64
theorem bitS {c : Nat} : ((decide (c < 256) && (codeS.getD (6 + (1 + c / 32)) 0).testBit (c % 32)) || isWord c) = plainS c := by
  by_cases h : c < 256
  · have := (by decide +kernel : ∀ x : Fin 256, ((decide (x.val < 256) && (codeS.getD (6 + (1 + x.val / 32)) 0).testBit (x.val % 32)) || isWord x.val) = plainS x.val) ⟨c, h⟩
    exact this
  · unfold plainS
    rw [decide_eq_false h, decide_eq_false (show ¬ c = 37 by lia), decide_eq_false (show ¬ c = 43 by lia), decide_eq_false (show ¬ c ≤ 47 by lia), decide_eq_false (show ¬ c = 58 by lia), decide_eq_false (show ¬ c = 61 by lia), decide_eq_false (show ¬ c = 64 by lia)]
    simp
section
variable {text : Array Nat} {lim s : Nat} {first : Bool} {seen : Seen}
theorem inS (c : Nat) (k : Nat) (h : k = 5 ∨ k = 20) (seen : Seen) : ∃ seen', inSet codeS c 34 k true seen = .ok (!plainS c, seen') := by
  have hb := bitS (c := c)
  have e : ∃ s2 s3 : Seen, inSet codeS c 34 k true seen = if (decide (c < 256) && (codeS.getD (6 + (1 + c / 32)) 0).testBit (c % 32)) = true then .ok (false, s2) else (category 4 c >>= fun b => if b = true then pure (false, s3) else inSet codeS c 31 (k + 12) false s3) := by
    rcases h with rfl | rfl
    · exact ⟨_, _, rfl⟩
    · refine ⟨(seen.add 21).add 9, (((seen.add 21).add 9).add 8).add 59, ?_⟩
      have : ∀ x < 8, codeS.getD (21 + (1 + x)) 0 = codeS.getD (6 + (1 + x)) 0 := by decide
      have e2 : inSet codeS c 34 20 true seen = if (decide (c < 256) && (codeS.getD (21 + (1 + c / 32)) 0).testBit (c % 32)) = true then .ok (false, (seen.add 21).add 9) else (category 4 c >>= fun b => if b = true then pure (false, (((seen.add 21).add 9).add 8).add 59) else inSet codeS c 31 32 false ((((seen.add 21).add 9).add 8).add 59)) := rfl
      rw [e2]
      by_cases hc : c < 256
      · rw [this (c / 32) (by lia)]
      · rw [decide_eq_false hc]; rfl
  obtain ⟨s2, s3, e⟩ := e
  rw [e]
  cases h1 : (decide (c < 256) && (codeS.getD (6 + (1 + c / 32)) 0).testBit (c % 32)) with
  | true =>
    rw [h1] at hb
    rw [← hb]
    exact ⟨_, rfl⟩
  | false =>
    rw [h1] at hb
    rw [← hb]
    have ec : category 4 c = .ok (isWord c != false) := rfl
    rw [ec]
    cases isWord c with
    | true => exact ⟨_, rfl⟩
    | false => rcases h with rfl | rfl <;> exact ⟨_, rfl⟩
/-- a sign to be quoted stands in text behind s -/
noncomputable def badAt (text : Array Nat) (lim : Nat) : (fuel s : Nat) → Option Nat
  | 0, _ => none
  | fuel + 1, s => if s ≥ lim then none else if plainS (text.getD s 0) = false then some s else badAt text lim fuel (s + 1)
noncomputable def mS (text : Array Nat) (lim : Nat) : M := { code := codeS, text, lim, start := 0, lastStart := lim, pc := 18, pos := 0, handed := 0, marks := #[], seen := ({} : Seen).add 14 }
theorem admS {m : M} (hm : m.code = codeS) (ht : m.text = text) (hl : m.lim = lim) : ∀ (fuel s : Nat) (seen : Seen), ∃ seen', M.admitted m fuel s seen = .ok (badAt text lim fuel s, seen')
  | 0, s, seen => ⟨_, rfl⟩
  | fuel + 1, s, seen => by
    unfold M.admitted badAt
    rw [hm, ht, hl]
    by_cases h : s ≥ lim
    · rw [if_pos h, if_pos h]; exact ⟨_, rfl⟩
    · rw [if_neg h, if_neg h]
      obtain ⟨s2, e⟩ := inS (text.getD s 0) 5 (Or.inl rfl) seen
      rw [show codeS.size = 34 from rfl, e]
      cases hp : plainS (text.getD s 0) with
      | true =>
        obtain ⟨s3, e3⟩ := admS hm ht hl fuel (s + 1) s2
        exact ⟨s3, e3⟩
      | false => exact ⟨_, rfl⟩
structure MatS (s : Nat) (e : M) : Prop where
  outcome : e.outcome = some .matched
  marks : e.marks = #[]
  lastindex : e.lastindex = -1
  lastmark : e.lastmark = -1
noncomputable def atS (text : Array Nat) (lim s : Nat) (seen : Seen) : M :=
  { code := codeS, text, lim, start := s, lastStart := lim, pc := 18, pos := s, handed := s, outermost := true, marks := #[], frames := [{ wait := .nextStart, pc := 18, pos := s, outermost := true }], weight := 1, seen }
theorem s18 : codeS.getD 18 0 = 13 := rfl
theorem s19 : codeS.getD (18 + 1) 0 = 14 := rfl
theorem o13 : ops[13]? = some .IN := rfl
theorem ssz : codeS.size = 34 := rfl
theorem atS_hit (h : s < lim) (hp : plainS (text.getD s 0) = false) : ∃ e, MatS s e ∧ Ends 4 (atS text lim s seen) e := by
  obtain ⟨s2, e⟩ := inS (text.getD s 0) 20 (Or.inr rfl) (seen.add 13)
  refine ⟨{ (atS text lim s seen) with pos := s, handed := s + 1, frames := [], weight := 0, seen := s2.add 1, answer := some true, outcome := some .matched }, ⟨rfl, rfl, rfl, rfl⟩, ?_⟩
  refine Ends.next rfl ?_
  have e1 : (atS text lim s seen).step = { (atS text lim s seen) with pc := 33, pos := s + 1, seen := s2 } := by
    have h' : ¬ s ≥ lim := by lia
    have ha : accepts codeS 18 (text.getD s 0) (seen.add 13) = .ok (true, s2) := by
      have : accepts codeS 18 (text.getD s 0) (seen.add 13) = inSet codeS (text.getD s 0) 34 20 true (seen.add 13) := rfl
      rw [this, e, hp]; rfl
    simp only [M.step, M.exec, M.word, atS, ha, M.say, if_neg h', ssz, s18, s19, o13, itemWidth, Nat.add_zero, Option.isSome_none, Bool.false_eq_true, if_false, if_true, (by decide : 18 < 34)]
  rw [e1]
  refine Ends.next rfl ?_
  have e2 : M.step { (atS text lim s seen) with pc := 33, pos := s + 1, seen := s2 } = { (atS text lim s seen) with pc := 33, pos := s + 1, handed := s + 1, seen := s2.add 1, answer := some true } := rfl
  rw [e2]
  exact Ends.next rfl (Ends.next rfl (Ends.here rfl 0))
theorem badAt_lt : ∀ {fuel s k : Nat}, badAt text lim fuel s = some k → k < lim ∧ plainS (text.getD k 0) = false
  | 0, _, _, h => by cases h
  | fuel + 1, s, k, h => by
    unfold badAt at h
    split at h
    · cases h
    · split at h
      · cases h; exact ⟨by lia, by assumption⟩
      · exact badAt_lt h
theorem forS (text : Array Nat) (lim : Nat) : ∃ e, Ends 4 (Sre.forSearch codeS text 0 0 lim false) e ∧ (match badAt text lim (lim + 1) 0 with | some k => MatS k e | none => e.outcome = some .failed) := by
  have e0 : Sre.forSearch codeS text 0 0 lim false = if decide (0 > lim) || decide (lim - 0 < 1) then M.say _ false else M.attemptFrom { (mS text lim) with lastStart := lim } 0 true := rfl
  rw [e0]
  by_cases h : lim - 0 < 1
  · rw [if_pos (by simp only [Bool.or_eq_true, decide_eq_true_eq]; lia)]
    refine ⟨_, Ends.mono (Ends.next (n := 0) rfl (Ends.here rfl 0)) (by lia), ?_⟩
    have : badAt text lim (lim + 1) 0 = none := by unfold badAt; rw [if_pos (by lia)]
    rw [this]; rfl
  · rw [if_neg (by simp only [Bool.or_eq_true, decide_eq_true_eq]; lia)]
    have e2 : M.attemptFrom { (mS text lim) with lastStart := lim } 0 true = (match M.admitted (mS text lim) (lim + 1) 0 (({} : Seen).add 14) with
      | .ok (some s, seen) => M.attemptAt { (mS text lim) with mustAdvance := false, seen := seen } s true
      | .ok (none, seen) => M.say { (mS text lim) with seen := seen } false
      | .error why => M.stick (mS text lim) why) := rfl
    rw [e2]
    obtain ⟨s2, e3⟩ : ∃ s2, M.admitted (mS text lim) (lim + 1) 0 (({} : Seen).add 14) = .ok (badAt text lim (lim + 1) 0, s2) := admS rfl rfl rfl _ _ _
    rw [e3]
    cases hb : badAt text lim (lim + 1) 0 with
    | none => exact ⟨_, Ends.mono (Ends.next (n := 0) rfl (Ends.here rfl 0)) (by lia), rfl⟩
    | some k =>
      obtain ⟨h1, h2⟩ := badAt_lt hb
      obtain ⟨e, he, hE⟩ := atS_hit (seen := s2) h1 h2
      exact ⟨e, hE, he⟩
theorem badAt_none : ∀ {fuel s : Nat}, lim ≤ s + fuel → (badAt text lim fuel s = none ↔ ∀ i, s ≤ i → i < lim → plainS (text.getD i 0) = true)
  | 0, s, h => ⟨fun _ i h1 h2 => by lia, fun _ => rfl⟩
  | fuel + 1, s, h => by
    unfold badAt
    by_cases h1 : s ≥ lim
    · rw [if_pos h1]
      exact ⟨fun _ i h2 h3 => by lia, fun _ => rfl⟩
    · rw [if_neg h1]
      cases hp : plainS (text.getD s 0) with
      | false =>
        rw [if_pos rfl]
        refine ⟨fun h => (by cases h), fun hh => ?_⟩
        rw [hh s (Nat.le_refl _) (by lia)] at hp
        cases hp
      | true =>
        rw [if_neg (by decide), badAt_none (by lia)]
        refine ⟨fun hh i h2 h3 => ?_, fun hh i h2 h3 => hh i (by lia) h3⟩
        by_cases h4 : i = s
        · rw [h4]; exact hp
        · exact hh i (by lia) h3

/-- fnmatch's pattern -/
noncomputable def codeF : Array Nat := #[14, 14, 4, 1, 1, 9, 0, 64, 0, 1342177280, 0, 0, 0, 0, 0, 17, 0, 13, 11, 9, 0, 64, 0, 1342177280, 0, 0, 0, 0, 0, 17, 1, 1]
noncomputable def tripleF (c : Nat) : Bool := c = 38 || c = 124 || c = 126
theorem bitF {c : Nat} : (decide (c < 256) && (codeF.getD (5 + (1 + c / 32)) 0).testBit (c % 32)) = tripleF c := by
  by_cases h : c < 256
  · have := (by decide +kernel : ∀ x : Fin 256, (decide (x.val < 256) && (codeF.getD (5 + (1 + x.val / 32)) 0).testBit (x.val % 32)) = tripleF x.val) ⟨c, h⟩
    exact this
  · unfold tripleF
    rw [decide_eq_false h, decide_eq_false (show ¬ c = 38 by lia), decide_eq_false (show ¬ c = 124 by lia), decide_eq_false (show ¬ c = 126 by lia)]
    simp
theorem inF (c : Nat) (seen : Seen) (h : tripleF c = false) : ∃ seen', inSet codeF c 32 5 true seen = .ok (false, seen') := by
  have e : inSet codeF c 32 5 true seen = if (decide (c < 256) && (codeF.getD (5 + (1 + c / 32)) 0).testBit (c % 32)) = true then .ok (true, seen.add 9) else inSet codeF c 31 14 true (seen.add 9) := rfl
  rw [e, bitF, h]
  exact ⟨_, rfl⟩
theorem admF {m : M} (hm : m.code = codeF) (ht : m.text = text) (hl : m.lim = lim) (h : ∀ i < lim, tripleF (text.getD i 0) = false) : ∀ (fuel s : Nat) (seen : Seen), ∃ seen', M.admitted m fuel s seen = .ok (none, seen')
  | 0, s, seen => ⟨_, rfl⟩
  | fuel + 1, s, seen => by
    unfold M.admitted
    rw [hm, ht, hl]
    by_cases h1 : s ≥ lim
    · rw [if_pos h1]; exact ⟨_, rfl⟩
    · rw [if_neg h1]
      obtain ⟨s2, e⟩ := inF (text.getD s 0) seen (h s (by lia))
      rw [show codeF.size = 32 from rfl, e]
      exact admF hm ht hl h fuel (s + 1) s2
noncomputable def mF (text : Array Nat) (lim : Nat) : M := { code := codeF, text, lim, start := 0, lastStart := lim, pc := 15, pos := 0, handed := 0, marks := #[none, none], seen := ({} : Seen).add 14 }
theorem forF (text : Array Nat) (lim : Nat) (h : ∀ i < lim, tripleF (text.getD i 0) = false) : ∃ e, Ends 4 (Sre.forSearch codeF text 1 0 lim false) e ∧ e.outcome = some .failed := by
  have e0 : Sre.forSearch codeF text 1 0 lim false = if decide (0 > lim) || decide (lim - 0 < 1) then M.say _ false else M.attemptFrom { (mF text lim) with lastStart := lim } 0 true := rfl
  rw [e0]
  by_cases h1 : lim - 0 < 1
  · rw [if_pos (by simp only [Bool.or_eq_true, decide_eq_true_eq]; lia)]
    exact ⟨_, Ends.mono (Ends.next (n := 0) rfl (Ends.here rfl 0)) (by lia), rfl⟩
  · rw [if_neg (by simp only [Bool.or_eq_true, decide_eq_true_eq]; lia)]
    have e2 : M.attemptFrom { (mF text lim) with lastStart := lim } 0 true = (match M.admitted (mF text lim) (lim + 1) 0 (({} : Seen).add 14) with
      | .ok (some s, seen) => M.attemptAt { (mF text lim) with mustAdvance := false, seen := seen } s true
      | .ok (none, seen) => M.say { (mF text lim) with seen := seen } false
      | .error why => M.stick (mF text lim) why) := rfl
    rw [e2]
    obtain ⟨s2, e3⟩ : ∃ s2, M.admitted (mF text lim) (lim + 1) 0 (({} : Seen).add 14) = .ok (none, s2) := admF rfl rfl rfl h _ _ _
    rw [e3]
    exact ⟨_, Ends.mono (Ends.next (n := 0) rfl (Ends.here rfl 0)) (by lia), rfl⟩
end
end Mine
end

section -- B0
open PySem PySem.W PyProof.Rows PySem.Calls PySem.Spec
set_option maxRecDepth 100000
set_option maxHeartbeats 4000000
namespace Mine

theorem stays_of_gsub {H g : Heap} (h : GSub H g []) : H.StaysIn g := fun b o e => h b o e (List.not_mem_nil)

noncomputable abbrev Md (w : World) : Model := model PySem.Challenge.rw_ku0012_01.prog w

/-- what a caller within a def's frame offers -/
structure Cal (w : World) (p : Program) (loose : List Str) (mean : ExcName → Option Value) (mg mb : Str → Option Value) (A₀ : Around) (base : Heap) (outer : List Env) (h₀ : Heap) (L : Addr) (m : Str → Option Value) (H : Heap) (cs : Scope) (dp un k : Nat) : Prop where
  B : Below A₀ base outer h₀
  F : Fr h₀ L H m
  X : (Mine.mk0.heap_1 w.params).In h₀
  T : Top p loose mean mg mb h₀
  hk : cs.kind = .function
  hd : dp + k < recursionLimit
  hu : un + 16 * k < cLine
theorem Cal.room {w : World} {p : Program} {loose : List Str} {mean : ExcName → Option Value} {mg mb : Str → Option Value} {A₀ : Around} {base : Heap} {outer : List Env} {h₀ : Heap} {L : Addr} {m : Str → Option Value} {H : Heap} {cs : Scope} {dp un k : Nat}
    (C : Cal w p loose mean mg mb A₀ base outer h₀ L m H cs dp un k) : dp < recursionLimit := Nat.lt_of_le_of_lt (Nat.le_add_right _ _) C.hd

theorem fresh_end {H g : Heap} {r : Addr} (st : H.StaysIn g) (e : g.get? r = none) : H.get? r = none := by
  cases q : H.get? r with
  | none => rfl
  | some o => rw [st _ _ q] at e; cases e
theorem stays_end {H g h : Heap} {L : Addr} {m : Str → Option Value} (st : H.StaysIn g) (F : Fr g L h m) : H.StaysIn h := fun b o e => F.keep b o (st b o e)

section
variable {prog : Program} {w : World} {A₀ A : Around} {s : Shared} {base h₀ : Heap} {outer : List Env} {L : Addr} {m : Str → Option Value} {env : Env} {K : Frag} {p : Program} {loose : List Str} {mean : ExcName → Option Value} {mg mb : Str → Option Value}
  {R : Result → Shared → Prop} {name qual : Str} {params : Arguments} {body : List Stmt} {scope : Scope} {dV kV doc pm cdv ct oc : Value} {an od : Option Addr} {osl : Array (Option Value)} {f : Addr} {args : Args} {binds : List (Str × Value)}

/-- a plain def entered with everything that stands as its ground -/
theorem enterP (B : Below A₀ base outer h₀) (F : Fr h₀ L s.heap m) (X₀ : K.In h₀) (T : Top p loose mean mg mb h₀) (hA : A.frames = some (env :: outer)) (hf : env.frame = some L) (hke : env.scope.kind = .function)
    (ho : K.lookup f = some ⟨oc, od, .func (fnOf name qual params body scope dV kV doc pm an cdv ct), osl⟩) (hcd : codeIn K cdv qual = true) (hroom : A.depth < recursionLimit)
    (hbind : BindsTo s (fnOf name qual params body scope dV kV doc pm an cdv ct) args binds) (hloc : ∀ y ∈ binds, scope.names.lookup y.1 = some .local)
    (h : ∀ g L' h₁, s.heap.StaysIn g → g.objs.size = s.heap.objs.size → Fr g L' h₁ (fun y => binds.reverse.lookup y) → News g L' h₁ [] → Below A base (env :: outer) g → K.In g → Top p loose mean mg mb g →
      wpAny (model prog w) (A.deeper (envOf qual scope L' f cdv)) (execs body (envOf qual scope L' f cdv))
        (fun fl s' => LeaveK h₀ L m g R (match fl with | .ret v => v | _ => .none) s')
        (fun e s' => wpAny (model prog w) (A.deeper (envOf qual scope L' f cdv)) (leaving (envOf qual scope L' f cdv) e) (fun _ s'' => R (.error e) s'') (fun e' s'' => R (.error e') s'') s')
        { s with heap := h₁, toks := s.toks + binds.length })
    (hco : scope.isCoroutine = false) (hgen : scope.isGenerator = false) (hk : scope.kind = .function)
    (hcell : ∀ x ∈ scope.names, x.2 ≠ .cell) : codeAny (model prog w) A (.call (.ref f) args) R s := by
  have N : News h₀ L s.heap [] := News.nil
  obtain ⟨FG, BG, st, lv⟩ := groundX (R := R) B F N hA hf hke
  refine codeAny_call_def (fd := fnX name qual params body scope [] dV kV doc pm an cdv ct) (body := body) (binds := binds) hroom ((X₀.keeps F.keep) _ _ ho) rfl (T.nolimit.keeps F.keep) (codeRec_of (X₀.keeps F.keep) hcd) rfl hbind hcell hloc (fun h₁ hns hk₁ => ?_) hco hgen hk
  exact wpAny_mono (h _ s.heap.objs.size h₁ (fun b o e => hideAll_get _ e (List.not_mem_nil)) (hideAll_size _ _) ⟨hns, fun b o e => hk₁ b o (of_hideAll _ e), Nat.le_of_eq (hideAll_size _ _)⟩
    News.nil BG (X₀.keeps st) (T.keeps st)) (fun fl s' hl => lv _ _ hl) fun _ _ y => y

/-- a def whose names lie in cells -/
theorem enterCP (B : Below A₀ base outer h₀) (F : Fr h₀ L s.heap m) (X₀ : K.In h₀) (T : Top p loose mean mg mb h₀) (hA : A.frames = some (env :: outer)) (hf : env.frame = some L) (hke : env.scope.kind = .function)
    (ho : K.lookup f = some ⟨oc, od, .func (fnOf name qual params body scope dV kV doc pm an cdv ct), osl⟩) (hcd : codeIn K cdv qual = true) (hroom : A.depth < recursionLimit)
    (hbind : BindsTo s (fnOf name qual params body scope dV kV doc pm an cdv ct) args binds) (hkind : (binds.all fun y => scope.names.lookup y.1 == some .local || scope.names.lookup y.1 == some .cell) = true)
    (hnd : ((cellsFrom 0 scope.names []).map (·.1)).Nodup)
    (h : ∀ g L' h₁ tk cells, s.heap.StaysIn g → g.objs.size = s.heap.objs.size → Fr g L' h₁ (bindL (envOfC qual scope L' f cdv).kindOf binds fun _ => none) → News g L' h₁ cells →
      CellsAre (bindC (envOfC qual scope L' f cdv).kindOf binds fun _ => none) (cellsFrom (L' + 1) scope.names []) cells → Below A base (env :: outer) g → K.In g → Top p loose mean mg mb g →
      wpAny (model prog w) (A.deeper (envOfC qual scope L' f cdv)) (execs body (envOfC qual scope L' f cdv))
        (fun fl s' => LeaveK h₀ L m g R (match fl with | .ret v => v | _ => .none) s')
        (fun e s' => wpAny (model prog w) (A.deeper (envOfC qual scope L' f cdv)) (leaving (envOfC qual scope L' f cdv) e) (fun _ s'' => R (.error e) s'') (fun e' s'' => R (.error e') s'') s')
        { s with heap := h₁, toks := tk })
    (hco : scope.isCoroutine = false) (hgen : scope.isGenerator = false) (hk : scope.kind = .function) : codeAny (model prog w) A (.call (.ref f) args) R s := by
  have N : News h₀ L s.heap [] := News.nil
  obtain ⟨FG, BG, st, lv⟩ := groundX (R := R) B F N hA hf hke
  refine codeAny_call_function hroom ((X₀.keeps F.keep) _ _ ho) rfl hco hgen rfl (codeRec_of (X₀.keeps F.keep) hcd) (hbind _ _ _ _ ?_)
  refine wpAny_newFunctionEnv_cells hk (kindsX hkind _) fun env' he s' x => ?_
  subst he
  refine ⟨(T.nolimit.keeps F.keep).keeps x.toInCall.keep, codeAny_func ?_⟩
  obtain ⟨h₁, tk, rfl, _⟩ := x.done
  have hk₁ := x.toInCall.keep
  obtain ⟨cells, NC, Y⟩ := Cl.news (h₀ := s.heap) (Nat.le_refl _) fun n c hm => ⟨x.cell n c (lookup_of_mem_nodup (cellsFrom_names scope.names 0 (s.heap.objs.size + 1) [] [] rfl ▸ hnd) hm), x.above n c hm⟩
  refine wpAny_mono (h _ s.heap.objs.size h₁ tk cells (fun b o e => hideAll_get _ e (List.not_mem_nil)) (hideAll_size _ _) ⟨x.toInCall.ns, fun b o e => hk₁ b o (of_hideAll _ e), Nat.le_of_eq (hideAll_size _ _)⟩ (fun z hz => ?_) Y BG (X₀.keeps st) (T.keeps st)) (fun fl s' hl => lv _ _ hl) fun _ _ y => y
  refine ⟨(NC z hz).1, (NC z hz).2.1, ?_⟩
  cases q : (hideAll s.heap (List.map (fun x => x.1) ([] : List (Addr × Obj)))).get? z.1 with
  | none => exact q
  | some o => have := of_hideAll _ q; rw [(NC z hz).2.2] at this; cases this
end
end Mine
end

section -- B1
open PySem PySem.W PyProof.Rows PySem.Calls PySem.Spec
set_option maxRecDepth 100000
set_option maxHeartbeats 4000000
namespace Mine
theorem stays_refl (h : Heap) : h.StaysIn h := fun _ _ e => e
theorem stays_trans {a b c : Heap} (x : a.StaysIn b) (y : b.StaysIn c) : a.StaysIn c := fun k o e => y k o (x k o e)

section
variable {prog : Program} {w : World} {A : Around} {h₀ : Heap} {L : Addr} {m : Str → Option Value} {env : Env} {elt : Expr} {x : Str} {scope : Scope} {cl : List (Str × Addr)} {s : Shared} {S : List (Addr × Obj) → Prop} {P : Nat → Value → Prop} {Fin : List Value → List (Addr × Obj) → Prop} {news : List (Addr × Obj)}

/-- where an element's evaluation ends: all that stood stands, and its value meets R -/
noncomputable def EltEnd (s₁ : Shared) (R : Value → Prop) (y : Value) (s₂ : Shared) : Prop := ∃ h' tk', s₂ = { s₁ with heap := h', toks := tk' } ∧ s₁.heap.StaysIn h' ∧ R y
theorem EltEnd.intro {s₁ : Shared} {R : Value → Prop} {y : Value} {h' : Heap} {tk' : Nat} (st : s₁.heap.StaysIn h') (r : R y) : EltEnd s₁ R y { s₁ with heap := h', toks := tk' } := ⟨h', tk', rfl, st, r⟩

theorem comp_all {n : Nat} (R : Nat → Value → Prop) (hS : S news)
    (turn : ∀ i v I oI C oC D m₂ ys h tk (E' : Value → Shared → Prop), i < n → P i v → LCg.NsObj oC m₂ → m₂ x = some v → Fr h₀ L h m → News h₀ L h ((I, oI) :: (C, oC) :: (D, LCg.lst ys) :: news) → LCg.Off3 I C D news →
      wpAny (model prog w) A (eval elt (compEnvC scope cl C env)) (EltEnd { s with heap := h, toks := tk } (R i)) E' { s with heap := h, toks := tk })
    (fin : ∀ ys : List Value, ys.length = n → (∀ i y, ys[i]? = some y → R i y) → Fin ys news) : LCg.CompRest prog w A h₀ L m env elt x scope cl s S P Fin n 0 [] news := by
  have key : ∀ (j i : Nat) (ys : List Value), i + j = n → ys.length = i → (∀ k y, ys[k]? = some y → R k y) → LCg.CompRest prog w A h₀ L m env elt x scope cl s S P Fin j i ys news := by
    intro j
    induction j with
    | zero =>
      intro i ys hi hy hr
      exact LCg.CompRest.zero (fin ys (by lia) hr)
    | succ j ih =>
      intro i ys hi hy hr
      refine LCg.CompRest.succ ?_
      intro v I oI C oC D m₂ h tk E' hv hC hx F N off ne
      refine wpAny_mono (turn i v I oI C oC D m₂ ys h tk E' (by lia) hv hC hx F N off) (fun y s₂ hq => ?_) fun _ _ e => e
      obtain ⟨h', tk', rfl, st, hR⟩ := hq
      refine ⟨h', tk', news, rfl, F.keeps st, N.grown st, off, hS, ih (i + 1) (ys ++ [y]) (by lia) (by rw [List.length_append, List.length_singleton, hy]) ?_⟩
      intro k z hk
      rcases Nat.lt_or_ge k ys.length with h1 | h1
      · rw [List.getElem?_append_left h1] at hk; exact hr k z hk
      · rw [List.getElem?_append_right h1] at hk
        have hz : k - ys.length = 0 := by
          cases e : k - ys.length with
          | zero => rfl
          | succ q => rw [e] at hk; simp at hk
        rw [hz] at hk
        have hki : k = i := by lia
        cases hk
        rw [hki]; exact hR
  exact key n 0 [] (by lia) rfl (fun k y e => by simp at e)
end

theorem ints_of {ys : List Value} : (∀ (i : Nat) (y : Value), ys[i]? = some y → ∃ v t, y = .int v t) → ∃ zs : List Int, IntsAre ys zs ∧ zs.length = ys.length := by
  induction ys with
  | nil => intro _; exact ⟨[], .nil, rfl⟩
  | cons y r ih =>
    intro h
    obtain ⟨zs, hz, hl⟩ := ih fun i z e => h (i + 1) z (by simpa using e)
    obtain ⟨v, t, rfl⟩ := h 0 y rfl
    exact ⟨v :: zs, .cons v t hz, by simp [hl]⟩
theorem strs_of {ys : List Value} {xs : List Str} (hl : ys.length = xs.length) (h : ∀ (i : Nat) (y : Value), ys[i]? = some y → ∃ t, y = .str (xs.getD i Str.empty) t) : StrsAre ys xs := by
  induction ys generalizing xs with
  | nil => cases xs with | nil => exact .nil | cons => simp at hl
  | cons y r ih =>
    cases xs with
    | nil => simp at hl
    | cons x xs =>
      obtain ⟨t, rfl⟩ := h 0 y rfl
      exact .cons x t (ih (by simpa using hl) fun i z e => by simpa using h (i + 1) z (by simpa using e))

section
open LCg LCt
variable {prog : Program} {w : World} {A : Around} {E : Value → Shared → Prop} {s : Shared} {h₀ : Heap} {L : Addr} {m : Str → Option Value} {env : Env}

/-- a text as what is gone through -/
noncomputable def SrcS (prog : Program) (w : World) (A : Around) (h₀ : Heap) (L : Addr) (m : Str → Option Value) (env : Env) (elt : Expr) (x : Str) (scope : Scope) (cl : List (Str × Addr)) (Fin : Shared → List Value → List (Addr × Obj) → Prop) (xv : Value) (s₁ : Shared) : Prop :=
  ∃ z t news, xv = .str z t ∧ A.handled = none ∧ Fr h₀ L s₁.heap m ∧ News h₀ L s₁.heap news ∧ z.cps.size ≤ sizeLine ∧
    ∀ g, CompRest prog w A h₀ L m env elt x scope cl { s₁ with heap := g } (fun _ => True) (SignAt z) (Fin { s₁ with heap := g }) z.cps.size 0 [] news
noncomputable def SrcST (prog : Program) (w : World) (A : Around) (h₀ : Heap) (L : Addr) (m : Str → Option Value) (env : Env) (ct elt : Expr) (x : Str) (scope : Scope) (cl : List (Str × Addr)) (Fin : Shared → List Value → List (Addr × Obj) → Prop) (xv : Value) (s₁ : Shared) : Prop :=
  ∃ z t news, xv = .str z t ∧ A.handled = none ∧ Fr h₀ L s₁.heap m ∧ News h₀ L s₁.heap news ∧ z.cps.size ≤ sizeLine ∧
    ∀ g, CompRestT prog w A h₀ L m env ct elt x scope cl { s₁ with heap := g } (fun _ => True) (SignAt z) (Fin { s₁ with heap := g }) z.cps.size 0 [] news

theorem strIter_st {ty : String} {x : Str} {t : Tok} {I : Addr} : ∀ i (h h' : Heap) (o : Obj) (nw : List (Addr × Obj)), h.IsStrIter I ty x t i → h.get? I = some o → h'.get? I = some o → (∀ b o, h₀.get? b = some o → h'.get? b = some o) → News h₀ L h' nw → True → h'.IsStrIter I ty x t i :=
  fun _ _ _ _ _ st e e' _ _ _ => by obtain ⟨o', q, r⟩ := st; rw [e] at q; cases q; exact ⟨_, e', r⟩

theorem str_walks (hh : A.handled = none) {s₁ : Shared} {z : Str} {t : Tok} {Q : Value → Shared → Prop}
    (h : ∀ (o : Obj) (St : Nat → Heap → Prop), Walks prog w A s₁.heap.objs.size [s₁.heap.objs.size] [s₁.heap.objs.size] z.cps.size (SignAt z) St → (∀ i h, St i h → ∃ o, h.get? s₁.heap.objs.size = some o) →
      (∀ i (h h' : Heap) (o : Obj) (nw : List (Addr × Obj)), St i h → h.get? s₁.heap.objs.size = some o → h'.get? s₁.heap.objs.size = some o → (∀ b o, h₀.get? b = some o → h'.get? b = some o) → News h₀ L h' nw → True → St i h') → St 0 (s₁.heap.push o) →
      Q (.ref s₁.heap.objs.size) { s₁ with heap := s₁.heap.push o }) : wpAny (model prog w) A (pyIter (.str z t)) Q E s₁ := by
  cases ha : z.cps.all (· < 128)
  · exact wpAny_pyIter_wide ha (h _ _ (Walks.strWide hh _ z t) (fun i h st => by obtain ⟨o, e, _⟩ := st; exact ⟨o, e⟩) strIter_st ⟨_, Heap.get?_push_size _ rfl, rfl, rfl⟩)
  · exact wpAny_pyIter_ascii ha (h _ _ (Walks.strAscii hh _ z t) (fun i h st => by obtain ⟨o, e, _⟩ := st; exact ⟨o, e⟩) strIter_st ⟨_, Heap.get?_push_size _ rfl, rfl, rfl⟩)

theorem ListComp_S {elt iter : Expr} {x : Str} {px : Pos} {scope : Scope} {cl : List (Str × Addr)} {pos : Pos} {Q : Value → Shared → Prop} (_F₀ : Fr h₀ L s.heap m)
    (hclos : closureFor scope env = pure cl) (hcell : ∀ y ∈ scope.names, y.2 ≠ .cell) (hkind : scope.kind = .function)
    (hnames : ∀ y ∈ scope.names, y.2 = .local → scope.names.lookup y.1 = some .local) (hx : scope.names.lookup x = some .local)
    (h : wpAny (model prog w) A (eval iter env) (SrcS prog w A h₀ L m env elt x scope cl (fun s₂ => FinE h₀ L m s₂ Q)) E s)
    (hs : ∀ x, foldedSetIterable iter env x = pure x := by intro _; rfl) :
    wpAny (model prog w) A (eval (.ListComp elt [⟨.Name x px, iter, [], 0⟩] scope pos) env) Q E s := by
  rw [eval_ListComp]
  refine wpAny_comprehension_free (use := none) rfl hs hclos hkind hnames (wpAny_mono h (fun xv s₁ h₁ => ?_) fun _ _ e => e)
  obtain ⟨z, t, news, rfl, hh, F, N, hsz, R⟩ := h₁
  refine str_walks (h₀ := h₀) (L := L) hh fun o St W hIo hSt hst => ?_
  refine block_U W hsz hIo hSt hcell hkind hx hst (fun b hb => ?_) (F.keeps fun _ _ e => Heap.get?_push_of_some _ e) (N.grown fun _ _ e => Heap.get?_push_of_some _ e) (Nat.ne_of_lt F.ns.lt) (next_is_new F) (fun p hp => Nat.ne_of_lt (Heap.lt_size (N p hp).1)) trivial (R _) ?_
  · rw [List.mem_singleton.mp hb]
    show s₁.heap.objs.size < (s₁.heap.push _).objs.size
    rw [Heap.size_push]; exact Nat.lt_succ_self _
  · intro D C h tk m' ys news' F' N' o1 hn hC₀ hD₀ hCL hDL hCD offC fin
    refine ⟨m', hn, fun h'' hs'' => fin D h'' tk (F'.change hs'' hCL hC₀) (fun p hp => ?_) o1⟩
    refine ⟨hs''.extBut _ _ ?_ (N' p hp).1, (N' p hp).2⟩
    rcases List.mem_cons.mp hp with rfl | hp
    · exact Ne.symm hCD
    · exact offC p hp

theorem ListComp_ST {ct elt iter : Expr} {x : Str} {px : Pos} {scope : Scope} {cl : List (Str × Addr)} {pos : Pos} {Q : Value → Shared → Prop} (_F₀ : Fr h₀ L s.heap m)
    (hclos : closureFor scope env = pure cl) (hcell : ∀ y ∈ scope.names, y.2 ≠ .cell) (hkind : scope.kind = .function)
    (hnames : ∀ y ∈ scope.names, y.2 = .local → scope.names.lookup y.1 = some .local) (hx : scope.names.lookup x = some .local)
    (h : wpAny (model prog w) A (eval iter env) (SrcST prog w A h₀ L m env ct elt x scope cl (fun s₂ => FinE h₀ L m s₂ Q)) E s)
    (hs : ∀ x, foldedSetIterable iter env x = pure x := by intro _; rfl) :
    wpAny (model prog w) A (eval (.ListComp elt [⟨.Name x px, iter, [ct], 0⟩] scope pos) env) Q E s := by
  rw [eval_ListComp]
  refine wpAny_comprehension_free (use := none) rfl hs hclos hkind hnames (wpAny_mono h (fun xv s₁ h₁ => ?_) fun _ _ e => e)
  obtain ⟨z, t, news, rfl, hh, F, N, hsz, R⟩ := h₁
  refine str_walks (h₀ := h₀) (L := L) hh fun o St W hIo hSt hst => ?_
  refine block_T W hsz hIo hSt hcell hkind hx hst (fun b hb => ?_) (F.keeps fun _ _ e => Heap.get?_push_of_some _ e) (N.grown fun _ _ e => Heap.get?_push_of_some _ e) (Nat.ne_of_lt F.ns.lt) (next_is_new F) (fun p hp => Nat.ne_of_lt (Heap.lt_size (N p hp).1)) trivial (R _) ?_
  · rw [List.mem_singleton.mp hb]
    show s₁.heap.objs.size < (s₁.heap.push _).objs.size
    rw [Heap.size_push]; exact Nat.lt_succ_self _
  · intro D C h tk m' ys news' F' N' o1 hn hC₀ hD₀ hCL hDL hCD offC fin
    refine ⟨m', hn, fun h'' hs'' => fin D h'' tk (F'.change hs'' hCL hC₀) (fun p hp => ?_) o1⟩
    refine ⟨hs''.extBut _ _ ?_ (N' p hp).1, (N' p hp).2⟩
    rcases List.mem_cons.mp hp with rfl | hp
    · exact Ne.symm hCD
    · exact offC p hp

theorem Assign_ListComp_S {elt iter : Expr} {x y : Str} {px py : Pos} {scope : Scope} {cl : List (Str × Addr)} {pos spos : Pos} {Q : Flow → Shared → Prop} (_F₀ : Fr h₀ L s.heap m) (hLe : env.locals = L)
    (hsw : swapsWith (.ListComp elt [⟨.Name x px, iter, [], 0⟩] scope pos) (some (.Name y py)) spos.line env = pure true)
    (hclos : closureFor scope env = pure cl) (hcell : ∀ z ∈ scope.names, z.2 ≠ .cell) (hkind : scope.kind = .function)
    (hnames : ∀ z ∈ scope.names, z.2 = .local → scope.names.lookup z.1 = some .local) (hx : scope.names.lookup x = some .local)
    (hy : env.kindOf y = some .local) (hp : (env.scope.kind == .class || (env.scope.kind == .module && env.locals != env.globals)) = false)
    (h : wpAny (model prog w) A (eval iter env) (SrcS prog w A h₀ L m env elt x scope cl (fun s₂ => FinA h₀ L m s₂ y Q)) E s)
    (hs : ∀ x, foldedSetIterable iter env x = pure x := by intro _; rfl) :
    wpAny (model prog w) A (exec (.Assign [.Name y py] (.ListComp elt [⟨.Name x px, iter, [], 0⟩] scope pos) spos) env) Q E s := by
  subst hLe
  rw [exec_Assign_Name_used _ _ _ _ hsw]
  refine wpAny_bind (wpAny_standAt (wpAny_bind ?_))
  show wpAny _ A (do let _ ← comprehension (.ListComp elt [⟨.Name x px, iter, [], 0⟩] scope pos) scope env _ (newList []) false (eval iter env) (some (assign (.Name y py) env))) _ _ s
  refine wpAny_bind (wpAny_mono (wpAny_comprehension_free (use := some (assign (.Name y py) env)) (Q := fun _ s' => Q .next s') rfl hs hclos hkind hnames
    (wpAny_mono h (fun xv s₁ h₁ => ?_) fun _ _ e => e)) (fun _ s' hq => wpAny_pure (wpAny_pure hq)) fun _ _ e => e)
  obtain ⟨z, t, news, rfl, hh, F, N, hsz, R⟩ := h₁
  refine str_walks (h₀ := h₀) (L := env.locals) hh fun o St W hIo hSt hst => ?_
  refine block_U W hsz hIo hSt hcell hkind hx hst (fun b hb => ?_) (F.keeps fun _ _ e => Heap.get?_push_of_some _ e) (N.grown fun _ _ e => Heap.get?_push_of_some _ e) (Nat.ne_of_lt F.ns.lt) (next_is_new F) (fun p hp => Nat.ne_of_lt (Heap.lt_size (N p hp).1)) trivial (R _) ?_
  · rw [List.mem_singleton.mp hb]
    show s₁.heap.objs.size < (s₁.heap.push _).objs.size
    rw [Heap.size_push]; exact Nat.lt_succ_self _
  · intro D C h' tk m' ys news' F' N' o1 hn hC₀ hD₀ hCL hDL hCD offC fin
    show wpAny _ A (assign (.Name y py) env (.ref D)) _ _ _
    refine wpAny_assign_Name (wpAny_storeName_local hy F'.ns (fun h₂ hn₂ hs₂ => ?_) hp)
    have hL₀ : h₀.get? env.locals = none := Heap.get?_none_of_le F'.above
    have F₂ : Fr h₀ env.locals h₂ (fun z => if z = y then some (.ref D) else m z) := ⟨hn₂, fun b o e => hs₂.extBut b o (fun q => by rw [q, hL₀] at e; cases e) (F'.keep b o e), F'.above⟩
    refine ⟨m', hn.sameBut hs₂ hCL, fun h'' hs'' => fin D h'' _ (F₂.change hs'' hCL hC₀) (fun p hp => ?_) o1⟩
    have z : h₂.get? p.1 = some p.2 := hs₂.extBut _ _ (N' p hp).2.1 (N' p hp).1
    refine ⟨hs''.extBut _ _ ?_ z, (N' p hp).2⟩
    rcases List.mem_cons.mp hp with rfl | hp
    · exact Ne.symm hCD
    · exact offC p hp

/-- a comprehension with a test, turn by turn -/
theorem compT_all {ct elt : Expr} {x : Str} {scope : Scope} {cl : List (Str × Addr)} {S : List (Addr × Obj) → Prop} {P : Nat → Value → Prop} {Fin : List Value → List (Addr × Obj) → Prop} {news : List (Addr × Obj)} {n : Nat} (q : Nat → Bool) (R : Value → Prop) (hS : S news)
    (turn : ∀ i v I oI C oC D m₂ ys h tk (E' : Value → Shared → Prop), i < n → P i v → NsObj oC m₂ → m₂ x = some v → Fr h₀ L h m → News h₀ L h ((I, oI) :: (C, oC) :: (D, lst ys) :: news) → Off3 I C D news →
      wpAny (model prog w) A (isTrue ct (compEnvC scope cl C env) (eval ct (compEnvC scope cl C env))) (fun ok s₂ => ok = q i ∧ EltEnd { s with heap := h, toks := tk } (fun _ => True) .none s₂) E' { s with heap := h, toks := tk })
    (elts : ∀ i v I oI C oC D m₂ ys h tk (E' : Value → Shared → Prop), i < n → P i v → q i = true → NsObj oC m₂ → m₂ x = some v → Fr h₀ L h m → News h₀ L h ((I, oI) :: (C, oC) :: (D, lst ys) :: news) → Off3 I C D news →
      wpAny (model prog w) A (eval elt (compEnvC scope cl C env)) (EltEnd { s with heap := h, toks := tk } R) E' { s with heap := h, toks := tk })
    (fin : ∀ ys : List Value, ys.length = ((List.range n).filter q).length → (∀ y ∈ ys, R y) → Fin ys news) : CompRestT prog w A h₀ L m env ct elt x scope cl s S P Fin n 0 [] news := by
  have key : ∀ (j i : Nat) (ys : List Value), i + j = n → ys.length = ((List.range i).filter q).length → (∀ y ∈ ys, R y) → CompRestT prog w A h₀ L m env ct elt x scope cl s S P Fin j i ys news := by
    intro j
    induction j with
    | zero =>
      intro i ys hi hy hR
      have : i = n := by lia
      subst this
      exact CompRestT.zero (fin ys hy hR)
    | succ j ih =>
      intro i ys hi hy hR
      refine CompRestT.succ ?_
      intro v I oI C oC D m₂ h tk E' hv hC hx F N off ne
      refine wpAny_mono (turn i v I oI C oC D m₂ ys h tk E' (by lia) hv hC hx F N off) (fun ok s₂ hq => ?_) fun _ _ e => e
      obtain ⟨hok, h', tk', rfl, st, _⟩ := hq
      cases ok with
      | true =>
        simp only [if_true]
        have N' := N.grown st
        refine wpAny_mono (elts i v I oI C oC D m₂ ys h' tk' E' (by lia) hv hok.symm hC hx (F.keeps st) N' off) (fun y s₃ hq => ?_) fun _ _ e => e
        obtain ⟨h2, tk2, rfl, st2, hRy⟩ := hq
        refine ⟨h2, tk2, news, rfl, (F.keeps st).keeps st2, N'.grown st2, off, hS, ih (i + 1) (ys ++ [y]) (by lia) ?_ fun z hz => (List.mem_append.mp hz).elim (hR z) fun hz => List.mem_singleton.mp hz ▸ hRy⟩
        rw [List.length_append, List.length_singleton, List.range_succ, List.filter_append, List.length_append, hy]
        simp [← hok]
      | false =>
        simp only [Bool.false_eq_true, if_false]
        refine ⟨h', tk', news, rfl, F.keeps st, N.grown st, off, hS, ih (i + 1) ys (by lia) ?_ hR⟩
        rw [List.range_succ, List.filter_append, List.length_append, hy]
        simp [← hok]
  exact key n 0 [] (by lia) rfl (fun _ h => absurd h List.not_mem_nil)
end

theorem strsAre_of_all {ys : List Value} (h : ∀ y ∈ ys, ∃ x t, y = .str x t ∧ PyData.strOk x = true) : ∃ xs : List Str, StrsAre ys xs ∧ xs.length = ys.length ∧ ∀ x ∈ xs, PyData.strOk x = true := by
  induction ys with
  | nil => exact ⟨[], .nil, rfl, fun _ h => absurd h List.not_mem_nil⟩
  | cons y r ih =>
    obtain ⟨xs, hx, hl, ho⟩ := ih fun y hy => h y (.tail _ hy)
    obtain ⟨x, t, rfl, hok⟩ := h y (.head _)
    exact ⟨x :: xs, .cons x t hx, by simp [hl], fun z hz => (List.mem_cons.mp hz).elim (fun e => e ▸ hok) (ho z)⟩
theorem intsAre_of_all {ys : List Value} (h : ∀ y ∈ ys, ∃ x t, y = .int x t) : ∃ xs : List Int, IntsAre ys xs ∧ xs.length = ys.length := by
  induction ys with
  | nil => exact ⟨[], .nil, rfl⟩
  | cons y r ih =>
    obtain ⟨xs, hx, hl⟩ := ih fun y hy => h y (.tail _ hy)
    obtain ⟨x, t, rfl⟩ := h y (.head _)
    exact ⟨x :: xs, .cons x t hx, by simp [hl]⟩

theorem reads_strs {h : Heap} : ∀ {vs : List Value} {xs : List Str}, StrsAre vs xs → ReadsAll h vs (xs.map PyData.str) []
  | _, _, .nil => .nil
  | _, _, .cons k t r => by
    have := ReadsAll.cons (Reads.str (h := h) k t) (reads_strs (h := h) r)
    simpa using this
theorem canLay_strs : ∀ {xs : List Str}, (∀ x ∈ xs, PyData.strOk x = true) → PyData.canLayAll0 (xs.map PyData.str) = true
  | [], _ => by simp [PyData.canLayAll0]
  | x :: r, h => by simp [PyData.canLayAll0, PyData.canLay0, h x (.head _), canLay_strs (xs := r) fun y hy => h y (.tail _ hy)]
theorem depth_strs : ∀ xs : List Str, PyData.depthAll (xs.map PyData.str) ≤ 1
  | [] => by simp [PyData.depthAll]
  | x :: r => by
    have := depth_strs r
    simp only [List.map_cons, PyData.depthAll, PyData.depth]
    lia
theorem shaped_strs {xs : List Str} (h : ∀ x ∈ xs, PyData.strOk x = true) : SeqAt.shaped (.list (xs.map PyData.str)) = true := by
  have h1 := depth_strs xs
  have h2 : PyData.depth (.list (xs.map PyData.str)) ≤ 64 := by simp only [PyData.depth]; lia
  show (PyData.canLay0 (.list (xs.map PyData.str)) && decide (PyData.depth (.list (xs.map PyData.str)) ≤ 64)) = true
  rw [Bool.and_eq_true]
  exact ⟨by simp only [PyData.canLay0]; exact canLay_strs h, decide_eq_true h2⟩
theorem noMix_strs : ∀ xs ys : List Str, SeqAt.noMixAll (xs.map PyData.str) (ys.map PyData.str) = true
  | [], [] => by simp [SeqAt.noMixAll]
  | [], _ :: _ => by simp [SeqAt.noMixAll]
  | _ :: _, [] => by simp [SeqAt.noMixAll]
  | _ :: r, _ :: q => by simp [SeqAt.noMixAll, SeqAt.noMix, noMix_strs r q]
theorem same_strs : ∀ xs ys : List Str, PySem.Spec.sameAll (xs.map PyData.str) (ys.map PyData.str) = decide (xs = ys)
  | [], [] => by simp [PySem.Spec.sameAll]
  | [], _ :: _ => by simp [PySem.Spec.sameAll]
  | _ :: _, [] => by simp [PySem.Spec.sameAll]
  | n :: r, k :: q => by
    simp only [List.map_cons, PySem.Spec.sameAll, PySem.Spec.same, same_strs r q]
    by_cases h : n = k <;> simp [h]
theorem reads_listS {h : Heap} {a : Addr} {vs : List Value} {xs : List Str} (hl : h.IsList a vs.toArray) (hi : StrsAre vs xs) : Reads h (.ref a) (.list (xs.map PyData.str)) [a] := by
  obtain ⟨o, ho, hc, n, hd⟩ := hl
  exact Reads.list ho hc hd (by simpa using reads_strs hi)
section
variable {prog : Program} {w : World} {A : Around} {E : Value → Shared → Prop} {s : Shared}
theorem eq_strsL {a b : Addr} {vs us : List Value} {xs ys : List Str} {Q : Value → Shared → Prop} (hl : s.heap.IsList a vs.toArray) (hi : StrsAre vs xs) (hl' : s.heap.IsList b us.toArray) (hi' : StrsAre us ys) (hx : ∀ x ∈ xs, PyData.strOk x = true) (hy : ∀ x ∈ ys, PyData.strOk x = true) (hu : A.units + 64 < cLine)
    (h : Q (.bool (decide (xs = ys))) s) : wpAny (model prog w) A (compareOp .Eq (.ref a) (.ref b)) Q E s :=
  eq_dataH_same (reads_listS hl hi) (reads_listS hl' hi') (shaped_strs hx) (shaped_strs hy) hu (by simp only [SeqAt.noMix]; exact noMix_strs xs ys) (by simp only [PySem.Spec.same]; rw [same_strs]; exact h)
theorem ne_strsL {a b : Addr} {vs us : List Value} {xs ys : List Str} {Q : Value → Shared → Prop} (hl : s.heap.IsList a vs.toArray) (hi : StrsAre vs xs) (hl' : s.heap.IsList b us.toArray) (hi' : StrsAre us ys) (hx : ∀ x ∈ xs, PyData.strOk x = true) (hy : ∀ x ∈ ys, PyData.strOk x = true) (hu : A.units + 64 < cLine)
    (h : Q (.bool (!decide (xs = ys))) s) : wpAny (model prog w) A (compareOp .NotEq (.ref a) (.ref b)) Q E s :=
  ne_dataH_same (reads_listS hl hi) (reads_listS hl' hi') (shaped_strs hx) (shaped_strs hy) hu (by simp only [SeqAt.noMix]; exact noMix_strs xs ys) (by simp only [PySem.Spec.same]; rw [same_strs]; exact h)
end

theorem strOk_append {a b : Str} (ha : PyData.strOk a = true) (hb : PyData.strOk b = true) : PyData.strOk (a ++ b) = true := by
  unfold PyData.strOk at *
  rw [Str.cps_append, Array.all_append, ha, hb]; rfl
theorem strOk_item {x : Str} {i : Int} (h : PyData.strOk x = true) : PyData.strOk (Txt.item x i) = true := by
  have hc : ∀ c, Txt.charAt x i = some c → c < 0x110000 := by
    intro c e
    unfold Txt.charAt at e
    cases hi : seqIndex? i x.length with
    | none => rw [hi] at e; cases e
    | some k =>
      rw [hi] at e
      have e' : x.cps[k]? = some c := e
      obtain ⟨hk, hv⟩ := Array.getElem?_eq_some_iff.mp e'
      have := Array.all_eq_true.mp h k hk
      rw [hv] at this
      exact of_decide_eq_true this
  unfold Txt.item PyData.strOk
  cases e : Txt.charAt x i with
  | none => simp
  | some c => simp [hc c e]
theorem strOk_one {c : Nat} (h : c < 0x110000) : PyData.strOk ⟨#[c]⟩ = true := by
  unfold PyData.strOk; simp [h]
theorem strOk_sub {x y : Str} (h : PyData.strOk x = true) (hs : ∀ c ∈ y.cps.toList, c ∈ x.cps.toList) : PyData.strOk y = true := by
  unfold PyData.strOk at *
  rw [Array.all_eq_true_iff_forall_mem] at *
  exact fun c hc => h c (Array.mem_toList_iff.mp (hs c (Array.mem_toList_iff.mpr hc)))
end Mine
end

section -- B2
open PySem PySem.W PyProof.Rows PySem.Calls PySem.Spec
set_option maxRecDepth 100000
set_option maxHeartbeats 4000000
namespace Mine
theorem toks_any {α : Type} {M : Model} {A : Around} {t : Sem α} {Q : α → Shared → Prop} {E : Value → Shared → Prop} {h : Heap} {g : Array GenState} {d : Drawn} {tk : Nat} {o : OsState} (x : ∀ k, wpAny M A t Q E ⟨h, g, d, k, o⟩) : wpAny M A t Q E ⟨h, g, d, tk, o⟩ := x tk
/-- a goal that no line of the walk takes -/
noncomputable def Stop (P : Prop) : Prop := P
theorem Stop.go {P : Prop} (h : Stop P) : P := h
/-- what stands behind a part of the walk, under a name of its own -/
noncomputable def Cont {α : Type} (C : α → Shared → Prop) (v : α) (s : Shared) : Prop := C v s
theorem Cont.go {α : Type} {C P : α → Shared → Prop} {v : α} {s : Shared} (h : ∀ v s, P v s → C v s) (x : P v s) : Cont C v s := h v s x
theorem execs_c {M : Model} {A : Around} {env : Env} {st : Stmt} {rest : List Stmt} {Q : Flow → Shared → Prop} {E : Value → Shared → Prop} {s : Shared}
    (h : ∀ C : Flow → Shared → Prop, (∀ fl s', (match fl with | .next => wpAny M A (execs rest env) Q E s' | f => Q f s') → C fl s') → wpAny M A (exec st env) (Cont C) E s) : wpAny M A (execs (st :: rest) env) Q E s :=
  wpAny_execs_cons (h _ fun fl s' x => by cases fl <;> exact x)
theorem if_c {M : Model} {A : Around} {env : Env} {test : PySem.Expr} {body orelse : List Stmt} {pos : Pos} {Q : Flow → Shared → Prop} {E : Value → Shared → Prop} {s : Shared}
    (h : ∀ C : Bool → Shared → Prop, (∀ b s', ite (b = true) (wpAny M A (execs body env) Q E s') (wpAny M A (execs orelse env) Q E s') → C b s') → wpAny M A (isTrue test env (eval test env)) (Cont C) E s) : wpAny M A (exec (.If test body orelse pos) env) Q E s :=
  wpAny_If (h _ fun _ _ x => x)
-- and-words taken apart at once (one copy of the goal)
theorem a4 {p0 p1 p2 p3 G : Prop} (h : p0 ∧ p1 ∧ p2 ∧ p3) (x : p0 → p1 → p2 → p3 → G) : G := x h.1 h.2.1 h.2.2.1 h.2.2.2
theorem a6 {p0 p1 p2 p3 p4 p5 G : Prop} (h : p0 ∧ p1 ∧ p2 ∧ p3 ∧ p4 ∧ p5) (x : p0 → p1 → p2 → p3 → p4 → p5 → G) : G := x h.1 h.2.1 h.2.2.1 h.2.2.2.1 h.2.2.2.2.1 h.2.2.2.2.2
theorem a7 {p0 p1 p2 p3 p4 p5 p6 G : Prop} (h : p0 ∧ p1 ∧ p2 ∧ p3 ∧ p4 ∧ p5 ∧ p6) (x : p0 → p1 → p2 → p3 → p4 → p5 → p6 → G) : G := x h.1 h.2.1 h.2.2.1 h.2.2.2.1 h.2.2.2.2.1 h.2.2.2.2.2.1 h.2.2.2.2.2.2
theorem a8 {p0 p1 p2 p3 p4 p5 p6 p7 G : Prop} (h : p0 ∧ p1 ∧ p2 ∧ p3 ∧ p4 ∧ p5 ∧ p6 ∧ p7) (x : p0 → p1 → p2 → p3 → p4 → p5 → p6 → p7 → G) : G := x h.1 h.2.1 h.2.2.1 h.2.2.2.1 h.2.2.2.2.1 h.2.2.2.2.2.1 h.2.2.2.2.2.2.1 h.2.2.2.2.2.2.2
theorem a9 {p0 p1 p2 p3 p4 p5 p6 p7 p8 G : Prop} (h : p0 ∧ p1 ∧ p2 ∧ p3 ∧ p4 ∧ p5 ∧ p6 ∧ p7 ∧ p8) (x : p0 → p1 → p2 → p3 → p4 → p5 → p6 → p7 → p8 → G) : G := x h.1 h.2.1 h.2.2.1 h.2.2.2.1 h.2.2.2.2.1 h.2.2.2.2.2.1 h.2.2.2.2.2.2.1 h.2.2.2.2.2.2.2.1 h.2.2.2.2.2.2.2.2
theorem a11 {p0 p1 p2 p3 p4 p5 p6 p7 p8 p9 p10 G : Prop} (h : p0 ∧ p1 ∧ p2 ∧ p3 ∧ p4 ∧ p5 ∧ p6 ∧ p7 ∧ p8 ∧ p9 ∧ p10) (x : p0 → p1 → p2 → p3 → p4 → p5 → p6 → p7 → p8 → p9 → p10 → G) : G := x h.1 h.2.1 h.2.2.1 h.2.2.2.1 h.2.2.2.2.1 h.2.2.2.2.2.1 h.2.2.2.2.2.2.1 h.2.2.2.2.2.2.2.1 h.2.2.2.2.2.2.2.2.1 h.2.2.2.2.2.2.2.2.2.1 h.2.2.2.2.2.2.2.2.2.2
theorem a12 {p0 p1 p2 p3 p4 p5 p6 p7 p8 p9 p10 p11 G : Prop} (h : p0 ∧ p1 ∧ p2 ∧ p3 ∧ p4 ∧ p5 ∧ p6 ∧ p7 ∧ p8 ∧ p9 ∧ p10 ∧ p11) (x : p0 → p1 → p2 → p3 → p4 → p5 → p6 → p7 → p8 → p9 → p10 → p11 → G) : G := x h.1 h.2.1 h.2.2.1 h.2.2.2.1 h.2.2.2.2.1 h.2.2.2.2.2.1 h.2.2.2.2.2.2.1 h.2.2.2.2.2.2.2.1 h.2.2.2.2.2.2.2.2.1 h.2.2.2.2.2.2.2.2.2.1 h.2.2.2.2.2.2.2.2.2.2.1 h.2.2.2.2.2.2.2.2.2.2.2
theorem a13 {p0 p1 p2 p3 p4 p5 p6 p7 p8 p9 p10 p11 p12 G : Prop} (h : p0 ∧ p1 ∧ p2 ∧ p3 ∧ p4 ∧ p5 ∧ p6 ∧ p7 ∧ p8 ∧ p9 ∧ p10 ∧ p11 ∧ p12) (x : p0 → p1 → p2 → p3 → p4 → p5 → p6 → p7 → p8 → p9 → p10 → p11 → p12 → G) : G := x h.1 h.2.1 h.2.2.1 h.2.2.2.1 h.2.2.2.2.1 h.2.2.2.2.2.1 h.2.2.2.2.2.2.1 h.2.2.2.2.2.2.2.1 h.2.2.2.2.2.2.2.2.1 h.2.2.2.2.2.2.2.2.2.1 h.2.2.2.2.2.2.2.2.2.2.1 h.2.2.2.2.2.2.2.2.2.2.2.1 h.2.2.2.2.2.2.2.2.2.2.2.2
theorem a14 {p0 p1 p2 p3 p4 p5 p6 p7 p8 p9 p10 p11 p12 p13 G : Prop} (h : p0 ∧ p1 ∧ p2 ∧ p3 ∧ p4 ∧ p5 ∧ p6 ∧ p7 ∧ p8 ∧ p9 ∧ p10 ∧ p11 ∧ p12 ∧ p13) (x : p0 → p1 → p2 → p3 → p4 → p5 → p6 → p7 → p8 → p9 → p10 → p11 → p12 → p13 → G) : G := x h.1 h.2.1 h.2.2.1 h.2.2.2.1 h.2.2.2.2.1 h.2.2.2.2.2.1 h.2.2.2.2.2.2.1 h.2.2.2.2.2.2.2.1 h.2.2.2.2.2.2.2.2.1 h.2.2.2.2.2.2.2.2.2.1 h.2.2.2.2.2.2.2.2.2.2.1 h.2.2.2.2.2.2.2.2.2.2.2.1 h.2.2.2.2.2.2.2.2.2.2.2.2.1 h.2.2.2.2.2.2.2.2.2.2.2.2.2
theorem a15 {p0 p1 p2 p3 p4 p5 p6 p7 p8 p9 p10 p11 p12 p13 p14 G : Prop} (h : p0 ∧ p1 ∧ p2 ∧ p3 ∧ p4 ∧ p5 ∧ p6 ∧ p7 ∧ p8 ∧ p9 ∧ p10 ∧ p11 ∧ p12 ∧ p13 ∧ p14) (x : p0 → p1 → p2 → p3 → p4 → p5 → p6 → p7 → p8 → p9 → p10 → p11 → p12 → p13 → p14 → G) : G := x h.1 h.2.1 h.2.2.1 h.2.2.2.1 h.2.2.2.2.1 h.2.2.2.2.2.1 h.2.2.2.2.2.2.1 h.2.2.2.2.2.2.2.1 h.2.2.2.2.2.2.2.2.1 h.2.2.2.2.2.2.2.2.2.1 h.2.2.2.2.2.2.2.2.2.2.1 h.2.2.2.2.2.2.2.2.2.2.2.1 h.2.2.2.2.2.2.2.2.2.2.2.2.1 h.2.2.2.2.2.2.2.2.2.2.2.2.2.1 h.2.2.2.2.2.2.2.2.2.2.2.2.2.2
/-- ways that meet again: what stands behind is shown once -/
noncomputable def Met {α : Type} (V : α → Prop) (s : Shared) (v : α) (s' : Shared) : Prop := V v ∧ ∃ k, s' = { s with toks := k }
theorem Met.go {α : Type} {V : α → Prop} {h : Heap} {g : Array GenState} {d : Drawn} {t k : Nat} {o : OsState} {v : α} (x : V v) : Met V ⟨h, g, d, t, o⟩ v ⟨h, g, d, k, o⟩ := ⟨x, k, rfl⟩
theorem meet {α : Type} {M : Model} {A : Around} {x : Sem α} {Q : α → Shared → Prop} {E : Value → Shared → Prop} {s : Shared} (V : α → Prop) (hQ : ∀ v k, V v → Q v { s with toks := k }) (hx : wpAny M A x (Met V s) E s) : wpAny M A x Q E s :=
  wpAny_mono hx (fun v s' h => by obtain ⟨h1, k, rfl⟩ := h; exact hQ v k h1) fun _ _ h => h
noncomputable def MetK (P : Prop) (g : Heap) (L : Addr) (m : Str → Option Value) (news : List (Addr × Obj)) (s s' : Shared) : Prop := P ∧ ∃ h k, s' = { s with heap := h, toks := k } ∧ Fr g L h m ∧ News g L h news
theorem MetK.go {P : Prop} {g : Heap} {L : Addr} {m : Str → Option Value} {news : List (Addr × Obj)} {h h' : Heap} {gs : Array GenState} {d : Drawn} {t k : Nat} {o : OsState} (F : Fr g L h' m) (N : News g L h' news) (x : P) : MetK P g L m news ⟨h, gs, d, t, o⟩ ⟨h', gs, d, k, o⟩ := ⟨x, h', k, rfl, F, N⟩
theorem if_else {M : Model} {A : Around} {env : Env} {test : PySem.Expr} {body orelse : List Stmt} {pos : Pos} {Q : Flow → Shared → Prop} {E : Value → Shared → Prop} {s : Shared} {g : Heap} {L : Addr} {m : Str → Option Value} {news : List (Addr × Obj)} (P : Prop)
    (F : Fr g L s.heap m) (N : News g L s.heap news) (he : P → ∀ h k, Fr g L h m → News g L h news → wpAny M A (execs orelse env) Q E { s with heap := h, toks := k })
    (ht : wpAny M A (isTrue test env (eval test env)) (fun b s' => if b = true then wpAny M A (execs body env) Q E s' else MetK P g L m news s s') E s) : wpAny M A (exec (.If test body orelse pos) env) Q E s :=
  wpAny_If (wpAny_mono ht (fun b s' h => by
    cases b
    · obtain ⟨h1, h', k, rfl, f, n⟩ := h; exact he h1 h' k f n
    · exact h) fun _ _ h => h)
section
variable {prog : Program} {w : World} {A : Around} {E : Value → Shared → Prop} {s : Shared} {value slice : PySem.Expr} {l : Addr} {vs : List Value} {xs : List Str} {v : Value} {u : Tok} {k : Int}
theorem strs_snoc {vs : List Value} {xs : List Str} {x : Str} (h : StrsAre vs (xs ++ [x])) : ∃ us t, vs = us ++ [.str x t] ∧ StrsAre us xs := by
  induction xs generalizing vs with
  | nil =>
    cases h with
    | cons _ t r => cases r; exact ⟨[], t, rfl, .nil⟩
  | cons y r ih =>
    cases h with
    | cons _ t h' =>
      obtain ⟨us, t', rfl, hu⟩ := ih h'
      exact ⟨.str y t :: us, t', rfl, .cons y t hu⟩
theorem item_neg1 {Q : Value → Shared → Prop} (hl : s.heap.IsList l (vs ++ [v]).toArray) (h : Q v s)
    (hs : subscripted slice false (.ref l) (.int (-1) u) = operate [.ref l, .int (-1) u] (getItem (.ref l) (.int (-1) u)) := by with_unfolding_all rfl) :
    wpAny (model prog w) A (subscriptTail value slice (.ref l) (.int (-1) u)) Q E s :=
  tail_any hl.typeIs slot_list_getitem.lookup (wpAny_getItem_list_neg hl (by decide) (by simp only [List.size_toArray, List.length_append, List.length_singleton]; lia) (by decide) (by
    have e : ((-1 : Int) + ((vs ++ [v]).toArray.size : Nat)).toNat = vs.length := by simp only [List.size_toArray, List.length_append, List.length_singleton]; lia
    rw [e]; simp) h) hs
theorem item_str {Q : Value → Shared → Prop} (hl : s.heap.IsList l vs.toArray) (hi : StrsAre vs xs) (h0 : 0 ≤ k) (h1 : k < xs.length) (hf : k < 2 ^ 63) (h : ∀ t, Q (.str (xs.getD k.toNat Str.empty) t) s)
    (hs : subscripted slice false (.ref l) (.int k u) = operate [.ref l, .int k u] (getItem (.ref l) (.int k u)) := by with_unfolding_all rfl) :
    wpAny (model prog w) A (subscriptTail value slice (.ref l) (.int k u)) Q E s := by
  have hb : k.toNat < xs.length := by lia
  obtain ⟨t, e⟩ := hi.get k.toNat xs[k.toNat] (List.getElem?_eq_getElem hb)
  have e2 : xs.getD k.toNat Str.empty = xs[k.toNat] := by rw [List.getD_eq_getElem?_getD, List.getElem?_eq_getElem hb]; rfl
  exact tail_any hl.typeIs slot_list_getitem.lookup (wpAny_getItem_list hl h0 hf (by rw [List.getElem?_toArray, e]) (by rw [← e2]; exact h t)) hs
theorem len_strsL {Q : Value → Shared → Prop} (hl : s.heap.IsList l vs.toArray) (hi : StrsAre vs xs) (hn : xs.length ≤ 1000) (h : ∀ t k, Q (.int (xs.length : Int) t) { s with toks := k }) : wpAny (model prog w) A (call (.builtin "len") [.ref l]) Q E s := by
  have e : vs.toArray.size = xs.length := by rw [List.size_toArray]; exact hi.length
  refine PyProof.Rows.len_list hl (by rw [e]; lia) ?_
  rw [e]
  exact h _ _
theorem strs_size (hi : StrsAre vs xs) (h : xs.length ≤ 1000) : vs.toArray.size ≤ sizeLine := by
  rw [List.size_toArray, hi.length, sizeLine_eq]; lia
theorem rng_size (n : Nat) : Builtin.Range.rangeSize 0 (n : Int) 1 = ((n : Nat) : Int) := by
  unfold Builtin.Range.rangeSize
  simp only [show (1 : Int) > 0 by decide, if_true]
  split <;> lia
theorem rng_small {n : Nat} (h : n ≤ 100000) : Builtin.Range.small 0 (n : Int) 1 = true := small_one (by decide) (by decide) (by lia) (by lia)
theorem pick_init (us : List Value) (v : Value) : W.kms_pick (us ++ [v]).toArray.toList none (some (-1)) = us := by
  unfold W.kms_pick W.kms_lo W.kms_hi
  simp
end
end Mine
end

section -- R2
open PySem PySem.W PyProof.Rows PySem.Calls PySem.Spec PySem.Builtin.Re
set_option maxRecDepth 100000
set_option maxHeartbeats 400000
namespace Mine
section
variable {M : Model} {A : Around} {E : Value → Shared → Prop} {s : Shared}
theorem reDrive_eq (turns : Nat) (m : Sre.M) : reDrive (turns + 1) m = if (m.runFor 4).outcome.isSome = true then pure (m.runFor 4) else (rule "sre.turn" >>= fun _ => reDrive turns (m.runFor 4)) := by rw [reDrive]; rfl
theorem Ends.zero {m e : Sre.M} (x : Ends 0 m e) : m = e ∧ e.outcome.isSome = true := by
  obtain ⟨k, hk, hr, he⟩ := x
  have : k = 0 := by lia
  subst this
  exact ⟨hr, he⟩
theorem drive_any (turns : Nat) : ∀ {n : Nat} {m e : Sre.M} {Q : Sre.M → Shared → Prop}, Ends n m e → n ≤ 4 * turns → 0 < turns → Q e s → wpAny M A (reDrive turns m) Q E s := by
  induction turns with
  | zero => intro n m e Q x hn h0 hq; cases h0
  | succ turns ih =>
    intro n m e Q x hn h0 hq
    rw [reDrive_eq]
    have y := x.turn 4
    generalize m.runFor 4 = m' at y ⊢
    cases ho : m'.outcome.isSome with
    | true =>
      rw [if_pos rfl]
      obtain ⟨k, _, hr, _⟩ := y
      rw [runFor_done ho] at hr
      rw [hr]
      exact wpAny_pure hq
    | false =>
      rw [if_neg Bool.false_ne_true]
      refine wpAny_bind (wpAny_rule ?_)
      rcases Nat.eq_zero_or_pos turns with h1 | h1
      · exfalso
        have h2 : n - 4 = 0 := by lia
        rw [h2] at y
        obtain ⟨e1, e2⟩ := y.zero
        rw [e1, e2] at ho
        cases ho
      · exact ih y (by lia) h1 hq
theorem run_any {n : Nat} {m e : Sre.M} {Q : Option Sre.M → Shared → Prop} (x : Ends n m e) (hn : n ≤ 100000)
    (hq : (e.outcome = some .matched ∧ Q (some e) s) ∨ (e.outcome = some .failed ∧ Q none s)) : wpAny M A (reRunToEnd m) Q E s := by
  unfold reRunToEnd
  have hT2 : 100000 ≤ 2 ^ 64 := by lia
  generalize 2 ^ 64 = T at hT2 ⊢
  refine wpAny_bind (drive_any T x (by lia) (by lia) ?_)
  have hloop : ∀ (l : List Nat) (Q' : PUnit → Shared → Prop), Q' ⟨⟩ s → wpAny M A (forIn l PUnit.unit fun i (_ : PUnit) => if e.seen.has i = true then (do rule (Sre.names.getD i ""); pure (ForInStep.yield PUnit.unit)) else pure (ForInStep.yield PUnit.unit)) Q' E s := by
    intro l
    induction l with
    | nil => intro Q' h; rw [List.forIn_nil]; exact wpAny_pure h
    | cons i l ih =>
      intro Q' h
      rw [List.forIn_cons]
      refine wpAny_bind ?_
      split
      · exact wpAny_bind (wpAny_rule (wpAny_pure (ih _ h)))
      · exact wpAny_pure (ih _ h)
  refine wpAny_bind (hloop _ _ ?_)
  rcases hq with ⟨h1, h2⟩ | ⟨h1, h2⟩
  · rw [h1]; exact wpAny_pure h2
  · rw [h1]; exact wpAny_pure h2
end
end Mine
end

section -- R3
open PySem PySem.W PyProof.Rows PySem.Calls PySem.Spec PySem.Builtin.Re
set_option maxRecDepth 100000
set_option maxHeartbeats 400000
namespace Mine
theorem slot_search : Slot "re.Pattern" "search" "re.Pattern.search" :=
  .of (owner := "re.Pattern") (n := "search") (by rw [typeLookup_type, builtinLookup_eq_fast]; kernel_rfl) (by decide +kernel) (by decide +kernel) (by decide +kernel)
    (by first | exact .inl (by decide +kernel) | exact .inr (by decide +kernel)) (by rw [isSubtype_type]; kernel_rfl)
theorem slot_sub : Slot "re.Pattern" "sub" "re.Pattern.sub" :=
  .of (owner := "re.Pattern") (n := "sub") (by rw [typeLookup_type, builtinLookup_eq_fast]; kernel_rfl) (by decide +kernel) (by decide +kernel) (by decide +kernel)
    (by first | exact .inl (by decide +kernel) | exact .inr (by decide +kernel)) (by rw [isSubtype_type]; kernel_rfl)
theorem slot_group : Slot "re.Match" "group" "re.Match.group" :=
  .of (owner := "re.Match") (n := "group") (by rw [typeLookup_type, builtinLookup_eq_fast]; kernel_rfl) (by decide +kernel) (by decide +kernel) (by decide +kernel)
    (by first | exact .inl (by decide +kernel) | exact .inr (by decide +kernel)) (by rw [isSubtype_type]; kernel_rfl)
theorem type_sub : typeOf (.builtin "re.Pattern.sub") = pure (.type "method_descriptor") := by show builtinType _ = _; rw [builtinType_eq_fast]; kernel_rfl
theorem type_group : typeOf (.builtin "re.Match.group") = pure (.type "method_descriptor") := by show builtinType _ = _; rw [builtinType_eq_fast]; kernel_rfl
theorem entry_search : entryFor table "re.Pattern.search" = some Builtin.«re.Pattern.search» := entryFor_of_tree (by kernel_rfl)
theorem entry_sub : entryFor table "re.Pattern.sub" = some Builtin.«re.Pattern.sub» := entryFor_of_tree (by kernel_rfl)
theorem entry_loop : entryFor table "re.Pattern.sub.loop" = some Builtin.«re.Pattern.sub.loop» := entryFor_of_tree (by kernel_rfl)
theorem entry_group : entryFor table "re.Match.group" = some Builtin.«re.Match.group» := entryFor_of_tree (by kernel_rfl)
theorem args_search (a b : Value) : argsOk "re.Pattern.search" ⟨[a, b], []⟩ := by
  unfold argsOk; kernel_rfl
theorem args_sub (a b c : Value) : argsOk "re.Pattern.sub" ⟨[a, b, c], []⟩ := by
  unfold argsOk; kernel_rfl
theorem args_group (a b : Value) : argsOk "re.Match.group" ⟨[a, b], []⟩ := by
  unfold argsOk; kernel_rfl
theorem plain_loop : plainId "re.Pattern.sub.loop" = true := by decide +kernel
end Mine
end

section -- R4
open PySem PySem.W PyProof.Rows PySem.Calls PySem.Spec PySem.Builtin.Re
set_option maxRecDepth 100000
set_option maxHeartbeats 400000
namespace Mine
structure IsPat (h : Heap) (a : Addr) (code : Array Nat) (groups : Nat) : Prop where
  obj : ∃ c v0 f t1 t2 t6 items n oc od osl, h.get? a = some { cls := .type "re.Pattern", dict := none, data := .fields #[v0, .int f t1, .int (groups : Nat) t2, .none, .none, .ref c, .int 0 t6], slots := #[] } ∧
    h.get? c = some { cls := oc, dict := od, data := .seq items n, slots := osl } ∧ (items.map reRawOf).map (·.toNat) = code
theorem IsPat.keeps {h h' : Heap} {a : Addr} {code : Array Nat} {groups : Nat} (x : IsPat h a code groups) (k : ∀ b o, h.get? b = some o → h'.get? b = some o) : IsPat h' a code groups := by
  obtain ⟨c, v0, f, t1, t2, t6, items, n, oc, od, osl, h1, h2, h3⟩ := x.obj
  exact ⟨c, v0, f, t1, t2, t6, items, n, oc, od, osl, k _ _ h1, k _ _ h2, h3⟩
theorem patS (w : World) {h : Heap} (X : (Mine.mk0.heap_1 w.params).In h) : IsPat h 100 codeS 0 :=
  ⟨⟨99, _, _, _, _, _, _, _, _, _, _, X 100 _ rfl, X 99 _ rfl, by decide +kernel⟩⟩
theorem patQ (w : World) {h : Heap} (X : (Mine.mk0.heap_1 w.params).In h) : IsPat h 36 codeQ 0 :=
  ⟨⟨35, _, _, _, _, _, _, _, _, _, _, X 36 _ rfl, X 35 _ rfl, by decide +kernel⟩⟩
theorem patF (w : World) {h : Heap} (X : (Mine.mk0.heap_1 w.params).In h) : IsPat h 62 codeF 1 :=
  ⟨⟨61, _, _, _, _, _, _, _, _, _, _, X 62 _ rfl, X 61 _ rfl, by decide +kernel⟩⟩
section
variable {prog : Program} {w : World} {A : Around} {E : Value → Shared → Prop} {s : Shared}
theorem named1 (id f : String) (v : Value) : reNamed id f ["string", "pos", "endpos"] 1 [v] [] = pure [some v, none, none] := by rfl
theorem raw_items {c : Addr} {items : Array Value} {n : Nat} {oc od osl} {M : Model} {Q : Array Int → Shared → Prop} (h : s.heap.get? c = some { cls := oc, dict := od, data := .seq items n, slots := osl }) (hq : Q (items.map reRawOf) s) : wpAny M A (reRawItems (.ref c)) Q E s := by
  unfold reRawItems
  exact wpAny_bind (wpAny_seqItems h rfl (wpAny_pure hq))
theorem target_any {a : Addr} {x : Str} {t : Tok} {code : Array Nat} {groups : Nat} {M : Model} {Q : ReTarget → Shared → Prop} (hp : IsPat s.heap a code groups)
    (hq : Q { pattern := .ref a, string := .str x t, code, text := x.cps, kind := 0, groups, pos := 0, lim := min (2 ^ 63 - 1) x.cps.size } s) :
    wpAny M A (reTarget "re.Pattern.search" "search" ⟨[.ref a, .str x t], []⟩) Q E s := by
  obtain ⟨c, v0, f, t1, t2, t6, items, n, oc, od, osl, h1, h2, h3⟩ := hp.obj
  unfold reTarget
  show wpAny M A (reNamed "re.Pattern.search" "search" ["string", "pos", "endpos"] 1 [.str x t] [] >>= _) Q E s
  rw [named1]
  refine wpAny_bind (wpAny_pure ?_)
  refine wpAny_bind (wpAny_pure ?_)
  refine wpAny_bind (wpAny_pure ?_)
  refine wpAny_bind (wpAny_fieldsOf h1 rfl ?_)
  refine wpAny_bind (wpAny_of_eq (show reTextOf (.str x t) = pure (x.cps, 0) from rfl) ?_)
  refine wpAny_bind (wpAny_of_eq (show reNoCollectionInside (.str x t) 0 = pure () from rfl) ?_)
  refine wpAny_bind (raw_items h2 ?_)
  refine wpAny_pure ?_
  rw [h3]
  exact hq
noncomputable abbrev spanObj (b e : Nat) : Obj := { cls := .type "tuple", data := .seq #[rawInt b, rawInt e] }
noncomputable abbrev matchObj (string pattern : Value) (pos lim : Nat) (li : Int) (sp : Addr) : Obj := { cls := .type "re.Match", data := .fields #[string, pattern, rawInt pos, rawInt lim, rawInt li, .ref sp] }
theorem newMatch_any {pattern string : Value} {pos lim : Nat} {m : Sre.M} {M : Model} {Q : Value → Shared → Prop}
    (hq : Q (.ref (s.heap.objs.size + 1)) { s with heap := (s.heap.push (spanObj m.start m.handed)).push (matchObj string pattern pos lim m.lastindex s.heap.objs.size) }) :
    wpAny M A (reNewMatch pattern string 0 pos lim m) Q E s := by
  unfold reNewMatch
  show wpAny M A (newTuple [rawInt m.start, rawInt m.handed] >>= fun sp => newFields "re.Match" [string, pattern, rawInt pos, rawInt lim, rawInt m.lastindex, sp]) Q E s
  refine wpAny_bind (wpAny_newTuple ?_)
  unfold newFields
  refine wpAny_newObj_type ?_
  rw [Heap.size_push]
  exact hq
theorem search_any {a : Addr} {x : Str} {t : Tok} {Q : Value → Shared → Prop} (hp : IsPat s.heap a codeS 0) (hx : x.cps.size ≤ 100000)
    (h0 : (∀ i, i < x.cps.size → plainS (x.cps.getD i 0) = true) → Q .none s)
    (h1 : (¬ ∀ i, i < x.cps.size → plainS (x.cps.getD i 0) = true) → ∀ h' r, s.heap.StaysIn h' → Q (.ref r) { s with heap := h' }) :
    wpAny (model prog w) A (call (.builtin "re.Pattern.search") [.ref a, .str x t]) Q E s := by
  have hT : s.TypeIs (.ref a) "re.Pattern" := by
    obtain ⟨c, v0, f, t1, t2, t6, items, n, oc, od, osl, e1, e2, e3⟩ := hp.obj
    exact ⟨_, e1, rfl⟩
  refine wpAny_call_entry slot_search hT entry_search ?_ (args_search _ _)
  unfold Builtin.«re.Pattern.search»
  refine wpAny_bind (target_any hp ?_)
  have hl : min (2 ^ 63 - 1) x.cps.size = x.cps.size := by lia
  rw [hl]
  obtain ⟨e, hE, he⟩ := forS x.cps x.cps.size
  unfold reAnswer
  refine wpAny_bind (run_any hE (by lia) ?_)
  have hn := badAt_none (text := x.cps) (lim := x.cps.size) (fuel := x.cps.size + 1) (s := 0) (by lia)
  cases hb : badAt x.cps x.cps.size (x.cps.size + 1) 0 with
  | none =>
    rw [hb] at he
    exact Or.inr ⟨he, wpAny_pure ⟨_, rfl, h0 fun i hi => hn.mp hb i (Nat.zero_le _) hi⟩⟩
  | some k =>
    rw [hb] at he
    refine Or.inl ⟨he.outcome, wpAny_bind (newMatch_any (wpAny_pure ⟨_, rfl, ?_⟩))⟩
    refine h1 (fun hh => ?_) _ _ (fun b o eb => Heap.get?_push_of_some _ (Heap.get?_push_of_some _ eb))
    rw [hn.mpr fun i _ hi => hh i hi] at hb
    cases hb
end
end Mine
end

section -- R5
open PySem PySem.W PyProof.Rows PySem.Calls PySem.Spec PySem.Builtin.Re
set_option maxRecDepth 100000
set_option maxHeartbeats 400000
namespace Mine
theorem call_of_function : typeLookup (.type "function") "__call__" = pure (some (.builtin "function.__call__")) := by rw [typeLookup_type, builtinLookup_eq_fast]; kernel_rfl
theorem str_no_bytearray : isSubtype (.type "str") (.type "bytearray") = pure false := by rw [isSubtype_type]; kernel_rfl
section
variable {prog : Program} {w : World} {A : Around} {E : Value → Shared → Prop} {s : Shared}
theorem named2 (id f : String) (u v : Value) : reNamed id f ["repl", "string", "count"] 2 [u, v] [] = pure [some u, some v, none] := by rfl
theorem whole_any {a : Addr} {x : Str} {t : Tok} {code : Array Nat} {groups : Nat} {M : Model} {Q : ReTarget → Shared → Prop} (hp : IsPat s.heap a code groups)
    (hq : Q { pattern := .ref a, string := .str x t, code, text := x.cps, kind := 0, groups, pos := 0, lim := x.cps.size } s) :
    wpAny M A (reWholeTarget (.ref a) (.str x t)) Q E s := by
  obtain ⟨c, v0, f, t1, t2, t6, items, n, oc, od, osl, h1, h2, h3⟩ := hp.obj
  unfold reWholeTarget
  refine wpAny_bind (wpAny_fieldsOf h1 rfl ?_)
  refine wpAny_bind (wpAny_of_eq (show reTextOf (.str x t) = pure (x.cps, 0) from rfl) ?_)
  refine wpAny_bind (wpAny_of_eq (show reNoCollectionInside (.str x t) 0 = pure () from rfl) ?_)
  refine wpAny_bind (raw_items h2 ?_)
  refine wpAny_pure ?_
  rw [h3]
  exact hq
theorem notHeld_any {id : String} {x : Str} {t : Tok} {M : Model} {Q : Unit → Shared → Prop} (hq : Q () s) : wpAny M A (reNotHeld id (.str x t)) Q E s := by
  unfold reNotHeld
  refine wpAny_bind (wpAny_isInstance_val (T := "str") rfl str_no_bytearray ?_)
  exact wpAny_pure hq
/-- the call up to its loop -/
theorem sub_any {a f : Addr} {x : Str} {t : Tok} {code : Array Nat} {groups : Nat} {R : Result → Shared → Prop} (hp : IsPat s.heap a code groups) (hf : s.TypeIs (.ref f) "function")
    (h : codeAny (model prog w) A (.builtin "re.Pattern.sub.loop" ⟨[.ref a, .str x t, .ref f, rawInt 1, rawInt 0, rawInt 0, rawInt 0, rawInt 0, .bool false, .ref s.heap.objs.size, .bool false], []⟩) R { s with heap := s.heap.push { cls := .type "list", data := .seq #[] } }) :
    codeAny (model prog w) A (.call (.builtin "re.Pattern.sub") ⟨[.ref a, .ref f, .str x t], []⟩) R s := by
  have hT : s.TypeIs (.ref a) "re.Pattern" := by
    obtain ⟨c, v0, f, t1, t2, t6, items, n, oc, od, osl, e1, e2, e3⟩ := hp.obj
    exact ⟨_, e1, rfl⟩
  refine codeAny_call_builtin slot_sub.plain entry_sub (slot_sub.check _ _ _ _ _ _ _ _ hT (args_sub _ _ _) ?_)
  show wpAny _ _ (reSubstitute "re.Pattern.sub" "sub" false ⟨[.ref a, .ref f, .str x t], []⟩) _ _ _
  unfold reSubstitute
  show wpAny _ _ (reNamed "re.Pattern.sub" "sub" ["repl", "string", "count"] 2 [.ref f, .str x t] [] >>= _) _ _ _
  rw [named2]
  refine wpAny_bind (wpAny_pure ?_)
  refine wpAny_bind (wpAny_pure ?_)
  refine wpAny_bind (wpAny_specialOf hf call_of_function ?_)
  refine wpAny_bind (wpAny_pure ?_)
  refine wpAny_bind (wpAny_pure ?_)
  refine wpAny_bind (wpAny_holding (whole_any hp ?_))
  refine wpAny_bind (notHeld_any ?_)
  refine wpAny_bind (wpAny_newList ?_)
  exact wpAny_pure ⟨plainId_quiet plain_loop _, h⟩
end
end Mine
end

section -- R6
open PySem PySem.W PyProof.Rows PySem.Calls PySem.Spec PySem.Builtin.Re
set_option maxRecDepth 100000
set_option maxHeartbeats 400000
namespace Mine
section
variable {prog : Program} {w : World} {A : Around} {E : Value → Shared → Prop} {s : Shared}
/-- all but l stands -/
noncomputable def Others (l : Addr) (h h' : Heap) : Prop := ∀ b o, b ≠ l → h.get? b = some o → h'.get? b = some o
theorem Others.refl (l : Addr) (h : Heap) : Others l h h := fun _ _ _ e => e
theorem Others.trans {l : Addr} {a b c : Heap} (x : Others l a b) (y : Others l b c) : Others l a c := fun k o n e => y k o n (x k o n e)
theorem Others.of_stays {l : Addr} {h h' : Heap} (x : h.StaysIn h') : Others l h h' := fun k o _ e => x k o e
theorem push_any {l : Addr} {vs : List Value} {v : Value} {M : Model} {Q : Unit → Shared → Prop} (hl : s.heap.IsList l vs.toArray) (hn : vs.length ≤ 10000)
    (hq : ∀ h', h'.IsList l (vs ++ [v]).toArray → Others l s.heap h' → Q () { s with heap := h' }) : wpAny M A (updateSeq l (·.push v)) Q E s := by
  obtain ⟨o, ho, hc, n, hd⟩ := hl
  have hz : vs.toArray.size ≤ sizeLine := by rw [List.size_toArray, sizeLine_eq]; lia
  refine wpAny_updateSeq ho hd (hq _ ?_ ?_) hz (by rw [Array.size_push]; lia)
  · obtain ⟨n', hd'⟩ := Obj.data_mapSeq hd (·.push v)
    refine ⟨_, Heap.get?_update_self _ ho (Obj.isFreed_of_seq hd'), (Obj.cls_mapSeq ..).trans hc, n', ?_⟩
    rw [hd']; simp
  · intro b o' hb e
    exact ((Heap.SameBut.update ..).2 b hb).trans e
/-- what is left behind the last match -/
noncomputable def tailQ (x : Str) (start : Nat) : List Str := if start < x.cps.size then [⟨x.cps.extract start x.cps.size⟩] else []
theorem slice_any {x : Str} {b e : Nat} {M : Model} {Q : Value → Shared → Prop} (hx : x.cps.size ≤ 100000) (hq : ∀ t k, Q (.str ⟨x.cps.extract b e⟩ t) { s with toks := k }) : wpAny M A (reSlice x.cps 0 b e) Q E s := by
  show wpAny M A (mkStr ⟨x.cps.extract b e⟩) Q E s
  exact wpAny_mkStr (hq _ _) (by show (x.cps.extract b e).size ≤ _; rw [Array.size_extract, sizeLine_eq]; lia)
theorem join_end {B : Around} {l : Addr} {vs : List Value} {xs : List Str} {R : Result → Shared → Prop} (hl : s.heap.IsList l vs.toArray) (hi : StrsAre vs xs) (hsum : (xs.map (·.length)).sum ≤ 1000000)
    (hR : ∀ t' k, R (.ok (.ret (.str (Txt.join (Str.ofString "") xs) t'))) { s with toks := k }) (n : Int) (x : Str) (hx : x.cps.size ≤ 100000) :
    wpAny (model prog w) B (do
      let joiner ← reSlice x.cps 0 0 0
      let text ← if ((← seqItems? (.ref l)).getD #[]).isEmpty then pure joiner else call (.builtin (if (0 : Nat) == 0 then "str.join" else "bytes.join")) [joiner, .ref l]
      if false = true then ret (← holding [text] do newTuple [text, ← mkInt n]) else ret text)
      (fun fin s' => match fin with | .done f => R (.ok f) s' | .again c' => c'.quiet = true ∧ codeAny (model prog w) A c' R s') (fun e s' => R (.error e) s') s := by
  have ex : (⟨x.cps.extract 0 0⟩ : Str) = Str.ofString "" := by
    rw [Array.extract_eq_empty_of_le (by lia)]; rfl
  refine wpAny_bind (slice_any hx fun t k => ?_)
  rw [ex]
  obtain ⟨o, ho, hc, nn, hd⟩ := id hl
  refine wpAny_bind (wpAny_seqItems (s := { s with toks := k }) ho hd ?_)
  cases xs with
  | nil =>
    cases hi
    refine wpAny_bind (wpAny_pure (wpAny_pure ?_))
    exact hR t k
  | cons y ys =>
    have he : (Option.getD (some vs.toArray) #[]).isEmpty = false := by cases hi; rfl
    rw [he]
    refine wpAny_bind ?_
    show wpAny _ _ (call (.builtin "str.join") [.str (Str.ofString "") t, .ref l]) _ _ _
    refine join_list (s := { s with toks := k }) hl hi (by show _ + _ * 0 ≤ _; lia) fun t' k' => wpAny_pure ?_
    exact hR t' k'
theorem wpAny_of_ite_true {α : Type} {M : Model} {c : Prop} [Decidable c] {a b : Sem α} {Q : α → Shared → Prop} (h : c) (x : wpAny M A a Q E s) : wpAny M A (if c then a else b) Q E s := by rw [if_pos h]; exact x
theorem wpAny_of_ite_false {α : Type} {M : Model} {c : Prop} [Decidable c] {a b : Sem α} {Q : α → Shared → Prop} (h : ¬ c) (x : wpAny M A b Q E s) : wpAny M A (if c then a else b) Q E s := by rw [if_neg h]; exact x
noncomputable abbrev loopArgs (a : Addr) (x : Str) (t : Tok) (f : Value) (n : Int) (start : Nat) (l : Addr) : Args := ⟨[.ref a, .str x t, f, rawInt 1, rawInt 0, rawInt n, rawInt start, rawInt start, .bool false, .ref l, .bool false], []⟩
theorem loop_end {a l : Addr} {x : Str} {t : Tok} {f : Value} {n : Int} {start groups m : Nat} {code : Array Nat} {e : Sre.M} {vs : List Value} {xs : List Str} {R : Result → Shared → Prop} (hp : IsPat s.heap a code groups) (hx : x.cps.size ≤ 100000)
    (hE : Ends m (Sre.forSearch code x.cps groups start x.cps.size false) e) (hm : m ≤ 100000) (ho : e.outcome = some .failed)
    (hl : s.heap.IsList l vs.toArray) (hi : StrsAre vs xs) (hn : vs.length ≤ 10000) (hsum : (xs.map (·.length)).sum ≤ 500000)
    (hR : ∀ t' h' k, Others l s.heap h' → R (.ok (.ret (.str (Txt.join (Str.ofString "") (xs ++ tailQ x start)) t'))) { s with heap := h', toks := k }) :
    codeAny (model prog w) A (.builtin "re.Pattern.sub.loop" (loopArgs a x t f n start l)) R s := by
  refine codeAny_builtin entry_loop ?_
  rw [Around.under_plainId plain_loop _]
  unfold Builtin.«re.Pattern.sub.loop»
  refine wpAny_bind (whole_any hp ?_)
  refine wpAny_bind ?_
  refine run_any hE hm (Or.inr ⟨ho, ?_⟩)
  by_cases h1 : start < x.cps.size
  · have et : tailQ x start = [⟨x.cps.extract start x.cps.size⟩] := if_pos h1
    refine wpAny_of_ite_true h1 ?_
    refine wpAny_bind (slice_any hx fun t1 k1 => ?_)
    refine wpAny_bind (push_any (s := { s with toks := k1 }) hl hn fun h2 hl2 oth2 => ?_)
    have hl3 : h2.IsList l (vs ++ [Value.str ⟨x.cps.extract start x.cps.size⟩ t1]).toArray := hl2
    refine join_end (xs := xs ++ [⟨x.cps.extract start x.cps.size⟩]) hl3 (hi.append' (.cons _ _ .nil)) ?_ (fun t' k => ?_) n x hx
    · rw [List.map_append, List.sum_append]
      show _ + ((x.cps.extract start x.cps.size).size + 0) ≤ _
      rw [Array.size_extract]
      lia
    · have := hR t' h2 k oth2
      rw [et] at this
      exact this
  · have et : tailQ x start = [] := if_neg h1
    refine wpAny_of_ite_false h1 ?_
    refine join_end (xs := xs) hl hi (by lia) (fun t' k => ?_) n x hx
    have := hR t' s.heap k (Others.refl _ _)
    rw [et, List.append_nil] at this
    exact this
end
end Mine
end

section -- R7
open PySem PySem.W PyProof.Rows PySem.Calls PySem.Spec PySem.Builtin.Re
set_option maxRecDepth 100000
set_option maxHeartbeats 400000
namespace Mine
/-- a match stands at k -/
structure HitQ (x : Str) (k : Nat) : Prop where
  eq : x.cps.getD k 0 = 61
  lt : k + 2 < x.cps.size
  hex : hex2 x.cps k = true
theorem findQ_hit {x : Str} : ∀ {fuel s k : Nat}, findQ x.cps x.cps.size fuel s = some k → HitQ x k ∧ s ≤ k
  | 0, _, _, h => by cases h
  | fuel + 1, s, k, h => by
    unfold findQ at h
    split at h
    · cases h
    · split at h
      · rename_i h2
        cases h
        exact ⟨⟨h2.1, h2.2.1, h2.2.2⟩, Nat.le_refl _⟩
      · have := findQ_hit h
        exact ⟨this.1, by lia⟩
noncomputable def piecesQ (x : Str) (rep : Nat → Str) : (fuel start : Nat) → List Str
  | 0, _ => []
  | fuel + 1, start => match findQ x.cps x.cps.size (x.cps.size - start) start with
    | some k => (if start < k then [⟨x.cps.extract start k⟩] else []) ++ rep k :: piecesQ x rep fuel (k + 3)
    | none => tailQ x start
section
variable {prog : Program} {w : World} {A : Around} {E : Value → Shared → Prop} {s : Shared}
theorem piecesQ_none {x : Str} {rep : Nat → Str} {fuel start : Nat} (h : findQ x.cps x.cps.size (x.cps.size - start) start = none) : piecesQ x rep (fuel + 1) start = tailQ x start := by
  unfold piecesQ; rw [h]
theorem piecesQ_some {x : Str} {rep : Nat → Str} {fuel start k : Nat} (h : findQ x.cps x.cps.size (x.cps.size - start) start = some k) : piecesQ x rep (fuel + 1) start = (if start < k then [⟨x.cps.extract start k⟩] else []) ++ rep k :: piecesQ x rep fuel (k + 3) := by
  rw [piecesQ]; rw [h]
theorem stays_others {H h h' : Heap} {l : Addr} (st : H.StaysIn h) (hl : H.get? l = none) (o : Others l h h') : H.StaysIn h' := fun b ob e => o b ob (fun q => by rw [q, hl] at e; cases e) (st b ob e)
theorem loop_Q {a l : Addr} {x : Str} {t : Tok} {f : Value} {rep : Nat → Str} {R : Result → Shared → Prop} (hp : IsPat s.heap a codeQ 0) (hx : x.cps.size ≤ 1000) (hrl : ∀ k, (rep k).length ≤ 1)
    (hrep : ∀ k h' tk r sp (Q' E' : Value → Shared → Prop), HitQ x k → s.heap.StaysIn h' → h'.get? r = some (matchObj (.str x t) (.ref a) 0 x.cps.size (-1) sp) → h'.get? sp = some (spanObj k (k + 3)) →
      (∀ t' h'' tk'', h'.StaysIn h'' → Q' (.str (rep k) t') { s with heap := h'', toks := tk'' }) → wpAny (model prog w) A.in1 (call f [.ref r]) Q' E' { s with heap := h', toks := tk })
    (hl0 : s.heap.get? l = none) : ∀ (fuel start : Nat) (n : Int) (vs : List Value) (xs : List Str) (h : Heap) (tk : Nat), x.cps.size - start < fuel → s.heap.StaysIn h → h.IsList l vs.toArray → StrsAre vs xs → vs.length ≤ 2 * start → start ≤ x.cps.size → (xs.map (·.length)).sum ≤ start →
      (∀ t' h' k, s.heap.StaysIn h' → R (.ok (.ret (.str (Txt.join (Str.ofString "") (xs ++ piecesQ x rep fuel start)) t'))) { s with heap := h', toks := k }) →
      codeAny (model prog w) A (.builtin "re.Pattern.sub.loop" (loopArgs a x t f n start l)) R { s with heap := h, toks := tk }
  | 0, start, n, vs, xs, h, tk, hf, _, _, _, _, _, _, _ => by lia
  | fuel + 1, start, n, vs, xs, h, tk, hf, st, hl, hi, hn, hs, hsum, hR => by
    obtain ⟨e, hE, he⟩ := forQ x.cps start x.cps.size
    cases hq : findQ x.cps x.cps.size (x.cps.size - start) start with
    | none =>
      rw [hq] at he
      refine loop_end (s := { s with heap := h, toks := tk }) (hp.keeps st) (by lia) hE (by lia) he hl hi (by lia) (by lia) fun t' h' k oth => ?_
      have := hR t' h' k (stays_others st hl0 oth)
      rw [piecesQ_none hq] at this
      exact this
    | some k =>
      rw [hq] at he
      obtain ⟨hit, hk⟩ := findQ_hit hq
      have hlt := hit.lt
      refine codeAny_builtin entry_loop ?_
      rw [Around.under_plainId plain_loop _]
      unfold Builtin.«re.Pattern.sub.loop»
      refine wpAny_bind (whole_any (hp.keeps st) ?_)
      refine wpAny_bind ?_
      refine run_any hE (by lia) (Or.inl ⟨he.outcome, ?_⟩)
      have step : ∀ (vs2 : List Value) (xs2 : List Str) (h2 : Heap) (tk2 : Nat), s.heap.StaysIn h2 → h2.IsList l vs2.toArray → StrsAre vs2 xs2 → vs2.length ≤ 2 * start + 1 → (xs2.map (·.length)).sum ≤ k →
          (∀ t' h' j, s.heap.StaysIn h' → R (.ok (.ret (.str (Txt.join (Str.ofString "") (xs2 ++ rep k :: piecesQ x rep fuel (k + 3))) t'))) { s with heap := h', toks := j }) →
          wpAny (model prog w) A.in1 (do
            let found ← reNewMatch (.ref a) (.str x t) 0 0 x.cps.size e
            let item ← holding [found] (call f [found])
            if item != .none then updateSeq l (·.push item)
            again (.builtin "re.Pattern.sub.loop" ⟨[.ref a, .str x t, f, rawInt 1, rawInt 0, rawInt (n + 1), rawInt e.handed, rawInt e.handed, .bool (e.handed == e.start), .ref l, .bool false], []⟩))
            (fun fin s' => match fin with | .done f => R (.ok f) s' | .again c' => c'.quiet = true ∧ codeAny (model prog w) A c' R s') (fun e s' => R (.error e) s') { s with heap := h2, toks := tk2 } := by
        intro vs2 xs2 h2 tk2 st2 hl2 hi2 hn2 hs2 hR2
        refine wpAny_bind (newMatch_any (s := { s with heap := h2, toks := tk2 }) ?_)
        rw [he.lastindex, he.start, he.handed]
        have up : ∀ b o, h2.get? b = some o → ((h2.push (spanObj k (k + 3))).push (matchObj (.str x t) (.ref a) 0 x.cps.size (-1) h2.objs.size)).get? b = some o := fun b o eb => Heap.get?_push_of_some _ (Heap.get?_push_of_some _ eb)
        refine wpAny_bind (wpAny_holding (hrep k _ tk2 (h2.objs.size + 1) h2.objs.size _ _ hit (fun b o eb => up b o (st2 b o eb)) ?_ ?_ ?_))
        · have : ((h2.push (spanObj k (k + 3))).push (matchObj (.str x t) (.ref a) 0 x.cps.size (-1) h2.objs.size)).get? (h2.push (spanObj k (k + 3))).objs.size = some (matchObj (.str x t) (.ref a) 0 x.cps.size (-1) h2.objs.size) := Heap.get?_push_size _ rfl
          rw [Heap.size_push] at this
          exact this
        · exact Heap.get?_push_of_some _ (Heap.get?_push_size _ rfl)
        · intro t' h'' tk'' st''
          have hl3 : h''.IsList l vs2.toArray := by
            obtain ⟨o, ho, r⟩ := hl2
            exact ⟨o, st'' _ _ (up _ _ ho), r⟩
          have st3 : s.heap.StaysIn h'' := fun b o eb => st'' _ _ (up _ _ (st2 b o eb))
          refine wpAny_of_ite_true (by rfl) ?_
          refine wpAny_bind (push_any (s := { s with heap := h'', toks := tk'' }) hl3 (by lia) fun h4 hl4 oth4 => ?_)
          have hb : (k + 3 == k) = false := beq_false_of_ne (by lia)
          rw [hb]
          refine wpAny_pure ⟨plainId_quiet plain_loop _, ?_⟩
          have hrk := hrl k
          refine loop_Q hp hx hrl hrep hl0 fuel (k + 3) (n + 1) (vs2 ++ [.str (rep k) t']) (xs2 ++ [rep k]) h4 tk'' (by lia) (stays_others st3 hl0 oth4) hl4 (hi2.append' (.cons _ _ .nil)) ?_ (by lia) ?_ ?_
          · rw [List.length_append, List.length_singleton]; lia
          · rw [List.map_append, List.sum_append]
            show _ + ((rep k).length + 0) ≤ _
            lia
          · intro t5 h5 k5 st5
            have := hR2 t5 h5 k5 st5
            rw [List.append_assoc]
            exact this
      by_cases h1 : start < k
      · refine wpAny_of_ite_true (by rw [he.start]; exact h1) ?_
        refine wpAny_bind (slice_any (x := x) (by lia) fun t1 k1 => ?_)
        refine wpAny_bind (push_any (s := { s with heap := h, toks := k1 }) hl (by lia) fun h2 hl2 oth2 => ?_)
        have hl3 : h2.IsList l (vs ++ [Value.str ⟨x.cps.extract start k⟩ t1]).toArray := by rw [he.start] at hl2; exact hl2
        refine step (vs ++ [Value.str ⟨x.cps.extract start k⟩ t1]) (xs ++ [⟨x.cps.extract start k⟩]) h2 k1 (stays_others st hl0 oth2) hl3 (hi.append' (.cons _ _ .nil)) ?_ ?_ ?_
        · rw [List.length_append, List.length_singleton]; lia
        · rw [List.map_append, List.sum_append]
          show _ + ((x.cps.extract start k).size + 0) ≤ _
          rw [Array.size_extract]; lia
        · intro t' h' j st'
          have := hR t' h' j st'
          rw [piecesQ_some hq, if_pos h1] at this
          rw [List.append_assoc]
          exact this
      · refine wpAny_of_ite_false (by rw [he.start]; exact h1) ?_
        refine step vs xs h tk st hl hi (by lia) (by lia) ?_
        intro t' h' j st'
        have := hR t' h' j st'
        rw [piecesQ_some hq, if_neg h1] at this
        exact this
end
end Mine
end

section -- P0
open PySem PySem.W PyProof.Rows PySem.Calls PySem.Spec
set_option maxRecDepth 100000
set_option maxHeartbeats 4000000
namespace Mine
/-- a text's signs by their numbers -/
noncomputable abbrev sg (x : Str) : List Nat := x.cps.toList
theorem len_two {α : Type} : ∀ {l : List α}, l.length = 2 → ∃ a b, l = [a, b]
  | [a, b], _ => ⟨a, b, rfl⟩
theorem sg_len (x : Str) : (sg x).length = x.length := by simp [Str.length]
theorem sg_app (x y : Str) : sg (x ++ y) = sg x ++ sg y := by simp [sg, Str.cps_append]
theorem sg_ext {x y : Str} (h : sg x = sg y) : x = y := Str.ext' (Array.toList_inj.mp h)
theorem sg_mk (l : List Nat) : sg ⟨l.toArray⟩ = l := rfl
theorem mk_sg (x : Str) : (⟨(sg x).toArray⟩ : Str) = x := by simp [sg]

theorem slice_mid {x : Str} {i j : Int} (h0 : 0 ≤ i) (h1 : i ≤ j) (h2 : j ≤ x.length) : sg (Txt.slice x (some i) (some j)) = ((sg x).drop i.toNat).take (j - i).toNat := by
  show sg (StrLaws.sliceText x (some i) (some j)) = _
  rw [StrLaws.sliceText_plain ⟨h0, h1, by rw [toList_len]; exact h2⟩]
theorem slice_to {x : Str} {j : Int} (h0 : 0 ≤ j) (h2 : j ≤ x.length) : sg (Txt.slice x none (some j)) = (sg x).take j.toNat := by
  show sg (StrLaws.sliceText x none (some j)) = _
  rw [StrLaws.sliceText_to ⟨h0, by rw [toList_len]; exact h2⟩]
  simp [sg]
theorem slice_from {x : Str} {i : Int} (h0 : 0 ≤ i) (h2 : i ≤ x.length) : sg (Txt.slice x (some i) none) = (sg x).drop i.toNat := by
  show sg (StrLaws.sliceText x (some i) none) = _
  rw [StrLaws.sliceText_from ⟨h0, by rw [toList_len]; exact h2⟩]
  have h : ((sg x).length : Int) = (x.length : Int) := toList_len x
  show ((sg x).drop i.toNat).take (((sg x).length : Int) - i).toNat = _
  apply List.take_of_length_le
  rw [List.length_drop]
  lia
theorem idx_over (l : Option Int) {n : Nat} {j : Int} (h : (n : Int) ≤ j) : Builtin.Str.strSliceIndices l (some j) 1 n = Builtin.Str.strSliceIndices l none 1 n := by
  have h0 : ¬ j < 0 := by lia
  have h2 : (1 : Int) > 0 := by decide
  have e : max (0 : Int) (min j n) = n := by lia
  simp only [Builtin.Str.strSliceIndices, h0, h2, if_false, if_true, e]
theorem slice_over {x : Str} {l : Option Int} {j : Int} (h : (x.length : Int) ≤ j) : Txt.slice x l (some j) = Txt.slice x l none := by
  unfold Txt.slice
  rw [idx_over l h]
theorem slice_past {x : Str} {i : Int} {u : Option Int} (h : (x.length : Int) ≤ i) (hu : u = none ∨ ∃ j : Int, u = some j ∧ i ≤ j) : sg (Txt.slice x (some i) u) = [] := by
  have e : Txt.slice x (some i) u = Txt.slice x (some i) none := by
    rcases hu with rfl | ⟨j, rfl, hj⟩
    · rfl
    · exact slice_over (by lia)
  rw [e, slice_beyond h]
  rfl
/-- the signs from i to j, wherever these lie (0 ≤ i ≤ j) -/
theorem slice_cut {x : Str} {i j : Int} (h0 : 0 ≤ i) (h1 : i ≤ j) : sg (Txt.slice x (some i) (some j)) = ((sg x).drop i.toNat).take (j - i).toNat := by
  by_cases hj : j ≤ x.length
  · exact slice_mid h0 h1 hj
  · by_cases hi : i ≤ x.length
    · rw [slice_over (by lia), slice_from h0 hi, List.take_of_length_le]
      rw [List.length_drop, sg_len]; lia
    · rw [slice_past (by lia) (.inr ⟨j, rfl, h1⟩), List.drop_eq_nil_of_le (by rw [sg_len]; lia), List.take_nil]
theorem slice_cut_to {x : Str} {j : Int} (h0 : 0 ≤ j) : sg (Txt.slice x none (some j)) = (sg x).take j.toNat := by
  by_cases hj : j ≤ x.length
  · exact slice_to h0 hj
  · have e : Txt.slice x none (some j) = x := by
      rw [slice_over (by lia)]
      unfold Txt.slice
      have e1 : Builtin.Str.strSliceIndices none none 1 x.length = Builtin.Str.strSliceIndices (some 0) (some (x.length : Int)) 1 x.length := by
        rw [StrLaws.sliceIdx_none_lo, StrLaws.sliceIdx_none_hi]
      apply sg_ext
      have := slice_mid (x := x) (i := 0) (j := x.length) (by lia) (by lia) (by lia)
      unfold Txt.slice at this
      rw [← e1] at this
      rw [this]
      show List.take _ (List.drop 0 (sg x)) = sg x
      rw [List.drop_zero, List.take_of_length_le (by rw [sg_len]; lia)]
    rw [e, List.take_of_length_le (by rw [sg_len]; lia)]
theorem item_sg {x : Str} {k : Int} (h0 : 0 ≤ k) (h1 : k < x.length) : Txt.item x k = ⟨#[(sg x).getD k.toNat 0]⟩ := by
  rw [item_at h0 h1 rfl]
  congr 2
  simp [sg, Array.getD_eq_getD_getElem?, List.getD_eq_getElem?_getD]
theorem drop_head {l : List Nat} {k : Nat} (h : k < l.length) : l.drop k = l.getD k 0 :: l.drop (k + 1) := by
  rw [List.drop_eq_getElem_cons h, List.getD_eq_getElem?_getD, List.getElem?_eq_getElem h]; rfl
theorem one_beq (c : Nat) (s : String) (d : Nat) (hd : Str.ofString s = ⟨#[d]⟩) : ((⟨#[c]⟩ : Str) == Str.ofString s) = decide (c = d) := by
  rw [hd, Bool.eq_iff_iff, beq_iff_eq, decide_eq_true_eq]
  constructor
  · intro h; injection h with h; injection h with h; injection h
  · rintro rfl; rfl
theorem in_one (z : Str) (c : Nat) : (!(Builtin.Str.occurrences z ⟨#[c]⟩ 0 z.length 1).isEmpty) = decide (c ∈ sg z) := StrLaws.found_one z c
end Mine
end

section -- P2
open PySem PySem.W PyProof.Rows PySem.Calls PySem.Spec
set_option maxRecDepth 100000
set_option maxHeartbeats 400000
namespace Mine
theorem sg_join0 : ∀ l : List Str, sg (Txt.join (Str.ofString "") l) = l.flatMap sg := by
  have key : ∀ l : List Str, sg (Str.join (Str.ofString "") l) = l.flatMap sg := by
    intro l
    induction l with
    | nil => rfl
    | cons a r ih =>
      cases r with
      | nil => simp [Str.join]
      | cons b r =>
        show sg (a ++ Str.ofString "" ++ Str.join (Str.ofString "") (b :: r)) = _
        rw [sg_app, sg_app, ih]
        have : sg (Str.ofString "") = [] := by decide +kernel
        rw [this, List.append_nil]
        rfl
  intro l
  rw [show Txt.join (Str.ofString "") l = Str.join (Str.ofString "") l from StrLaws.glued_eq_join _ _]
  exact key l
/-- a hex figure's worth -/
noncomputable def hv (c : Nat) : Nat := if c ≤ 57 then c - 48 else if c ≤ 70 then c - 55 else c - 87
noncomputable def esc2 (r : List Nat) : Bool := decide (2 ≤ r.length) && isHex (r.getD 0 0) && isHex (r.getD 1 0)
/-- the header's text, read sign by sign (behind the change of _ to a blank) -/
noncomputable def decQ : List Nat → List Nat
  | [] => []
  | c :: r => if c = 61 ∧ esc2 r = true then (16 * hv (r.getD 0 0) + hv (r.getD 1 0)) :: decQ (r.drop 2) else c :: decQ r
termination_by l => l.length
decreasing_by all_goals (simp only [List.length_drop, List.length_cons]; lia)
theorem decQ_nil : decQ [] = [] := by rw [decQ]
theorem decQ_hit {c : Nat} {r : List Nat} (h : c = 61 ∧ esc2 r = true) : decQ (c :: r) = (16 * hv (r.getD 0 0) + hv (r.getD 1 0)) :: decQ (r.drop 2) := by rw [decQ, if_pos h]
theorem decQ_miss {c : Nat} {r : List Nat} (h : ¬ (c = 61 ∧ esc2 r = true)) : decQ (c :: r) = c :: decQ r := by rw [decQ, if_neg h]
noncomputable def repQ (x : Str) (k : Nat) : Str := ⟨#[16 * hv (x.cps.getD (k + 1) 0) + hv (x.cps.getD (k + 2) 0)]⟩
section
variable {x : Str}
theorem sg_get (x : Str) (i : Nat) : (sg x).getD i 0 = x.cps.getD i 0 := by
  simp [sg, Array.getD_eq_getD_getElem?, List.getD_eq_getElem?_getD]
theorem sg_size (x : Str) : (sg x).length = x.cps.size := by simp [sg]
theorem hit_iff {s : Nat} (h : s < x.cps.size) : (x.cps.getD s 0 = 61 ∧ s + 2 < x.cps.size ∧ hex2 x.cps s = true) ↔ ((sg x).getD s 0 = 61 ∧ esc2 ((sg x).drop (s + 1)) = true) := by
  have e0 : ((sg x).drop (s + 1)).getD 0 0 = x.cps.getD (s + 1) 0 := by
    rw [← sg_get]; simp [List.getD_eq_getElem?_getD]
  have e1 : ((sg x).drop (s + 1)).getD 1 0 = x.cps.getD (s + 2) 0 := by
    rw [← sg_get]; simp [List.getD_eq_getElem?_getD, Nat.add_assoc]
  unfold esc2 hex2
  rw [e0, e1, sg_get, List.length_drop, sg_size]
  simp only [Bool.and_eq_true, decide_eq_true_eq]
  constructor
  · rintro ⟨a, b, c, d⟩; exact ⟨a, ⟨by lia, c⟩, d⟩
  · rintro ⟨a, ⟨b, c⟩, d⟩; exact ⟨a, by lia, c, d⟩
theorem findQ_dec : ∀ (fuel s : Nat), x.cps.size ≤ s + fuel → (match findQ x.cps x.cps.size fuel s with
    | some k => s ≤ k ∧ decQ ((sg x).drop s) = ((sg x).drop s).take (k - s) ++ decQ ((sg x).drop k)
    | none => decQ ((sg x).drop s) = (sg x).drop s)
  | 0, s, h => by
    show decQ _ = _
    rw [List.drop_eq_nil_of_le (by rw [sg_size]; lia), decQ_nil]
  | fuel + 1, s, h => by
    unfold findQ
    by_cases h1 : s ≥ x.cps.size
    · rw [if_pos h1]
      show decQ _ = _
      rw [List.drop_eq_nil_of_le (by rw [sg_size]; lia), decQ_nil]
    · rw [if_neg h1]
      by_cases h2 : x.cps.getD s 0 = 61 ∧ s + 2 < x.cps.size ∧ hex2 x.cps s = true
      · rw [if_pos h2]
        exact ⟨Nat.le_refl _, by simp⟩
      · rw [if_neg h2]
        have hm := fun q => h2 ((hit_iff (by lia)).mpr q)
        have ed : (sg x).drop s = (sg x).getD s 0 :: (sg x).drop (s + 1) := drop_head (by rw [sg_size]; lia)
        have ih := findQ_dec fuel (s + 1) (by lia)
        rw [ed, decQ_miss hm]
        cases hq : findQ x.cps x.cps.size fuel (s + 1) with
        | none =>
          rw [hq] at ih
          show _ :: decQ _ = _
          rw [ih]
        | some k =>
          rw [hq] at ih
          obtain ⟨h3, h4⟩ := ih
          refine ⟨by lia, ?_⟩
          rw [h4, show k - s = (k - (s + 1)) + 1 by lia, List.take_succ_cons, List.cons_append]
theorem sg_ext_slice (s k : Nat) : sg (⟨x.cps.extract s k⟩ : Str) = ((sg x).drop s).take (k - s) := by
  simp [sg, Array.toList_extract]
theorem pieces_dec : ∀ (fuel start : Nat), x.cps.size - start < fuel → (piecesQ x (repQ x) fuel start).flatMap sg = decQ ((sg x).drop start)
  | 0, start, h => by lia
  | fuel + 1, start, h => by
    have hf := findQ_dec (x := x) (x.cps.size - start) start (by lia)
    cases hq : findQ x.cps x.cps.size (x.cps.size - start) start with
    | none =>
      rw [hq] at hf
      rw [piecesQ_none hq, hf]
      unfold tailQ
      by_cases h1 : start < x.cps.size
      · rw [if_pos h1]
        show sg _ ++ [] = _
        rw [List.append_nil, sg_ext_slice, List.take_of_length_le (by rw [List.length_drop, sg_size]; lia)]
      · rw [if_neg h1, List.drop_eq_nil_of_le (by rw [sg_size]; lia)]
        rfl
    | some k =>
      rw [hq] at hf
      obtain ⟨h1, h2⟩ := hf
      obtain ⟨hit, _⟩ := findQ_hit hq
      have hlt := hit.lt
      rw [piecesQ_some hq, h2]
      have ed : (sg x).drop k = (sg x).getD k 0 :: (sg x).drop (k + 1) := drop_head (by rw [sg_size]; lia)
      have hh := (hit_iff (x := x) (s := k) (by lia)).mp ⟨hit.eq, hit.lt, hit.hex⟩
      have e0 : ((sg x).drop (k + 1)).getD 0 0 = x.cps.getD (k + 1) 0 := by
        rw [← sg_get]; simp [List.getD_eq_getElem?_getD]
      have e1 : ((sg x).drop (k + 1)).getD 1 0 = x.cps.getD (k + 2) 0 := by
        rw [← sg_get]; simp [List.getD_eq_getElem?_getD, Nat.add_assoc]
      rw [ed, decQ_hit hh, e0, e1, List.drop_drop, show k + 1 + 2 = k + 3 by lia, ← pieces_dec fuel (k + 3) (by lia)]
      rw [List.flatMap_append]
      show _ ++ (sg (repQ x k) ++ _) = _
      have er : sg (repQ x k) = [16 * hv (x.cps.getD (k + 1) 0) + hv (x.cps.getD (k + 2) 0)] := rfl
      rw [er, List.singleton_append]
      congr 1
      by_cases h3 : start < k
      · rw [if_pos h3]
        show sg _ ++ [] = _
        rw [List.append_nil, sg_ext_slice]
      · rw [if_neg h3, show k - start = 0 by lia]
        rfl
theorem sub_dec (x : Str) : sg (Txt.join (Str.ofString "") (piecesQ x (repQ x) (x.cps.size + 1) 0)) = decQ (sg x) := by
  rw [sg_join0, pieces_dec _ _ (by lia), List.drop_zero]
end
end Mine
end

section -- R8
open PySem PySem.W PyProof.Rows PySem.Calls PySem.Spec
set_option maxRecDepth 100000
set_option maxHeartbeats 400000
namespace Mine
section
noncomputable def nv : (int_private% "Numeral") → Option Int := (int_private% "Numeral.rec") (motive := fun _ => Option Int) none (fun _ => none) none some
theorem nv_val (i : Int) : ∀ x : (int_private% "Numeral"), nv x = some i → x = (int_private% "Numeral.value") i :=
  (int_private% "Numeral.rec") (motive := fun x => nv x = some i → x = (int_private% "Numeral.value") i) (fun h => by cases h) (fun _ h => by cases h) (fun h => by cases h) (fun j h => by
    have : some j = some i := h
    cases this; rfl)
noncomputable def hexs : List Nat := [48, 49, 50, 51, 52, 53, 54, 55, 56, 57, 65, 66, 67, 68, 69, 70, 97, 98, 99, 100, 101, 102]
theorem hex_mem {c : Nat} (h : isHex c = true) : c ∈ hexs := by
  have hl : c < 103 := by
    unfold isHex at h
    simp only [Bool.or_eq_true, Bool.and_eq_true, decide_eq_true_eq] at h
    lia
  have := (by decide +kernel : ∀ x : Fin 103, isHex x.val = true → x.val ∈ hexs) ⟨c, hl⟩ h
  exact this
theorem read16 {a b : Nat} (ha : isHex a = true) (hb : isHex b = true) : (int_private% "readNumeral") 0 16 [a, b] = (int_private% "Numeral.value") ((16 * hv a + hv b : Nat) : Int) := by
  refine nv_val _ _ ?_
  exact (by decide +kernel : ∀ a ∈ hexs, ∀ b ∈ hexs, nv ((int_private% "readNumeral") 0 16 [a, b]) = some ((16 * hv a + hv b : Nat) : Int)) a (hex_mem ha) b (hex_mem hb)
theorem hex_lt {c : Nat} (h : isHex c = true) : 47 < c ∧ c < 103 := by
  unfold isHex at h
  simp only [Bool.or_eq_true, Bool.and_eq_true, decide_eq_true_eq] at h
  lia
theorem text_any {M : Model} {A : Around} {E : Value → Shared → Prop} {s : Shared} {Q : Value → Shared → Prop} {v : Value} {text : List Nat} {n : Int}
    (hs : (text.takeWhile (· != 0)).length ≤ 640) (hr : (int_private% "readNumeral") 0 16 (text.takeWhile (· != 0)) = (int_private% "Numeral.value") n)
    (ha : ((text.takeWhile (· != 0)).length == text.length) = true) (h : Q (.int n s.toks) { s with toks := s.toks + 1 }) : wpAny M A ((int_private% "intFromText") v text 16) Q E s := by
  obtain ⟨hp, g, d, tk, os⟩ := s
  repeat (any_goals (first
    | assumption
    | (with_reducible refine wpAny_ite_true (decide_eq_true hs) ?_)
    | wp_step))
  all_goals (try rw [hr])
  all_goals (try dsimp only)
  repeat (any_goals (first
    | assumption
    | (with_reducible refine wpAny_ite_true (decide_eq_true ha) ?_)
    | wp_step))
theorem text16 {a b : Nat} (ha : isHex a = true) (hb : isHex b = true) {M : Model} {A : Around} {E : Value → Shared → Prop} {s : Shared} {Q : Value → Shared → Prop} {v : Value} (h : Q (.int ((16 * hv a + hv b : Nat) : Int) s.toks) { s with toks := s.toks + 1 }) :
    wpAny M A ((int_private% "intFromText") v [a, b] 16) Q E s := by
  have e : ([a, b] : List Nat).takeWhile (· != 0) = [a, b] := by
    have h1 := hex_lt ha
    have h2 := hex_lt hb
    have e1 : (a != 0) = true := bne_iff_ne.mpr (by lia)
    have e2 : (b != 0) = true := bne_iff_ne.mpr (by lia)
    simp [List.takeWhile, e1, e2]
  have hr := read16 ha hb
  refine text_any ?_ ?_ ?_ h
  · rw [e]; show 2 ≤ 640; decide
  · rw [e]; exact hr
  · rw [e]; rfl
theorem gives16 {a b : Nat} {u k : Tok} (ha : isHex a = true) (hb : isHex b = true) : Gives (Builtin.«int.__new__» ⟨[.type "int", .str ⟨#[a, b]⟩ u, .int 16 k], []⟩) (.int ((16 * hv a + hv b : Nat) : Int)) :=
  .of_wp fun M A E s Q h => by
    obtain ⟨hp, g, d, tk, os⟩ := s
    have f1 := F.conv_sub_int
    have f2 := F.madeHere_int
    have hall : (#[a, b] : Array Nat).all (· < 128) = true := by
      have h1 := hex_lt ha
      have h2 := hex_lt hb
      simp; lia
    repeat (any_goals (first
      | assumption
      | ((with_reducible show wpAny _ _ ((int_private% "intFromText") _ _ _) _ _ _); rw [if_pos hall]; refine text16 ha hb ?_)
      | wp_step))
    all_goals exact ⟨_, rfl, h⟩
theorem typeCall_int_2 (a b : Value) : checkTypeCall "int" ⟨[a, b], []⟩ = pure () := by kernel_rfl
theorem newCall_int_2 (a b : Value) : checkBuiltinCall "int.__new__" ⟨[.type "int", a, b], []⟩ = pure () := by kernel_rfl
theorem int16 {prog : Program} {w : World} {A : Around} {E : Value → Shared → Prop} {s : Shared} {Q : Value → Shared → Prop} {x : Str} {t k : Tok} {a b : Nat} (hx : sg x = [a, b]) (ha : isHex a = true) (hb : isHex b = true)
    (h : ∀ t' k', Q (.int ((16 * hv a + hv b : Nat) : Int) t') { s with toks := k' }) : wpAny (model prog w) A (call (.type "int") [.str x t, .int 16 k]) Q E s := by
  have e : x = ⟨#[a, b]⟩ := sg_ext hx
  subst e
  exact callType_new F.called_int F.newNe_int (typeCall_int_2 _ _) (newCall_int_2 _ _) (fun obj => F.args_object_init_3 obj _ _) F.entry_int_new (gives16 ha hb).meets (show (Made.int _).post _ s from ⟨rfl, h _ _⟩)
end
end Mine
end

section -- R9
open PySem PySem.W PyProof.Rows PySem.Calls PySem.Spec PySem.Builtin.Re
set_option maxRecDepth 100000
set_option maxHeartbeats 400000
namespace Mine
theorem plainAttrs_match : PlainAttrs "re.Match" :=
  ⟨⟨"object.__getattribute__", by rw [typeLookup_type, builtinLookup_eq_fast]; kernel_rfl, by decide +kernel⟩, by rw [typeLookup_type, builtinLookup_eq_fast]; kernel_rfl⟩
theorem plainAttrs_pattern : PlainAttrs "re.Pattern" :=
  ⟨⟨"object.__getattribute__", by rw [typeLookup_type, builtinLookup_eq_fast]; kernel_rfl, by decide +kernel⟩, by rw [typeLookup_type, builtinLookup_eq_fast]; kernel_rfl⟩
section
variable {prog : Program} {w : World} {A : Around} {E : Value → Shared → Prop} {s : Shared}
theorem meth_group {r : Addr} {x pv : Value} {pos lim : Nat} {li : Int} {sp : Addr} {pl : Sem Bool} {Q : Value × List Value → Shared → Prop} (h1 : s.heap.get? r = some (matchObj x pv pos lim li sp))
    (h : Q (.builtin "re.Match.group", [.ref r]) s) : wpAny (model prog w) A (getMethod (.ref r) "group" pl) Q E s :=
  getMethod_builtin ⟨_, h1, rfl⟩ plainAttrs_match slot_group type_group (fun a e => by cases e; exact ⟨_, h1, rfl⟩) h
theorem meth_sub {a : Addr} {code : Array Nat} {groups : Nat} {pl : Sem Bool} {Q : Value × List Value → Shared → Prop} (hp : IsPat s.heap a code groups)
    (h : Q (.builtin "re.Pattern.sub", [.ref a]) s) : wpAny (model prog w) A (getMethod (.ref a) "sub" pl) Q E s := by
  obtain ⟨c, v0, f, t1, t2, t6, items, n, oc, od, osl, e1, e2, e3⟩ := hp.obj
  exact getMethod_builtin ⟨_, e1, rfl⟩ plainAttrs_pattern slot_sub type_sub (fun a e => by cases e; exact ⟨_, e1, rfl⟩) h
theorem group_any {r sp : Addr} {x : Str} {t k0 : Tok} {pv : Value} {pos lim : Nat} {li : Int} {b e : Nat} {Q : Value → Shared → Prop} (h1 : s.heap.get? r = some (matchObj (.str x t) pv pos lim li sp)) (h2 : s.heap.get? sp = some (spanObj b e)) (hx : x.cps.size ≤ 100000)
    (hq : ∀ t' k, Q (.str ⟨x.cps.extract b e⟩ t') { s with toks := k }) : wpAny (model prog w) A (call (.builtin "re.Match.group") [.ref r, .int 0 k0]) Q E s := by
  refine wpAny_call_entry slot_group ⟨_, h1, rfl⟩ entry_group ?_ (args_group _ _)
  unfold Builtin.«re.Match.group»
  refine wpAny_bind (wpAny_pure ?_)
  unfold reFound
  refine wpAny_bind (wpAny_bind (wpAny_fieldsOf h1 rfl ?_))
  have em : (#[rawInt (b : Int), rawInt (e : Int)] : Array Value).map reRawOf = #[(b : Int), (e : Int)] := by simp [reRawOf, rawInt]
  refine wpAny_bind (raw_items h2 ?_)
  rw [em]
  refine wpAny_pure ?_
  show wpAny _ _ (reGroupNumber ⟨#[.str x t, pv, rawInt pos, rawInt lim, rawInt li, .ref sp], #[(b : Int), (e : Int)]⟩ (.int 0 k0) >>= _) _ _ _
  have hg : ∀ (f : Array Value), reGroupNumber ⟨f, #[(b : Int), (e : Int)]⟩ (.int 0 k0) = pure 0 := fun _ => rfl
  refine wpAny_bind (wpAny_of_eq (hg _) ?_)
  refine wpAny_bind ?_
  have h3 : ((decide ((b : Int) < 0)) || (decide ((e : Int) < 0))) = false := by
    rw [decide_eq_false (by lia), decide_eq_false (by lia)]; rfl
  show wpAny _ _ (if ((decide ((b : Int) < 0)) || (decide ((e : Int) < 0))) = true then pure .none else (reTextOf (.str x t) >>= fun p => reSlice p.1 p.2 (b : Int).toNat (e : Int).toNat)) _ _ _
  rw [h3, if_neg Bool.false_ne_true]
  refine wpAny_bind (wpAny_of_eq (show reTextOf (.str x t) = pure (x.cps, 0) from rfl) ?_)
  refine wpAny_mono (slice_any hx (b := b) (e := e) (Q := fun v s' => ∃ t' k, v = .str ⟨x.cps.extract b e⟩ t' ∧ s' = { s with toks := k }) fun t' k => ⟨t', k, rfl, rfl⟩) (fun v s' h => ?_) fun _ _ h => h
  obtain ⟨t', k, rfl, rfl⟩ := h
  exact wpAny_pure ⟨_, rfl, hq t' k⟩
end
end Mine
end

section -- R10
open PySem PySem.W PyProof.Rows PySem.Calls PySem.Spec PySem.Builtin.Re
set_option maxRecDepth 100000
set_option maxHeartbeats 400000
namespace Mine
/-- a method of the machine, bound to what it belongs to -/
noncomputable abbrev bm (id : String) (self : Value) : Obj := { cls := .type "builtin_function_or_method", data := .fields #[.builtin id, self] }
/-- the check of the arguments passes -/
noncomputable def CkOk (id T : String) (args : Args) : Prop := (match Manifest.signature? id with | some sig => Bind.checkArgs id { sig with full := s!"{Bind.lastOf T}.{Bind.lastOf id}" } args | none => pure ()) = pure ()
section
variable {prog : Program} {w : World} {M : Model} {A : Around} {E : Value → Shared → Prop} {s : Shared}
theorem callWith_bm {pos : Pos} {u : Addr} {id : String} {self : Value} {first : List Value} {env : Env} {e : Expr} {rest : List Expr} {Q : Value → Shared → Prop}
    (h : wpAny M A (spliced (backTo pos (starEach (e :: rest) env))) (fun vs s₁ => s₁.heap.get? u = some (bm id self) ∧ wpAny M A (call (.ref u) (first ++ vs)) Q E s₁) E s)
    (he : starEach (e :: rest) env = (false, eval e env) :: starEach rest env := by rfl) (hplain : (backTo pos (starEach rest env)).any (·.1) = false := by rfl) :
    wpAny M A (callWith pos (.ref u) first (backTo pos (starEach (e :: rest) env)) []) Q E s := by
  rw [he] at h ⊢
  have hp : (backTo pos ((false, eval e env) :: starEach rest env)).any (·.1) = false := by show (false || (backTo pos (starEach rest env)).any (·.1)) = false; rw [hplain]; rfl
  unfold callWith
  refine wpAny_bind (wpAny_holding (wpAny_mono (evalArgs_plain (Q := fun x s₁ => ∃ vs, x = ⟨vs, []⟩ ∧ s₁.heap.get? u = some (bm id self) ∧ wpAny M A (call (.ref u) (first ++ vs)) Q E s₁) (wpAny_mono h (fun vs s₁ h₁ => ⟨vs, rfl, h₁⟩) fun _ _ x => x)) (fun x s₁ h₁ => wpAny_bind (wpAny_standAt ?_)) fun _ _ x => x))
  obtain ⟨vs, rfl, ho, hcall⟩ := h₁
  simp only [hp, List.any_nil, Bool.or_false]
  refine wpAny_bind (m := keeperOf (.ref u)) ?_
  unfold keeperOf
  refine wpAny_bind (wpAny_load ho ?_)
  refine wpAny_pure ?_
  exact wpAny_bind (wpAny_mono hcall (fun r s₂ hr => wpAny_bind (wpAny_holding (wpAny_point (wpAny_pure hr)))) fun _ _ x => x)
theorem callWith_bm0 {pos : Pos} {u : Addr} {id : String} {self : Value} {env : Env} {e : Expr} {rest : List Expr} {Q : Value → Shared → Prop}
    (h : wpAny M A (spliced (backTo pos (starEach (e :: rest) env))) (fun vs s₁ => s₁.heap.get? u = some (bm id self) ∧ wpAny M A (call (.ref u) vs) Q E s₁) E s)
    (he : starEach (e :: rest) env = (false, eval e env) :: starEach rest env := by rfl) (hplain : (backTo pos (starEach rest env)).any (·.1) = false := by rfl) :
    wpAny M A (callWith pos (.ref u) [] (backTo pos (starEach (e :: rest) env)) []) Q E s := callWith_bm (first := []) h he hplain
/-- the check of a bound method's call, self an object of the machine's own type T -/
theorem check_bm {id T : String} {a : Addr} {vs : List Value} {A' : Around} {Q : Unit → Shared → Prop} (hT : s.TypeIs (.ref a) T) {o : Obj} (ho : s.heap.get? a = some o) (hd : ∀ c, o.data ≠ .cls c) (hk : builtinKind id = some .method) (hv : Manifest.varargsMethods.contains id = false)
    (h1 : isSubtype (.type T) (.type "module") = pure false)
    (h3 : CkOk id T ⟨.ref a :: vs, []⟩)
    (hq : Q () s) : wpAny M A' (checkBoundCall id ⟨.ref a :: vs, []⟩) Q E s := by
  unfold checkBoundCall
  cases hs : Manifest.signature? id with
  | none => exact wpAny_pure hq
  | some sig =>
    unfold CkOk at h3
    rw [hs] at h3
    rw [hk]
    refine wpAny_bind (wpAny_isInstance hT h1 ?_)
    rw [hv]
    obtain ⟨hp, g, d, tk, os⟩ := s
    refine wpAny_bind (m := isType (.ref a)) (ks_wpAny_isType_inst ho hd ?_)
    refine wpAny_bind (wpAny_typeOf hT ?_)
    exact wpAny_of_eq h3 hq
theorem call_bm {u : Addr} {id : String} {self : Value} {vs : List Value} {b : Builtin} {Q : Value → Shared → Prop} (ho : s.heap.get? u = some (bm id self)) (hq : plainId id = true) (hb : entryFor table id = some b)
    (hck : ∀ (Q' : Unit → Shared → Prop) (E' : Value → Shared → Prop) (A' : Around), Q' () s → wpAny (model prog w) A' (checkBoundCall id ⟨self :: vs, []⟩) Q' E' s) (h : wpAny (model prog w) A.in1 (b ⟨self :: vs, []⟩) (fun fin s' => ∃ v, fin = .done (.ret v) ∧ Q v s') E s) : wpAny (model prog w) A (call (.ref u) vs) Q E s := by
  refine wpAny_call (codeAny_of_tree ?_)
  show wpAny _ A.in1 (callAny (.ref u) ⟨vs, []⟩) _ _ s
  simp only [callAny]
  refine wpAny_bind (wpAny_load ho ?_)
  show wpAny _ _ (checkBoundCall id ⟨self :: vs, []⟩ >>= fun _ => (again (.builtin id ⟨self :: vs, []⟩) >>= pure)) _ _ _
  refine wpAny_bind (hck _ _ _ ?_)
  refine wpAny_bind (wpAny_pure (wpAny_pure ⟨plainId_quiet hq _, codeAny_builtin hb ?_⟩))
  rw [Around.under_plainId hq _]
  refine wpAny_mono h (fun fin s' hf => ?_) fun _ _ x => x
  obtain ⟨v, rfl, hv⟩ := hf
  exact hv
theorem search_tree {a : Addr} {x : Str} {t : Tok} {Q : Value → Shared → Prop} (hp : IsPat s.heap a codeS 0) (hx : x.cps.size ≤ 100000)
    (h0 : (∀ i, i < x.cps.size → plainS (x.cps.getD i 0) = true) → Q .none s)
    (h1 : (¬ ∀ i, i < x.cps.size → plainS (x.cps.getD i 0) = true) → ∀ h' r, s.heap.StaysIn h' → Q (.ref r) { s with heap := h' }) :
    wpAny M A (Builtin.«re.Pattern.search» ⟨[.ref a, .str x t], []⟩) (fun fin s' => ∃ v, fin = .done (.ret v) ∧ Q v s') E s := by
  unfold Builtin.«re.Pattern.search»
  refine wpAny_bind (target_any hp ?_)
  have hl : min (2 ^ 63 - 1) x.cps.size = x.cps.size := by lia
  rw [hl]
  obtain ⟨e, hE, he⟩ := forS x.cps x.cps.size
  unfold reAnswer
  refine wpAny_bind (run_any hE (by lia) ?_)
  have hn := badAt_none (text := x.cps) (lim := x.cps.size) (fuel := x.cps.size + 1) (s := 0) (by lia)
  cases hb : badAt x.cps x.cps.size (x.cps.size + 1) 0 with
  | none =>
    rw [hb] at he
    exact Or.inr ⟨he, wpAny_pure ⟨_, rfl, h0 fun i hi => hn.mp hb i (Nat.zero_le _) hi⟩⟩
  | some k =>
    rw [hb] at he
    refine Or.inl ⟨he.outcome, wpAny_bind (newMatch_any (wpAny_pure ⟨_, rfl, ?_⟩))⟩
    refine h1 (fun hh => ?_) _ _ (fun b o eb => Heap.get?_push_of_some _ (Heap.get?_push_of_some _ eb))
    rw [hn.mpr fun i _ hi => hh i hi] at hb
    cases hb
theorem pat_no_module : isSubtype (.type "re.Pattern") (.type "module") = pure false := by rw [isSubtype_type]; kernel_rfl
theorem kind_search : builtinKind "re.Pattern.search" = some .method := by first | decide +kernel | kernel_rfl
theorem var_search : Manifest.varargsMethods.contains "re.Pattern.search" = false := by decide +kernel
theorem ck_search (a v : Value) : CkOk "re.Pattern.search" "re.Pattern" ⟨[a, v], []⟩ := by unfold CkOk; kernel_rfl
theorem plain_search : plainId "re.Pattern.search" = true := by decide +kernel
theorem facts_search : ∃ id : String, id = "re.Pattern.search" ∧ builtinKind id = some .method ∧ Manifest.varargsMethods.contains id = false ∧ ∀ a v, CkOk id "re.Pattern" ⟨[a, v], []⟩ := ⟨_, rfl, kind_search, var_search, ck_search⟩
theorem check_search {a : Addr} {v : Value} {A' : Around} {Q : Unit → Shared → Prop} (hT : s.TypeIs (.ref a) "re.Pattern") {o : Obj} (ho : s.heap.get? a = some o) (hd : ∀ c, o.data ≠ .cls c) (hq : Q () s) : wpAny M A' (checkBoundCall "re.Pattern.search" ⟨[.ref a, v], []⟩) Q E s := by
  obtain ⟨id, e, h1, h2, h3⟩ := facts_search
  rw [← e]
  exact check_bm hT ho hd h1 h2 pat_no_module (h3 _ _) hq
theorem call_findq {u a : Addr} {x : Str} {t : Tok} {Q : Value → Shared → Prop} (ho : s.heap.get? u = some (bm "re.Pattern.search" (.ref a))) (hp : IsPat s.heap a codeS 0) (hx : x.cps.size ≤ 100000)
    (h0 : (∀ i, i < x.cps.size → plainS (x.cps.getD i 0) = true) → Q .none s)
    (h1 : (¬ ∀ i, i < x.cps.size → plainS (x.cps.getD i 0) = true) → ∀ h' r, s.heap.StaysIn h' → Q (.ref r) { s with heap := h' }) :
    wpAny (model prog w) A (call (.ref u) [.str x t]) Q E s := by
  have hp' := hp
  obtain ⟨c, v0, f, t1, t2, t6, items, n, oc, od, osl, e1, e2, e3⟩ := hp.obj
  have hck : ∀ (Q' : Unit → Shared → Prop) (E' : Value → Shared → Prop) (A' : Around), Q' () s → wpAny (model prog w) A' (checkBoundCall "re.Pattern.search" ⟨[.ref a, .str x t], []⟩) Q' E' s := fun Q' E' A' hq => check_search ⟨_, e1, rfl⟩ e1 (fun c e => Data.noConfusion e) hq
  exact call_bm ho plain_search entry_search hck (search_tree hp' hx h0 h1)
end
end Mine
end

section -- P3
open PySem PySem.W PyProof.Rows PySem.Calls PySem.Spec
set_option maxRecDepth 100000
set_option maxHeartbeats 400000
namespace Mine
/-- each sign c told as z -/
noncomputable def told (c : Nat) (z : List Nat) (l : List Nat) : List Nat := l.flatMap fun k => if k = c then z else [k]
theorem told_app (c : Nat) (z a b : List Nat) : told c z (a ++ b) = told c z a ++ told c z b := List.flatMap_append
theorem told_free (c : Nat) (z : List Nat) : ∀ l : List Nat, c ∉ l → told c z l = l
  | [], _ => rfl
  | k :: r, h => by
    have h1 : ¬ k = c := fun e => h (e ▸ List.mem_cons_self ..)
    have h2 : c ∉ r := fun m => h (List.mem_cons_of_mem _ m)
    show (if k = c then z else [k]) ++ told c z r = _
    rw [if_neg h1, told_free c z r h2]; rfl
theorem told_join (c : Nat) (z : Str) : ∀ parts : List Str, (∀ p ∈ parts, c ∉ sg p) → sg (Str.join z parts) = told c (sg z) (sg (Str.join ⟨#[c]⟩ parts))
  | [], _ => rfl
  | [p], h => (told_free c _ _ (h p (List.mem_singleton.mpr rfl))).symm
  | p :: q :: r, h => by
    have ih := told_join c z (q :: r) fun a ha => h a (List.mem_cons_of_mem _ ha)
    show sg (p ++ z ++ Str.join z (q :: r)) = told c (sg z) (sg (p ++ ⟨#[c]⟩ ++ Str.join ⟨#[c]⟩ (q :: r)))
    rw [sg_app, sg_app, sg_app, sg_app, told_app, told_app, ih, told_free c _ _ (h p (List.mem_cons_self ..))]
    show _ = sg p ++ told c (sg z) [c] ++ _
    have : told c (sg z) [c] = sg z := by simp [told]
    rw [this]
theorem replace_sg (x z : Str) (c : Nat) : sg (Txt.replace x ⟨#[c]⟩ z) = told c (sg z) (sg x) := by
  rw [StrLaws.replace_one, told_join c z _ (StrLaws.split_free x c), StrLaws.join_split]
/-- what header_decode tells -/
noncomputable def LR (l : List Nat) : List Nat := decQ (l.map fun c => if c = 95 then 32 else c)
theorem told_map (c d : Nat) (l : List Nat) : told c [d] l = l.map fun k => if k = c then d else k := by
  unfold told
  induction l with
  | nil => rfl
  | cons k r ih =>
    rw [List.flatMap_cons, ih, List.map_cons]
    split <;> rfl
theorem blank_sg (x : Str) : sg (Txt.replace x (Str.ofString "_") (Str.ofString " ")) = (sg x).map fun c => if c = 95 then 32 else c := by
  rw [show Str.ofString "_" = (⟨#[95]⟩ : Str) from by decide +kernel, replace_sg, show sg (Str.ofString " ") = [32] from by decide +kernel, told_map]
theorem hd_sg (x : Str) : sg (Txt.join (Str.ofString "") (piecesQ (Txt.replace x (Str.ofString "_") (Str.ofString " ")) (repQ (Txt.replace x (Str.ofString "_") (Str.ofString " "))) ((Txt.replace x (Str.ofString "_") (Str.ofString " ")).cps.size + 1) 0)) = LR (sg x) := by
  rw [sub_dec, blank_sg]; rfl
theorem blank_len (x : Str) : (Txt.replace x (Str.ofString "_") (Str.ofString " ")).cps.size = x.cps.size := by
  rw [← sg_size, blank_sg, List.length_map, sg_size]
end Mine
end

section
open PySem PySem.W PyProof.Rows
local macro_rules | `(tactic| walk_at $s:str) => `(tactic| k_extra $(Lean.Syntax.mkStrLit ("m " ++ s.getString)))
local macro_rules | `(tactic| k_ne) => `(tactic| (refine neN ?_; (try dsimp only); with_reducible first | assumption | exact Ne.symm (by assumption) | exact And.left (And.right (by assumption)) | exact Ne.symm (And.left (And.right (by assumption))) | exact And.left (by assumption) | exact Ne.symm (And.left (by assumption))))
local macro_rules | `(tactic| kst_facts) => `(tactic| ((try dsimp only); first | exact PyProof.Rows.StrsAre.nil | (with_reducible assumption) | exact PyProof.Rows.StrsAre.append' (by with_reducible assumption) (.cons _ _ .nil)))

section -- S5
open PySem PySem.W PyProof.Rows PySem.Calls PySem.Spec
set_option maxRecDepth 100000
set_option pp.deepTerms false
set_option pp.deepTerms.threshold 6
set_option maxHeartbeats 8000000

namespace Mine
/-- the signs that stand unquoted -/
noncomputable def safeC (c : Nat) : Bool := (Str.ofString "ABCDEFGHIJKLMNOPQRSTUVWXYZabcdefghijklmnopqrstuvwxyz0123456789_@%+=:,./-").cps.contains c
noncomputable def qesc (x : Str) : Str := Txt.replace x (Str.ofString "'") (Str.ofString "'\"'\"'")
noncomputable def LQ (x : Str) : Str := if (x.cps.size != 0 && x.cps.all safeC) = true then x else Str.ofString "'" ++ qesc x ++ Str.ofString "'"
theorem qesc_eq (x : Str) : qesc x = Str.join (Str.ofString "'\"'\"'") (Txt.split x (Str.ofString "'")) := by
  unfold qesc
  rw [show Str.ofString "'" = (⟨#[39]⟩ : Str) from by decide +kernel]
  exact StrLaws.replace_one _ _ _
theorem join_le (y : Str) : ∀ l : List Str, (Str.join y l).length ≤ (l.map (·.length)).sum + l.length * y.length
  | [] => Nat.zero_le _
  | a :: l => by rw [len_join_cons, List.length_cons, Nat.add_mul, Nat.one_mul]; lia
theorem qesc_len (x : Str) : (qesc x).length ≤ 6 * (x.length + 1) := by
  have hw : ((Txt.split x (Str.ofString "'")).map (·.length)).sum + (Txt.split x (Str.ofString "'")).length ≤ x.length + 1 := by
    have e : ((Txt.split x (Str.ofString "'")).map fun z => (z, (0 : Tok))).map (·.1) = Txt.split x (Str.ofString "'") := by rw [List.map_map]; exact List.map_id'' (fun _ => rfl) _
    have h := weighs_of_split (l := (Txt.split x (Str.ofString "'")).map fun z => (z, (0 : Tok))) (x := x) (y := Str.ofString "'") e (by decide)
    rw [e] at h
    exact h
  rw [qesc_eq]
  refine Nat.le_trans (join_le _ _) ?_
  rw [show (Str.ofString "'\"'\"'").length = 5 from rfl]
  lia
section
theorem ite_false_of {α : Type} {c : Bool} {a b : α} (h : c = false) : (if c = true then a else b) = b := by rw [h]; rfl
theorem join_q {prog : Program} {w : World} {A : Around} {E : Value → Shared → Prop} {s : Shared} {t : Tok} {Q : Value → Shared → Prop} {D : Addr} {x : Str} {l : List (Str × Tok)} (hl : s.heap.IsList D (strValues l).toArray) (e : l.map (·.1) = Txt.split x (Str.ofString "'")) (hi : StrsAre (strValues l) (l.map (·.1)))
    (hx : x.length ≤ 1000) (h : ∀ t' k, (qesc x).length ≤ 6006 → Q (.str (qesc x) t') { s with toks := k }) : wpAny (model prog w) A (call (.builtin "str.join") [.str (Str.ofString "'\"'\"'") t, .ref D]) Q E s := by
  have hw := weighs_of_split (x := x) (y := Str.ofString "'") e (by decide)
  have hw' : ((l.map (·.1)).map (·.length)).sum + (l.map (·.1)).length ≤ x.length + 1 := hw
  refine join_list hl hi (by rw [show (Str.ofString "'\"'\"'").length = 5 from rfl]; lia) fun t' k => ?_
  have eq : Txt.join (Str.ofString "'\"'\"'") (l.map (·.1)) = qesc x := by
    rw [qesc_eq, e]; exact StrLaws.glued_eq_join _ _
  rw [eq]
  exact h t' k (Nat.le_trans (qesc_len x) (by lia))
theorem safe_in (c : Nat) : (!!(Builtin.Str.occurrences (Str.ofString "ABCDEFGHIJKLMNOPQRSTUVWXYZabcdefghijklmnopqrstuvwxyz0123456789_@%+=:,./-") ⟨#[c]⟩ 0 (Str.ofString "ABCDEFGHIJKLMNOPQRSTUVWXYZabcdefghijklmnopqrstuvwxyz0123456789_@%+=:,./-").length 1).isEmpty) = !safeC c := by
  rw [StrLaws.found_one]
  unfold safeC
  rw [Array.contains_eq_any_beq]
  congr 1
  rw [Bool.eq_iff_iff, decide_eq_true_eq, Array.any_eq_true']
  simp
theorem filter_safe (x : Str) : ((List.range x.cps.size).filter fun i => !safeC (x.cps.getD i 0)).length = 0 ↔ x.cps.all safeC = true := by
  rw [List.length_eq_zero_iff, List.filter_eq_nil_iff, Array.all_eq_true]
  constructor
  · intro h i hi
    have := h i (List.mem_range.mpr hi)
    simpa [Array.getD, hi] using this
  · intro h i hi
    have hi' := List.mem_range.mp hi
    have := h i hi'
    simpa [Array.getD, hi'] using this
theorem LQ_empty {x : Str} (h : (x != Str.ofString "") = false) : LQ x = Str.ofString "'" ++ qesc x ++ Str.ofString "'" := by
  unfold LQ
  have e : x = Str.ofString "" := by simpa using h
  rw [if_neg]
  rw [e]; decide
theorem LQ_not {x : Str} (h : ¬ x.cps.all safeC = true) : LQ x = Str.ofString "'" ++ qesc x ++ Str.ofString "'" := by
  unfold LQ
  rw [if_neg]
  intro hc
  exact h ((Bool.and_eq_true _ _).mp hc).2
theorem LQ_safe {x : Str} (hne : (x != Str.ofString "") = true) (h : x.cps.all safeC = true) : LQ x = x := by
  unfold LQ
  rw [if_pos]
  rw [h, Bool.and_true]
  cases hs : x.cps.size with
  | zero =>
    have : x = Str.ofString "" := by
      apply Str.ext'
      rw [Array.eq_empty_of_size_eq_zero hs]; rfl
    rw [this] at hne; exact absurd hne (by decide)
  | succ n => rfl
theorem c_quoted {w : World} {p : Program} {loose : List Str} {mean : ExcName → Option Value} {mg mb : Str → Option Value} {dp un : Nat} {gd : Option (List Code)} {cn : Str} {cs : Scope} {a : Addr} {ccd : Value} {cl : List (Str × Addr)} {outer : List Env} {A₀ : Around} {base h₀ : Heap} {L : Addr} {m : Str → Option Value} {s : Shared} {Q E : Value → Shared → Prop} {x : Str} {t1 : Tok} (C : Cal w p loose mean mg mb A₀ base outer h₀ L m s.heap cs dp un 6)
  (hx : x.length ≤ 1000) (hok : PyData.strOk x = true)
  (ret : ∀ (t : Tok) h' tk', s.heap.StaysIn h' → Q (.str (LQ x) t) {s with heap := h', toks := tk'}) :
  wpAny (Md w) (ktrTop dp un gd cn cs L a ccd cl outer) (call (.ref 156) [.str x t1]) Q E s := by
  k_with_none
  k_with "m execs cons" => ((k_here; (try ((with_reducible refine Mine.toks_any ?_); intro zztk9)); (with_reducible refine wpAny_execs_cons ?_); (try dsimp only)))
  k_with "m execs nil" => ((k_here; (try ((with_reducible refine Mine.toks_any ?_); intro zztk9)); (with_reducible refine wpAny_execs_nil ?_); (try dsimp only)))
  k_with "m eval ListComp" => ((k_here; k_dflt (refine ListComp_ST (_F₀ := by k_asm) (by with_unfolding_all rfl) (by decide) (by rfl) (by decide) (by rfl) ?_)))
  k_with "m call builtin:str.join" => ((k_here; (with_reducible show wpAny _ _ (call (Value.builtin "str.join") [Value.str _ _, Value.ref _]) _ _ _); k_dflt (refine' join_q (by (assumption)) (by (assumption)) (by (assumption)) (by (assumption)) ?_); intro zzt9 zzk9 zzhq9; (try dsimp only)))
  obtain ⟨B, F, X, T, kcs, hd, hu⟩ := C
  refine wpAny_call ?_
  k_dflt (refine' enterCP ?k1 ?k2 ?k3 ?k5 ?kA ?kF ?kK ?k6 ?k7 ?k8 ?k9 ?kB ?kD ?_ ?c2 ?c3 ?c4; (case kA => exact rfl); (case kF => exact rfl); (case kK => exact kcs); (case k1 => exact B); (case k2 => exact F); (case k3 => exact X); (case k5 => exact T); (case k6 => k_is); (case k7 => k_is); (case k8 => exact Nat.lt_of_le_of_lt (Nat.le_add_right _ _) hd); (case k9 => exact BindsTo.of_eq rfl); (case kB => exact rfl); (case kD => decide +kernel); (case c2 => exact rfl); (case c3 => exact rfl); (case c4 => exact rfl); k_whole)
  intro g' L' h' tk' cells' st' sz' F' N' Y' B' X' T'
  k_cells Y'
  try simp only [List.cons_append, List.nil_append] at N'
  try dsimp only
  try k_fold
  k_steps
  · rename (x != _) = true => hne
    rename Fr g' _ _ _ => Fz
    rename News g' _ _ _ => Nz
    refine ⟨x, _, _, rfl, rfl, Fz, Nz, (by rw [sizeLine_eq]; exact Nat.le_trans hx (by decide)), fun g0 => compT_all (fun i => !safeC (x.cps.getD i 0)) (fun y => ∃ z t, y = .str z t ∧ PyData.strOk z = true) trivial ?_ ?_ ?_⟩
    · intro i v I oI C oC D m₂ ys h tk E' hin hv hC hx F1 N1 off
      obtain ⟨c, u, hc, rfl⟩ := hv
      k_steps
      · rw [safe_in, Array.getD_eq_getD_getElem?, hc]; rfl
      · exact EltEnd.intro (stays_refl _) trivial
    · intro i v I oI C oC D m₂ ys h tk E' hin hv hq hC hx F1 N1 off
      obtain ⟨c, u, hc, rfl⟩ := hv
      k_steps
      refine EltEnd.intro (stays_refl _) ⟨_, _, rfl, ?_⟩
      have h1 := Array.all_eq_true.mp hok i hin
      have h2 : x.cps[i] = c := by rw [Array.getElem?_eq_getElem hin] at hc; exact Option.some.inj hc
      rw [h2] at h1
      show (#[c] : Array Nat).all _ = true
      simpa using h1
    · intro ys hlen hall
      obtain ⟨xs, hz, hzl, hzo⟩ := strsAre_of_all hall
      intro D h tk F1 N1 off1
      try dsimp only
      k_steps
      rename News g' _ _ _ => Nw
      refine eq_strsL (us := []) (ys := []) (Nw.isList (.tail _ (.head _))) hz (Nw.isList (.head _)) .nil hzo (fun _ h => absurd h List.not_mem_nil) (by show un + 3 + 64 < cLine; lia) ?_
      by_cases hxs : xs = []
      · have hall2 : x.cps.all safeC = true := (filter_safe x).mp (by rw [← hlen, ← hzl, hxs]; rfl)
        rw [decide_eq_true hxs]
        k_steps
        rw [← LQ_safe hne hall2]
        exact ret _ _ _ (stays_end st' (by assumption))
      · have hall2 : ¬ x.cps.all safeC = true := fun hc => hxs (List.eq_nil_of_length_eq_zero (by rw [hzl, hlen]; exact (filter_safe x).mpr hc))
        rw [decide_eq_false hxs]
        k_steps
        rw [← LQ_not hall2]
        exact ret _ _ _ (stays_end st' (by assumption))
  · rename (x != _) = false => hne
    rw [← LQ_empty hne]
    exact ret _ _ _ (stays_end st' (by assumption))
end
end Mine
end

section -- B3
open PySem PySem.W PyProof.Rows PySem.Calls PySem.Spec
set_option maxRecDepth 100000
set_option maxHeartbeats 400000
namespace Mine
section
variable {prog : Program} {w : World} {A : Around} {E : Value → Shared → Prop} {s : Shared} {env : Env} {h₀ : Heap} {x : Str} {body : List Stmt} {Q : Flow → Shared → Prop}
noncomputable def IterEnd (h₀ : Heap) (L I : Addr) (oI : Obj) (J : (Str → Option Value) → List (Addr × Obj) → Prop) (s₁ s₂ : Shared) : Prop :=
  ∃ h' tk m' all nx, s₂ = { s₁ with heap := h', toks := tk } ∧ Fr h₀ L h' m' ∧ News h₀ L h' all ∧ (I, oI) ∈ all ∧ (∀ p ∈ nx, p ∈ all) ∧ (∀ p ∈ nx, p.1 ≠ I) ∧ J m' nx
noncomputable def IterPost (h₀ : Heap) (L I : Addr) (oI : Obj) (J : (Str → Option Value) → List (Addr × Obj) → Prop) (s₁ : Shared) (Q : Flow → Shared → Prop) (f : Flow) (s₂ : Shared) : Prop :=
  match f with
  | .ret v => Q (.ret v) s₂
  | .brk => Q .next s₂
  | _ => IterEnd h₀ L I oI J s₁ s₂
/-- any loop whose iterator is an object of its own, over what stands in the ground or in the ledger for good -/
theorem iter_walks {I : Addr} {fp : List Addr} {n : Nat} {P : Nat → Value → Prop} {St : Nat → Heap → Prop} {m₀ : Str → Option Value} {news : List (Addr × Obj)} (J : Nat → (Str → Option Value) → List (Addr × Obj) → Prop)
    (W : Walks prog w A I fp [I] n P St) (hI : I ∈ fp) (hLf : env.locals ∉ fp) (hwr : h₀.get? I = none) (hnw : ∀ p ∈ news, p.1 ≠ I) (hst : St 0 s.heap) (F : Fr h₀ env.locals s.heap m₀) (N : News h₀ env.locals s.heap news) (hj : J 0 m₀ news)
    (hSt : ∀ i h, St i h → ∃ o, h.get? I = some o) (hfp : ∀ b ∈ fp, b ≠ I → (∃ o, h₀.get? b = some o) ∨ ∃ o, ∀ i m nx, J i m nx → (b, o) ∈ nx)
    (turn : ∀ i v oI m₁ news₁ h tk, i < n → P i v → J i m₁ news₁ → (∀ p ∈ news₁, p.1 ≠ I) → Fr h₀ env.locals h (fun y => if y = x then some v else m₁ y) → News h₀ env.locals h ((I, oI) :: news₁) →
      wpAny (model prog w) A (execs body env) (IterPost h₀ env.locals I oI (J (i + 1)) { s with heap := h, toks := tk } Q) E { s with heap := h, toks := tk })
    (done : ∀ m₁ news₁ h tk, J n m₁ news₁ → Fr h₀ env.locals h m₁ → News h₀ env.locals h news₁ → Q .next { s with heap := h, toks := tk }) :
    LoopAtV prog w A h₀ env x body Q E (.ref I) s := by
  refine ⟨I, fp, [I], n, P, St, m₀, news, J, rfl, W, hLf, ?_, ?_, hst, F, N, hj, ?_, ?_⟩
  · intro b hb
    rw [List.mem_singleton.mp hb]; exact hwr
  · intro p hp hm
    exact hnw p hp (List.mem_singleton.mp hm)
  · rintro i v m₁ news₁ s₁ own ⟨hh', tk', rfl⟩ hin hP hJ hoff hown hget hmem hst₁ F₁ N₁
    obtain ⟨oI, hoI⟩ := hSt _ _ hst₁
    have hIo : (I, oI) ∈ own := hmem I hI hwr oI hoI
    have hoff' : ∀ p ∈ news₁, p.1 ≠ I := fun p hp e => hoff p hp (List.mem_singleton.mpr e)
    have N₂ : News h₀ env.locals hh' ((I, oI) :: news₁) := fun p hp => by
      rcases List.mem_cons.mp hp with rfl | hp
      · exact N₁ _ (List.mem_append_left _ hIo)
      · exact N₁ _ (List.mem_append_right _ hp)
    refine wpAny_mono (turn i v oI m₁ news₁ hh' tk' hin hP hJ hoff' F₁ N₂) (fun f s₂ p => ?_) fun _ _ e => e
    have fin : IterEnd h₀ env.locals I oI (J (i + 1)) { s with heap := hh', toks := tk' } s₂ → LoopStepU h₀ env.locals [I] own (J (i + 1)) { s with heap := hh', toks := tk' } .next s₂ := by
      rintro ⟨h', tk, m', all, nx, e, F', N', hI', hn, hne, hm⟩
      refine ⟨rfl, h', tk, m', nx, e, F', fun q hq => ?_, fun q hq hm' => hne q hq (List.mem_singleton.mp hm'), hm⟩
      rcases List.mem_append.mp hq with hq | hq
      · by_cases hqI : q.1 = I
        · have : q = (I, oI) := by
            have h1 := hget q hq
            rw [hqI] at h1
            obtain ⟨qa, qo⟩ := q
            have h2 : some qo = some oI := h1.symm.trans hoI
            cases hqI; cases h2; rfl
          rw [this]; exact N' _ hI'
        · rcases hfp q.1 (hown q hq) hqI with ⟨o, ho⟩ | ⟨o, ho⟩
          · have h1 := (N₁ q (List.mem_append_left _ hq)).2.2
            rw [ho] at h1; cases h1
          · have h1 := hget q hq
            have h2 := (N₁ (q.1, o) (List.mem_append_right _ (ho _ _ _ hJ))).1
            have : q = (q.1, o) := by
              obtain ⟨qa, qo⟩ := q
              have h3 : some qo = some o := h1.symm.trans h2
              cases h3; rfl
            rw [this]
            exact N' _ (hn _ (ho _ _ _ hm))
      · exact N' _ (hn _ hq)
    cases f with
    | ret v => exact .ret p
    | brk => exact .brk p
    | next => exact .next (fin p)
    | cont => exact .cont (fin p)
  · rintro h' tk m' news' F' N' _ hJ
    exact done m' news' h' tk hJ F' N'
theorem kstB_self {m₁ : Str → Option Value} {ps : List (Str × Value)} (h : ∀ p ∈ ps, m₁ p.1 = some p.2) : kstB m₁ ps = m₁ := by
  funext y
  exact kstB_eq h fun _ => rfl
/-- what is said between two turns: the ledger and the names by a state c -/
noncomputable def IJ {σ : Type} (Led : σ → List (Addr × Obj)) (ps : σ → List (Str × Value)) (P : Nat → σ → Prop) (i : Nat) (m : Str → Option Value) (nx : List (Addr × Obj)) : Prop := ∃ c, nx = Led c ∧ (∀ p ∈ ps c, m p.1 = some p.2) ∧ P i c
theorem iter_end {σ : Type} {Led : σ → List (Addr × Obj)} {ps : σ → List (Str × Value)} {P : Nat → σ → Prop} {i : Nat} {L I : Addr} {oI : Obj} {h' : Heap} {m' : Str → Option Value} {all : List (Addr × Obj)} {tk : Nat} (c : σ) (F : Fr h₀ L h' m') (N : News h₀ L h' all)
    (hI : (I, oI) ∈ all) (hn : ∀ p ∈ Led c, p ∈ all) (ho : ∀ p ∈ Led c, p.1 ≠ I) (hk : ∀ p ∈ ps c, m' p.1 = some p.2) (hp : P i c) : IterPost h₀ L I oI (IJ Led ps P i) s Q .next { s with heap := h', toks := tk } :=
  ⟨h', tk, m', all, Led c, rfl, F, N, hI, hn, ho, c, rfl, hk, hp⟩
theorem iter_list {σ : Type} {l : Addr} {vs : List Value} {m₀ : Str → Option Value} (Led : σ → List (Addr × Obj)) (ps : σ → List (Str × Value)) (P : Nat → σ → Prop) (c₀ : σ)
    (hh : A.handled = none) (hl : h₀.IsList l vs.toArray ∨ ∃ n, ∀ c, (l, listOf vs.toArray n) ∈ Led c) (F : Fr h₀ env.locals s.heap m₀) (N : News h₀ env.locals s.heap (Led c₀)) (hk : ∀ p ∈ ps c₀, m₀ p.1 = some p.2) (hp : P 0 c₀)
    (turn : ∀ i v c (u : Str → Option Value) I oI h tk, vs[i]? = some v → P i c → (∀ p ∈ Led c, p.1 ≠ I) → Fr h₀ env.locals h (fun y => if y = x then some v else kstB u (ps c) y) → News h₀ env.locals h ((I, oI) :: Led c) →
      wpAny (model prog w) A (execs body env) (IterPost h₀ env.locals I oI (IJ Led ps P (i + 1)) { s with heap := h, toks := tk } Q) E { s with heap := h, toks := tk })
    (done : ∀ c (u : Str → Option Value) h tk, P vs.length c → Fr h₀ env.locals h (kstB u (ps c)) → News h₀ env.locals h (Led c) → Q .next { s with heap := h, toks := tk }) :
    wpAny (model prog w) A (pyIter (.ref l)) (fun it s₂ => LoopAtV prog w A h₀ env x body Q E it s₂) E s := by
  have hls : s.heap.IsList l vs.toArray := by
    rcases hl with hl | ⟨n, hl⟩
    · exact hl.at fun o e => F.keep l o e
    · exact ⟨_, (N _ (hl c₀)).1, rfl, _, rfl⟩
  have hlL : l ≠ env.locals := by
    rcases hl with hl | ⟨n, hl⟩
    · obtain ⟨ol, hol, _⟩ := hl
      intro e
      have := Nat.lt_of_lt_of_le (Heap.lt_size hol) F.above
      exact absurd this (e ▸ Nat.lt_irrefl _)
    · exact (N _ (hl c₀)).2.1
  have hlt : l < s.heap.objs.size := by
    obtain ⟨o, ho, _⟩ := hls
    exact Heap.lt_size ho
  refine wpAny_pyIter_list hls ?_
  have W := Walks.list (prog := prog) (w := w) hh s.heap.objs.size l (Nat.ne_of_lt hlt) vs.toArray
  refine iter_walks (IJ Led ps P) W (by simp) ?_ (next_is_new F) (fun p hp => Nat.ne_of_lt (Heap.lt_size (N p hp).1)) ⟨⟨_, Heap.get?_push_size _ rfl, rfl, rfl⟩, hls.at fun o e => Heap.get?_push_of_some _ e⟩ (F.push _) (fun p hp => ⟨Heap.get?_push_of_some _ (N p hp).1, (N p hp).2⟩)
    ⟨c₀, rfl, hk, hp⟩ (fun i h st => by obtain ⟨⟨o, e, _⟩, _⟩ := st; exact ⟨o, e⟩) ?_ ?_ ?_
  · intro hm
    rcases List.mem_cons.mp hm with e | hm
    · exact absurd F.ns.lt (e ▸ Nat.lt_irrefl _)
    · exact hlL (List.mem_singleton.mp hm).symm
  · intro b hb hbI
    rcases List.mem_cons.mp hb with e | hb
    · exact absurd e hbI
    · rw [List.mem_singleton.mp hb]
      rcases hl with hl | ⟨n, hl⟩
      · obtain ⟨ol, hol, _⟩ := hl
        exact .inl ⟨ol, hol⟩
      · exact .inr ⟨_, fun i m nx ⟨c, e, _⟩ => e ▸ hl c⟩
  · rintro i v oI m₁ news₁ h tk hin hP ⟨c, rfl, h1, h2⟩ hoff F₁ N₁
    refine turn i v c m₁ _ oI h tk (by simpa using hP) h2 hoff ?_ N₁
    rw [kstB_self h1]; exact F₁
  · rintro m₁ news₁ h tk ⟨c, rfl, h1, h2⟩ F₁ N₁
    refine done c m₁ h tk (by simpa using h2) ?_ N₁
    rw [kstB_self h1]; exact F₁
theorem iter_range {σ : Type} {r : Addr} {a₀ b₀ : Int} {t₀ u₀ v₀ : Tok} {n : Nat} {m₀ : Str → Option Value} (Led : σ → List (Addr × Obj)) (ps : σ → List (Str × Value)) (P : Nat → σ → Prop) (c₀ : σ)
    (hh : A.handled = none) (hr : IsRange s.heap r a₀ b₀ 1 t₀ u₀ v₀) (hsmall : Builtin.Range.small a₀ b₀ 1 = true) (hn : Builtin.Range.rangeSize a₀ b₀ 1 = (n : Int)) (F : Fr h₀ env.locals s.heap m₀) (N : News h₀ env.locals s.heap (Led c₀)) (hk : ∀ p ∈ ps c₀, m₀ p.1 = some p.2) (hp : P 0 c₀)
    (turn : ∀ (i : Nat) t c (u : Str → Option Value) I oI h tk, i < n → P i c → (∀ p ∈ Led c, p.1 ≠ I) → Fr h₀ env.locals h (fun y => if y = x then some (.int (a₀ + i) t) else kstB u (ps c) y) → News h₀ env.locals h ((I, oI) :: Led c) →
      wpAny (model prog w) A (execs body env) (IterPost h₀ env.locals I oI (IJ Led ps P (i + 1)) { s with heap := h, toks := tk } Q) E { s with heap := h, toks := tk })
    (done : ∀ c (u : Str → Option Value) h tk, P n c → Fr h₀ env.locals h (kstB u (ps c)) → News h₀ env.locals h (Led c) → Q .next { s with heap := h, toks := tk }) :
    wpAny (model prog w) A (pyIter (.ref r)) (fun it s₂ => LoopAtV prog w A h₀ env x body Q E it s₂) E s := by
  refine wpAny_pyIter_range hr hsmall ?_
  have W : Walks prog w A s.heap.objs.size [s.heap.objs.size] [s.heap.objs.size] n (fun i v => i < n ∧ ∃ t, v = .int (a₀ + i * 1) t)
      (fun i h => IsRangeIter h s.heap.objs.size (a₀ + (i : Nat) * 1) ((n : Int) - (i : Nat)) 1) := (Walks.range hh _ a₀ 1 n).bound
  refine iter_walks (IJ Led ps P) W (by simp) ?_ (next_is_new F) (fun p hp => Nat.ne_of_lt (Heap.lt_size (N p hp).1)) (by show IsRangeIter _ _ _ _ _; rw [hn]; simpa using Heap.get?_push_size _ rfl) (F.push _) (fun p hp => ⟨Heap.get?_push_of_some _ (N p hp).1, (N p hp).2⟩)
    ⟨c₀, rfl, hk, hp⟩ (fun i h st => ⟨_, st⟩) ?_ ?_ ?_
  · intro hm
    exact absurd F.ns.lt ((List.mem_singleton.mp hm) ▸ Nat.lt_irrefl _)
  · intro b hb hbI
    exact absurd (List.mem_singleton.mp hb) hbI
  · rintro i v oI m₁ news₁ h tk hin ⟨_, t, rfl⟩ ⟨c, rfl, h1, h2⟩ hoff F₁ N₁
    have e1 : a₀ + (i : Int) * 1 = a₀ + (i : Int) := by lia
    rw [e1] at F₁
    refine turn i t c m₁ _ oI h tk hin h2 hoff ?_ N₁
    rw [kstB_self h1]; exact F₁
  · rintro m₁ news₁ h tk ⟨c, rfl, h1, h2⟩ F₁ N₁
    refine done c m₁ h tk h2 ?_ N₁
    rw [kstB_self h1]; exact F₁
end
end Mine
end

section -- B4
open PySem PySem.W PyProof.Rows PySem.Calls PySem.Spec
set_option maxRecDepth 100000
set_option maxHeartbeats 400000
namespace Mine
section
variable {prog : Program} {w : World} {A : Around} {s : Shared} {K : Frag} {p : Program} {loose : List Str} {mean : ExcName → Option Value} {mg mb : Str → Option Value}
  {R : Result → Shared → Prop} {name qual : Str} {params : Arguments} {body : List Stmt} {scope : Scope} {dV kV doc pm cdv ct oc : Value} {an od : Option Addr} {osl : Array (Option Value)} {f : Addr} {args : Args} {binds : List (Str × Value)}
/-- a plain def entered from anywhere -/
theorem enterQ (X₀ : K.In s.heap) (T : Top p loose mean mg mb s.heap)
    (ho : K.lookup f = some ⟨oc, od, .func (fnOf name qual params body scope dV kV doc pm an cdv ct), osl⟩) (hcd : codeIn K cdv qual = true) (hroom : A.depth < recursionLimit)
    (hbind : BindsTo s (fnOf name qual params body scope dV kV doc pm an cdv ct) args binds) (hloc : ∀ y ∈ binds, scope.names.lookup y.1 = some .local)
    (h : ∀ L' h₁, Fr s.heap L' h₁ (fun y => binds.reverse.lookup y) → News s.heap L' h₁ [] →
      wpAny (model prog w) (A.deeper (envOf qual scope L' f cdv)) (execs body (envOf qual scope L' f cdv))
        (fun fl s' => R (.ok (.ret (match fl with | .ret v => v | _ => .none))) s')
        (fun e s' => wpAny (model prog w) (A.deeper (envOf qual scope L' f cdv)) (leaving (envOf qual scope L' f cdv) e) (fun _ s'' => R (.error e) s'') (fun e' s'' => R (.error e') s'') s')
        { s with heap := h₁, toks := s.toks + binds.length })
    (hco : scope.isCoroutine = false) (hgen : scope.isGenerator = false) (hk : scope.kind = .function)
    (hcell : ∀ x ∈ scope.names, x.2 ≠ .cell) : codeAny (model prog w) A (.call (.ref f) args) R s :=
  codeAny_call_def (fd := fnX name qual params body scope [] dV kV doc pm an cdv ct) (body := body) (binds := binds) hroom (X₀ _ _ ho) rfl T.nolimit (codeRec_of X₀ hcd) rfl hbind hcell hloc
    (fun h₁ hns hk₁ => h s.heap.objs.size h₁ ⟨hns, hk₁, Nat.le_refl _⟩ News.nil) hco hgen hk
end
end Mine
end

section -- S10
open PySem PySem.W PyProof.Rows PySem.Calls PySem.Spec
set_option maxRecDepth 100000
set_option pp.deepTerms false
set_option pp.deepTerms.threshold 6
set_option maxHeartbeats 8000000

namespace Mine
theorem safe_plain (c : Nat) : safeC c = plainS c := by
  by_cases h : c < 256
  · have := (by decide +kernel : ∀ x : Fin 256, safeC x.val = plainS x.val) ⟨c, h⟩
    exact this
  · have h1 : plainS c = false := by
      unfold plainS Sre.isWord Sre.isDigit
      simp only [Bool.or_eq_false_iff, Bool.and_eq_false_iff, decide_eq_false_iff_not, beq_eq_false_iff_ne]
      lia
    rw [h1]
    unfold safeC
    rw [Array.contains_eq_any_beq]
    cases hq : Array.any _ _ with
    | false => rfl
    | true =>
      exfalso
      obtain ⟨y, hy, he⟩ := Array.any_eq_true'.mp hq
      have hy2 : y < 256 := (by decide +kernel : ∀ y ∈ (Str.ofString "ABCDEFGHIJKLMNOPQRSTUVWXYZabcdefghijklmnopqrstuvwxyz0123456789_@%+=:,./-").cps, y < 256) y hy
      have := beq_iff_eq.mp he
      lia
theorem q_ne {x : Str} (h : (x.length : Int) ≠ 0) : (x != Str.ofString "") = true := by
  rw [bne_iff_ne]
  intro e
  rw [e] at h
  exact h rfl
theorem q_all {x : Str} (h : ∀ i, i < x.cps.size → plainS (x.cps.getD i 0) = true) : x.cps.all safeC = true := by
  rw [Array.all_eq_true]
  intro i hi
  have := h i hi
  rw [safe_plain]
  simpa [Array.getD, hi] using this
theorem q_plain {x : Str} (h : x.cps.all safeC = true) : ∀ i, i < x.cps.size → plainS (x.cps.getD i 0) = true := by
  intro i hi
  rw [Array.all_eq_true] at h
  have := h i hi
  rw [safe_plain] at this
  simpa [Array.getD, hi] using this
theorem q_nil {x : Str} (h : (x.length : Int) = 0) : LQ x = Str.ofString "''" := by
  have e : x = Str.ofString "" := by
    apply Str.ext'
    have : x.cps.size = 0 := by have : x.length = 0 := by lia
                                exact this
    exact Array.eq_empty_of_size_eq_zero this
  rw [e]
  decide +kernel
section
theorem c_quote {w : World} {p : Program} {loose : List Str} {mean : ExcName → Option Value} {mg mb : Str → Option Value} {A : Around} {s : Shared} {Q E : Value → Shared → Prop} {x : Str} {t1 : Tok} (hA : A.handled = none) (hd : A.depth + 3 < recursionLimit)
  (X : (Mine.mk0.heap_1 w.params).In s.heap) (T : Top p loose mean mg mb s.heap) (hx : x.cps.size ≤ 1000)
  (ret : ∀ (t : Tok) h' tk', s.heap.StaysIn h' → Q (.str (LQ x) t) {s with heap := h', toks := tk'}) :
  wpAny (Md w) A (call (.ref 115) [.str x t1]) Q E s := by
  obtain ⟨hnd, dp, fr, gd, un⟩ := A
  subst hA
  dsimp only at hd
  have hx2 : x.length ≤ 1000 := hx
  k_with_none
  k_with "m execs cons" => ((k_here; (try ((with_reducible refine Mine.toks_any ?_); intro zztk9)); (with_reducible refine wpAny_execs_cons ?_); (try dsimp only)))
  k_with "m execs nil" => ((k_here; (try ((with_reducible refine Mine.toks_any ?_); intro zztk9)); (with_reducible refine wpAny_execs_nil ?_); (try dsimp only)))
  k_with "m execs cons" => ((k_here; (with_reducible refine wpAny_execs_cons ?_); (try dsimp only)))
  k_with "m callWith ref" => ((k_here; refine callWith_bm0 (id := "re.Pattern.search") (self := .ref 100) ?_; (try dsimp only)))
  k_with "m And" => ((refine ⟨Fr.keep (by k_asm) _ _ (by assumption), ?_⟩))
  k_with "m call ref" => ((k_here; refine call_findq (Fr.keep (by k_asm) _ _ (by assumption)) (patS _ (Frag.In.keeps (by k_asm) (Fr.keep (by k_asm)))) (by lia) ?_ ?_; (intro zzp9; (try dsimp only)); rotate_left; (intro zzp9 zzh9 zzr9 zzst9; (have zzF9 := Fr.keeps (by k_asm) zzst9); (have zzN9 := News.grown (by k_asm) zzst9); (try dsimp only); (try k_sweep); (try k_fold)); rotate_right))
  refine wpAny_call ?_
  k_dflt (refine' enterQ ?k3 ?k5 ?k6 ?k7 ?k8 ?k9 ?kB ?_ ?c2 ?c3 ?c4 ?c5; (case k3 => exact X); (case k5 => exact T); (case k6 => k_is); (case k7 => k_is); (case k8 => exact Nat.lt_of_le_of_lt (Nat.le_add_right _ _) hd); (case k9 => exact BindsTo.of_eq rfl); (case c5 => decide); (case kB => exact locs rfl); (case c2 => exact rfl); (case c3 => exact rfl); (case c4 => exact rfl); k_whole)
  intro L' h' F' N'
  try dsimp only
  try k_fold
  have hb : s.heap.get? 108 = some (bm "re.Pattern.search" (.ref 100)) := X 108 _ rfl
  have hq6 : (Txt.replace x (Str.ofString "'") (Str.ofString "'\"'\"'")).length ≤ 6006 := Nat.le_trans (qesc_len x) (by lia)
  have ret' : ∀ (v : Str) t h' tk', LQ x = v → s.heap.StaysIn h' → Q (.str v t) {s with heap := h', toks := tk'} := fun v t h' tk' e st => e ▸ ret t h' tk' st
  k_steps
  · exact ret' _ _ _ _ (LQ_safe (q_ne (by assumption)) (q_all (by assumption))) F'.keep
  · rename Fr _ _ _ _ => F9
    exact ret' _ _ _ _ (LQ_not (fun h => absurd (q_plain h) (by assumption))) F9.keep
  · exact ret' _ _ _ _ (q_nil (by assumption)) F'.keep
end
end Mine
end

section -- B5
open PySem PySem.W PyProof.Rows PySem.Calls PySem.Spec
set_option maxRecDepth 100000
set_option maxHeartbeats 400000
namespace Mine
/-- the place table of a code that makes one generator -/
noncomputable def TabG (pos : Pos) (ps : Array Value) : Prop := ps = #[] ∨ ∃ c : Addr, ps = #[rawInt pos.line, rawInt pos.col, .ref c]
section
variable {prog : Program} {w : World} {A : Around} {E : Value → Shared → Prop} {s : Shared} {c P : Addr} {ps : Array Value} {mg : Str → Option Value} {bm : Addr} {ob : Obj}
theorem genCode {env : Env} {pos : Pos} {qualname : Str} {scope : Scope} {M : Model} {Q : Value → Shared → Prop} (hcode : env.code = .ref c) (C : CodeHd s.heap c P) (hP : s.heap.get? P = some (tabObj ps)) (hps : TabG pos ps)
    (h : ∀ c' h' tk ps', Heap.ExtBut P s.heap h' → s.heap.objs.size ≤ h'.objs.size → h'.get? P = some (tabObj ps') → TabG pos ps' → Q c' { s with heap := h', toks := tk }) :
    wpAny M A (genexprCode env pos qualname scope) Q E s := by
  rcases hps with rfl | ⟨c', rfl⟩
  · refine wpAny_genexprCodeX hcode (C.code hP trivial) (C.tab hP) rfl fun c' h₃ tk₃ hx₃ hge hlt hcode₃ _ htab₃ _ => ?_
    exact h _ _ _ _ hx₃ (Nat.le_trans hge (Nat.le_of_lt hlt)) htab₃.2 (.inr ⟨c', rfl⟩)
  · refine wpAny_genexprCode_hit (c' := .ref c') hcode (C.code hP (by simp [TriplesOk, rawInt])) (by simp [codeAmong, rawInt]) ?_
    exact h _ s.heap s.toks _ (fun b o _ e => e) (Nat.le_refl _) hP (.inr ⟨c', rfl⟩)

theorem gen_list {env : Env} {elt iter : Expr} {x : Str} {px : Pos} {scope : Scope} {cl : List (Str × Addr)} {pos : Pos} {Q : Value → Shared → Prop} {l : Addr} {items : Array Value} {F : Nat → Value → Prop}
    (hcode : env.code = .ref c) (C : CodeHd s.heap c P) (hP : s.heap.get? P = some (tabObj ps)) (hps : TabG pos ps) (M : BMod s.heap env.globals mg bm ob) (G : AllBare s.gens) (hlim : s.heap.NoLimit) (hl : s.heap.IsList l items)
    (hh : A.handled = none) (hco : scope.isCoroutine = false) (hclos : closureFor scope env = pure cl) (hcell : ∀ y ∈ scope.names, y.2 ≠ .cell) (h0 : scope.names.lookup (".0" : Str) = some NameKind.local)
    (hx : scope.names.lookup x = some .local) (hkind : scope.kind = .function) (hroom : A.depth < recursionLimit)
    (hit : ∀ Q : Value → Shared → Prop, Q (.ref l) s → wpAny (model prog w) A (eval iter env) Q E s)
    (helt : ∀ (code : Value) (C : Addr) (A' : Around) E' i v (t : Shared) m₂, A'.handled = none → A'.depth ≤ A.depth + 1 → A'.units ≤ A.units + 8 → items[i]? = some v → t.heap.Ns C m₂ → m₂ x = some v → s.heap.objs.size ≤ C →
      (∀ b o, b ≠ P → s.heap.get? b = some o → t.heap.get? b = some o) → wpAny (model prog w) A' (eval elt (genEnv scope cl C code builtinsNs env)) (fun y s₃ => F i y ∧ Keeps t s₃) E' t)
    (hQ : ∀ a s₅ ps', TabG pos ps' → AllBare s₅.gens → s₅.os = s.os → (∀ b o, b ≠ P → s.heap.get? b = some o → s₅.heap.get? b = some o) → s₅.heap.get? P = some (tabObj ps') →
      Gen prog w A (s.heap.objs.size - 1) a items.size F s₅ → Q (.ref a) s₅)
    (hs : ∀ x, genFold iter env x = pure x) :
    wpAny (model prog w) A (eval (.GeneratorExp elt [⟨.Name x px, iter, [], 0⟩] scope pos) env) Q E s := by
  have hlt : l < s.heap.objs.size := by obtain ⟨_, e, _⟩ := hl; exact Heap.lt_size e
  have hPlt : P < s.heap.objs.size := Heap.lt_size hP
  have hlP : l ≠ P := fun e => by
    obtain ⟨o, ho, hc, _⟩ := hl
    rw [e, hP] at ho; cases ho; exact absurd hc (by simp)
  have hcP : cStatics ≠ P := fun e => by
    obtain ⟨_, hns, _⟩ := hlim
    obtain ⟨o, es, ep, ho, hd, _⟩ := hns
    rw [e, hP] at ho; cases ho; cases hd
  refine wpAny_GeneratorExp_walksQD hh hco hclos hcell h0 hx hkind hroom (hit _ ?_) hs
  refine wpAny_pyIter_list hl ⟨hlim.push _, ?_⟩
  have hP2 : (s.heap.push { cls := .type "list_iterator", data := .fields #[.ref l, .int 0 0] }).get? P = some (tabObj ps) := Heap.get?_push_of_some _ hP
  refine genCode hcode (C.keeps fun _ _ e => Heap.get?_push_of_some _ e) hP2 hps fun c' h₃ tk₃ ps' hx₃ hsz hP₃ hps' => ?_
  have M₂ : BMod (s.heap.push { cls := .type "list_iterator", data := .fields #[.ref l, .int 0 0] }) env.globals mg bm ob := M.keeps fun _ _ e => Heap.get?_push_of_some _ e
  have M₃ : BMod h₃ env.globals mg bm ob := M₂.extBut ((C.keeps fun _ _ e => Heap.get?_push_of_some _ e).tab hP2) hx₃
  have hl₃ : h₃.NoLimit := (hlim.push _).extBut hx₃ hcP
  refine wpAny_builtinsFor M₃.ns M₃.name M₃.ne M₃.obj M₃.cls M₃.dict M₃.data ?_
  have hsz' : s.heap.objs.size + 1 ≤ h₃.objs.size := by have h := hsz; simp only [Heap.size_push] at h; exact h
  have hIP : s.heap.objs.size ≠ P := Nat.ne_of_gt hPlt
  have up : ∀ b o, b ≠ P → s.heap.get? b = some o → h₃.get? b = some o := fun b o hb e => hx₃ b o hb (Heap.get?_push_of_some _ e)
  refine ⟨s.heap.objs.size, [s.heap.objs.size, l], [s.heap.objs.size], items.size, _, _, fun _ => true, F, rfl, (fun A' hA => Walks.list hA _ _ (Nat.ne_of_lt hlt) items), ⟨⟨_, hx₃ _ _ hIP (Heap.get?_push_size _ rfl), rfl, rfl⟩, hl.at fun o e => up l o hlP e⟩, ?_, hl₃, ?_, (fun href hhref => ?_), fun a h₅ tk gs hgb hag hsz₅ hk₅ W hat => ?_⟩
  · intro b hb
    show b < h₃.objs.size
    rcases List.mem_cons.mp hb with rfl | hb
    · exact hsz'
    · rcases List.mem_cons.mp hb with rfl | hb
      · exact Nat.lt_of_lt_of_le hlt (Nat.le_of_succ_le hsz')
      · cases hb
  · intro hm
    have hc : cStatics < s.heap.objs.size := let ⟨_, hn, _⟩ := hlim; hn.lt
    rcases List.mem_cons.mp hm with e | hb
    · exact absurd (e ▸ hc) (Nat.lt_irrefl _)
    · cases hb
  · have inB : ∀ (t : Shared), (∀ b ∈ List.range h₃.objs.size, b ∉ [s.heap.objs.size] → ∀ o, href.get? b = some o → t.heap.get? b = some o) → ∀ b o, b ≠ P → s.heap.get? b = some o → t.heap.get? b = some o :=
      fun t hkp b o hbP e => hkp b (List.mem_range.mpr (Heap.lt_size (up b o hbP e))) (fun hm => by
        rcases List.mem_cons.mp hm with rfl | hm
        · exact Nat.lt_irrefl _ (Heap.lt_size e)
        · cases hm) o (hhref b o (up b o hbP e))
    refine ⟨fun A' E' i v t m₂ hA hD hU hP hn hm hkp => ?_, fun A' E' i v t m₂ hA hD hU hP hp hn hm hkp => helt _ _ A' E' i v t m₂ hA hD hU hP hn hm (Nat.le_of_succ_le hsz') (inB t hkp)⟩
    exact wpAny_pure ⟨rfl, _, _, rfl, fun _ _ e => e⟩
  · have hpass : passing (fun _ => true) items.size 0 = List.range items.size := by simp [passing]
    rw [hpass, List.length_range] at W
    refine hQ a _ ps' hps' (G.push hgb) rfl (fun b o hb e => hk₅ b o (up b o hb e)) (hk₅ _ _ hP₃) ⟨_, _, _, _, W.imp fun j y hy => ?_, hat, (fun i s' st => st.1.typeIs), List.mem_cons_self, ?_, ?_⟩
    · obtain ⟨i, e, f⟩ := hy
      obtain ⟨h1, h2⟩ := List.getElem?_eq_some_iff.mp e
      rw [List.getElem_range] at h2
      exact h2 ▸ f
    · intro b hb
      show b < h₅.objs.size
      rw [hsz₅]
      rcases List.mem_cons.mp hb with rfl | hb
      · exact Nat.lt_succ_self _
      · rcases List.mem_cons.mp hb with rfl | hb
        · exact Nat.lt_succ_of_lt hag
        · exact Nat.lt_succ_of_lt (Nat.lt_trans (List.mem_range.mp hb) hag)
    · intro b hb
      rcases List.mem_cons.mp hb with rfl | hb
      · exact Nat.lt_of_le_of_lt (Nat.sub_le _ _) hsz'
      · rcases List.mem_cons.mp hb with rfl | hb
        · exact Nat.sub_lt (Nat.zero_lt_of_lt hPlt) Nat.one_pos
        · cases hb
end
end Mine
end

section -- R12
open PySem PySem.W PyProof.Rows PySem.Calls PySem.Spec PySem.Builtin
set_option maxRecDepth 100000
set_option maxHeartbeats 400000
namespace Mine
theorem slot_md_get : Slot "method_descriptor" "__get__" "method_descriptor.__get__" :=
  .of (owner := "method_descriptor") (n := "__get__") (by rw [typeLookup_type, builtinLookup_eq_fast]; kernel_rfl) (by decide +kernel) (by decide +kernel) (by decide +kernel)
    (by first | exact .inl (by decide +kernel) | exact .inr (by decide +kernel)) (by rw [isSubtype_type]; kernel_rfl)
theorem entry_md_get : entryFor table "method_descriptor.__get__" = some Builtin.«method_descriptor.__get__» := entryFor_of_tree (by kernel_rfl)
theorem args_md_get (a b c : Value) : argsOk "method_descriptor.__get__" ⟨[a, b, c], []⟩ := by unfold argsOk; kernel_rfl
theorem md_noset : typeLookup (.type "method_descriptor") "__set__" = pure none := by rw [typeLookup_type, builtinLookup_eq_fast]; kernel_rfl
theorem md_nodelete : typeLookup (.type "method_descriptor") "__delete__" = pure none := by rw [typeLookup_type, builtinLookup_eq_fast]; kernel_rfl
theorem told_append : Manifest.toldItsClass.contains "list.append" = false := by decide +kernel
theorem owner_append : (kfb_private% "ownerAndName") "list.append" = ("list", "append") := by first | decide +kernel | kernel_rfl
theorem list_is_list : isSubtype (.type "list") (.type "list") = pure true := by first | rfl | (rw [isSubtype_type]; kernel_rfl)
theorem name_append : (kfb_private% "nameAndClass") (.builtin "list.append") = pure (Str.ofString "append", .type "list") := by
  have e : (kfb_private% "nameAndClass") (.builtin "list.append") = pure ((((kfb_private% "ownerAndName") "list.append").2 : Str), Value.type ((kfb_private% "ownerAndName") "list.append").1) := by first | rfl | kernel_rfl
  rw [e, owner_append]
section
variable {prog : Program} {w : World} {M : Model} {A : Around} {E : Value → Shared → Prop} {s : Shared} {l : Addr} {o : Obj}
theorem run_bind {P : Fin → Shared → Prop} (ho : s.heap.get? l = some o) (hc : o.cls = .type "list") (h : P (.done (.ret (.ref s.heap.objs.size))) { s with heap := s.heap.push (bm "list.append" (.ref l)) }) :
    wpAny M A (Builtin.«method_descriptor.__get__» ⟨[.builtin "list.append", .ref l, .type "list"], []⟩) P E s := by
  unfold Builtin.«method_descriptor.__get__»
  refine wpAny_bind (wpAny_of_eq (a := (.builtin "list.append", some (.ref l), some (.type "list"))) (by first | rfl | kernel_rfl) ?_)
  simp only [told_append, Bool.false_eq_true, if_false]
  show wpAny _ _ ((kfb_private% "checkInstance") (.builtin "list.append") (.ref l) >>= fun _ => newFields "builtin_function_or_method" [.builtin "list.append", .ref l] >>= ret) _ _ _
  refine wpAny_bind ?_
  show wpAny _ _ ((kfb_private% "nameAndClass") (.builtin "list.append") >>= _) _ _ _
  refine wpAny_bind (wpAny_of_eq (a := (Str.ofString "append", .type "list")) name_append ?_)
  refine wpAny_bind (wpAny_isInstance (T := "list") ⟨o, ho, hc⟩ list_is_list ?_)
  refine wpAny_pure ?_
  exact wpAny_bind (wpAny_newObj_type (wpAny_pure h))
theorem attr_append {t0 : Tok} {Q : Value → Shared → Prop} (ho : s.heap.get? l = some o) (hc : o.cls = .type "list") (hd : o.dict = none) (hs : ∃ its n, o.data = .seq its n)
    (h : ∀ tk, Q (.ref s.heap.objs.size) { s with heap := s.heap.push (bm "list.append" (.ref l)), toks := tk }) : wpAny (model prog w) A (getAttr (.ref l) "append" true) Q E s := by
  have hT : ∀ tk, ({ s with toks := tk } : Shared).TypeIs (.ref l) "list" := fun tk => ⟨_, ho, hc⟩
  unfold getAttr
  refine wpAny_bind (wpAny_mkText ?_)
  unfold getAttrBy
  refine wpAny_holding (wpAny_bind (wpAny_typeOf (hT _) ?_))
  refine wpAny_bind (wpAny_of_eq F.slot_list_getattribute.lookup ?_)
  show wpAny _ _ (getAttrByItsOwn _ _ _ _ _ _) _ _ _
  unfold getAttrByItsOwn
  refine wpAny_bind (wpAny_of_eq (show hookBefore (.type "list") = pure none from rfl) ?_)
  refine wpAny_bind (wpAny_attempt (wpAny_holding ?_))
  show wpAny _ _ (boundAndCalled _ _ _) _ _ _
  unfold boundAndCalled
  refine wpAny_bind (wpAny_of_eq (F.slot_list_getattribute.bind (.ref l)) ?_)
  refine wpAny_call_entry F.slot_list_getattribute (hT _) F.entry_list_ga ?_ (F.args_list_getattribute_2 _ _)
  unfold Builtin.«object.__getattribute__»
  refine wpAny_bind (wpAny_of_eq (a := (.ref l, [.str (Str.ofString "append") s.toks])) rfl ?_)
  refine wpAny_bind (wpAny_of_eq (a := Str.ofString "append") rfl ?_)
  refine wpAny_bind (wpAny_typeOf (hT _) ?_)
  have hB : ∀ s' : Shared, s'.TypeIs (.builtin "list.append") "method_descriptor" := fun s' => F.type_list_append
  refine wpAny_bind ?_
  unfold ObjectAttr.find
  refine wpAny_bind (wpAny_of_eq F.slot_list_append.lookup ?_)
  refine wpAny_bind (m := ObjectAttr.getOf _) (wpAny_specialOf (hB _) slot_md_get.lookup ?_)
  refine wpAny_bind (m := ObjectAttr.dataDescriptor? _ _) ?_
  show wpAny _ _ (ObjectAttr.takesStores _ >>= _) _ _ _
  unfold ObjectAttr.takesStores
  refine wpAny_bind (wpAny_bind (wpAny_specialOf (hB _) md_noset ?_))
  refine wpAny_bind (wpAny_specialOf (hB _) md_nodelete ?_)
  refine wpAny_pure (wpAny_pure ?_)
  show wpAny _ _ (ObjectAttr.ownThenClass _ _ _ _) _ _ _
  unfold ObjectAttr.ownThenClass
  refine wpAny_bind (m := ObjectAttr.inOwnDict _ _) ?_
  show wpAny _ _ (ObjectAttr.ownDict l >>= _) _ _ _
  unfold ObjectAttr.ownDict
  obtain ⟨its, n, hd2⟩ := hs
  have hld : ∀ (α : Type) (f : Obj → Sem α) (Q' : α → Shared → Prop) (E' : Value → Shared → Prop) (tk : Nat), wpAny (model prog w) A.in1 (f o) Q' E' { s with toks := tk } → wpAny (model prog w) A.in1 (loadHead l >>= f) Q' E' { s with toks := tk } := by
    intro α f Q' E' tk h
    exact wpAny_bind (wpAny_loadPart (part := some headPart) ho h)
  refine wpAny_bind ?_
  refine hld _ _ _ _ _ ?_
  rw [hd2]
  show wpAny _ _ (instanceDict l false) _ _ _
  unfold instanceDict
  refine hld _ _ _ _ _ ?_
  rw [hc, hd]
  refine wpAny_pure ?_
  refine wpAny_pure ?_
  show wpAny _ _ (ObjectAttr.copiedAttributeGuard _ _ >>= _) _ _ _
  refine wpAny_bind ?_
  unfold ObjectAttr.copiedAttributeGuard
  show wpAny _ _ (if _ then _ else _) _ _ _
  rw [if_neg (by decide)]
  refine wpAny_pure ?_
  show wpAny _ _ (rule _ >>= fun _ => pure _) _ _ _
  refine wpAny_bind (wpAny_rule (wpAny_pure ?_))
  show wpAny _ _ (ObjectAttr.bindTo (.builtin "method_descriptor.__get__") (.builtin "list.append") (.ref l) (.type "list")) _ _ _
  unfold ObjectAttr.bindTo
  show wpAny _ _ (holding [.builtin "list.append"] (call (.builtin "method_descriptor.__get__") [.builtin "list.append", .ref l, .type "list"]) >>= fun v => ret v) _ _ _
  refine wpAny_bind (wpAny_holding (wpAny_call_entry slot_md_get (hB _) entry_md_get (run_bind (s := { s with toks := s.toks + 1 }) ho hc ⟨_, rfl, wpAny_pure ⟨_, rfl, ?_⟩⟩) (args_md_get _ _ _)))
  exact wpAny_pure (h _)
end
theorem kind_append : builtinKind "list.append" = some .method := by first | decide +kernel | kernel_rfl
theorem var_append : Manifest.varargsMethods.contains "list.append" = false := by decide +kernel
theorem ck_append (a v : Value) : CkOk "list.append" "list" ⟨[a, v], []⟩ := by unfold CkOk; kernel_rfl
theorem plain_append : plainId "list.append" = true := by decide +kernel
theorem list_no_module : isSubtype (.type "list") (.type "module") = pure false := by rw [isSubtype_type]; kernel_rfl
theorem facts_append : ∃ id : String, id = "list.append" ∧ builtinKind id = some .method ∧ Manifest.varargsMethods.contains id = false ∧ ∀ a v, CkOk id "list" ⟨[a, v], []⟩ := ⟨_, rfl, kind_append, var_append, ck_append⟩
section
variable {prog : Program} {w : World} {M : Model} {A : Around} {E : Value → Shared → Prop} {s : Shared} {h₀ : Heap} {L D u : Addr} {m : Str → Option Value} {news news' : List (Addr × Obj)}
theorem check_append {a : Addr} {v : Value} {A' : Around} {Q : Unit → Shared → Prop} (hT : s.TypeIs (.ref a) "list") {o : Obj} (ho : s.heap.get? a = some o) (hd : ∀ c, o.data ≠ .cls c) (hq : Q () s) : wpAny M A' (checkBoundCall "list.append" ⟨[.ref a, v], []⟩) Q E s := by
  obtain ⟨id, e, h1, h2, h3⟩ := facts_append
  rw [← e]
  exact check_bm hT ho hd h1 h2 list_no_module (h3 _ _) hq
theorem entry_append : ∃ b, entryFor table "list.append" = some b ∧ ∀ (M : Model) (A : Around) (E : Value → Shared → Prop) (a : Addr) (v : Value) (s : Shared) (Q : Fin → Shared → Prop), wpAny M A (updateSeq a (·.push v) >>= fun _ => ret .none) Q E s → wpAny M A (b ⟨[.ref a, v], []⟩) Q E s :=
  ⟨_, entry_list_append, fun M A E a v s Q h => h⟩
/-- a bound append called -/
theorem call_add {its : Array Value} {n : Nat} {x : Value} {Q : Value → Shared → Prop} (hu : s.heap.get? u = some (bm "list.append" (.ref D))) (F : Fr h₀ L s.heap m) (N : News h₀ L s.heap news) (U : Upd D (listOf its n) (listOf (its.push x) (n + 1)) news news')
    (h : ∀ h', Fr h₀ L h' m → News h₀ L h' news' → Q .none { s with heap := h' }) (hsz : its.size < sizeLine) : wpAny (model prog w) A (call (.ref u) [x]) Q E s := by
  obtain ⟨pre, post, rfl, rfl, a, b⟩ := U.split
  have z := N (D, listOf its n) (List.mem_append.mpr (.inr (.head _)))
  obtain ⟨be, hbe, hrun⟩ := entry_append
  have hck : ∀ (Q' : Unit → Shared → Prop) (E' : Value → Shared → Prop) (A' : Around), Q' () s → wpAny (model prog w) A' (checkBoundCall "list.append" ⟨[.ref D, x], []⟩) Q' E' s := fun Q' E' A' hq => check_append ⟨_, z.1, rfl⟩ z.1 (fun c e => Data.noConfusion e) hq
  refine call_bm hu plain_append hbe hck (hrun _ _ _ _ _ _ _ ?_)
  refine wpAny_bind (wpAny_updateSeq z.1 rfl (wpAny_pure ⟨_, rfl, ?_⟩) (Nat.le_of_lt hsz) (by rw [Array.size_push]; exact Nat.succ_le_succ (Nat.le_of_lt hsz)))
  have hs : Heap.SameBut D s.heap (s.heap.update D fun o => o.mapSeq (·.push x)) := Heap.SameBut.update ..
  refine h _ (F.change hs z.2.1 z.2.2) (news_set N a b hs ?_)
  rw [Heap.get?_update_self _ z.1 (by rw [mapSeq_push]; rfl), mapSeq_push]
theorem attr_append_K {l : Addr} {its : Array Value} {n : Nat} {Q : Value → Shared → Prop} (F : Fr h₀ L s.heap m) (N : News h₀ L s.heap news) (hm : (l, listOf its n) ∈ news)
    (h : ∀ u h' tk, Fr h₀ L h' m → News h₀ L h' ((u, bm "list.append" (.ref l)) :: news) → (∀ p ∈ news, p.1 < u) → Q (.ref u) { s with heap := h', toks := tk }) : wpAny (model prog w) A (getAttr (.ref l) "append" true) Q E s :=
  attr_append (t0 := 0) (N _ hm).1 rfl rfl ⟨its, n, rfl⟩ fun tk => h _ _ tk (F.push _) (News.push F N _) fun p hp => Heap.lt_size (N p hp).1
theorem call_add_K {its : Array Value} {n : Nat} {x : Value} {Q : Value → Shared → Prop} (F : Fr h₀ L s.heap m) (N : News h₀ L s.heap news) (hm : (u, bm "list.append" (.ref D)) ∈ news) (U : Upd D (listOf its n) (listOf (its.push x) (n + 1)) news news')
    (hsz : its.size < sizeLine) (h : ∀ h', Fr h₀ L h' m → News h₀ L h' news' → Q .none { s with heap := h' }) : wpAny (model prog w) A (call (.ref u) [x]) Q E s := call_add (N _ hm).1 F N U h hsz
theorem callWith_add {pos : Pos} {env : Env} {e : Expr} {rest : List Expr} {Q : Value → Shared → Prop} (_N : News h₀ L s.heap news) (_hm : (u, bm "list.append" (.ref D)) ∈ news)
    (h : wpAny M A (spliced (backTo pos (starEach (e :: rest) env))) (fun vs s₁ => s₁.heap.get? u = some (bm "list.append" (.ref D)) ∧ wpAny M A (call (.ref u) vs) Q E s₁) E s)
    (he : starEach (e :: rest) env = (false, eval e env) :: starEach rest env) (hplain : (backTo pos (starEach rest env)).any (·.1) = false) :
    wpAny M A (callWith pos (.ref u) [] (backTo pos (starEach (e :: rest) env)) []) Q E s := callWith_bm0 h he hplain
end
end Mine
end

section -- R13
open PySem PySem.W PyProof.Rows PySem.Calls PySem.Spec PySem.Builtin PySem.Builtin.Re
set_option maxRecDepth 100000
set_option maxHeartbeats 400000
namespace Mine
section
variable {prog : Program} {w : World} {A : Around} {E : Value → Shared → Prop} {s : Shared}
theorem tail_all (x : Str) : Txt.join (Str.ofString "") ([] ++ tailQ x 0) = x := by
  apply sg_ext
  rw [sg_join0]
  unfold tailQ
  by_cases h : 0 < x.cps.size
  · rw [if_pos h]
    simp
  · rw [if_neg h]
    have : x.cps = #[] := Array.eq_empty_of_size_eq_zero (by lia)
    simp [sg, this]
/-- fnmatch's sub on a text without & ~ | -/
theorem sub_F {a f : Addr} {x : Str} {t : Tok} {Q : Value → Shared → Prop} (hp : IsPat s.heap a codeF 1) (hf : s.TypeIs (.ref f) "function") (hx : x.cps.size ≤ 1000) (hno : ∀ i < x.cps.size, tripleF (x.cps.getD i 0) = false)
    (hq : ∀ t' h' k, s.heap.StaysIn h' → Q (.str x t') { s with heap := h', toks := k }) :
    wpAny (model prog w) A (call (.builtin "re.Pattern.sub") [.ref a, .ref f, .str x t]) Q E s := by
  refine wpAny_call (sub_any hp hf ?_)
  have st0 : s.heap.StaysIn (s.heap.push { cls := .type "list", data := .seq #[] }) := fun b o e => Heap.get?_push_of_some _ e
  obtain ⟨e, hE, he⟩ := forF x.cps x.cps.size hno
  refine loop_end (s := { s with heap := s.heap.push { cls := .type "list", data := .seq #[] } }) (m := 4) (xs := []) (hp.keeps st0) (by lia) hE (by decide) he ⟨_, Heap.get?_push_size _ rfl, rfl, 0, rfl⟩ .nil (by decide) (by decide) fun t' h' k oth => ?_
  rw [tail_all]
  refine hq _ _ _ fun b o e => oth b o (fun q => ?_) (st0 b o e)
  rw [q] at e
  exact absurd (Heap.lt_size e) (Nat.lt_irrefl _)
end
end Mine
end

section -- R14
open PySem PySem.W PyProof.Rows PySem.Calls PySem.Spec PySem.Builtin
set_option maxRecDepth 100000
set_option maxHeartbeats 400000
namespace Mine
theorem mro_object : mroOf (.type "object") = pure [.type "object"] := by rw [mroOf_type]; kernel_rfl
theorem lookup_object_new : typeLookup (.type "object") "__new__" = pure (some (.builtin "object.__new__")) := by rw [typeLookup_type, builtinLookup_eq_fast]; kernel_rfl
theorem called_object : TypeCalled "object" "object.__new__" "object.__init__" :=
  ⟨by decide +kernel, by decide +kernel, ⟨_, _, mro_object⟩, madeBy_type mro_object lookup_object_new (by decide +kernel), by decide +kernel, by rw [isSubtype_type]; kernel_rfl, F.slot_object_init⟩
theorem typeCall_object : checkTypeCall "object" ⟨[], []⟩ = pure () := by kernel_rfl
theorem newCall_object : checkBuiltinCall "object.__new__" ⟨[.type "object"], []⟩ = pure () := by kernel_rfl
theorem entry_object_new : entryFor table "object.__new__" = some Builtin.«object.__new__» := entryFor_of_tree (by kernel_rfl)
noncomputable abbrev bareObj : Obj := { cls := .type "object", data := .plain }
theorem new_object_tree : ∃ k : Sem Fin, Builtin.«object.__new__» ⟨[.type "object"], []⟩ = (Bind.madeHere "object.__new__" (.type "object") >>= fun _ => k) ∧ k = (newObj (.type "object") .plain none >>= fun v => ret v) := by
  refine ⟨_, ?_, rfl⟩
  kernel_rfl
theorem made_object : Bind.madeHere "object.__new__" (.type "object") = pure () := by
  unfold Bind.madeHere
  rw [show Bind.staticBase (.type "object") = pure (.type "object") by first | rfl | kernel_rfl]
  simp only [pure_bind, called_object.made]
  rfl
section
variable {prog : Program} {w : World} {A : Around} {E : Value → Shared → Prop} {s : Shared} {h₀ : Heap} {L : Addr} {m : Str → Option Value} {news : List (Addr × Obj)}
theorem new_object_meets : Meets (Builtin.«object.__new__» ⟨[.type "object"], []⟩) (fun _ R s => R (.ok (.ret (.ref s.heap.objs.size))) { s with heap := s.heap.push bareObj }) := by
  refine Meets.of_wp fun prog w A R s hs => ?_
  obtain ⟨k, e, rfl⟩ := new_object_tree
  rw [e]
  refine wpAny_bind (wpAny_of_eq made_object ?_)
  exact wpAny_bind (wpAny_newObj_type (wpAny_pure ⟨_, rfl, hs⟩))
theorem call_object {Q : Value → Shared → Prop} (h : Q (.ref s.heap.objs.size) { s with heap := s.heap.push bareObj }) : wpAny (model prog w) A (call (.type "object") []) Q E s := by
  refine callType_meets called_object typeCall_object newCall_object entry_object_new F.entry_object_init new_object_meets (Q₁ := fun obj s₁ => s₁.TypeIs obj "object" ∧ Q obj s₁) ?_ fun obj s₁ hq => ?_
  · exact ⟨⟨_, Heap.get?_push_size _ rfl, rfl⟩, h⟩
  · refine ⟨hq.1, F.args_object_init_1 _, fun _ R s => R (.ok (.ret .none)) s, Meets.of_wp fun prog w A R s hs => wpAny_pure ⟨_, rfl, hs⟩, rfl, hq.2⟩
theorem call_object_K {Q : Value → Shared → Prop} (F : Fr h₀ L s.heap m) (N : News h₀ L s.heap news) (h : ∀ u h', Fr h₀ L h' m → News h₀ L h' ((u, bareObj) :: news) → (∀ p ∈ news, p.1 < u) → Q (.ref u) { s with heap := h' }) : wpAny (model prog w) A (call (.type "object") []) Q E s :=
  call_object (h _ _ (F.push _) (News.push F N _) fun p hp => Heap.lt_size (N p hp).1)
end
end Mine
end

section -- P1
open PySem PySem.W PyProof.Rows PySem.Calls PySem.Spec
set_option maxRecDepth 100000
set_option maxHeartbeats 4000000
namespace Mine
noncomputable def spc : List Nat := [40, 41, 91, 93, 123, 125, 63, 42, 43, 45, 124, 94, 36, 92, 46, 38, 126, 35, 32, 9, 10, 13, 11, 12]
noncomputable def spcS : Str := Str.ofString "()[]{}?*+-|^$\\.&~# \t\n\r\x0b\x0c"
theorem sg_spc : sg spcS = spc := by decide +kernel
noncomputable def badS : Str := Str.ofString "^-[&~|"
noncomputable def bad : List Nat := [94, 45, 91, 38, 126, 124]
theorem sg_bad : sg badS = bad := by decide +kernel

/-- the law's reading of a pattern's inside, sign by sign -/
noncomputable def itRun : List Nat → Option (List Nat) → Option (List (List Nat))
  | [], none => some []
  | [], some _ => none
  | c :: r, none =>
    if c = 46 ∧ r = [42] then some [[]]
    else if c = 91 then itRun r (some [])
    else if c = 92 then (match r with
      | d :: r' => if d ∈ spc then (itRun r' none).map ([d] :: ·) else none
      | [] => none)
    else if c ∈ spc then none
    else (itRun r none).map ([c] :: ·)
  | c :: r, some acc =>
    if c = 93 then (if acc = [] then none else (itRun r none).map (acc :: ·))
    else if c = 92 then (match r with
      | d :: r' => itRun r' (some (acc ++ [d]))
      | [] => none)
    else if c ∈ bad then none
    else itRun r (some (acc ++ [c]))

theorem itN (c : Nat) (r : List Nat) : itRun (c :: r) none = if c = 46 ∧ r = [42] then some [[]]
    else if c = 91 then itRun r (some [])
    else if c = 92 then (match r with
      | d :: r' => if d ∈ spc then (itRun r' none).map ([d] :: ·) else none
      | [] => none)
    else if c ∈ spc then none
    else (itRun r none).map ([c] :: ·) := by rw [itRun.eq_def]
theorem itS (c : Nat) (r acc : List Nat) : itRun (c :: r) (some acc) = if c = 93 then (if acc = [] then none else (itRun r none).map (acc :: ·))
    else if c = 92 then (match r with
      | d :: r' => itRun r' (some (acc ++ [d]))
      | [] => none)
    else if c ∈ bad then none
    else itRun r (some (acc ++ [c])) := by rw [itRun.eq_def]
/-- what holds between two turns of the reading: i of y's signs are read -/
noncomputable def PI (y : Str) (all : List (List Nat)) (items : List Str) (i : Int) : Prop :=
  0 ≤ i ∧ i ≤ y.length ∧ items.length ≤ i.toNat ∧ (∀ z ∈ items, PyData.strOk z = true) ∧ (itRun ((sg y).drop i.toNat) none).map (items.map sg ++ ·) = some all
noncomputable def PB (y : Str) (all : List (List Nat)) (items : List Str) (signs : Str) (i : Int) : Prop :=
  0 ≤ i ∧ i ≤ y.length ∧ items.length ≤ i.toNat ∧ signs.length ≤ i.toNat ∧ PyData.strOk signs = true ∧ (∀ z ∈ items, PyData.strOk z = true) ∧ (itRun ((sg y).drop i.toNat) (some (sg signs))).map (items.map sg ++ ·) = some all

section
variable {y : Str} {all : List (List Nat)} {items : List Str} {signs : Str} {i : Int}
theorem strOk_sg {x : Str} : PyData.strOk x = true ↔ ∀ c ∈ sg x, c < 0x110000 := by
  unfold PyData.strOk
  rw [Array.all_eq_true_iff_forall_mem]
  simp [sg]
theorem at_here (h0 : 0 ≤ i) (h : i < y.length) : (sg y).drop i.toNat = (sg y).getD i.toNat 0 :: (sg y).drop (i + 1).toNat := by
  rw [drop_head (by rw [sg_len]; lia)]
  congr 2
  lia
theorem item_ok (hy : PyData.strOk y = true) (h0 : 0 ≤ i) (h : i < y.length) : PyData.strOk ⟨#[(sg y).getD i.toNat 0]⟩ = true := by
  refine strOk_one (strOk_sg.mp hy _ ?_)
  have hb : i.toNat < (sg y).length := by rw [sg_len]; lia
  rw [List.getD_eq_getElem?_getD, List.getElem?_eq_getElem hb]
  exact List.getElem_mem hb
theorem snoc_ok {z : Str} (h : ∀ z ∈ items, PyData.strOk z = true) (hz : PyData.strOk z = true) : ∀ w ∈ items ++ [z], PyData.strOk w = true := fun w hw =>
  (List.mem_append.mp hw).elim (h w) fun hw => by rw [List.mem_singleton.mp hw]; exact hz
theorem map_snoc {z : Str} {o : Option (List (List Nat))} : (o.map (sg z :: ·)).map (items.map sg ++ ·) = o.map ((items ++ [z]).map sg ++ ·) := by
  cases o <;> simp
theorem pi_star (hP : PI y all items i) (h : i < y.length) (h1 : (Txt.slice y (some i) none == Str.ofString ".*") = true) : PI y all (items ++ [Str.ofString ""]) (i + 2) := by
  obtain ⟨h0, _, hn, hk, hr⟩ := hP
  have e : (sg y).drop i.toNat = [46, 42] := by
    rw [← slice_from h0 (by lia), beq_iff_eq.mp h1]; decide +kernel
  have hl : (sg y).length - i.toNat = 2 := by rw [← List.length_drop, e]; rfl
  rw [sg_len] at hl
  refine ⟨by lia, by lia, by simp only [List.length_append, List.length_singleton]; lia, snoc_ok hk (by decide +kernel), ?_⟩
  rw [e] at hr
  rw [List.drop_eq_nil_of_le (by rw [sg_len]; lia)]
  rw [← hr]
  simp [itRun]
  decide +kernel
theorem no_star (h0 : 0 ≤ i) (h : i < y.length) (h1 : (Txt.slice y (some i) none == Str.ofString ".*") = false) : ¬ ((sg y).getD i.toNat 0 = 46 ∧ (sg y).drop (i + 1).toNat = [42]) := by
  rintro ⟨a, b⟩
  have : Txt.slice y (some i) none = Str.ofString ".*" := by
    apply sg_ext
    rw [slice_from h0 (by lia), at_here h0 h, a, b]; decide +kernel
  rw [this] at h1
  exact absurd h1 (by decide +kernel)
theorem is_sign (h0 : 0 ≤ i) (h : i < y.length) {s : String} {d : Nat} (hd : Str.ofString s = ⟨#[d]⟩) {b : Bool} (hb : (Txt.item y i == Str.ofString s) = b) : decide ((sg y).getD i.toNat 0 = d) = b := by
  rw [← hb, item_sg h0 h, one_beq _ _ _ hd]
theorem is_in (h0 : 0 ≤ i) (h : i < y.length) {z : Str} {b : Bool} (hb : (Builtin.Str.occurrences z (Txt.item y i) 0 z.length 1).isEmpty = b) : decide ((sg y).getD i.toNat 0 ∈ sg z) = !b := by
  rw [← hb, item_sg h0 h, in_one]
theorem s_lb : Str.ofString "[" = ⟨#[91]⟩ := by decide +kernel
theorem s_rb : Str.ofString "]" = ⟨#[93]⟩ := by decide +kernel
theorem s_bs : Str.ofString "\\" = ⟨#[92]⟩ := by decide +kernel
theorem pi_open (hP : PI y all items i) (h : i < y.length) (h1 : (Txt.slice y (some i) none == Str.ofString ".*") = false) (h2 : (Txt.item y i == Str.ofString "[") = true) : PB y all items (Str.ofString "") (i + 1) := by
  obtain ⟨h0, _, hn, hk, hr⟩ := hP
  have c2 := of_decide_eq_true (is_sign h0 h s_lb h2)
  refine ⟨by lia, by lia, by lia, Nat.zero_le _, by decide +kernel, hk, ?_⟩
  rw [at_here h0 h, itN, if_neg (no_star h0 h h1), if_pos c2] at hr
  exact hr
theorem pi_esc (hy : PyData.strOk y = true) (hP : PI y all items i) (h : i + 1 < y.length) (h1 : (Txt.slice y (some i) none == Str.ofString ".*") = false) (h2 : (Txt.item y i == Str.ofString "[") = false) (h3 : (Txt.item y i == Str.ofString "\\") = true)
    (h4 : (Builtin.Str.occurrences (Str.ofString "()[]{}?*+-|^$\\.&~# \t\n\r\x0b\x0c") (Txt.item y (i + 1)) 0 (Str.length (Str.ofString "()[]{}?*+-|^$\\.&~# \t\n\r\x0b\x0c")) 1).isEmpty = false) : PI y all (items ++ [Txt.item y (i + 1)]) (i + 2) := by
  obtain ⟨h0, _, hn, hk, hr⟩ := hP
  have c2 := of_decide_eq_false (is_sign h0 (by lia) s_lb h2)
  have c3 := of_decide_eq_true (is_sign h0 (by lia) s_bs h3)
  have c4 := of_decide_eq_true (is_in (by lia) h h4)
  rw [show sg (Str.ofString "()[]{}?*+-|^$\\.&~# \t\n\r\x0b\x0c") = spc from sg_spc] at c4
  refine ⟨by lia, by lia, by simp only [List.length_append, List.length_singleton]; lia, snoc_ok hk (by rw [item_sg (by lia) h]; exact item_ok hy (by lia) h), ?_⟩
  rw [at_here h0 (by lia), itN, if_neg (no_star h0 (by lia) h1), if_neg c2, if_pos c3, at_here (i := i + 1) (by lia) h] at hr
  simp only [if_pos c4] at hr
  have e := map_snoc (items := items) (z := Txt.item y (i + 1)) (o := itRun ((sg y).drop (i + 2).toNat) none)
  rw [show sg (Txt.item y (i + 1)) = [(sg y).getD (i + 1).toNat 0] from by rw [item_sg (by lia) h]] at e
  rw [show i + 2 = i + 1 + 1 by lia] at e ⊢
  rw [← e]
  exact hr
theorem pi_plain (hy : PyData.strOk y = true) (hP : PI y all items i) (h : i < y.length) (h1 : (Txt.slice y (some i) none == Str.ofString ".*") = false) (h2 : (Txt.item y i == Str.ofString "[") = false)
    (h4 : (Builtin.Str.occurrences (Str.ofString "()[]{}?*+-|^$\\.&~# \t\n\r\x0b\x0c") (Txt.item y i) 0 (Str.length (Str.ofString "()[]{}?*+-|^$\\.&~# \t\n\r\x0b\x0c")) 1).isEmpty = true) : PI y all (items ++ [Txt.item y i]) (i + 1) := by
  obtain ⟨h0, _, hn, hk, hr⟩ := hP
  have c2 := of_decide_eq_false (is_sign h0 h s_lb h2)
  have c4 := of_decide_eq_false (is_in h0 h h4)
  rw [show sg (Str.ofString "()[]{}?*+-|^$\\.&~# \t\n\r\x0b\x0c") = spc from sg_spc] at c4
  have c3 : ¬ (sg y).getD i.toNat 0 = 92 := fun e => c4 (by rw [e]; decide)
  refine ⟨by lia, by lia, by simp only [List.length_append, List.length_singleton]; lia, snoc_ok hk (by rw [item_sg (by lia) h]; exact item_ok hy (by lia) h), ?_⟩
  rw [at_here h0 h, itN, if_neg (no_star h0 h h1), if_neg c2, if_neg c3, if_neg c4] at hr
  have e := map_snoc (items := items) (z := Txt.item y i) (o := itRun ((sg y).drop (i + 1).toNat) none)
  rw [show sg (Txt.item y i) = [(sg y).getD i.toNat 0] from by rw [item_sg h0 h]] at e
  rw [← e]
  exact hr
/-- a special sign that no bar stands before: the reading ends in none -/
theorem pi_bad (hP : PI y all items i) (h : i < y.length) (h1 : (Txt.slice y (some i) none == Str.ofString ".*") = false) (h2 : (Txt.item y i == Str.ofString "[") = false)
    (h3 : (Txt.item y i == Str.ofString "\\") = true → i + 1 < y.length → (Builtin.Str.occurrences (Str.ofString "()[]{}?*+-|^$\\.&~# \t\n\r\x0b\x0c") (Txt.item y (i + 1)) 0 (Str.length (Str.ofString "()[]{}?*+-|^$\\.&~# \t\n\r\x0b\x0c")) 1).isEmpty = true)
    (h4 : (Builtin.Str.occurrences (Str.ofString "()[]{}?*+-|^$\\.&~# \t\n\r\x0b\x0c") (Txt.item y i) 0 (Str.length (Str.ofString "()[]{}?*+-|^$\\.&~# \t\n\r\x0b\x0c")) 1).isEmpty = false) : False := by
  obtain ⟨h0, _, hn, hk, hr⟩ := hP
  have c2 := of_decide_eq_false (is_sign h0 h s_lb h2)
  have c4 := of_decide_eq_true (is_in h0 h h4)
  rw [show sg (Str.ofString "()[]{}?*+-|^$\\.&~# \t\n\r\x0b\x0c") = spc from sg_spc] at c4
  rw [at_here h0 h, itN, if_neg (no_star h0 h h1), if_neg c2] at hr
  by_cases c3 : (sg y).getD i.toNat 0 = 92
  · rw [if_pos c3] at hr
    by_cases h5 : i + 1 < y.length
    · rw [at_here (i := i + 1) (by lia) h5] at hr
      have hb : (Txt.item y i == Str.ofString "\\") = true := by rw [item_sg h0 h, one_beq _ _ _ s_bs, decide_eq_true c3]
      have c5 := of_decide_eq_false (is_in (by lia) h5 (h3 hb h5))
      rw [show sg (Str.ofString "()[]{}?*+-|^$\\.&~# \t\n\r\x0b\x0c") = spc from sg_spc] at c5
      simp only [if_neg c5] at hr
      cases hr
    · rw [List.drop_eq_nil_of_le (by rw [sg_len]; lia)] at hr
      cases hr
  · rw [if_neg c3, if_pos c4] at hr
    cases hr
theorem pi_end (hP : PI y all items i) (h : ¬ i < y.length) : items.map sg = all := by
  obtain ⟨h0, hle, hn, hk, hr⟩ := hP
  rw [List.drop_eq_nil_of_le (by rw [sg_len]; lia)] at hr
  simpa [itRun] using hr
-- within a bracket
theorem ne_sign (h0 : 0 ≤ i) (h : i < y.length) {s : String} {d : Nat} (hd : Str.ofString s = ⟨#[d]⟩) {b : Bool} (hb : (Txt.item y i != Str.ofString s) = b) : decide ((sg y).getD i.toNat 0 = d) = !b := by
  rw [← hb]
  show _ = !!(Txt.item y i == Str.ofString s)
  rw [Bool.not_not, item_sg h0 h, one_beq _ _ _ hd]
theorem cut_one (h0 : 0 ≤ i) (h : i < y.length) : Txt.slice y (some i) (some (i + 1)) = ⟨#[(sg y).getD i.toNat 0]⟩ := by
  apply sg_ext
  rw [slice_cut h0 (by lia), at_here h0 h, show (i + 1 - i).toNat = 1 by lia]
  rfl
theorem pb_take (hy : PyData.strOk y = true) (hP : PB y all items signs i) (h : i < y.length) (h1 : (Txt.item y i != Str.ofString "]") = true) (h2 : (Txt.item y i == Str.ofString "\\") = false)
    (h3 : (Builtin.Str.occurrences (Str.ofString "^-[&~|") (Txt.item y i) 0 (Str.length (Str.ofString "^-[&~|")) 1).isEmpty = true) : PB y all items (signs ++ Txt.slice y (some i) (some (i + 1))) (i + 1) := by
  obtain ⟨h0, _, hn, hs, hks, hk, hr⟩ := hP
  have c1 := of_decide_eq_false (ne_sign h0 h s_rb h1)
  have c2 := of_decide_eq_false (is_sign h0 h s_bs h2)
  have c3 := of_decide_eq_false (is_in h0 h h3)
  rw [show sg (Str.ofString "^-[&~|") = bad from sg_bad] at c3
  rw [cut_one h0 h]
  refine ⟨by lia, by lia, by lia, by rw [Str.length_append]; show signs.length + 1 ≤ _; lia, strOk_append hks (item_ok hy h0 h), hk, ?_⟩
  rw [at_here h0 h, itS, if_neg c1, if_neg c2, if_neg c3] at hr
  rw [sg_app]
  exact hr
theorem pb_esc (hy : PyData.strOk y = true) (hP : PB y all items signs i) (h : i < y.length) (h1 : (Txt.item y i != Str.ofString "]") = true) (h2 : (Txt.item y i == Str.ofString "\\") = true) : PB y all items (signs ++ Txt.slice y (some (i + 1)) (some (i + 1 + 1))) (i + 1 + 1) := by
  obtain ⟨h0, _, hn, hs, hks, hk, hr⟩ := hP
  have c1 := of_decide_eq_false (ne_sign h0 h s_rb h1)
  have c2 := of_decide_eq_true (is_sign h0 h s_bs h2)
  rw [at_here h0 h, itS, if_neg c1, if_pos c2] at hr
  by_cases h5 : i + 1 < y.length
  · rw [at_here (i := i + 1) (by lia) h5] at hr
    rw [cut_one (by lia) h5]
    refine ⟨by lia, by lia, by lia, by rw [Str.length_append]; show signs.length + 1 ≤ _; lia, strOk_append hks (item_ok hy (by lia) h5), hk, ?_⟩
    rw [sg_app]
    exact hr
  · rw [List.drop_eq_nil_of_le (by rw [sg_len]; lia)] at hr
    cases hr
theorem pb_bad (hP : PB y all items signs i) (h : i < y.length) (h1 : (Txt.item y i != Str.ofString "]") = true) (h2 : (Txt.item y i == Str.ofString "\\") = false)
    (h3 : (Builtin.Str.occurrences (Str.ofString "^-[&~|") (Txt.item y i) 0 (Str.length (Str.ofString "^-[&~|")) 1).isEmpty = false) : False := by
  obtain ⟨h0, _, hn, hs, hks, hk, hr⟩ := hP
  have c1 := of_decide_eq_false (ne_sign h0 h s_rb h1)
  have c2 := of_decide_eq_false (is_sign h0 h s_bs h2)
  have c3 := of_decide_eq_true (is_in h0 h h3)
  rw [show sg (Str.ofString "^-[&~|") = bad from sg_bad] at c3
  rw [at_here h0 h, itS, if_neg c1, if_neg c2, if_pos c3] at hr
  cases hr
theorem pb_over (hP : PB y all items signs i) (h : ¬ i < y.length) : False := by
  obtain ⟨h0, _, hn, hs, hks, hk, hr⟩ := hP
  rw [List.drop_eq_nil_of_le (by rw [sg_len]; lia)] at hr
  cases hr
theorem pb_none (hP : PB y all items signs i) (h : i < y.length) (h1 : (Txt.item y i != Str.ofString "]") = false) (h2 : (signs == Str.ofString "") = true) : False := by
  obtain ⟨h0, _, hn, hs, hks, hk, hr⟩ := hP
  have c1 := of_decide_eq_true (ne_sign h0 h s_rb h1)
  rw [at_here h0 h, itS, if_pos c1, beq_iff_eq.mp h2] at hr
  rw [if_pos (by decide +kernel)] at hr
  cases hr
theorem pb_close (hP : PB y all items signs i) (h : i < y.length) (h1 : (Txt.item y i != Str.ofString "]") = false) (h2 : (signs == Str.ofString "") = false) : PI y all (items ++ [signs]) (i + 1) := by
  obtain ⟨h0, _, hn, hs, hks, hk, hr⟩ := hP
  have c1 := of_decide_eq_true (ne_sign h0 h s_rb h1)
  have c2 : ¬ sg signs = [] := fun e => by
    have : signs = Str.ofString "" := sg_ext (e.trans (by decide +kernel))
    rw [this] at h2
    exact absurd h2 (by decide +kernel)
  rw [at_here h0 h, itS, if_pos c1, if_neg c2] at hr
  refine ⟨by lia, by lia, by simp only [List.length_append, List.length_singleton]; lia, snoc_ok hk hks, ?_⟩
  rw [← map_snoc]
  exact hr
end
end Mine
end

section -- R11
open PySem PySem.W PyProof.Rows PySem.Calls PySem.Spec PySem.Builtin PySem.Builtin.Str
set_option maxRecDepth 100000
set_option maxHeartbeats 400000
namespace Mine
/-- the table of the signs that mean something to a pattern -/
noncomputable def es71 : Array DictEntry := (spc.zipIdx.map fun p => (⟨(p.1 : Int), .int p.1 (393 + 6 * p.2), .str ⟨#[92, p.1]⟩ (397 + 6 * p.2)⟩ : DictEntry)).toArray
theorem look71 (P : Params) : (Mine.mk0.heap_1 P).lookup 71 = some ⟨.type "dict", none, .dict es71 24, #[]⟩ := by kernel_rfl
section
variable {prog : Program} {w : World} {A : Around} {E : Value → Shared → Prop} {s : Shared}
theorem map71 {h : Heap} (X : (Mine.mk0.heap_1 w.params).In h) : h.MapOf (intKind prog w) 71 (findBy Value.isInt es71) := by
  refine ⟨_, es71, 24, X 71 _ (look71 _), ⟨rfl, rfl, rfl⟩, rfl, ?_, fun k => rfl⟩
  have hb : (es71.toList.all fun e => match e.key with | .int k _ => e.hash == hashInt k | _ => false) = true := by decide +kernel
  intro e he
  have := List.all_eq_true.mp hb e (Array.mem_toList_iff.mpr he)
  cases hk : e.key with
  | int k t =>
    rw [hk] at this
    exact ⟨k, by simp [intKind, Value.isInt], beq_iff_eq.mp this⟩
  | _ => rw [hk] at this; cases this
theorem isInt_eq {k c : Int} {t : Tok} (h : Value.isInt c (.int k t) = true) : c = k := by
  have h2 : (k == c) = true := h
  exact (beq_iff_eq.mp h2).symm
theorem find_hit {c : Nat} (h : c ∈ spc) : ∃ t, findBy Value.isInt es71 (c : Int) = some (.str ⟨#[92, c]⟩ t) := by
  have hb := (by decide +kernel : ∀ c ∈ spc, (match findBy Value.isInt es71 ((c : Nat) : Int) with | some (.str x _) => x == ⟨#[92, c]⟩ | _ => false) = true) c h
  cases hf : findBy Value.isInt es71 (c : Int) with
  | none => rw [hf] at hb; cases hb
  | some v =>
    rw [hf] at hb
    cases v with
    | str x t => exact ⟨t, by rw [beq_iff_eq.mp hb]⟩
    | _ => cases hb
theorem find_miss {c : Nat} (h : c ∉ spc) : findBy Value.isInt es71 (c : Int) = none := by
  have hb : (es71.toList.all fun e => match e.key with | .int k _ => decide (0 ≤ k) && spc.contains k.toNat | _ => false) = true := by decide +kernel
  unfold findBy
  rw [Option.map_eq_none_iff, Array.find?_eq_none]
  intro e he hi
  have := List.all_eq_true.mp hb e (Array.mem_toList_iff.mpr he)
  cases hk : e.key with
  | int k t =>
    rw [hk] at this hi
    simp only [Bool.and_eq_true, decide_eq_true_eq] at this
    have hck : (c : Int) = k := isInt_eq hi
    apply h
    have h2 := List.contains_iff_mem.mp this.2
    rw [← hck] at h2
    simpa using h2
  | _ => rw [hk] at this; cases this
theorem tl_hit {c : Nat} {Q : Mapped → Shared → Prop} (X : (Mine.mk0.heap_1 w.params).In s.heap) (h : c ∈ spc) (hq : ∀ tk, Q (.text ⟨#[92, c]⟩) { s with toks := tk }) : wpAny (model prog w) A (tableLookup (.ref 71) c) Q E s := by
  obtain ⟨t, ht⟩ := find_hit h
  unfold tableLookup
  refine wpAny_bind (wpAny_attempt (wpAny_bind (wpAny_mkInt ?_)))
  refine wpAny_getItem_of (knd := intKind prog w) (by simp [intKind, Value.isInt]) (map71 X) ht ?_
  exact wpAny_of_eq (show _ = pure (Mapped.text ⟨#[92, c]⟩) from rfl) (hq _)
theorem tl_miss {c : Nat} {Q : Mapped → Shared → Prop} (X : (Mine.mk0.heap_1 w.params).In s.heap) (hh : A.handled = none) (h : c ∉ spc) (hq : ∀ h' tk, s.heap.StaysIn h' → Q .keep { s with heap := h', toks := tk }) : wpAny (model prog w) A (tableLookup (.ref 71) c) Q E s := by
  unfold tableLookup
  refine wpAny_bind (wpAny_attempt (wpAny_bind (wpAny_mkInt ?_)))
  refine wpAny_getItem_missing_of (knd := intKind prog w) (s := { s with toks := s.toks + 1 }) (by simp [intKind, Value.isInt]) (by decide) hh (map71 X) (find_miss h) fun h' e ne => ?_
  obtain ⟨ob, t, ho, hc, _⟩ := ne.there
  refine wpAny_bind (wpAny_isInstance ⟨ob, ho, hc⟩ (b := true) (by rw [isSubtype_type]; kernel_rfl) ?_)
  exact wpAny_bind (wpAny_rule (wpAny_pure (hq _ _ ne.keeps)))
noncomputable def escS (c : Nat) : Str := if c ∈ spc then ⟨#[92, c]⟩ else ⟨#[c]⟩
theorem translate_one {c : Nat} {t : Tok} {Q : Value → Shared → Prop} (X : (Mine.mk0.heap_1 w.params).In s.heap) (hh : A.handled = none) (hq : ∀ t' h' tk, s.heap.StaysIn h' → Q (.str (escS c) t') { s with heap := h', toks := tk }) :
    wpAny (model prog w) A (call (.builtin "str.translate") [.str ⟨#[c]⟩ t, .ref 71]) Q E s := by
  refine wpAny_call_entry F.slot_str_translate (show s.TypeIs (.str _ _) "str" from rfl) F.entry_str_translate ?_ (F.args_str_translate_2 _ _)
  unfold Builtin.«str.translate»
  refine wpAny_bind (wpAny_of_eq (show strOneArg "translate" ⟨[.str ⟨#[c]⟩ t, .ref 71], []⟩ = pure (.str ⟨#[c]⟩ t, ⟨#[c]⟩, .ref 71) from rfl) ?_)
  show wpAny _ _ (forIn (#[c] : Array Nat) _ _ >>= _) _ _ _
  rw [← Array.forIn_toList]
  show wpAny _ _ (forIn [c] _ _ >>= _) _ _ _
  rw [List.forIn_cons]
  have hX : (Mine.mk0.heap_1 w.params).In s.heap := X
  have fin : ∀ (z : Str) h' tk, escS c = z → z.length ≤ 2 → s.heap.StaysIn h' → wpAny (model prog w) A.in1 (retStr ⟨[z].reverse.foldl (fun acc p => acc ++ p.cps) #[]⟩) (fun fin s' => ∃ v, fin = .done (.ret v) ∧ Q v s') E { s with heap := h', toks := tk } := by
    intro z h' tk e hz st
    have e2 : (⟨[z].reverse.foldl (fun acc p => acc ++ p.cps) #[]⟩ : Str) = z := by simp
    rw [e2]
    unfold retStr
    refine wpAny_bind (wpAny_mkStr ?_ (by rw [sizeLine_eq]; lia))
    exact wpAny_pure ⟨_, rfl, e ▸ hq _ _ _ st⟩
  have hlast : ∀ (h' : Heap) tk (f : Mapped → Sem (ForInStep (List Str × Nat × Bool × List (Nat × Option Nat) × Bool))) (Q' : _ → Shared → Prop), s.heap.StaysIn h' →
      (∀ h'' tk', s.heap.StaysIn h'' → c ∉ spc → wpAny (model prog w) A.in1 (f .keep) Q' E { s with heap := h'', toks := tk' }) → (∀ tk', c ∈ spc → wpAny (model prog w) A.in1 (f (.text ⟨#[92, c]⟩)) Q' E { s with heap := h', toks := tk' }) →
      wpAny (model prog w) A.in1 (tableLookup (.ref 71) c >>= f) Q' E { s with heap := h', toks := tk } := by
    intro h' tk f Q' st k1 k2
    by_cases hs : c ∈ spc
    · exact wpAny_bind (tl_hit (s := { s with heap := h', toks := tk }) (hX.keeps st) hs fun tk' => k2 tk' hs)
    · exact wpAny_bind (tl_miss (s := { s with heap := h', toks := tk }) (hX.keeps st) hh hs fun h'' tk' st' => k1 h'' tk' (fun b o e => st' b o (st b o e)) hs)
  generalize (#[c] : Array Nat).all (fun x => decide (x < 128)) = fl
  cases fl
  · refine wpAny_bind (wpAny_bind ?_)
    show wpAny _ _ (tableLookup (.ref 71) c >>= _) _ _ _
    refine hlast _ _ _ _ (fun b o e => e) (fun h'' tk' st hn => ?_) (fun tk' hs => ?_)
    · exact wpAny_pure (wpAny_pure (fin _ _ _ (if_neg hn) (by show 1 ≤ 2; lia) st))
    · exact wpAny_pure (wpAny_pure (fin _ _ _ (if_pos hs) (Nat.le_refl 2) (fun b o e => e)))
  · refine wpAny_bind (wpAny_bind ?_)
    show wpAny _ _ (tableLookup (.ref 71) c >>= _) _ _ _
    refine hlast _ _ _ _ (fun b o e => e) (fun h'' tk' st hn => ?_) (fun tk' hs => ?_)
    · exact wpAny_pure (wpAny_pure (fin _ _ _ (if_neg hn) (by show 1 ≤ 2; lia) st))
    · show wpAny _ _ (rule _ >>= fun _ => tableLookup (.ref 71) c >>= _) _ _ _
      refine wpAny_bind (wpAny_rule ?_)
      refine hlast _ _ _ _ (fun b o e => e) (fun h'' tk' st hn => absurd hs hn) (fun tk'' _ => ?_)
      exact wpAny_pure (wpAny_pure (fin _ _ _ (if_pos hs) (Nat.le_refl 2) (fun b o e => e)))
end
end Mine
end

section -- S14
open PySem PySem.W PyProof.Rows PySem.Calls PySem.Spec
set_option maxRecDepth 100000
set_option pp.deepTerms false
set_option pp.deepTerms.threshold 6
set_option maxHeartbeats 8000000

namespace Mine
theorem meth_translate {M : Model} {A : Around} {E : Value → Shared → Prop} {s : Shared} {x : Str} {t : Tok} {pl : Sem Bool} {Q : Value × List Value → Shared → Prop} (h : Q (.builtin "str.translate", [.str x t]) s) : wpAny M A (getMethod (.str x t) "translate" pl) Q E s := by
  with_reducible exact GM.of (.str x t) (typeIs_str _ _ _) F.slot_str_translate F.type_str_translate GM.noRef h
section
theorem c_escape {w : World} {p : Program} {loose : List Str} {mean : ExcName → Option Value} {mg mb : Str → Option Value} {dp un : Nat} {gd : Option (List Code)} {cn : Str} {cs : Scope} {a : Addr} {ccd : Value} {cl : List (Str × Addr)} {outer : List Env} {A₀ : Around} {base h₀ : Heap} {L : Addr} {m : Str → Option Value} {s : Shared} {Q E : Value → Shared → Prop} {c : Nat} {t1 : Tok} (C : Cal w p loose mean mg mb A₀ base outer h₀ L m s.heap cs dp un 2)
  (ret : ∀ (t : Tok) h' tk', s.heap.StaysIn h' → Q (.str (escS c) t) {s with heap := h', toks := tk'}) :
  wpAny (Md w) (ktrTop dp un gd cn cs L a ccd cl outer) (call (.ref 81) [.str ⟨#[c]⟩ t1]) Q E s := by
  k_with_none
  k_with "m execs cons" => ((k_here; (try ((with_reducible refine Mine.toks_any ?_); intro zztk9)); (with_reducible refine wpAny_execs_cons ?_); (try dsimp only)))
  k_with "m execs nil" => ((k_here; (try ((with_reducible refine Mine.toks_any ?_); intro zztk9)); (with_reducible refine wpAny_execs_nil ?_); (try dsimp only)))
  k_with "m getMethod str" => ((k_here; with_reducible refine meth_translate ?_; (try dsimp only)))
  k_with "m call builtin:str.translate" => ((k_here; refine translate_one (Frag.In.keeps (by k_asm) (Fr.keep (by k_asm))) rfl ?_; intro zzt9 zzh9 zzk9 zzst9; (have zzF9 := Fr.keeps (by k_asm) zzst9); (have zzN9 := News.grown (by k_asm) zzst9); (try dsimp only); (try k_sweep); (try k_fold)))
  obtain ⟨B, F, X, T, kcs, hd, hu⟩ := C
  refine wpAny_call ?_
  k_dflt (refine' enterP ?k1 ?k2 ?k3 ?k5 ?kA ?kF ?kK ?k6 ?k7 ?k8 ?k9 ?kB ?_ ?c2 ?c3 ?c4 ?c5; (case kA => exact rfl); (case kF => exact rfl); (case kK => exact kcs); (case k1 => exact B); (case k2 => exact F); (case k3 => exact X); (case k5 => exact T); (case k6 => k_is); (case k7 => k_is); (case k8 => exact Nat.lt_of_le_of_lt (Nat.le_add_right _ _) hd); (case k9 => exact BindsTo.of_eq rfl); (case c5 => decide); (case kB => exact locs rfl); (case c2 => exact rfl); (case c3 => exact rfl); (case c4 => exact rfl); k_whole)
  intro g' L' h' st' sz' F' N' B' X' T'
  try dsimp only
  try k_fold
  k_steps
  all_goals exact ret _ _ _ (stays_end st' (by assumption))
theorem c_escape' {w : World} {p : Program} {loose : List Str} {mean : ExcName → Option Value} {mg mb : Str → Option Value} {dp un : Nat} {gd : Option (List Code)} {cn : Str} {cs : Scope} {a : Addr} {ccd : Value} {cl : List (Str × Addr)} {outer : List Env} {A₀ : Around} {base h₀ : Heap} {L : Addr} {m : Str → Option Value} {s : Shared} {Q E : Value → Shared → Prop} {c : Nat} {z : Str} {t1 : Tok} (C : Cal w p loose mean mg mb A₀ base outer h₀ L m s.heap cs dp un 2) (hz : z = ⟨#[c]⟩)
  (ret : ∀ (t : Tok) h' tk', s.heap.StaysIn h' → Q (.str (escS c) t) {s with heap := h', toks := tk'}) :
  wpAny (Md w) (ktrTop dp un gd cn cs L a ccd cl outer) (call (.ref 81) [.str z t1]) Q E s := by
  subst hz; exact c_escape C ret
end
end Mine
end

section -- P4
open PySem PySem.W PyProof.Rows PySem.Calls PySem.Spec
set_option maxRecDepth 100000
set_option maxHeartbeats 400000
namespace Mine
noncomputable def hexS : Str := Str.ofString "0123456789ABCDEFabcdef"
/-- what find tells of a figure -/
noncomputable def fnd (c : Nat) : Int := match Builtin.Str.occurrences hexS ⟨#[c]⟩ 0 hexS.length 1 with | i :: _ => (i : Int) | [] => -1
theorem isHex_mem {c : Nat} (h : isHex c = true) : c ∈ sg hexS := by
  unfold isHex at h
  have hc : c < 103 := by
    simp only [Bool.or_eq_true, Bool.and_eq_true, decide_eq_true_eq] at h; lia
  exact (by decide +kernel : ∀ c : Fin 103, isHex c.val = true → c.val ∈ sg hexS) ⟨c, hc⟩ h
theorem mem_isHex {c : Nat} (h : c ∈ sg hexS) : isHex c = true := (by decide +kernel : ∀ c ∈ sg hexS, isHex c = true) c h
theorem fnd_hex {c : Nat} (h : isHex c = true) : 0 ≤ fnd c ∧ fnd c < 22 ∧ (if fnd c < 16 then fnd c else fnd c - 6) = (hv c : Int) :=
  (by decide +kernel : ∀ c ∈ sg hexS, 0 ≤ fnd c ∧ fnd c < 22 ∧ (if fnd c < 16 then fnd c else fnd c - 6) = (hv c : Int)) c (isHex_mem h)
theorem fnd_not {c : Nat} (h : isHex c = false) : fnd c = -1 := by
  unfold fnd
  have hi := in_one hexS c
  have : decide (c ∈ sg hexS) = false := decide_eq_false fun hm => by rw [mem_isHex hm] at h; cases h
  rw [this] at hi
  cases hq : Builtin.Str.occurrences hexS ⟨#[c]⟩ 0 hexS.length 1 with
  | nil => rfl
  | cons a r => rw [hq] at hi; cases hi
theorem fnd_lt (c : Nat) : -1 ≤ fnd c ∧ fnd c < 22 := by
  cases h : isHex c with
  | true => have := fnd_hex h; lia
  | false => rw [fnd_not h]; lia
theorem fnd_is {c : Nat} (h : 0 ≤ fnd c) : isHex c = true := by
  cases hq : isHex c with
  | true => rfl
  | false => rw [fnd_not hq] at h; lia
theorem hv_lt16 {c : Nat} (h : isHex c = true) : hv c < 16 := (by decide +kernel : ∀ c ∈ sg hexS, hv c < 16) c (isHex_mem h)
noncomputable def fb (c : Nat) : Nat := if c = 95 then 32 else c
theorem fb_hex (c : Nat) : isHex (fb c) = isHex c := by
  unfold fb
  split
  · rename_i h; rw [h]; rfl
  · rfl
theorem fb_hv {c : Nat} (h : isHex c = true) : fb c = c := by
  unfold fb
  split
  · rename_i e; rw [e] at h; cases h
  · rfl
theorem fb_get (r : List Nat) (i : Nat) : (r.map fb).getD i 0 = fb (r.getD i 0) := by
  rw [List.getD_eq_getElem?_getD, List.getD_eq_getElem?_getD, List.getElem?_map]
  cases r[i]? <;> rfl
theorem fb_esc2 (r : List Nat) : esc2 (r.map fb) = esc2 r := by
  unfold esc2
  rw [fb_get, fb_get, fb_hex, fb_hex, List.length_map]
theorem LR_nil : LR [] = [] := decQ_nil
theorem LR_hit {c : Nat} {r : List Nat} (h : c = 61 ∧ esc2 r = true) : LR (c :: r) = (16 * hv (r.getD 0 0) + hv (r.getD 1 0)) :: LR (r.drop 2) := by
  show decQ ((c :: r).map fb) = _
  rw [List.map_cons, h.1, show fb 61 = 61 from rfl, decQ_hit ⟨rfl, by rw [fb_esc2]; exact h.2⟩, fb_get, fb_get]
  have h2 := h.2
  unfold esc2 at h2
  simp only [Bool.and_eq_true] at h2
  rw [fb_hv h2.1.2, fb_hv h2.2, ← List.map_drop]
  rfl
theorem LR_miss {c : Nat} {r : List Nat} (h : ¬ (c = 61 ∧ esc2 r = true)) : LR (c :: r) = (if c = 95 then 32 else c) :: LR r := by
  show decQ ((c :: r).map fb) = _
  have h1 : ¬ (fb c = 61 ∧ esc2 (r.map fb) = true) := by
    rw [fb_esc2]
    intro ⟨a, b⟩
    refine h ⟨?_, b⟩
    unfold fb at a
    split at a
    · lia
    · exact a
  rw [List.map_cons, decQ_miss h1]
  rfl
/-- what holds between two turns of _law_read -/
noncomputable def PR (x : Str) (signs : List Str) (i : Int) : Prop :=
  0 ≤ i ∧ i ≤ x.length ∧ signs.length ≤ i.toNat ∧ (∀ z ∈ signs, z.length ≤ 1 ∧ PyData.strOk z = true) ∧ signs.flatMap sg ++ LR ((sg x).drop i.toNat) = LR (sg x)
section
variable {x : Str} {signs : List Str} {i : Int}
theorem pr_start (x : Str) : PR x [] 0 := ⟨by lia, by lia, Nat.zero_le _, fun _ h => absurd h List.not_mem_nil, rfl⟩
theorem pr_end (h : PR x signs i) (hi : ¬ i < x.length) : signs.flatMap sg = LR (sg x) := by
  obtain ⟨h0, h1, h2, h3, h4⟩ := h
  rw [List.drop_eq_nil_of_le (by rw [sg_len]; lia), LR_nil, List.append_nil] at h4
  exact h4
theorem pr_snoc {z : Str} (h : ∀ z ∈ signs, z.length ≤ 1 ∧ PyData.strOk z = true) (hz : z.length ≤ 1 ∧ PyData.strOk z = true) : ∀ w ∈ signs ++ [z], w.length ≤ 1 ∧ PyData.strOk w = true := fun w hw =>
  (List.mem_append.mp hw).elim (h w) fun hw => by rw [List.mem_singleton.mp hw]; exact hz
/-- the signs behind i -/
theorem pr_two (h0 : 0 ≤ i) (hi : i < x.length) : sg (Txt.slice x (some (i + 1)) (some (i + 3))) = ((sg x).drop (i + 1).toNat).take 2 := by
  rw [slice_cut (by lia) (by lia), show (i + 3 - (i + 1)).toNat = 2 by lia]
theorem take2_nil {r : List Nat} (h : r.take 2 = []) : esc2 r = false := by
  cases r with
  | nil => rfl
  | cons a r => simp at h
theorem take2_one {r : List Nat} {a : Nat} (h : r.take 2 = [a]) : esc2 r = false := by
  match r, h with
  | [b], _ => rfl
  | b :: c :: r, h => simp at h
theorem take2_two {r : List Nat} {a b : Nat} (h : r.take 2 = [a, b]) : esc2 r = (isHex a && isHex b) ∧ r.getD 0 0 = a ∧ r.getD 1 0 = b := by
  match r, h with
  | c :: d :: r, h =>
    simp only [List.take_succ_cons, List.take_zero, List.cons.injEq, and_true] at h
    obtain ⟨rfl, rfl⟩ := h
    exact ⟨by simp [esc2], rfl, rfl⟩
theorem pr_hit {a b : Nat} {n : Int} (hP : PR x signs i) (hi : i < x.length) (he : (Txt.item x i == Str.ofString "=") = true) (h2 : ((sg x).drop (i + 1).toNat).take 2 = [a, b]) (ha : isHex a = true) (hb : isHex b = true)
    (hn : n = 16 * (hv a : Int) + hv b) (hx : PyData.strOk x = true) : PR x (signs ++ [⟨#[n.toNat]⟩]) (i + 3) := by
  obtain ⟨h0, h1, hl, hk, hr⟩ := hP
  have hc := of_decide_eq_true (is_sign h0 hi (d := 61) (by decide +kernel) he)
  obtain ⟨e1, e2, e3⟩ := take2_two h2
  have hlen : 2 ≤ ((sg x).drop (i + 1).toNat).length := by
    have := congrArg List.length h2
    rw [List.length_take] at this
    simp only [List.length_cons, List.length_nil] at this
    lia
  rw [List.length_drop, sg_len] at hlen
  refine ⟨by lia, by lia, by simp only [List.length_append, List.length_singleton]; lia, pr_snoc hk ⟨Nat.le_refl _, strOk_one ?_⟩, ?_⟩
  · have := hv_lt16 ha; have := hv_lt16 hb; lia
  · rw [← hr, at_here h0 hi, LR_hit ⟨hc, by rw [e1, ha, hb]; rfl⟩, e2, e3, List.drop_drop, List.flatMap_append, List.append_assoc]
    congr 1
    show [n.toNat] ++ _ = _
    rw [show (i + 3).toNat = (i + 1).toNat + 2 by lia]
    have : n.toNat = 16 * hv a + hv b := by lia
    rw [this]; rfl
theorem pr_miss {z : Str} (hP : PR x signs i) (hi : i < x.length) (hm : (Txt.item x i == Str.ofString "=") = true → esc2 ((sg x).drop (i + 1).toNat) = false) (hx : PyData.strOk x = true)
    (hz : z = if (Txt.item x i == Str.ofString "_") = true then Str.ofString " " else Txt.item x i) : PR x (signs ++ [z]) (i + 1) := by
  obtain ⟨h0, h1, hl, hk, hr⟩ := hP
  have hzz : z = ⟨#[if (sg x).getD i.toNat 0 = 95 then 32 else (sg x).getD i.toNat 0]⟩ := by
    rw [hz, item_sg h0 hi, one_beq _ _ 95 (by decide +kernel)]
    by_cases h : (sg x).getD i.toNat 0 = 95
    · rw [decide_eq_true h, if_pos rfl, if_pos h]; decide +kernel
    · rw [decide_eq_false h, if_neg Bool.false_ne_true, if_neg h]
  have hok : PyData.strOk z = true := by
    rw [hz]
    split
    · decide +kernel
    · rw [item_sg h0 hi]; exact item_ok hx h0 hi
  refine ⟨by lia, by lia, by simp only [List.length_append, List.length_singleton]; lia, pr_snoc hk ⟨by rw [hzz]; exact Nat.le_refl _, hok⟩, ?_⟩
  rw [← hr, at_here h0 hi, LR_miss, List.flatMap_append, List.append_assoc, hzz]
  · rfl
  · rintro ⟨hc, he⟩
    have : (Txt.item x i == Str.ofString "=") = true := by rw [item_sg h0 hi, one_beq _ _ 61 (by decide +kernel), decide_eq_true hc]
    rw [hm this] at he
    cases he
end
end Mine
end

section -- P5
open PySem PySem.W PyProof.Rows PySem.Calls PySem.Spec
set_option maxRecDepth 100000
set_option maxHeartbeats 400000
namespace Mine
/-- a pattern's pieces: a plain sign, or a bracket of signs -/
inductive Tk where
  | c (n : Nat)
  | br (q : List Nat)
deriving DecidableEq
noncomputable def rend1 : Tk → List Nat
  | .c n => [n]
  | .br q => 91 :: (q ++ [93])
noncomputable def rend (l : List Tk) : List Nat := l.flatMap rend1
theorem rend_app (a b : List Tk) : rend (a ++ b) = rend a ++ rend b := List.flatMap_append
/-- a figure's piece -/
noncomputable def figT (d : Nat) : Tk := if d < 10 then .c (48 + d) else .br [55 + d, 87 + d]
noncomputable def escT (o : Nat) : List Tk := [.c 61, figT (o / 16), figT (o % 16)]
noncomputable def plainT (o : Nat) : Tk := if o = 32 then .br [95, 32] else if o = 42 ∨ o = 63 ∨ o = 91 then .br [o] else .c o
noncomputable def stepT (rows : List (List Tk)) (o : Nat) : List (List Tk) :=
  if o = 95 then rows.map (· ++ escT o) else rows.map (· ++ [plainT o]) ++ rows.map (· ++ escT o)
noncomputable def rowsT (os : List Nat) : List (List Tk) := os.foldl stepT [[]]
theorem rowsT_snoc (os : List Nat) (o : Nat) : rowsT (os ++ [o]) = stepT (rowsT os) o := by simp [rowsT]
noncomputable def figS (d : Nat) : Str := ⟨(rend1 (figT d)).toArray⟩
theorem figS_lt {d : Nat} (h : d < 10) : figS d = ⟨#[48 + d]⟩ := by unfold figS figT; rw [if_pos h]; rfl
theorem fig_item : ∀ d : Fin 16, Txt.item (Str.ofString "0123456789ABCDEF") ((d.val : Nat) : Int) = ⟨#[if d.val < 10 then 48 + d.val else 55 + d.val]⟩ := by decide +kernel
theorem figS_ok : ∀ d : Fin 16, PyData.strOk (figS d.val) = true ∧ (figS d.val).length ≤ 4 := by decide +kernel
theorem rend1_le (d : Nat) : (rend1 (figT d)).length ≤ 4 := by
  unfold figT
  split <;> simp [rend1]
theorem esc_le (o : Nat) : (rend (escT o)).length ≤ 9 := by
  have h1 := rend1_le (o / 16)
  have h2 := rend1_le (o % 16)
  show ([61] ++ (rend1 (figT (o / 16)) ++ (rend1 (figT (o % 16)) ++ []))).length ≤ 9
  simp only [List.length_append, List.length_cons, List.length_nil]
  lia
theorem plain_le (o : Nat) : (rend [plainT o]).length ≤ 4 := by
  unfold plainT
  split
  · decide
  · split <;> simp [rend, rend1]
theorem step_mem {rows : List (List Tk)} {o : Nat} {r : List Tk} (h : r ∈ stepT rows o) : ∃ q ∈ rows, r = q ++ [plainT o] ∨ r = q ++ escT o := by
  unfold stepT at h
  split at h
  · obtain ⟨q, hq, rfl⟩ := List.mem_map.mp h
    exact ⟨q, hq, .inr rfl⟩
  · rcases List.mem_append.mp h with h | h
    · obtain ⟨q, hq, rfl⟩ := List.mem_map.mp h
      exact ⟨q, hq, .inl rfl⟩
    · obtain ⟨q, hq, rfl⟩ := List.mem_map.mp h
      exact ⟨q, hq, .inr rfl⟩
theorem fold_le : ∀ (os : List Nat) (rows : List (List Tk)) (k : Nat), (∀ r ∈ rows, (rend r).length ≤ k) → ∀ r ∈ os.foldl stepT rows, (rend r).length ≤ k + 9 * os.length
  | [], rows, k, h, r, hr => by simpa using h r hr
  | o :: os, rows, k, h, r, hr => by
    have := fold_le os (stepT rows o) (k + 9) (fun q hq => by
      obtain ⟨q', hq', e⟩ := step_mem hq
      have h1 := h q' hq'
      have h2 := esc_le o
      have h3 := plain_le o
      rcases e with rfl | rfl <;> rw [rend_app, List.length_append] <;> lia) r hr
    rw [List.length_cons]; lia
theorem fold_len : ∀ (os : List Nat) (rows : List (List Tk)), (os.foldl stepT rows).length ≤ 2 ^ os.length * rows.length
  | [], rows => by simp
  | o :: os, rows => by
    have h1 := fold_len os (stepT rows o)
    have h2 : (stepT rows o).length ≤ 2 * rows.length := by
      unfold stepT
      split
      · rw [List.length_map]; lia
      · rw [List.length_append, List.length_map, List.length_map]; lia
    rw [List.foldl_cons, List.length_cons, Nat.pow_succ, Nat.mul_assoc]
    exact Nat.le_trans h1 (Nat.mul_le_mul_left _ h2)
theorem rowsT_le {os : List Nat} (h : os.length ≤ 3) : ∀ r ∈ rowsT os, (rend r).length ≤ 27 := fun r hr => by
  have := fold_le os [[]] 0 (fun q hq => by rw [List.mem_singleton.mp hq]; exact Nat.le_refl _) r hr
  lia
theorem rowsT_len {os : List Nat} (h : os.length ≤ 3) : (rowsT os).length ≤ 8 := by
  have := fold_len os [[]]
  have h2 : 2 ^ os.length ≤ 2 ^ 3 := Nat.pow_le_pow_right (by decide) h
  simp only [List.length_singleton, Nat.mul_one] at this
  exact Nat.le_trans this h2
/-- signs of a piece are octets -/
noncomputable def Oct (l : List Nat) : Prop := ∀ c ∈ l, c < 256
theorem oct_app {a b : List Nat} (h : Oct a) (h' : Oct b) : Oct (a ++ b) := fun c hc => (List.mem_append.mp hc).elim (h c) (h' c)
theorem oct_fig {d : Nat} (h : d < 16) : Oct (rend1 (figT d)) := by
  intro c hc
  unfold figT at hc
  split at hc
  · rw [List.mem_singleton.mp hc]; lia
  · simp only [rend1, List.cons_append, List.nil_append, List.mem_cons, List.not_mem_nil, or_false] at hc
    lia
theorem oct_esc {o : Nat} (h : o < 256) : Oct (rend (escT o)) := by
  show Oct ([61] ++ (rend1 (figT (o / 16)) ++ (rend1 (figT (o % 16)) ++ [])))
  exact oct_app (fun c hc => by rw [List.mem_singleton.mp hc]; decide) (oct_app (oct_fig (by lia)) (oct_app (oct_fig (by lia)) fun c hc => nomatch hc))
theorem oct_plain {o : Nat} (h : o < 256) : Oct (rend [plainT o]) := by
  intro c hc
  unfold plainT at hc
  split at hc
  · exact (by decide : ∀ c ∈ rend [Tk.br [95, 32]], c < 256) c hc
  · split at hc
    · simp only [rend, rend1, List.flatMap_cons, List.flatMap_nil, List.append_nil, List.cons_append, List.nil_append, List.mem_cons, List.not_mem_nil, or_false] at hc
      lia
    · simp only [rend, rend1, List.flatMap_cons, List.flatMap_nil, List.append_nil, List.mem_cons, List.not_mem_nil, or_false] at hc
      lia
theorem fold_oct : ∀ (os : List Nat) (rows : List (List Tk)), (∀ o ∈ os, o < 256) → (∀ r ∈ rows, Oct (rend r)) → ∀ r ∈ os.foldl stepT rows, Oct (rend r)
  | [], rows, _, h, r, hr => h r hr
  | o :: os, rows, ho, h, r, hr => by
    refine fold_oct os (stepT rows o) (fun q hq => ho q (.tail _ hq)) (fun q hq => ?_) r hr
    obtain ⟨q', hq', e⟩ := step_mem hq
    have := ho o (.head _)
    rcases e with rfl | rfl <;> rw [rend_app]
    · exact oct_app (h q' hq') (oct_plain this)
    · exact oct_app (h q' hq') (oct_esc this)
theorem rowsT_oct {os : List Nat} (ho : ∀ o ∈ os, o < 256) : ∀ r ∈ rowsT os, Oct (rend r) :=
  fold_oct os [[]] ho fun q hq => by rw [List.mem_singleton.mp hq]; exact fun c hc => nomatch hc
theorem rows_xs {os : List Nat} (h : os.length ≤ 3) {xs : List Str} (hx : xs.map sg = (rowsT os).map rend) : xs.length ≤ 8 ∧ ∀ x ∈ xs, x.length ≤ 27 := by
  have hl := congrArg List.length hx
  rw [List.length_map, List.length_map] at hl
  refine ⟨hl ▸ rowsT_len h, fun x hm => ?_⟩
  have : sg x ∈ (rowsT os).map rend := hx ▸ List.mem_map_of_mem hm
  obtain ⟨r, hr, e⟩ := List.mem_map.mp this
  rw [← sg_len, ← e]
  exact rowsT_le h r hr
theorem rows_ok {os : List Nat} (ho : ∀ o ∈ os, o < 256) {xs : List Str} (hx : xs.map sg = (rowsT os).map rend) : ∀ x ∈ xs, Oct (sg x) := fun x hm => by
  have : sg x ∈ (rowsT os).map rend := hx ▸ List.mem_map_of_mem hm
  obtain ⟨r, hr, e⟩ := List.mem_map.mp this
  rw [← e]
  exact rowsT_oct ho r hr
end Mine
end

section -- P6
open PySem PySem.W PyProof.Rows PySem.Calls PySem.Spec
set_option maxRecDepth 100000
set_option maxHeartbeats 400000
namespace Mine
/-- the brackets that the law writes -/
noncomputable def brs : List (List Nat) := [[95, 32], [42], [63], [91], [65, 97], [66, 98], [67, 99], [68, 100], [69, 101], [70, 102]]
noncomputable def TkOk : Tk → Prop
  | .c n => n ≠ 42 ∧ n ≠ 63 ∧ n ≠ 91
  | .br q => q ∈ brs
noncomputable def brS (q : List Nat) : Str := if q = [91] then ⟨#[91, 92, 91, 93]⟩ else ⟨(91 :: (q ++ [93])).toArray⟩
/-- what translate writes for a piece -/
noncomputable def partS : Tk → Str
  | .c n => escS n
  | .br q => brS q
structure TrC where
  vs : List Value
  n : Nat
  i : Int
  t : Tok
  ps : Array Value
noncomputable def tailT (star : Bool) : List Nat := if star then [42] else []
structure TrP (x : Str) (all : List Tk) (star : Bool) (st : Addr) (c : TrC) : Prop where
  lo : 0 ≤ c.i
  hi : c.i ≤ x.length
  len : c.vs.length ≤ c.i.toNat
  mid : (∃ done rest, all = done ++ rest ∧ StrsAre c.vs (done.map partS) ∧ (sg x).drop c.i.toNat = rend rest ++ tailT star) ∨ (c.i = x.length ∧ star = true ∧ ∃ us, StrsAre us (all.map partS) ∧ c.vs = us ++ [.ref st])
section
variable {x : Str} {all : List Tk} {star : Bool} {st : Addr} {c : TrC}
theorem tr_start (hx : sg x = rend all ++ tailT star) (n : Nat) (t : Tok) (ps : Array Value) : TrP x all star st ⟨[], n, 0, t, ps⟩ :=
  ⟨Int.le_refl 0, Int.natCast_nonneg _, Nat.zero_le _, .inl ⟨[], all, rfl, .nil, hx⟩⟩
/-- at the star -/
structure TrStar (x : Str) (all : List Tk) (c : TrC) : Prop where
  item : Txt.item x c.i = ⟨#[42]⟩
  texts : StrsAre c.vs (all.map partS)
  last : c.i + 1 = x.length
structure TrPlain (x : Str) (all : List Tk) (star : Bool) (st : Addr) (c : TrC) (n : Nat) : Prop where
  item : Txt.item x c.i = ⟨#[n]⟩
  ok : n ≠ 42 ∧ n ≠ 63 ∧ n ≠ 91
  next : ∀ t k i' t' ps, i' = c.i + 1 → TrP x all star st ⟨c.vs ++ [.str (escS n) t], k, i', t', ps⟩
structure TrBr (x : Str) (all : List Tk) (star : Bool) (st : Addr) (c : TrC) (q : List Nat) : Prop where
  item : Txt.item x c.i = ⟨#[91]⟩
  ok : q ∈ brs
  fits : c.i + 1 + q.length < x.length
  sign : ∀ k : Nat, k < q.length → Txt.item x (c.i + 1 + k) = ⟨#[q.getD k 0]⟩
  close : Txt.item x (c.i + 1 + q.length) = ⟨#[93]⟩
  stuff : sg (Txt.slice x (some (c.i + 1)) (some (c.i + 1 + q.length))) = q
  next : ∀ t k i' t' ps, i' = c.i + 1 + q.length + 1 → TrP x all star st ⟨c.vs ++ [.str (brS q) t], k, i', t', ps⟩
theorem drop_get {l r : List Nat} {i k : Nat} (h : l.drop i = r) (hk : k < r.length) : l.getD (i + k) 0 = r.getD k 0 := by
  rw [← h, List.getD_eq_getElem?_getD, List.getD_eq_getElem?_getD, List.getElem?_drop]
theorem tr_cases (h : TrP x all star st c) (hi : c.i < x.length) (ok : ∀ t ∈ all, TkOk t) : (star = true ∧ TrStar x all c) ∨ (∃ n, TrPlain x all star st c n) ∨ ∃ q, TrBr x all star st c q := by
  obtain ⟨lo, hi', hl, hm⟩ := h
  rcases hm with ⟨done, rest, ha, hs, hd⟩ | ⟨he, _⟩
  · have hlen := congrArg List.length hd
    rw [List.length_drop, sg_len] at hlen
    have item : ∀ k : Nat, c.i + k < x.length → Txt.item x (c.i + k) = ⟨#[(rend rest ++ tailT star).getD k 0]⟩ := by
      intro k hk
      rw [item_sg (by lia) hk, show (c.i + (k : Int)).toNat = c.i.toNat + k by lia, drop_get hd (by lia)]
    match rest, hd, hlen, item, ha with
    | [], hd, hlen, item, ha =>
      cases star with
      | false => simp [rend, tailT] at hlen; lia
      | true =>
        refine .inl ⟨rfl, ?_, ?_, ?_⟩
        · have := item 0 (by lia)
          rw [show c.i + ((0 : Nat) : Int) = c.i by lia] at this
          exact this
        · rw [ha, List.append_nil]; exact hs
        · simp [rend, tailT] at hlen; lia
    | .c n :: rest, hd, hlen, item, ha =>
      refine .inr (.inl ⟨n, ?_, ?_, ?_⟩)
      · have := item 0 (by lia)
        rw [show c.i + ((0 : Nat) : Int) = c.i by lia] at this
        exact this
      · exact ok (.c n) (by rw [ha]; simp)
      · intro t k i' t' ps hi2
        subst hi2
        refine ⟨by show 0 ≤ c.i + 1; lia, by show c.i + 1 ≤ _; lia, ?_, .inl ⟨done ++ [.c n], rest, by rw [ha]; simp, ?_, ?_⟩⟩
        · show (c.vs ++ [_]).length ≤ (c.i + 1).toNat
          rw [List.length_append, List.length_singleton]; lia
        · rw [List.map_append]; exact hs.append' (.cons _ _ .nil)
        · show (sg x).drop (c.i + 1).toNat = _
          rw [show (c.i + 1).toNat = c.i.toNat + 1 by lia, ← List.drop_drop, hd]; rfl
    | .br q :: rest, hd, hlen, item, ha =>
      have hd2 : (sg x).drop c.i.toNat = 91 :: (q ++ 93 :: (rend rest ++ tailT star)) := by rw [hd]; simp [rend, rend1]
      have hr : rend (.br q :: rest) ++ tailT star = 91 :: (q ++ 93 :: (rend rest ++ tailT star)) := by simp [rend, rend1]
      rw [hr] at item hlen
      simp only [List.length_cons, List.length_append] at hlen
      have hfit : c.i + 1 + q.length < x.length := by lia
      refine .inr (.inr ⟨q, ?_, ?_, hfit, ?_, ?_, ?_, ?_⟩)
      · have := item 0 (by lia)
        rw [show c.i + ((0 : Nat) : Int) = c.i by lia] at this
        exact this
      · exact ok (.br q) (by rw [ha]; simp)
      · intro k hk
        have := item (1 + k) (by lia)
        rw [show c.i + ((1 + k : Nat) : Int) = c.i + 1 + k by lia] at this
        rw [this]
        congr 2
        rw [Nat.add_comm, List.getD_cons_succ, List.getD_eq_getElem?_getD, List.getD_eq_getElem?_getD, List.getElem?_append_left hk]
      · have := item (1 + q.length) (by lia)
        rw [show c.i + ((1 + q.length : Nat) : Int) = c.i + 1 + q.length by lia] at this
        rw [this]
        congr 2
        rw [Nat.add_comm, List.getD_cons_succ, List.getD_eq_getElem?_getD, List.getElem?_append_right (Nat.le_refl _)]
        simp
      · rw [slice_cut (by lia) (by lia), show (c.i + 1 + (q.length : Int) - (c.i + 1)).toNat = q.length by lia, show (c.i + 1).toNat = c.i.toNat + 1 by lia, ← List.drop_drop, hd2]
        simp
      · intro t k i' t' ps hi2
        subst hi2
        refine ⟨by show 0 ≤ c.i + 1 + q.length + 1; lia, by show c.i + 1 + q.length + 1 ≤ _; lia, ?_, .inl ⟨done ++ [.br q], rest, by rw [ha]; simp, ?_, ?_⟩⟩
        · show (c.vs ++ [_]).length ≤ (c.i + 1 + q.length + 1).toNat
          rw [List.length_append, List.length_singleton]; lia
        · rw [List.map_append]; exact hs.append' (.cons _ _ .nil)
        · show (sg x).drop (c.i + 1 + q.length + 1).toNat = _
          rw [show (c.i + 1 + (q.length : Int) + 1).toNat = c.i.toNat + (1 + q.length + 1) by lia, ← List.drop_drop, hd2]
          rw [show 1 + q.length + 1 = (q.length + 1) + 1 by lia, List.drop_succ_cons, ← List.drop_drop, List.drop_left]
          rfl
  · lia
theorem TrStar.next {k : Nat} {i' : Int} {t' : Tok} {ps : Array Value} (h : TrStar x all c) (hP : TrP x all true st c) (hi : i' = c.i + 1) : TrP x all true st ⟨c.vs ++ [.ref st], k, i', t', ps⟩ := by
  subst hi
  have := hP.lo
  have := hP.len
  refine ⟨by show 0 ≤ c.i + 1; lia, by show c.i + 1 ≤ _; have := h.last; lia, ?_, .inr ⟨h.last, rfl, _, h.texts, rfl⟩⟩
  show (c.vs ++ [_]).length ≤ (c.i + 1).toNat
  rw [List.length_append, List.length_singleton]; lia
/-- the parts, and the star behind them -/
noncomputable def TrOut (all : List Tk) (star : Bool) (st : Addr) (vs : List Value) : Prop := ∃ us, StrsAre us (all.map partS) ∧ vs = if star then us ++ [.ref st] else us
theorem TrP.out (h : TrP x all star st c) (hi : ¬ c.i < x.length) : TrOut all star st c.vs := by
  obtain ⟨lo, hi', hl, hm⟩ := h
  rcases hm with ⟨done, rest, ha, hs, hd⟩ | ⟨he, hst, us, hu, hv⟩
  · rw [List.drop_eq_nil_of_le (by rw [sg_len]; lia)] at hd
    have h2 := congrArg List.length hd
    rw [List.length_append] at h2
    have h3 : rest = [] := by
      cases rest with
      | nil => rfl
      | cons t r => cases t <;> simp [rend, rend1] at hd
    have h4 : star = false := by
      cases star with
      | false => rfl
      | true => simp [tailT] at h2
    rw [h3, List.append_nil] at ha
    exact ⟨c.vs, by rw [ha]; exact hs, by rw [h4]; rfl⟩
  · exact ⟨us, hu, by rw [hst]; exact hv⟩
end
/-- what is known of a bracket's signs -/
structure BrOk (q : List Nat) : Prop where
  pos : 1 ≤ q.length
  len : q.length ≤ 2
  no93 : ∀ k : Nat, k < q.length → q.getD k 0 ≠ 93
  h33 : q.getD 0 0 ≠ 33
  h94 : q.getD 0 0 ≠ 94
  no45 : 45 ∉ q
  no92 : 92 ∉ q
  no33 : q ≠ [33]
  tri : ∀ c ∈ q, tripleF c = false
  oct : ∀ c ∈ q, c < 128
  h91 : q.getD 0 0 = 91 → q = [91]
theorem brOk {q : List Nat} (h : q ∈ brs) : BrOk q := by
  have k := (by decide +kernel : ∀ q ∈ brs, 1 ≤ q.length ∧ q.length ≤ 2 ∧ (∀ k ∈ List.range q.length, q.getD k 0 ≠ 93) ∧ q.getD 0 0 ≠ 33 ∧ q.getD 0 0 ≠ 94 ∧ 45 ∉ q ∧ 92 ∉ q ∧ q ≠ [33] ∧ (∀ c ∈ q, tripleF c = false) ∧ (∀ c ∈ q, c < 128) ∧ (q.getD 0 0 = 91 → q = [91])) q h
  obtain ⟨a, b, c, d, e, f, g, h, i, j, k⟩ := k
  exact ⟨a, b, fun n hn => c n (List.mem_range.mpr hn), d, e, f, g, h, i, j, k⟩
structure QIs (z : Str) (q : List Nat) : Prop where
  eq : sg z = q
theorem QIs.br_plain {z : Str} {q : List Nat} (h : QIs z q) (h91 : q.getD 0 0 ≠ 91) : Str.ofString "[" ++ z ++ Str.ofString "]" = brS q := by
  apply sg_ext
  unfold Mine.brS
  rw [if_neg (fun e => h91 (by rw [e]; rfl)), sg_app, sg_app, h.eq, show sg (Str.ofString "[") = [91] from by decide +kernel, show sg (Str.ofString "]") = [93] from by decide +kernel]
  show [91] ++ q ++ [93] = 91 :: (q ++ [93])
  simp
theorem QIs.br_91 {z : Str} {q : List Nat} (h : QIs z q) (h91 : q = [91]) : Str.ofString "[" ++ (Str.ofString "\\" ++ z) ++ Str.ofString "]" = brS q := by
  apply sg_ext
  unfold Mine.brS
  rw [if_pos h91, sg_app, sg_app, sg_app, h.eq, h91, show sg (Str.ofString "[") = [91] from by decide +kernel, show sg (Str.ofString "]") = [93] from by decide +kernel, show sg (Str.ofString "\\") = [92] from by decide +kernel]
  rfl
section
variable {z : Str} {q : List Nat}
theorem QIs.item0 (h : QIs z q) (hb : BrOk q) : Txt.item z 0 = ⟨#[q.getD 0 0]⟩ := by
  have := hb.pos
  rw [item_sg (Int.le_refl 0) (by rw [← sg_len, h.eq]; lia), h.eq]; rfl
theorem QIs.no_bang (h : QIs z q) (hb : BrOk q) (e : (z == Str.ofString "!") = true) : False := by
  rw [beq_iff_eq] at e
  exact hb.no33 (by rw [← h.eq, e]; decide +kernel)
theorem QIs.no_bang0 (h : QIs z q) (hb : BrOk q) (e : (Txt.item z 0 == Str.ofString "!") = true) : False := by
  rw [h.item0 hb, one_beq _ _ 33 (by decide +kernel)] at e
  exact hb.h33 (of_decide_eq_true e)
theorem QIs.any91 (h : QIs z q) (hb : BrOk q) {b : Bool} (e : ([Str.ofString "^", Str.ofString "["].any fun x => x == Txt.item z 0) = b) : b = decide (q.getD 0 0 = 91) := by
  rw [← e, h.item0 hb]
  have e1 : (Str.ofString "^" == (⟨#[q.getD 0 0]⟩ : Str)) = false := by
    rw [Bool.eq_false_iff]
    intro k
    have := beq_iff_eq.mp k
    rw [show Str.ofString "^" = (⟨#[94]⟩ : Str) from by decide +kernel] at this
    injection this with this
    exact hb.h94 (by injection this with this; injection this with this; exact this.symm)
  have e2 : (Str.ofString "[" == (⟨#[q.getD 0 0]⟩ : Str)) = decide (q.getD 0 0 = 91) := by
    rw [← one_beq _ "[" 91 (by decide +kernel), Bool.eq_iff_iff, beq_iff_eq, beq_iff_eq]
    exact ⟨Eq.symm, Eq.symm⟩
  simp only [List.any_cons, List.any_nil, e1, e2, Bool.false_or, Bool.or_false]
end
end Mine
end

section -- B2s
open PySem PySem.W PyProof.Rows PySem.Calls PySem.Spec
set_option maxRecDepth 100000
set_option maxHeartbeats 400000
namespace Mine
theorem StrsAre.at : ∀ {vs : List Value} {xs : List Str}, StrsAre vs xs → ∀ (i : Nat) (v : Value), vs[i]? = some v → ∃ t, v = .str (xs.getD i Str.empty) t
  | _, _, .cons m t _, 0, v, e => by simp at e; exact ⟨t, e.symm⟩
  | _, _, .cons _ _ h, i + 1, v, e => by simpa using StrsAre.at h i v (by simpa using e)
end Mine
end

section -- S15
open PySem PySem.W PyProof.Rows PySem.Calls PySem.Spec
set_option maxRecDepth 100000
set_option pp.deepTerms false
set_option pp.deepTerms.threshold 6
set_option maxHeartbeats 8000000

namespace Mine
/-- the place table of _translate: nothing, or its lambda's code -/
noncomputable def TabL (ps : Array Value) : Prop := ps = #[] ∨ ∃ c : Addr, ps = #[rawInt 73, rawInt 46, .ref c]
structure TrQ (x : Str) (all : List Tk) (star : Bool) (st : Addr) (c : TrC) : Prop where
  p : TrP x all star st c
  tab : TabL c.ps
theorem nil_or_snoc (l : List Value) : l = [] ∨ ∃ us v, l = us ++ [v] := by
  rcases List.eq_nil_or_concat l with h | ⟨us, v, h⟩
  · exact .inl h
  · exact .inr ⟨us, v, by rw [h]; simp⟩
theorem last_str {us : List Value} {v : Value} {xs : List Str} (h : StrsAre (us ++ [v]) xs) : ∃ y t, v = .str y t := by
  have := StrsAre.at h us.length v (by simp)
  obtain ⟨t, rfl⟩ := this
  exact ⟨_, t, rfl⟩
section
variable {prog : Program} {w : World} {A : Around} {E : Value → Shared → Prop} {s : Shared} {h₀ : Heap} {L : Addr} {m : Str → Option Value} {news : List (Addr × Obj)}
theorem truthy_snoc {l : Addr} {us : List Value} {v : Value} {n : Nat} {Q : Bool → Shared → Prop} (N : News h₀ L s.heap news) (hm : (l, listOf (us ++ [v]).toArray n) ∈ news) (hsz : us.length ≤ 1000) (h : ∀ k, Q true { s with toks := k }) : wpAny (model prog w) A (truthy (.ref l)) Q E s := by
  refine wpAny_truthy_list (N.isList hm) (by simp only [List.size_toArray, List.length_append, List.length_singleton]; lia) ?_
  have e : (!(us ++ [v]).toArray.isEmpty) = true := by simp
  rw [e]
  exact h _
theorem lam_any {M : Model} {p : Program} {loose : List Str} {mean : ExcName → Option Value} {mg mb : Str → Option Value} {c P a : Addr} {ccd : Value} {ps : Array Value} {g : Obj → List (Addr × Obj)} {name qual cn : Str} {params : Arguments} {body : Expr} {scope cs : Scope} {cl clos : List (Str × Addr)} {pos : Pos} {firstLine : Nat} {Q : Value → Shared → Prop}
    (F : Fr h₀ L s.heap m) (N : News h₀ L s.heap news) (T : Top p loose mean mg mb h₀) (C : CodeHd h₀ c P) (hcd : ccd = .ref c) (U : UpdF P (tabObj ps) news g) (hps : TabL ps) (hl : pos.line = 73) (hc : pos.col = 46) (hcl : closureFor scope (envX cn cs L a ccd cl) = pure clos)
    (h : ∀ f fo h' tk ps', Fr h₀ L h' m → News h₀ L h' ((f, fo) :: g (tabObj ps')) → fo.cls = .type "function" → TabL ps' → (∀ q ∈ news, q.1 < f) → Q (.ref f) { s with heap := h', toks := tk }) :
    wpAny M A (makeFunction name qual params (.expr body) scope (envX cn cs L a ccd cl) [] [] [] pos firstLine) Q E s := by
  rcases hps with rfl | ⟨c', rfl⟩
  · refine kla_nest F N T C hcd U trivial rfl hcl fun f c' oc vs t ctv h' tk F' N' _ _ l1 l2 => ?_
    have N2 : News h₀ L h' ((f, _) :: g (tabObj (#[] ++ #[rawInt pos.line, rawInt pos.col, .ref c']))) := fun q hq => N' q (by
      rcases List.mem_cons.mp hq with rfl | hq
      · exact .head _
      · exact .tail _ (.tail _ hq))
    refine h f _ h' tk _ F' N2 rfl (.inr ⟨c', ?_⟩) fun q hq => Nat.lt_trans (l1 q hq) l2
    rw [hl, hc]; rfl
  · have hmem : (P, tabObj #[rawInt 73, rawInt 46, .ref c']) ∈ news := by
      obtain ⟨own, rest, rfl, _⟩ := U.split
      exact List.mem_append_right _ (.head _)
    have hg : g (tabObj #[rawInt 73, rawInt 46, .ref c']) = news := by
      obtain ⟨own, rest, e, hgr, _⟩ := U.split
      rw [hgr, e]
    refine kla_hit (c' := c') F N T C hcd hmem (by simp [TriplesOk, rawInt]) (by simp [codeAmong, rawInt, hl, hc]) hcl fun f ctv h' tk F' N' l1 => ?_
    exact h f _ h' tk _ F' (hg.symm ▸ N') rfl (.inr ⟨c', rfl⟩) l1
/-- replace of a sign that is not there -/
theorem rep_none {z : Str} {t1 t2 t3 : Tok} {q : List Nat} {Q : Value → Shared → Prop} (hz : sg z = q) (hb : q ∈ brs) (hq : ∀ (z' : Str), QIs z' q → z'.length = q.length → Q (.str z' t1) s) :
    wpAny (model prog w) A (call (.builtin "str.replace") [.str z t1, .str (Str.ofString "\\") t2, .str (Str.ofString "\\\\") t3]) Q E s := by
  have hzq : z = ⟨q.toArray⟩ := (mk_sg z).symm.trans (by rw [hz])
  have hc := (by decide +kernel : ∀ q ∈ brs, (Builtin.Str.occurrences ⟨q.toArray⟩ (Str.ofString "\\") 0 (⟨q.toArray⟩ : Str).length ((⟨q.toArray⟩ : Str).length + 1)).isEmpty = true) q hb
  rw [← hzq] at hc
  refine call_gives F.slot_str_replace (typeIs_str _ _ _) F.entry_str_replace (F.args_str_replace_3 _ _ _) (gives_str_replace z _ _ t1 t2 t3 fun h => ?_) ?_
  · rw [hc] at h; cases h
  · rw [hc]
    exact hq z ⟨hz⟩ ((sg_len z).symm.trans (congrArg List.length hz))
theorem tri_none {z : Str} {q : List Nat} (hz : QIs z q) (hb : BrOk q) : ∀ i < z.cps.size, tripleF (z.cps.getD i 0) = false := by
  intro i hi
  rw [← sg_get]
  refine hb.tri _ ?_
  rw [← hz.eq, List.getD_eq_getElem?_getD, List.getElem?_eq_getElem (by rw [sg_size]; exact hi)]
  exact List.getElem_mem _
theorem sub_FK {f : Addr} {fo : Obj} {z : Str} {t : Tok} {q : List Nat} {Q : Value → Shared → Prop} (F : Fr h₀ L s.heap m) (N : News h₀ L s.heap news) (X : (Mine.mk0.heap_1 w.params).In h₀) (hm : (f, fo) ∈ news) (hf : fo.cls = .type "function") (hz : QIs z q) (hb : BrOk q)
    (hq : ∀ t' h' k, s.heap.StaysIn h' → Q (.str z t') { s with heap := h', toks := k }) : wpAny (model prog w) A (call (.builtin "re.Pattern.sub") [.ref 62, .ref f, .str z t]) Q E s :=
  sub_F (patF _ (X.keeps F.keep)) ⟨fo, (N _ hm).1, hf⟩ (by rw [← sg_size, hz.eq]; have := hb.len; lia) (tri_none hz hb) hq
theorem br_lt {x : Str} {all : List Tk} {star : Bool} {st : Addr} {c : TrC} {q : List Nat} {j : Int} (hS : TrBr x all star st c q) (h : (Txt.item x j != Str.ofString "]") = true) (hi : j ≤ c.i + 1 + q.length) : j < c.i + 1 + q.length := by
  rcases Int.lt_or_eq_of_le hi with h1 | h1
  · exact h1
  · rw [h1, hS.close] at h
    exact absurd h (by decide +kernel)
theorem br_eq {x : Str} {all : List Tk} {star : Bool} {st : Addr} {c : TrC} {q : List Nat} {j : Int} (hS : TrBr x all star st c q) (hb : BrOk q) (h : (Txt.item x j != Str.ofString "]") = false) (lo : c.i + 1 ≤ j) (hi : j ≤ c.i + 1 + q.length) : j = c.i + 1 + q.length := by
  rcases Int.lt_or_eq_of_le hi with h1 | h1
  · exfalso
    have h2 := hS.sign (j - (c.i + 1)).toNat (by lia)
    rw [show c.i + 1 + ((j - (c.i + 1)).toNat : Int) = j by lia] at h2
    have h3 : (Txt.item x j == Str.ofString "]") = true := by
      have : (!(Txt.item x j == Str.ofString "]")) = false := h
      simpa using this
    rw [h2, one_beq _ _ 93 (by decide +kernel)] at h3
    exact hb.no93 _ (by lia) (of_decide_eq_true h3)
  · exact h1
end
section
theorem c_tr {w : World} {p : Program} {loose : List Str} {mean : ExcName → Option Value} {mg mb : Str → Option Value} {dp un : Nat} {gd : Option (List Code)} {cn : Str} {cs : Scope} {a : Addr} {ccd : Value} {cl : List (Str × Addr)} {outer : List Env} {A₀ : Around} {base h₀ : Heap} {L : Addr} {m : Str → Option Value} {s : Shared} {Q E : Value → Shared → Prop} {x : Str} {t1 t2 : Tok} {st : Addr} {ps : Array Value} {all : List Tk} {star : Bool} (C : Cal w p loose mean mg mb A₀ base outer h₀ L m s.heap cs dp un 6) (NT : News h₀ L s.heap [(83, tabObj ps)]) (CH : CodeHd h₀ 87 83) (hps : TabL ps)
  (hn : x.length ≤ 1000) (hx : sg x = rend all ++ tailT star) (ok : ∀ t ∈ all, TkOk t)
  (ret : ∀ r h' tk' ps' n vs, TrOut all star st vs → s.heap.get? r = none → h'.get? r = some (listOf vs.toArray n) → (∀ b o, b ≠ 83 → s.heap.get? b = some o → h'.get? b = some o) → h'.get? 83 = some (tabObj ps') → TabL ps' → Q (.ref r) {s with heap := h', toks := tk'}) :
  wpAny (Md w) (ktrTop dp un gd cn cs L a ccd cl outer) (call (.ref 88) [.str x t1, .ref st, .str (Str.ofString ".") t2]) Q E s := by
  k_with_none
  k_with "m execs cons" => ((k_here; (try ((with_reducible refine Mine.toks_any ?_); intro zztk9)); (with_reducible refine wpAny_execs_cons ?_); (try dsimp only)))
  k_with "m execs nil" => ((k_here; (try ((with_reducible refine Mine.toks_any ?_); intro zztk9)); (with_reducible refine wpAny_execs_nil ?_); (try dsimp only)))
  k_with "m execs cons" => ((k_here; (try ((with_reducible refine Mine.toks_any ?_); intro zztk9)); (with_reducible refine Mine.execs_c ?_); intro zzC9 zzhC9; (try dsimp only)))
  k_with "m exec If" => ((k_here; (with_reducible refine Mine.if_c ?_); intro zzC9 zzhC9))
  k_with "m Cont" => (((first | ((refine Mine.Cont.go zzhC9 ?_); clear zzhC9; (try clear zzC9)) | (refine Mine.Cont.go (by with_reducible assumption) ?_)); (try dsimp only)))
  k_with "m truthy ref" => ((k_here; k_dflt (refine' truthy_snoc (by (k_asm)) (by (k_mem)) (by (simp only [List.length_append, List.length_singleton] at *; lia)) ?_); intro zzk9; (try dsimp only)))
  k_with "m getAttr ref" => ((k_here; (rename Fr _ _ _ _ => zzFz); (rename News _ _ _ _ => zzNz); (with_reducible refine attr_append_K zzFz zzNz (by k_dflt k_mem) ?_); clear zzFz zzNz; intro zzu' zzh' zztk' zzF' zzN' zzl1; (try k_lt zzl1); (try dsimp only); (try k_sweep)))
  k_with "m exec While Compare cons nil" => (refine Stop.go ?_)
  k_with "m exec While BoolOp cons nil" => (refine Stop.go ?_)
  k_with "m KswEnd" => (refine Stop.go ?_)
  k_with "m And" => ((refine ⟨News.get (by k_asm) (by (with_reducible first | exact List.mem_cons_self | exact List.mem_cons_of_mem _ List.mem_cons_self | exact List.mem_cons_of_mem _ (List.mem_cons_of_mem _ List.mem_cons_self))), ?_⟩))
  k_with "m call ref" => ((k_here; (with_reducible show wpAny _ _ (call (Value.ref _) [_]) _ _ _); k_dflt (refine' call_add_K (by (k_asm)) (by (k_asm)) (by ((with_reducible first | exact List.mem_cons_self | exact List.mem_cons_of_mem _ List.mem_cons_self | exact List.mem_cons_of_mem _ (List.mem_cons_of_mem _ List.mem_cons_self)))) (by (k_upd)) (by (rw [List.size_toArray, sizeLine_eq]; lia)) ?_; k_whole); intro zzh' zzF' zzN'; (try dsimp only); (try k_sweep)))
  k_with "m compareOp IsNot str ref" => ((k_here; refine wpAny_isNot_other rfl (fun e => by cases e) ?_; (try dsimp only)))
  k_with "m exec If" => ((k_here; (with_reducible show wpAny _ _ (exec (Stmt.If (PySem.Expr.Compare _ [PySem.CmpOp.GtE] _ _) _ _ _) _) _ _ _); refine Stop.go ?_))
  k_with "m call builtin:str.replace" => ((k_here; refine rep_none (by with_reducible assumption) (by with_reducible assumption) ?_; intro zzz9 zzhz9 zzhl9; (try dsimp only)))
  k_with "m getMethod ref" => ((k_here; refine meth_sub (patF _ (Frag.In.keeps (by k_asm) (Fr.keep (by k_asm)))) ?_; (try dsimp only)))
  k_with "m eval Lambda" => ((k_here; k_dflt (refine' kla_eval (by (exact rfl)) ?_); k_dflt (refine' lam_any (by (k_asm)) (by (k_asm)) (by (k_asm)) (by (assumption)) (by (exact rfl)) (by (k_updF)) (by (assumption)) (by (exact rfl)) (by (exact rfl)) (by (exact rfl)) ?_; k_whole); intro zzf9 zzfo9 zzh' zztk' zzps9 zzF' zzN' zzhf9 zzhps9 zzl1; (try dsimp only at zzN'); (try k_lt zzl1); (try dsimp only); (try k_sweep)))
  k_with "m call builtin:re.Pattern.sub" => ((k_here; k_dflt (refine' sub_FK (by (k_asm)) (by (k_asm)) (by (k_asm)) (by (k_mem)) (by (assumption)) (by (assumption)) (by (assumption)) ?_); intro zzt9 zzh9 zzk9 zzst9; (have zzF9 := Fr.keeps (by k_asm) zzst9); (have zzN9 := News.grown (by k_asm) zzst9); (try dsimp only); (try k_sweep); (try k_fold)))
  k_with "m call ref" => ((k_here; (with_reducible show wpAny _ _ (call (Value.ref 81) [Value.str _ _]) _ _ _); k_dflt (refine' c_escape' (by (exact Cal.mk (by k_asm) (by k_asm) (by k_asm) (by k_asm) (by first | exact rfl | assumption) (by ktr_room) (by ktr_units))) (by (assumption)) ?_; intro zzt9 zzh9 zzk9 zzst9; (have zzF9 := Fr.keeps (by k_asm) zzst9); (have zzN9 := News.grown (by k_asm) zzst9); (try dsimp only); (try k_sweep); (try k_fold))))
  k_with "m subscriptTail Name UnaryOp ref int" => ((k_here; (with_reducible show wpAny _ _ (subscriptTail _ _ (Value.ref _) (Value.int _ _)) _ _ _); k_dflt (refine' item_neg1 (by (kmk_list)) ?_ (by (with_unfolding_all rfl))); (try dsimp only)))
  k_with "m callWith ref" => ((k_here; k_dflt (refine' callWith_add (by (k_asm)) (by (with_reducible first | exact List.mem_cons_self | exact List.mem_cons_of_mem _ List.mem_cons_self | exact List.mem_cons_of_mem _ (List.mem_cons_of_mem _ List.mem_cons_self))) ?_ (by (rfl)) (by (rfl))); (try dsimp only)))
  k_with "m joinParts" => (first
  | ((with_reducible refine joinParts_consE ?_); (with_reducible refine joinParts_cons ?_))
  | ((with_reducible refine joinParts_nilE ?_); (with_reducible refine joinParts_nil (hsz := (by (size_fits))) ?_))
  | ((with_reducible show wpAny _ _ (joinParts _ (_ :: _)) _ _ _); (with_reducible refine joinParts_cons ?_))
  | ((with_reducible show wpAny _ _ (joinParts _ []) _ _ _); (with_reducible refine joinParts_nil (hsz := (by (size_fits))) ?_)))
  obtain ⟨B, F, X, T, kcs, hd, hu⟩ := C
  refine wpAny_call ?_
  k_dflt (refine' code_defG ?k1 ?k2 ?k3 NT ?k5 ?kA ?kF ?kK ?k6 ?k7 ?k8 ?k9 ?kB ?_ ?c2 ?c3 ?c4 ?c5; (case kA => exact rfl); (case kF => exact rfl); (case kK => exact kcs); (case k1 => exact B); (case k2 => exact F); (case k3 => exact X); (case k5 => exact T); (case k6 => k_is); (case k7 => k_is); (case k8 => exact Nat.lt_of_le_of_lt (Nat.le_add_right _ _) hd); (case k9 => exact BindsTo.of_eq rfl); (case c5 => decide); (case kB => exact locs rfl); (case c2 => exact rfl); (case c3 => exact rfl); (case c4 => exact rfl); k_whole)
  intro g' L' h' FG' F' N' B' X' T' GS'
  try dsimp only
  try k_fold
  k_steps
  unfold Stop
  rename Fr g' _ _ _ => Fz
  rename News g' _ _ _ => Nz
  rename_i tkA res hA lA hB tkB hD tkD tup hE lC hF hG hH
  refine ksw_while (fun c : TrC => [(zzu', bm "list.append" (.ref res)), (res, listOf c.vs.toArray c.n), (83, tabObj c.ps)]) (fun c => [(Str.ofString "i", .int c.i c.t)]) (fun c => TrQ x all star st c)
    [Str.ofString "c", Str.ofString "j", Str.ofString "stuff", Str.ofString "chunks", Str.ofString "k", Str.ofString "chunk"] (fun _ => True) (fun c => ((x.length : Int) - c.i).toNat) ⟨[], 0, 0, tkD, ps⟩
    Fz (fun p hp => Nz p (.tail _ hp)) ⟨tr_start hx _ _ _, hps⟩ (List.forall_mem_cons.mpr ⟨by with_unfolding_all rfl, List.forall_mem_nil _⟩) trivial ?_
  intro c u h tk hQ _ F1 N1
  obtain ⟨hP, htab⟩ := hQ
  simp only [kstB] at F1
  have hlo := hP.lo
  have hhi := hP.hi
  have hvl := hP.len
  by_cases hlt : c.i < x.length
  · rcases tr_cases hP hlt ok with ⟨rfl, hS⟩ | ⟨n, hS⟩ | ⟨q, hS⟩
    · have hit := hS.item
      have hlast := hS.last
      have e1 : (Txt.item x c.i == Str.ofString "*") = true := by rw [hit, one_beq _ _ 42 (by decide +kernel)]; rfl
      obtain ⟨cvs, cn, ci, ct, cps⟩ := c
      dsimp only at *
      rcases nil_or_snoc cvs with rfl | ⟨us, v, rfl⟩
      · k_steps
        unfold Stop
        rename Fr g' _ _ _ => fE'
        rename News g' _ _ _ => nE'
        simp only [List.push_toArray] at nE'
        refine' ksw_end (⟨[] ++ [.ref st], cn + 1, ci + 1, _, cps⟩ : TrC) fE' nE' ?kn ?kf ?kk ?kr trivial ?km
        case kn => kst_in
        case kk => kst_all
        case kr => ksw_same
        case kf => exact ⟨hS.next hP rfl, htab⟩
        case km => (dsimp only; lia)
      · obtain ⟨y, ty, rfl⟩ := last_str hS.texts
        k_steps
        unfold Stop
        rename Fr g' _ _ _ => fE'
        rename News g' _ _ _ => nE'
        simp only [List.push_toArray] at nE'
        refine' ksw_end (⟨(us ++ [.str y ty]) ++ [.ref st], cn + 1, ci + 1, _, cps⟩ : TrC) fE' nE' ?kn ?kf ?kk ?kr trivial ?km
        case kn => kst_in
        case kk => kst_all
        case kr => ksw_same
        case kf => exact ⟨hS.next hP rfl, htab⟩
        case km => (dsimp only; lia)
    · have hit := hS.item
      obtain ⟨hk1, hk2, hk3⟩ := hS.ok
      have e1 : ((⟨#[n]⟩ : Str) == Str.ofString "*") = false := by rw [one_beq _ _ 42 (by decide +kernel)]; exact decide_eq_false hk1
      have e2 : ((⟨#[n]⟩ : Str) == Str.ofString "?") = false := by rw [one_beq _ _ 63 (by decide +kernel)]; exact decide_eq_false hk2
      have e3 : ((⟨#[n]⟩ : Str) == Str.ofString "[") = false := by rw [one_beq _ _ 91 (by decide +kernel)]; exact decide_eq_false hk3
      rw [← hit] at e1 e2 e3
      k_steps
      unfold Stop
      rename Fr g' _ _ _ => fE'
      rename News g' _ _ _ => nE'
      simp only [List.push_toArray] at nE'
      refine' ksw_end (⟨c.vs ++ [.str (escS n) _], c.n + 1, c.i + 1, _, c.ps⟩ : TrC) fE' nE' ?kn ?kf ?kk ?kr trivial ?km
      case kn => kst_in
      case kk => kst_all
      case kr => ksw_same
      case kf => exact ⟨hS.next _ _ _ _ _ rfl, htab⟩
      case km => (dsimp only; lia)
    · have hit := hS.item
      have hb := brOk hS.ok
      have hfit := hS.fits
      have hstuff := hS.stuff
      have hb1 := hb.pos
      have hb2 := hb.len
      have e1 : (Txt.item x c.i == Str.ofString "*") = false := by rw [hit]; decide +kernel
      have e2 : (Txt.item x c.i == Str.ofString "?") = false := by rw [hit]; decide +kernel
      have e3 : (Txt.item x c.i == Str.ofString "[") = true := by rw [hit]; decide +kernel
      have hs0 := hS.sign 0 hb1
      rw [show c.i + 1 + ((0 : Nat) : Int) = c.i + 1 by lia] at hs0
      have e4 : (Txt.item x (c.i + 1) == Str.ofString "!") = false := by rw [hs0, one_beq _ _ 33 (by decide +kernel)]; exact decide_eq_false hb.h33
      have e5 : (Txt.item x (c.i + 1) == Str.ofString "]") = false := by rw [hs0, one_beq _ _ 93 (by decide +kernel)]; exact decide_eq_false (hb.no93 0 hb1)
      k_steps
      unfold Stop
      k_with "state" => exact ⟨Int.le_refl _, by lia⟩
      k_while (fun _ j => c.i + 1 ≤ j ∧ j ≤ c.i + 1 + (q.length : Int)) (fun _ j => (c.i + 1 + (q.length : Int) - j).toNat) "j"
      k_steps
      · have hjl := br_lt hS (by with_reducible assumption) (by with_reducible assumption)
        (unfold Stop; (rename News _ _ _ _ => nE'); (rename Fr _ _ _ _ => fE'); (try simp only [List.push_toArray] at nE'); refine' ksw_end (_, _) fE' nE' ?kn ?kf ?kk ?kr ?kp ?km; (case kn => kst_in); (case kf => kst_facts); (case kk => kst_all); (case kr => ksw_same); (case kp => ((try dsimp only); (exact ⟨by lia, by lia⟩))); (case km => (dsimp only; lia)))
      · unfold Stop
        have hje := br_eq hS hb (by with_reducible assumption) (by with_reducible assumption) (by with_reducible assumption)
        subst hje
        have f1 : (Builtin.Str.occurrences (Txt.slice x (some (c.i + 1)) (some (c.i + 1 + (q.length : Int)))) (Str.ofString "-") 0 (Txt.slice x (some (c.i + 1)) (some (c.i + 1 + (q.length : Int)))).length 1).isEmpty = true := by
          have h := in_one (Txt.slice x (some (c.i + 1)) (some (c.i + 1 + (q.length : Int)))) 45
          rw [hstuff, decide_eq_false hb.no45] at h
          rw [show Str.ofString "-" = (⟨#[45]⟩ : Str) from by decide +kernel]
          simpa using h
        have fl : (Txt.slice x (some (c.i + 1)) (some (c.i + 1 + (q.length : Int)))).length = q.length := by rw [← sg_len, hstuff]
        have hmem := hS.ok
        have CH' : CodeHd g' 87 83 := CH.keeps FG'.keep
        refine wpAny_If ?_
        k_steps
        · rename QIs _ _ => hq9
          exact (hq9.no_bang hb (by with_reducible assumption)).elim
        · rename QIs _ _ => hq9
          exact (hq9.no_bang0 hb (by with_reducible assumption)).elim
        · unfold Stop
          rename Fr g' _ _ _ => fE'
          rename News g' _ _ _ => nE'
          rename Str => z9
          rename QIs _ _ => hq9
          rename TabL _ => hps9
          have h91 := hq9.any91 hb (by with_reducible assumption)
          simp only [List.push_toArray] at nE'
          have hN := hS.next
          rw [← hq9.br_91 (hb.h91 (of_decide_eq_true h91.symm))] at hN
          refine' ksw_end (⟨c.vs ++ [.str (Str.ofString "[" ++ (Str.ofString "\\" ++ z9) ++ Str.ofString "]") _], c.n + 1, c.i + 1 + q.length + 1, _, _⟩ : TrC) fE' nE' ?kn ?kf ?kk ?kr trivial ?km
          case kn => kst_in
          case kk => kst_all
          case kr => ksw_same
          case kf => exact ⟨hN _ _ _ _ _ rfl, hps9⟩
          case km => (dsimp only; lia)
        · unfold Stop
          rename Fr g' _ _ _ => fE'
          rename News g' _ _ _ => nE'
          rename Str => z9
          rename QIs _ _ => hq9
          rename TabL _ => hps9
          have h91 := hq9.any91 hb (by with_reducible assumption)
          simp only [List.push_toArray] at nE'
          have hN := hS.next
          rw [← hq9.br_plain (of_decide_eq_false h91.symm)] at hN
          refine' ksw_end (⟨c.vs ++ [.str (Str.ofString "[" ++ z9 ++ Str.ofString "]") _], c.n + 1, c.i + 1 + q.length + 1, _, _⟩ : TrC) fE' nE' ?kn ?kf ?kk ?kr trivial ?km
          case kn => kst_in
          case kk => kst_all
          case kr => ksw_same
          case kf => exact ⟨hN _ _ _ _ _ rfl, hps9⟩
          case km => (dsimp only; lia)
        · exfalso; lia
  · have heq : c.i = x.length := by lia
    have hget := N1 _ (.tail _ (.head _))
    have h83 := N1 _ (.tail _ (.tail _ (.head _)))
    k_steps
    · refine ret res _ _ c.ps c.n c.vs (hP.out hlt) ?_ hget.1 (fun b o hb e => F1.keep b o (GS' b o e (fun q => hb (List.mem_singleton.mp q)))) h83.1 htab
      cases e : s.heap.get? res with
      | none => rfl
      | some o =>
        have := GS' res o e (fun q => absurd (List.mem_singleton.mp q) (Nat.ne_of_gt lA))
        rw [hget.2.2] at this; cases this
    · exact absurd heq (by assumption)
end
end Mine
end

section -- P7
open PySem PySem.W PyProof.Rows PySem.Calls PySem.Spec
set_option maxRecDepth 100000
set_option maxHeartbeats 400000
namespace Mine
/-- the signs that a piece takes -/
noncomputable def acc : Tk → List Nat
  | .c n => [n]
  | .br q => q
/-- rows from the left -/
noncomputable def rowsL : List Nat → List (List Tk)
  | [] => [[]]
  | o :: os => if o = 95 then (rowsL os).map (escT o ++ ·) else (rowsL os).map ([plainT o] ++ ·) ++ (rowsL os).map (escT o ++ ·)
noncomputable def sumB (p : List Tk → Bool) (rows rest : List (List Tk)) : Nat := (rows.map fun q => rest.countP fun e => p (q ++ e)).sum
theorem sumB_app (p : List Tk → Bool) (a b rest : List (List Tk)) : sumB p (a ++ b) rest = sumB p a rest + sumB p b rest := by simp [sumB]
theorem sum_add {α : Type} (l : List α) (f g : α → Nat) : (l.map fun x => f x + g x).sum = (l.map f).sum + (l.map g).sum := by
  induction l with
  | nil => rfl
  | cons a r ih => simp only [List.map_cons, List.sum_cons, ih]; lia
theorem count_fold (p : List Tk → Bool) : ∀ (os : List Nat) (rows : List (List Tk)), (os.foldl stepT rows).countP p = sumB p rows (rowsL os)
  | [], rows => by
    show rows.countP p = _
    induction rows with
    | nil => rfl
    | cons r rows ih =>
      rw [List.countP_cons, ih]
      simp only [sumB, rowsL, List.map_cons, List.sum_cons, List.countP_cons, List.countP_nil, List.append_nil]
      lia
  | o :: os, rows => by
    rw [List.foldl_cons, count_fold p os]
    unfold stepT
    by_cases h : o = 95
    · rw [if_pos h]
      simp only [sumB, rowsL, if_pos h, List.map_map, List.countP_map]
      congr 2
      funext q
      simp only [Function.comp]
      congr 1
      funext e
      simp only [Function.comp, List.append_assoc]
    · rw [if_neg h, sumB_app]
      simp only [sumB, rowsL, if_neg h, List.map_map, List.countP_append, List.countP_map]
      rw [sum_add]
      congr 2
      · congr 1
        funext q
        simp only [Function.comp]
        congr 1
        funext e
        simp only [Function.comp, List.append_assoc]
      · congr 1
        funext q
        simp only [Function.comp]
        congr 1
        funext e
        simp only [Function.comp, List.append_assoc]
theorem count_rows (p : List Tk → Bool) (os : List Nat) : (rowsT os).countP p = (rowsL os).countP p := by
  show (os.foldl stepT [[]]).countP p = _
  rw [count_fold]
  simp [sumB]
/-- a row of pieces takes a text; fin says what may be left -/
noncomputable def tkF (fin : List Nat → Bool) : List (List Nat) → List Nat → Bool
  | [], l => fin l
  | _ :: _, [] => false
  | a :: as, c :: r => a.contains c && tkF fin as r
/-- the text tells the signs os and leaves what fin allows -/
noncomputable def spF (fin : List Nat → Bool) : List Nat → List Nat → Bool
  | [], l => fin l
  | _ :: _, [] => false
  | o :: os, c :: r => if c = 61 ∧ esc2 r = true then decide (16 * hv (r.getD 0 0) + hv (r.getD 1 0) = o) && spF fin os (r.drop 2) else decide (fb c = o) && spF fin os r
noncomputable def OctOk (os : List Nat) : Prop := ∀ o ∈ os, o < 256 ∧ o ≠ 61
theorem plain_acc (o c : Nat) (h : o ≠ 61) : (acc (plainT o)).contains c = true → c ≠ 61 ∧ (o ≠ 95 → fb c = o) := by
  unfold plainT
  split
  · rename_i e
    intro hc
    have : c = 95 ∨ c = 32 := by simpa [acc] using hc
    refine ⟨by lia, fun _ => ?_⟩
    rw [e]
    rcases this with rfl | rfl <;> rfl
  · have key : c = o → c ≠ 61 ∧ (o ≠ 95 → fb c = o) := fun e => by
      subst e
      exact ⟨h, fun h95 => by unfold fb; rw [if_neg h95]⟩
    split
    · intro hc; exact key (by simpa [acc] using hc)
    · intro hc; exact key (by simpa [acc] using hc)
theorem plain_acc' (o c : Nat) (h95 : o ≠ 95) (hc : fb c = o) : (acc (plainT o)).contains c = true := by
  unfold plainT
  split
  · rename_i e
    rw [e] at hc
    have : c = 95 ∨ c = 32 := by
      unfold fb at hc
      split at hc
      · left; assumption
      · right; exact hc
    simp [acc]; lia
  · rename_i e
    have hco : c = o := by
      unfold fb at hc
      split at hc
      · lia
      · exact hc
    split <;> simp [acc, hco]
theorem fb_ne95 (c : Nat) : fb c ≠ 95 := by
  unfold fb; split <;> lia
theorem fig_acc (d c : Nat) (h : d < 16) : (acc (figT d)).contains c = (isHex c && decide (hv c = d)) := by
  by_cases hc : c < 103
  · exact (by decide +kernel : ∀ d : Fin 16, ∀ c : Fin 103, (acc (figT d.val)).contains c.val = (isHex c.val && decide (hv c.val = d.val))) ⟨d, h⟩ ⟨c, hc⟩
  · have h1 : isHex c = false := by
      unfold isHex
      simp only [Bool.or_eq_false_iff, Bool.and_eq_false_iff, decide_eq_false_iff_not]
      lia
    rw [h1, Bool.false_and]
    have h2 := (by decide +kernel : ∀ d : Fin 16, ∀ k ∈ acc (figT d.val), k < 103) ⟨d, h⟩
    rw [Bool.eq_false_iff]
    intro hm
    exact hc (h2 c (List.contains_iff_mem.mp hm))
theorem countP_and {α : Type} (k : Bool) (p : α → Bool) (l : List α) : l.countP (fun e => k && p e) = if k = true then l.countP p else 0 := by
  cases k with
  | true => simp
  | false => simp
theorem countP_no {α : Type} (l : List α) : l.countP (fun _ => false) = 0 := by simp
theorem esc_two {r : List Nat} (h : esc2 r = true) : ∃ a b r', r = a :: b :: r' ∧ isHex a = true ∧ isHex b = true := by
  match r, h with
  | a :: b :: r', h =>
    unfold esc2 at h
    simp only [Bool.and_eq_true] at h
    exact ⟨a, b, r', rfl, h.1.2, h.2⟩
  | [a], h => cases h
  | [], h => cases h
theorem count_esc (fin : List Nat → Bool) (o : Nat) (c : Nat) (r : List Nat) (rows : List (List Tk)) : rows.countP (fun e => tkF fin ((escT o ++ e).map acc) (c :: r)) =
    match r with
    | a :: b :: r' => if ([61].contains c && ((acc (figT (o / 16))).contains a && (acc (figT (o % 16))).contains b)) = true then rows.countP (fun e => tkF fin (e.map acc) r') else 0
    | _ => 0 := by
  match r with
  | a :: b :: r' =>
    show _ = if _ then _ else _
    rw [← countP_and]
    congr 1
    funext e
    show ([61].contains c && ((acc (figT (o / 16))).contains a && ((acc (figT (o % 16))).contains b && _))) = _
    simp only [Bool.and_assoc]
    rfl
  | [a] =>
    show rows.countP (fun e => ([61].contains c && ((acc (figT (o / 16))).contains a && false))) = 0
    simp
  | [] =>
    show rows.countP (fun e => ([61].contains c && false)) = 0
    simp
theorem count_sp (fin : List Nat → Bool) : ∀ (os : List Nat), OctOk os → ∀ l, (rowsL os).countP (fun r => tkF fin (r.map acc) l) = if spF fin os l = true then 1 else 0
  | [], _, l => by
    show List.countP _ [[]] = _
    simp only [List.countP_cons, List.countP_nil, List.map_nil, tkF, spF, Nat.zero_add]
    rfl
  | o :: os, ho, [] => by
    have : (fun r : List Tk => tkF fin (r.map acc) []) = fun r => (match r with | [] => fin [] | _ => false) := by
      funext r; cases r <;> rfl
    show _ = 0
    rw [List.countP_eq_zero]
    intro r hr
    have hne : r ≠ [] := by
      simp only [rowsL] at hr
      split at hr
      · obtain ⟨e, _, rfl⟩ := List.mem_map.mp hr; simp [escT]
      · rcases List.mem_append.mp hr with hr | hr
        · obtain ⟨e, _, rfl⟩ := List.mem_map.mp hr; simp
        · obtain ⟨e, _, rfl⟩ := List.mem_map.mp hr; simp [escT]
    cases r with
    | nil => exact absurd rfl hne
    | cons a b => simp [tkF]
  | o :: os, ho, c :: r => by
    obtain ⟨ho1, ho2⟩ := ho o (.head _)
    have ih := count_sp fin os (fun x hx => ho x (.tail _ hx))
    have hp : (rowsL os).countP (fun e => tkF fin (([plainT o] ++ e).map acc) (c :: r)) = if (acc (plainT o)).contains c = true then (if spF fin os r = true then 1 else 0) else 0 := by
      rw [← ih r, ← countP_and]; rfl
    have hq := count_esc fin o c r (rowsL os)
    have hd : o / 16 < 16 := by lia
    have hm : o % 16 < 16 := by lia
    have hs : spF fin (o :: os) (c :: r) = if c = 61 ∧ esc2 r = true then decide (16 * hv (r.getD 0 0) + hv (r.getD 1 0) = o) && spF fin os (r.drop 2) else decide (fb c = o) && spF fin os r := rfl
    have hall : (rowsL (o :: os)).countP (fun r' => tkF fin (r'.map acc) (c :: r)) = (if o = 95 then 0 else (rowsL os).countP (fun e => tkF fin (([plainT o] ++ e).map acc) (c :: r))) + (rowsL os).countP (fun e => tkF fin ((escT o ++ e).map acc) (c :: r)) := by
      simp only [rowsL]
      split
      · rw [List.countP_map, Nat.zero_add]; rfl
      · rw [List.countP_append, List.countP_map, List.countP_map]; rfl
    rw [hall, hp, hq, hs]
    by_cases hE : c = 61 ∧ esc2 r = true
    · obtain ⟨a, b, r', rfl, ha, hb⟩ := esc_two hE.2
      have hnp : (acc (plainT o)).contains c = false := by
        rw [Bool.eq_false_iff]
        intro k
        exact (plain_acc o c ho2 k).1 hE.1
      rw [if_pos hE, hnp]
      simp only [Bool.false_eq_true, if_false, ite_self, Nat.zero_add]
      rw [fig_acc _ _ hd, fig_acc _ _ hm, ha, hb, ih r', hE.1]
      have hb16 := hv_lt16 hb
      simp only [List.getD_cons_zero, List.getD_cons_succ, List.drop_succ_cons, List.drop_zero]
      by_cases hk : 16 * hv a + hv b = o
      · have k1 : hv a = o / 16 := by lia
        have k2 : hv b = o % 16 := by lia
        rw [decide_eq_true hk, decide_eq_true k1, decide_eq_true k2]; rfl
      · have k : ¬ (hv a = o / 16 ∧ hv b = o % 16) := by lia
        rw [decide_eq_false hk, Bool.false_and]
        rw [if_neg]
        · rfl
        · simp only [Bool.true_and, Bool.and_eq_true, decide_eq_true_eq, not_and]
          intro _ h1 h2
          exact k ⟨h1, h2⟩
    · rw [if_neg hE]
      have hz : (match r with
          | a :: b :: r' => if ([61].contains c && ((acc (figT (o / 16))).contains a && (acc (figT (o % 16))).contains b)) = true then (rowsL os).countP (fun e => tkF fin (e.map acc) r') else 0
          | _ => 0) = 0 := by
        match r, hE with
        | a :: b :: r', hE =>
          show (if _ then _ else 0) = 0
          rw [if_neg]
          rw [fig_acc _ _ hd, fig_acc _ _ hm]
          simp only [Bool.and_eq_true, decide_eq_true_eq, not_and]
          intro h1 h2 h3
          apply absurd hE
          rw [Classical.not_not]
          refine ⟨by simpa using h1, ?_⟩
          unfold esc2
          simp [h2.1, h3]
        | [a], _ => rfl
        | [], _ => rfl
      rw [hz, Nat.add_zero]
      by_cases h95 : o = 95
      · rw [if_pos h95, decide_eq_false (by rw [h95]; exact fb_ne95 c), Bool.false_and]; rfl
      · rw [if_neg h95]
        by_cases hc : fb c = o
        · rw [plain_acc' o c h95 hc, decide_eq_true hc, Bool.true_and]; rfl
        · have : (acc (plainT o)).contains c = false := by
            rw [Bool.eq_false_iff]
            intro k
            exact hc ((plain_acc o c ho2 k).2 h95)
          rw [this, decide_eq_false hc, Bool.false_and]; rfl
theorem decide_cons {a b : Nat} {l r : List Nat} : decide (a :: l = b :: r) = (decide (a = b) && decide (l = r)) := by
  by_cases h1 : a = b <;> by_cases h2 : l = r <;> simp [h1, h2]
theorem sp_eq : ∀ (os l : List Nat), spF List.isEmpty os l = decide (LR l = os)
  | [], [] => by rw [LR_nil]; rfl
  | [], c :: r => by
    show false = _
    symm
    rw [decide_eq_false_iff_not]
    by_cases h : c = 61 ∧ esc2 r = true
    · rw [LR_hit h]; exact fun e => by cases e
    · rw [LR_miss h]; exact fun e => by cases e
  | o :: os, [] => by rw [LR_nil]; rfl
  | o :: os, c :: r => by
    show (if c = 61 ∧ esc2 r = true then _ else _) = _
    by_cases h : c = 61 ∧ esc2 r = true
    · rw [if_pos h, LR_hit h, decide_cons, sp_eq os]
    · rw [if_neg h, LR_miss h, decide_cons, sp_eq os]; rfl
theorem sp_take : ∀ (os l : List Nat), spF (fun _ => true) os l = decide ((LR l).take os.length = os)
  | [], l => by simp [spF]
  | o :: os, [] => by rw [LR_nil]; rfl
  | o :: os, c :: r => by
    show (if c = 61 ∧ esc2 r = true then _ else _) = _
    by_cases h : c = 61 ∧ esc2 r = true
    · rw [if_pos h, LR_hit h, List.length_cons, List.take_succ_cons, decide_cons, sp_take os]
    · rw [if_neg h, LR_miss h, List.length_cons, List.take_succ_cons, decide_cons, sp_take os]; rfl
/-- how many whole rows take the text -/
theorem count_whole {os : List Nat} (h : OctOk os) (l : List Nat) : (rowsT os).countP (fun r => tkF List.isEmpty (r.map acc) l) = if LR l = os then 1 else 0 := by
  rw [count_rows, count_sp _ os h, sp_eq]; simp
/-- how many rows with a star behind take the text -/
theorem count_heads {os : List Nat} (h : OctOk os) (l : List Nat) : (rowsT os).countP (fun r => tkF (fun _ => true) (r.map acc) l) = if (LR l).take os.length = os then 1 else 0 := by
  rw [count_rows, count_sp _ os h, sp_take]; simp
-- the reading of translate's text
theorem it_c (n : Nat) (rest : List Nat) (h : n = 46 → False) (h1 : n ≠ 91) (h2 : n ≠ 92) (h3 : n ∉ spc) : itRun (n :: rest) none = (itRun rest none).map ([n] :: ·) := by
  rw [itN, if_neg (fun k => h k.1), if_neg h1, if_neg h2, if_neg h3]
theorem it_esc (n : Nat) (rest : List Nat) (h : n ∈ spc) : itRun (92 :: n :: rest) none = (itRun rest none).map ([n] :: ·) := by
  rw [itN, if_neg (fun k => by cases k.1), if_neg (by decide), if_pos rfl]
  show (if n ∈ spc then _ else _) = _
  rw [if_pos h]
theorem it_br {q : List Nat} (h : q ∈ brs) (rest : List Nat) : itRun (sg (brS q) ++ rest) none = (itRun rest none).map (q :: ·) := by
  simp only [brs, List.mem_cons, List.not_mem_nil, or_false] at h
  rcases h with rfl | rfl | rfl | rfl | rfl | rfl | rfl | rfl | rfl | rfl <;> kernel_rfl
theorem it_part {t : Tk} (ok : TkOk t) (rest : List Nat) : itRun (sg (partS t) ++ rest) none = (itRun rest none).map (acc t :: ·) := by
  cases t with
  | c n =>
    show itRun (sg (escS n) ++ rest) none = _
    unfold escS
    by_cases h : n ∈ spc
    · rw [if_pos h]; exact it_esc n rest h
    · rw [if_neg h]
      exact it_c n rest (fun e => h (by rw [e]; decide)) (fun e => h (by rw [e]; decide)) (fun e => h (by rw [e]; decide)) h
  | br q => exact it_br ok rest
noncomputable def tailS (star : Bool) : List Nat := if star then [46, 42] else []
theorem it_row (star : Bool) : ∀ ts : List Tk, (∀ t ∈ ts, TkOk t) → itRun (ts.flatMap (fun t => sg (partS t)) ++ tailS star) none = some (ts.map acc ++ if star then [[]] else [])
  | [], _ => by cases star <;> rfl
  | t :: ts, ok => by
    rw [List.flatMap_cons, List.append_assoc, it_part (ok t (.head _)), it_row star ts fun x hx => ok x (.tail _ hx)]
    rfl
-- the rows' pieces are such
theorem ok_fig {d : Nat} (h : d < 16) : TkOk (figT d) := by
  have hd := (by decide +kernel : ∀ d : Fin 16, (match figT d.val with | .c n => decide (n ≠ 42 ∧ n ≠ 63 ∧ n ≠ 91) | .br q => decide (q ∈ brs)) = true) ⟨d, h⟩
  dsimp only at hd
  cases hf : figT d with
  | c n => rw [hf] at hd; exact of_decide_eq_true (p := n ≠ 42 ∧ n ≠ 63 ∧ n ≠ 91) hd
  | br q => rw [hf] at hd; exact of_decide_eq_true (p := q ∈ brs) hd
theorem ok_esc {o : Nat} (h : o < 256) : ∀ t ∈ escT o, TkOk t := by
  intro t ht
  simp only [escT, List.mem_cons, List.not_mem_nil, or_false] at ht
  rcases ht with rfl | rfl | rfl
  · exact ⟨by decide, by decide, by decide⟩
  · exact ok_fig (by lia)
  · exact ok_fig (by lia)
theorem ok_plain (o : Nat) : TkOk (plainT o) := by
  unfold plainT
  split
  · exact (by decide : [95, 32] ∈ brs)
  · split
    · rename_i h
      rcases h with rfl | rfl | rfl
      · exact (by decide : [42] ∈ brs)
      · exact (by decide : [63] ∈ brs)
      · exact (by decide : [91] ∈ brs)
    · rename_i h
      exact ⟨fun e => h (.inl e), fun e => h (.inr (.inl e)), fun e => h (.inr (.inr e))⟩
theorem fold_ok : ∀ (os : List Nat) (rows : List (List Tk)), (∀ o ∈ os, o < 256) → (∀ r ∈ rows, ∀ t ∈ r, TkOk t) → ∀ r ∈ os.foldl stepT rows, ∀ t ∈ r, TkOk t
  | [], rows, _, h, r, hr => h r hr
  | o :: os, rows, ho, h, r, hr => by
    refine fold_ok os (stepT rows o) (fun q hq => ho q (.tail _ hq)) (fun q hq t ht => ?_) r hr
    obtain ⟨q', hq', e⟩ := step_mem hq
    rcases e with rfl | rfl
    · rcases List.mem_append.mp ht with ht | ht
      · exact h q' hq' t ht
      · rw [List.mem_singleton.mp ht]; exact ok_plain o
    · rcases List.mem_append.mp ht with ht | ht
      · exact h q' hq' t ht
      · exact ok_esc (ho o (.head _)) t ht
theorem rows_tkok {os : List Nat} (h : OctOk os) : ∀ r ∈ rowsT os, ∀ t ∈ r, TkOk t :=
  fold_ok os [[]] (fun o ho => (h o ho).1) fun r hr t ht => by rw [List.mem_singleton.mp hr] at ht; cases ht
end Mine
end

section -- S1
open PySem PySem.W PyProof.Rows PySem.Calls PySem.Spec
set_option maxRecDepth 100000
set_option pp.deepTerms false
set_option pp.deepTerms.threshold 6
set_option maxHeartbeats 8000000

namespace Mine
theorem ok_eq : PyData.strOk (Str.ofString "=") = true := by decide +kernel
theorem ok_us : PyData.strOk (Str.ofString "_") = true := by decide +kernel
theorem ok_great : PyData.strOk (Str.ofString "0123456789ABCDEF") = true := by decide +kernel
theorem ok_small : PyData.strOk (Str.ofString "0123456789abcdef") = true := by decide +kernel
theorem c_spelled {w : World} {p : Program} {loose : List Str} {mean : ExcName → Option Value} {mg mb : Str → Option Value} {dp un : Nat} {gd : Option (List Code)} {cn : Str} {cs : Scope} {a : Addr} {ccd : Value} {cl : List (Str × Addr)} {outer : List Env} {A₀ : Around} {base h₀ : Heap} {L : Addr} {m : Str → Option Value} {s : Shared} {Q E : Value → Shared → Prop} {octet way : Int} {t1 t2 : Tok} (C : Cal w p loose mean mg mb A₀ base outer h₀ L m s.heap cs dp un 2)
  (ho : 0 ≤ octet) (ho' : octet < 256) (hw: 0 ≤ way)
  (ret : ∀ (x : Str) (t : Tok) h' tk', x.length ≤ 3 → PyData.strOk x = true → s.heap.StaysIn h' → Q (.str x t) {s with heap := h', toks := tk'}) :
  wpAny (Md w) (ktrTop dp un gd cn cs L a ccd cl outer) (call (.ref 134) [.int octet t1, .int way t2]) Q E s := by
  k_with_none
  k_with "m execs cons" => ((k_here; (try ((with_reducible refine Mine.toks_any ?_); intro zztk9)); (with_reducible refine wpAny_execs_cons ?_); (try dsimp only)))
  k_with "m execs nil" => ((k_here; (try ((with_reducible refine Mine.toks_any ?_); intro zztk9)); (with_reducible refine wpAny_execs_nil ?_); (try dsimp only)))
  k_with "m execs cons" => ((k_here; (try ((with_reducible refine Mine.toks_any ?_); intro zztk9)); (with_reducible refine Mine.execs_c ?_); intro zzC9 zzhC9; (try dsimp only)))
  k_with "m exec If" => ((k_here; (with_reducible refine Mine.if_c ?_); intro zzC9 zzhC9))
  k_with "m Cont" => (((first | ((refine Mine.Cont.go zzhC9 ?_); clear zzhC9; (try clear zzC9)) | (refine Mine.Cont.go (by with_reducible assumption) ?_)); (try dsimp only)))
  obtain ⟨B, F, X, T, kcs, hd, hu⟩ := C
  refine wpAny_call ?_
  k_dflt (refine' enterP ?k1 ?k2 ?k3 ?k5 ?kA ?kF ?kK ?k6 ?k7 ?k8 ?k9 ?kB ?_ ?c2 ?c3 ?c4 ?c5; (case kA => exact rfl); (case kF => exact rfl); (case kK => exact kcs); (case k1 => exact B); (case k2 => exact F); (case k3 => exact X); (case k5 => exact T); (case k6 => k_is); (case k7 => k_is); (case k8 => exact Nat.lt_of_le_of_lt (Nat.le_add_right _ _) hd); (case k9 => exact BindsTo.of_eq rfl); (case c5 => decide); (case kB => exact locs rfl); (case c2 => exact rfl); (case c3 => exact rfl); (case c4 => exact rfl); k_whole)
  intro g' L' h' st' sz' F' N' B' X' T'
  try dsimp only
  try k_fold
  k_with "m exec If BoolOp" => refine Stop.go ?_
  k_steps
  unfold Stop
  rename Fr g' _ _ _ => Fz
  rename News g' _ _ _ => Nz
  refine if_else True Fz Nz ?_ ?_
  · intro _ h5 k5 F5 N5
    clear Fz Nz
    k_steps
    all_goals (refine ret _ _ _ _ ?_ ?_ (stays_end st' (by assumption)); ((try simp only [Str.length_append]); exact Nat.le_of_ble_eq_true rfl); (repeat' (with_reducible first | refine strOk_append ?_ ?_ | refine strOk_item ?_)) <;> first | exact ok_eq | exact ok_great | exact ok_small | exact ok_us | (refine strOk_one ?_; first | lia | (have := Int.fmod_lt_of_pos octet (show (0 : Int) < 8 by decide); have := Int.fmod_nonneg_of_pos octet (show (0 : Int) < 8 by decide); lia)))
  · k_steps
    all_goals first | exact MetK.go (by assumption) (by assumption) trivial | (refine ret _ _ _ _ ?_ ?_ (stays_end st' (by assumption)); ((try simp only [Str.length_append]); exact Nat.le_of_ble_eq_true rfl); (repeat' (with_reducible first | refine strOk_append ?_ ?_ | refine strOk_item ?_)) <;> first | exact ok_eq | exact ok_great | exact ok_small | exact ok_us | (refine strOk_one ?_; first | lia | (have := Int.fmod_lt_of_pos octet (show (0 : Int) < 8 by decide); have := Int.fmod_nonneg_of_pos octet (show (0 : Int) < 8 by decide); lia)))
end Mine
end

section -- S3
open PySem PySem.W PyProof.Rows PySem.Calls PySem.Spec
set_option maxRecDepth 100000
set_option pp.deepTerms false
set_option pp.deepTerms.threshold 6
set_option maxHeartbeats 8000000

namespace Mine
noncomputable abbrev Octs (ns : List Int) : Prop := ∀ z ∈ ns, 0 ≤ z ∧ z < 256 ∧ z ≠ 61
theorem oct_lo {l : List Int} {z : Int} (hm : z ∈ l) (h : Octs l) : 0 ≤ z := (h z hm).1
theorem oct_hi {l : List Int} {z : Int} (hm : z ∈ l) (h : Octs l) : z < 256 := (h z hm).2.1
theorem item_two {prog : Program} {w : World} {A : Around} {E : Value → Shared → Prop} {s : Shared} {value slice : PySem.Expr} {l l0 l1 : Addr} {vs0 vs1 : List Value} {ns0 ns1 : List Int} {k : Int} {u : Tok} {Q : Value → Shared → Prop} {g : Heap} {L : Addr} {m : Str → Option Value}
    (F : Fr g L s.heap m) (hl : g.IsList l [Value.ref l0, Value.ref l1].toArray) (hl0 : g.IsList l0 vs0.toArray) (hl1 : g.IsList l1 vs1.toArray) (hi0 : IntsAre vs0 ns0) (hi1 : IntsAre vs1 ns1) (hn0 : ns0.length ≤ 3) (hn1 : ns1.length ≤ 3) (ho0 : Octs ns0) (ho1 : Octs ns1)
    (h0 : 0 ≤ k) (h1 : k < 2) (h : ∀ q vs ns, g.IsList q vs.toArray → IntsAre vs ns → ns.length ≤ 3 → Octs ns → Q (.ref q) s)
    (hs : subscripted slice false (.ref l) (.int k u) = operate [.ref l, .int k u] (getItem (.ref l) (.int k u)) := by with_unfolding_all rfl) :
    wpAny (model prog w) A (subscriptTail value slice (.ref l) (.int k u)) Q E s := by
  have hl' : s.heap.IsList l [Value.ref l0, Value.ref l1].toArray := hl.at fun o e => F.keep l o e
  have hk : k = 0 ∨ k = 1 := by lia
  rcases hk with rfl | rfl
  · exact tail_any hl'.typeIs slot_list_getitem.lookup (wpAny_getItem_list hl' (by decide) (by decide) (by rfl) (h _ _ _ hl0 hi0 hn0 ho0)) hs
  · exact tail_any hl'.typeIs slot_list_getitem.lookup (wpAny_getItem_list hl' (by decide) (by decide) (by rfl) (h _ _ _ hl1 hi1 hn1 ho1)) hs
theorem ask_step {items : List Str} {pre : List Int} {n : Int} {x : Str} (h : items.length ≤ pre.length) (h2 : ∀ x ∈ items, x.length ≤ 3 ∧ PyData.strOk x = true) (hx : x.length ≤ 3) (hk : PyData.strOk x = true) :
    (items ++ [x]).length ≤ (pre ++ [n]).length ∧ ∀ y ∈ items ++ [x], y.length ≤ 3 ∧ PyData.strOk y = true := by
  refine ⟨by simp only [List.length_append, List.length_cons, List.length_nil]; lia, fun z hz => ?_⟩
  rcases List.mem_append.mp hz with hz | hz
  · exact h2 z hz
  · rw [List.mem_singleton.mp hz]; exact ⟨hx, hk⟩
theorem sum_le {k : Nat} : ∀ {l : List Str}, (∀ x ∈ l, x.length ≤ k) → (l.map (·.length)).sum ≤ k * l.length
  | [], _ => Nat.le_refl _
  | x :: r, h => by
    have h1 := sum_le (l := r) fun y hy => h y (.tail _ hy)
    have h2 := h x (.head _)
    simp only [List.map_cons, List.sum_cons, List.length_cons, Nat.mul_add, Nat.mul_one]
    lia
theorem join0_len : ∀ l : List Str, (Txt.join (Str.ofString "") l).length = (l.map (·.length)).sum
  | [] => rfl
  | x :: r => by
    rw [show Txt.join (Str.ofString "") (x :: r) = Str.join (Str.ofString "") (x :: r) from StrLaws.glued_eq_join _ _, len_join_cons]
    rw [show (Str.ofString "").length = 0 from rfl, Nat.mul_zero, Nat.add_zero]
theorem join0_ok : ∀ l : List Str, (∀ x ∈ l, PyData.strOk x = true) → PyData.strOk (Txt.join (Str.ofString "") l) = true
  | [], _ => by decide +kernel
  | [x], h => h x (.head _)
  | x :: y :: r, h => by
    have ih := join0_ok (y :: r) fun z hz => h z (.tail _ hz)
    rw [show Txt.join (Str.ofString "") (y :: r) = Str.join (Str.ofString "") (y :: r) from StrLaws.glued_eq_join _ _] at ih
    rw [show Txt.join (Str.ofString "") (x :: y :: r) = Str.join (Str.ofString "") (x :: y :: r) from StrLaws.glued_eq_join _ _]
    show PyData.strOk (x ++ Str.ofString "" ++ Str.join (Str.ofString "") (y :: r)) = true
    exact strOk_append (strOk_append (h x (.head _)) (by decide +kernel)) ih
theorem join_short {prog : Program} {w : World} {A : Around} {E : Value → Shared → Prop} {s : Shared} {t : Tok} {Q : Value → Shared → Prop} {D : Addr} {items : Array Value} {ys : List Str} {n : Nat} (hl : s.heap.IsList D items) (hi : StrsAre items.toList ys)
    (h3 : ∀ x ∈ ys, x.length ≤ 3 ∧ PyData.strOk x = true) (hle : ys.length ≤ n) (hn : n ≤ 3) (h : ∀ (z : Str) t' k, z.length ≤ 9 → PyData.strOk z = true → Q (.str z t') { s with toks := k }) : wpAny (model prog w) A (call (.builtin "str.join") [.str (Str.ofString "") t, .ref D]) Q E s := by
  have h1 := sum_le fun x hx => (h3 x hx).1
  have h0 : (Str.ofString "").length = 0 := rfl
  refine join_list hl hi (by rw [h0]; lia) fun t' k => h _ t' k ?_ (join0_ok _ fun x hx => (h3 x hx).2)
  rw [join0_len]
  lia
theorem c_asked {w : World} {p : Program} {loose : List Str} {mean : ExcName → Option Value} {mg mb : Str → Option Value} {dp un : Nat} {gd : Option (List Code)} {cn : Str} {cs : Scope} {a : Addr} {ccd : Value} {cl : List (Str × Addr)} {outer : List Env} {A₀ : Around} {base h₀ : Heap} {L : Addr} {m : Str → Option Value} {s : Shared} {Q E : Value → Shared → Prop} {lt l0 l1 : Addr} {vs0 vs1 : List Value} {ns0 ns1 : List Int} {number : Int} {t1 : Tok} (C : Cal w p loose mean mg mb A₀ base outer h₀ L m s.heap cs dp un 4)
  (hlt : s.heap.IsList lt [Value.ref l0, Value.ref l1].toArray) (hl0 : s.heap.IsList l0 vs0.toArray) (hi0 : IntsAre vs0 ns0) (hl1 : s.heap.IsList l1 vs1.toArray) (hi1 : IntsAre vs1 ns1) (hn0 : ns0.length ≤ 3) (hn1 : ns1.length ≤ 3)
  (ho0 : Octs ns0) (ho1 : Octs ns1)
  (ret : ∀ (x : Str) (t : Tok) h' tk', x.length ≤ 10 → PyData.strOk x = true → s.heap.StaysIn h' → Q (.str x t) {s with heap := h', toks := tk'}) :
  wpAny (Md w) (ktrTop dp un gd cn cs L a ccd cl outer) (call (.ref 141) [.int number t1, .ref lt]) Q E s := by
  k_with_none
  k_with "m execs cons" => ((k_here; (try ((with_reducible refine Mine.toks_any ?_); intro zztk9)); (with_reducible refine wpAny_execs_cons ?_); (try dsimp only)))
  k_with "m execs nil" => ((k_here; (try ((with_reducible refine Mine.toks_any ?_); intro zztk9)); (with_reducible refine wpAny_execs_nil ?_); (try dsimp only)))
  k_with "m execs cons" => ((k_here; (try ((with_reducible refine Mine.toks_any ?_); intro zztk9)); (with_reducible refine Mine.execs_c ?_); intro zzC9 zzhC9; (try dsimp only)))
  k_with "m exec If" => ((k_here; (with_reducible refine Mine.if_c ?_); intro zzC9 zzhC9))
  k_with "m Cont" => (((first | ((refine Mine.Cont.go zzhC9 ?_); clear zzhC9; (try clear zzC9)) | (refine Mine.Cont.go (by with_reducible assumption) ?_)); (try dsimp only)))
  k_with "m subscriptTail Name BinOp ref int" => ((k_here; (with_reducible show wpAny _ _ (subscriptTail _ _ (Value.ref _) (Value.int _ _)) _ _ _); k_dflt (refine' item_two (by (k_asm)) (by (assumption)) (by (assumption)) (by (assumption)) (by (assumption)) (by (assumption)) (by (assumption)) (by (assumption)) (by (assumption)) (by (assumption)) (by (exact Int.fmod_nonneg_of_pos _ (by decide))) (by (exact Int.fmod_lt_of_pos _ (by decide))) ?_ (by (with_unfolding_all rfl))); intro zzq9 zzvs9 zzns9 zzhq9 zzhi9 zzhn9 zzho9; (try dsimp only)))
  k_with "m call builtin:str.join" => ((k_here; (with_reducible show wpAny _ _ (call (Value.builtin "str.join") [Value.str _ _, Value.ref _]) _ _ _); k_dflt (refine' join_short (by (exact News.isList (by k_asm) (by k_mem))) (by (assumption)) (by (assumption)) (by (assumption)) (by (assumption)) ?_); intro zzz9 zzt9 zzk9 zzhz9 zzho9; (try dsimp only)))
  k_with "m call ref" => ((k_here; (with_reducible show wpAny _ _ (call (Value.ref 134) [Value.int _ _, Value.int _ _]) _ _ _); k_dflt (refine' c_spelled (by (exact Cal.mk (by k_asm) (by k_asm) (by k_asm) (by k_asm) (by first | exact rfl | assumption) (by ktr_room) (by ktr_units))) (by (exact oct_lo (by assumption) (by assumption))) (by (exact oct_hi (by assumption) (by assumption))) (by (exact Int.fmod_nonneg_of_pos _ (by decide))) ?_; intro zzx9 zzt9 zzh9 zztk9 zzhx9 zzhk9 zzst9; (have zzF9 := Fr.keeps (by k_asm) zzst9); (have zzN9 := News.grown (by k_asm) zzst9); (try dsimp only); (try k_sweep); (try k_fold))))
  obtain ⟨B, F, X, T, kcs, hd, hu⟩ := C
  refine wpAny_call ?_
  k_dflt (refine' enterP ?k1 ?k2 ?k3 ?k5 ?kA ?kF ?kK ?k6 ?k7 ?k8 ?k9 ?kB ?_ ?c2 ?c3 ?c4 ?c5; (case kA => exact rfl); (case kF => exact rfl); (case kK => exact kcs); (case k1 => exact B); (case k2 => exact F); (case k3 => exact X); (case k5 => exact T); (case k6 => k_is); (case k7 => k_is); (case k8 => exact Nat.lt_of_le_of_lt (Nat.le_add_right _ _) hd); (case k9 => exact BindsTo.of_eq rfl); (case c5 => decide); (case kB => exact locs rfl); (case c2 => exact rfl); (case c3 => exact rfl); (case c4 => exact rfl); k_whole)
  intro g' L' h' st' sz' F' N' B' X' T'
  try dsimp only
  try k_fold
  have hlt' := stays_list st' hlt
  have hl0' := stays_list st' hl0
  have hl1' := stays_list st' hl1
  k_with "pyIter ref" => k_state (fun pre items (_ : Int) => items.length ≤ pre.length ∧ ∀ x ∈ items, x.length ≤ 3 ∧ PyData.strOk x = true) "signs$" "number"
  k_with "state" => (first
    | exact ⟨Nat.le_refl _, fun _ h => absurd h List.not_mem_nil⟩
    | exact ask_step (by assumption) (by assumption) (by assumption) (by assumption))
  k_steps
  all_goals (refine ret _ _ _ _ ?_ (strOk_append (by assumption) (by decide +kernel)) (stays_end st' (by assumption)); simp only [Str.length_append, show (Str.ofString "").length = 0 from rfl, show (Str.ofString "A").length = 1 from rfl, show (Str.ofString "=").length = 1 from rfl, show (Str.ofString "_").length = 1 from rfl]; lia)
end Mine
end

section -- S7
open PySem PySem.W PyProof.Rows PySem.Calls PySem.Spec
set_option maxRecDepth 100000
set_option pp.deepTerms false
set_option pp.deepTerms.threshold 6
set_option maxHeartbeats 8000000

namespace Mine
structure XF (x y : Str) : Prop where
  whole : x = Str.ofString "(?s:" ++ y ++ Str.ofString ")\\Z"
theorem XF.len {x y : Str} (h : XF x y) : x.length = y.length + 7 := by
  rw [h.whole, Str.length_append, Str.length_append, show (Str.ofString "(?s:").length = 4 from rfl, show (Str.ofString ")\\Z").length = 3 from rfl]; lia
theorem XF.sg {x y : Str} (h : XF x y) : sg x = [40, 63, 115, 58] ++ (sg y ++ [41, 92, 90]) := by
  rw [h.whole, sg_app, sg_app, show Mine.sg (Str.ofString "(?s:") = [40, 63, 115, 58] from by decide +kernel, show Mine.sg (Str.ofString ")\\Z") = [41, 92, 90] from by decide +kernel, List.append_assoc]
theorem XF.head {x y : Str} (h : XF x y) : (Txt.slice x none (some 4) != Str.ofString "(?s:") = false := by
  have e : Txt.slice x none (some 4) = Str.ofString "(?s:" := by
    apply sg_ext
    rw [slice_to (by decide) (by have := h.len; lia), h.sg]
    exact (by decide +kernel : [40, 63, 115, 58] = Mine.sg (Str.ofString "(?s:"))
  rw [e]; decide +kernel
theorem XF.tail {x y : Str} (h : XF x y) : (Txt.slice x (some (-3)) none != Str.ofString ")\\Z") = false := by
  have hl := h.len
  have e : Txt.slice x (some (-3)) none = Str.ofString ")\\Z" := by
    apply sg_ext
    have e1 : Txt.slice x (some (-3)) none = Txt.slice x (some (-3 + (x.length : Int))) none := StrLaws.sliceText_neg_lo x none (by decide) (by lia)
    rw [e1, slice_from (by lia) (by lia), h.sg]
    have e2 : (-3 + (x.length : Int)).toNat = 4 + (Mine.sg y).length := by rw [sg_len]; lia
    rw [e2, List.drop_append, List.drop_of_length_le (by simp), List.nil_append]
    simp only [List.length_cons, List.length_nil, Nat.add_sub_cancel_left, List.drop_left]
    exact (by decide +kernel : [41, 92, 90] = Mine.sg (Str.ofString ")\\Z"))
  rw [e]; decide +kernel
theorem XF.inside {x y : Str} (h : XF x y) : Txt.slice x (some 4) (some (-3)) = y := by
  have hl := h.len
  apply sg_ext
  have e1 : Txt.slice x (some 4) (some (-3)) = Txt.slice x (some 4) (some (-3 + (x.length : Int))) := StrLaws.sliceText_neg_hi x (some 4) (by decide) (by lia)
  rw [e1, slice_cut (by decide) (by lia), h.sg]
  have e2 : (-3 + (x.length : Int) - 4).toNat = (Mine.sg y).length := by rw [sg_len]; lia
  rw [e2]
  exact List.take_left
theorem PI.ok {y : Str} {all : List (List Nat)} {items : List Str} {i : Int} (h : PI y all items i) : ∀ z ∈ items, PyData.strOk z = true := h.2.2.2.1
noncomputable abbrev StI (y : Str) (all : List (List Nat)) (items : List Str) (i : Int) : Prop := 0 ≤ i ∧ i ≤ (y.length : Int) ∧ items.length ≤ 1000 ∧ PI y all items i
noncomputable abbrev StB (y : Str) (all : List (List Nat)) (i0 : Int) (items : List Str) (signs : Str) (i : Int) : Prop := 0 ≤ i ∧ i ≤ (y.length : Int) ∧ items.length ≤ 1000 ∧ signs.length ≤ 1000 ∧ i0 < i ∧ PB y all items signs i
section
variable {y : Str} {all : List (List Nat)} {items : List Str} {signs : Str} {i : Int}
theorem stI (hn : y.length ≤ 900) (h : PI y all items i) : StI y all items i := by
  obtain ⟨h0, h1, h2, _, _⟩ := id h
  exact ⟨h0, h1, by lia, h⟩
theorem PI.here (_ : PI y all items i) : ∃ i0 : Int, i0 = i := ⟨_, rfl⟩
theorem stB (hn : y.length ≤ 900) {i0 : Int} (h : PB y all items signs i) (hi : i0 < i) : StB y all i0 items signs i := by
  obtain ⟨h0, h1, h2, h3, _, _, _⟩ := id h
  exact ⟨h0, h1, by lia, by lia, hi, h⟩
end
section
theorem c_items {w : World} {p : Program} {loose : List Str} {mean : ExcName → Option Value} {mg mb : Str → Option Value} {dp un : Nat} {gd : Option (List Code)} {cn : Str} {cs : Scope} {a : Addr} {ccd : Value} {cl : List (Str × Addr)} {outer : List Env} {A₀ : Around} {base h₀ : Heap} {L : Addr} {m : Str → Option Value} {s : Shared} {Q E : Value → Shared → Prop} {x y : Str} {all : List (List Nat)} {t1 : Tok} (C : Cal w p loose mean mg mb A₀ base outer h₀ L m s.heap cs dp un 2)
  (hX : XF x y) (hy : PyData.strOk y = true) (hn : y.length ≤ 900) (hr : itRun (sg y) none = some all)
  (ret : ∀ r h' tk' n vs (xs : List Str), StrsAre vs xs → xs.map sg = all → (∀ z ∈ xs, PyData.strOk z = true) → s.heap.get? r = none → h'.get? r = some (listOf vs.toArray n) → s.heap.StaysIn h' → Q (.ref r) {s with heap := h', toks := tk'}) :
  wpAny (Md w) (ktrTop dp un gd cn cs L a ccd cl outer) (call (.ref 163) [.str x t1]) Q E s := by
  have hxl : x.length ≤ 1000 := by rw [hX.len]; lia
  have hxg : 7 ≤ x.length := by rw [hX.len]; lia
  k_with_none
  k_with "m execs cons" => ((k_here; (try ((with_reducible refine Mine.toks_any ?_); intro zztk9)); (with_reducible refine wpAny_execs_cons ?_); (try dsimp only)))
  k_with "m execs nil" => ((k_here; (try ((with_reducible refine Mine.toks_any ?_); intro zztk9)); (with_reducible refine wpAny_execs_nil ?_); (try dsimp only)))
  k_with "m execs cons" => ((k_here; (try ((with_reducible refine Mine.toks_any ?_); intro zztk9)); (with_reducible refine Mine.execs_c ?_); intro zzC9 zzhC9; (try dsimp only)))
  k_with "m exec If" => ((k_here; (with_reducible refine Mine.if_c ?_); intro zzC9 zzhC9))
  k_with "m Cont" => (((first | ((refine Mine.Cont.go zzhC9 ?_); clear zzhC9; (try clear zzC9)) | (refine Mine.Cont.go (by with_reducible assumption) ?_)); (try dsimp only)))
  k_with "m KswEnd" => (refine Stop.go ?_)
  k_with "m exec While Compare cons nil" => (refine Stop.go ?_)
  obtain ⟨B, F, X, T, kcs, hd, hu⟩ := C
  refine wpAny_call ?_
  k_dflt (refine' enterP ?k1 ?k2 ?k3 ?k5 ?kA ?kF ?kK ?k6 ?k7 ?k8 ?k9 ?kB ?_ ?c2 ?c3 ?c4 ?c5; (case kA => exact rfl); (case kF => exact rfl); (case kK => exact kcs); (case k1 => exact B); (case k2 => exact F); (case k3 => exact X); (case k5 => exact T); (case k6 => k_is); (case k7 => k_is); (case k8 => exact Nat.lt_of_le_of_lt (Nat.le_add_right _ _) hd); (case k9 => exact BindsTo.of_eq rfl); (case c5 => decide); (case kB => exact locs rfl); (case c2 => exact rfl); (case c3 => exact rfl); (case c4 => exact rfl); k_whole)
  intro g' L' h' st' sz' F' N' B' X' T'
  try dsimp only
  try k_fold
  k_steps
  · rename (Txt.slice x none _ != _) = true => hc
    rw [hX.head] at hc; cases hc
  · rename (Txt.slice x (some (-3)) _ != _) = true => hc
    rw [hX.tail] at hc; cases hc
  · unfold Stop
    rename Fr g' _ _ _ => Fz
    rename News g' _ _ _ => Nz
    simp only [hX.inside] at Fz
    clear hX
    have hP0 : PI y all [] 0 := ⟨by lia, by lia, Nat.zero_le _, (fun z hz => by cases hz), by
      show (itRun ((sg y).drop 0) none).map _ = _
      rw [List.drop_zero, hr]; simp⟩
    k_with "exec While BoolOp cons nil" => refine Stop.go ?_
    k_with "state" => exact ⟨by decide, by lia, by decide, hP0⟩
    k_while (fun _ items i => 0 ≤ i ∧ i ≤ (y.length : Int) ∧ items.length ≤ 1000 ∧ PI y all items i) (fun _ _ i => ((y.length : Int) - i).toNat) "items$" "at"
    k_steps
    all_goals try with_reducible show Stop (KswEnd _ _ _ _ _ _ _ _ _ _ _ _)
    · (unfold Stop; (rename News _ _ _ _ => nE'); (rename Fr _ _ _ _ => fE'); (try simp only [List.push_toArray] at nE'); refine' ksw_end (_, _, _, _, _) fE' nE' ?kn ?kf ?kk ?kr ?kp ?km; (case kn => kst_in); (case kf => kst_facts); (case kk => kst_all); (case kr => ksw_same); (case kp => ((try dsimp only); (exact stI hn (pi_star (by with_reducible assumption) (by with_reducible assumption) (by with_reducible assumption))))); (case km => (dsimp only; lia)))
    · unfold Stop
      clear hP0
      rename PI y all _ _ => hPI
      obtain ⟨i0, hi0⟩ := PI.here hPI
      k_with "state" => exact stB hn (pi_open (by with_reducible assumption) (by with_reducible assumption) (by with_reducible assumption) (by with_reducible assumption)) (by lia)
      k_while (fun _ items signs i => 0 ≤ i ∧ i ≤ (y.length : Int) ∧ items.length ≤ 1000 ∧ signs.length ≤ 1000 ∧ i0 < i ∧ PB y all items signs i) (fun _ _ _ i => ((y.length : Int) - i).toNat) "items$" "signs" "at"
      k_steps
      · (unfold Stop; (rename News _ _ _ _ => nE'); (rename Fr _ _ _ _ => fE'); (try simp only [List.push_toArray] at nE'); refine' ksw_end (_, _, _, _, _, _, _) fE' nE' ?kn ?kf ?kk ?kr ?kp ?km; (case kn => kst_in); (case kf => kst_facts); (case kk => kst_all); (case kr => ksw_same); (case kp => ((try dsimp only); (exact stB hn (pb_esc hy (by with_reducible assumption) (by with_reducible assumption) (by with_reducible assumption) (by with_reducible assumption)) (by lia)))); (case km => (dsimp only; lia)))
      · (unfold Stop; (rename News _ _ _ _ => nE'); (rename Fr _ _ _ _ => fE'); (try simp only [List.push_toArray] at nE'); refine' ksw_end (_, _, _, _, _, _, _) fE' nE' ?kn ?kf ?kk ?kr ?kp ?km; (case kn => kst_in); (case kf => kst_facts); (case kk => kst_all); (case kr => ksw_same); (case kp => ((try dsimp only); (exact stB hn (pb_take hy (by with_reducible assumption) (by with_reducible assumption) (by with_reducible assumption) (by with_reducible assumption) (by with_reducible assumption)) (by lia)))); (case km => (dsimp only; lia)))
      · exact (pb_bad (by with_reducible assumption) (by with_reducible assumption) (by with_reducible assumption) (by with_reducible assumption) (by with_reducible assumption)).elim
      · exact (pb_none (by with_reducible assumption) (by with_reducible assumption) (by with_reducible assumption) (by with_reducible assumption)).elim
      · rename _ = (y.length : Int) => hq
        rename _ < (y.length : Int) => hlt
        rw [hq] at hlt
        exact absurd hlt (Int.lt_irrefl _)
      · (unfold Stop; (rename News _ _ _ _ => nE'); (rename Fr _ _ _ _ => fE'); (try simp only [List.push_toArray] at nE'); refine' ksw_end (_, _, _, _, _) fE' nE' ?kn ?kf ?kk ?kr ?kp ?km; (case kn => kst_in); (case kf => kst_facts); (case kk => kst_all); (case kr => ksw_same); (case kp => ((try dsimp only); (exact stI hn (pb_close (by with_reducible assumption) (by with_reducible assumption) (by with_reducible assumption) (by with_reducible assumption))))); (case km => (dsimp only; lia)))
      · exact (pb_over (by with_reducible assumption) (by with_reducible assumption)).elim
      · exact (pb_over (by with_reducible assumption) (by with_reducible assumption)).elim
      · exact (pb_over (by with_reducible assumption) (by with_reducible assumption)).elim
    · (unfold Stop; (rename News _ _ _ _ => nE'); (rename Fr _ _ _ _ => fE'); (try simp only [List.push_toArray] at nE'); refine' ksw_end (_, _, _, _, _) fE' nE' ?kn ?kf ?kk ?kr ?kp ?km; (case kn => kst_in); (case kf => kst_facts); (case kk => kst_all); (case kr => ksw_same); (case kp => ((try dsimp only); (exact stI hn (pi_plain hy (by with_reducible assumption) (by with_reducible assumption) (by with_reducible assumption) (by with_reducible assumption) (by with_reducible assumption))))); (case km => (dsimp only; lia)))
    · exact (pi_bad (by with_reducible assumption) (by with_reducible assumption) (by with_reducible assumption) (by with_reducible assumption) (fun _ _ => (by with_reducible assumption)) (by with_reducible assumption)).elim
    · (unfold Stop; (rename News _ _ _ _ => nE'); (rename Fr _ _ _ _ => fE'); (try simp only [List.push_toArray] at nE'); refine' ksw_end (_, _, _, _, _) fE' nE' ?kn ?kf ?kk ?kr ?kp ?km; (case kn => kst_in); (case kf => kst_facts); (case kk => kst_all); (case kr => ksw_same); (case kp => ((try dsimp only); (exact stI hn (pi_esc hy (by with_reducible assumption) (by with_reducible assumption) (by with_reducible assumption) (by with_reducible assumption) (by with_reducible assumption) (by with_reducible assumption))))); (case km => (dsimp only; lia)))
    · (unfold Stop; (rename News _ _ _ _ => nE'); (rename Fr _ _ _ _ => fE'); (try simp only [List.push_toArray] at nE'); refine' ksw_end (_, _, _, _, _) fE' nE' ?kn ?kf ?kk ?kr ?kp ?km; (case kn => kst_in); (case kf => kst_facts); (case kk => kst_all); (case kr => ksw_same); (case kp => ((try dsimp only); (exact stI hn (pi_plain hy (by with_reducible assumption) (by with_reducible assumption) (by with_reducible assumption) (by with_reducible assumption) (by with_reducible assumption))))); (case km => (dsimp only; lia)))
    · exact (pi_bad (by with_reducible assumption) (by with_reducible assumption) (by with_reducible assumption) (by with_reducible assumption) (fun _ b => absurd b (by with_reducible assumption)) (by with_reducible assumption)).elim
    · (unfold Stop; (rename News _ _ _ _ => nE'); (rename Fr _ _ _ _ => fE'); (try simp only [List.push_toArray] at nE'); refine' ksw_end (_, _, _, _, _) fE' nE' ?kn ?kf ?kk ?kr ?kp ?km; (case kn => kst_in); (case kf => kst_facts); (case kk => kst_all); (case kr => ksw_same); (case kp => ((try dsimp only); (exact stI hn (pi_plain hy (by with_reducible assumption) (by with_reducible assumption) (by with_reducible assumption) (by with_reducible assumption) (by with_reducible assumption))))); (case km => (dsimp only; lia)))
    · exact (pi_bad (by with_reducible assumption) (by with_reducible assumption) (by with_reducible assumption) (by with_reducible assumption) (fun a _ => absurd (a.symm.trans (show (Txt.item y _ == Str.ofString "\\") = false by with_reducible assumption)) (by decide)) (by with_reducible assumption)).elim
    · rename News g' _ _ _ => Nz
      exact ret _ _ _ _ _ _ (by assumption) (pi_end (by with_reducible assumption) (by with_reducible assumption)) (PI.ok (by with_reducible assumption)) (fresh_end st' (Nz _ (.head _)).2.2) (Nz _ (.head _)).1 (stays_end st' (by assumption))
end
end Mine
end

section -- S16
open PySem PySem.W PyProof.Rows PySem.Calls PySem.Spec
set_option maxRecDepth 100000
set_option pp.deepTerms false
set_option pp.deepTerms.threshold 6
set_option maxHeartbeats 8000000

namespace Mine
structure JnC where
  vs : List Value
  n : Nat
  i : Int
  t : Tok
section
variable {prog : Program} {w : World} {A : Around} {E : Value → Shared → Prop} {s : Shared} {h₀ : Heap} {L : Addr} {m : Str → Option Value} {news : List (Addr × Obj)}
theorem item_at_any {value slice : PySem.Expr} {l : Addr} {vs : List Value} {v : Value} {k : Int} {u : Tok} {Q : Value → Shared → Prop} (F : Fr h₀ L s.heap m) (hl : h₀.IsList l vs.toArray) (h0 : 0 ≤ k) (hf : k < 2 ^ 63) (hv : vs[k.toNat]? = some v) (h : Q v s)
    (hs : subscripted slice false (.ref l) (.int k u) = operate [.ref l, .int k u] (getItem (.ref l) (.int k u)) := by with_unfolding_all rfl) :
    wpAny (model prog w) A (subscriptTail value slice (.ref l) (.int k u)) Q E s := by
  have hl' : s.heap.IsList l vs.toArray := hl.at fun o e => F.keep l o e
  exact tail_any hl'.typeIs slot_list_getitem.lookup (wpAny_getItem_list hl' h0 hf (by rw [List.getElem?_toArray, hv]) h) hs
theorem len_any {l : Addr} {vs : List Value} {Q : Value → Shared → Prop} (F : Fr h₀ L s.heap m) (hl : h₀.IsList l vs.toArray) (hn : vs.length ≤ 1000) (h : ∀ t k, Q (.int (vs.length : Int) t) { s with toks := k }) : wpAny (model prog w) A (call (.builtin "len") [.ref l]) Q E s := by
  have hl' : s.heap.IsList l vs.toArray := hl.at fun o e => F.keep l o e
  refine PyProof.Rows.len_list hl' (by rw [List.size_toArray]; lia) ?_
  rw [List.size_toArray]
  exact h _ _
theorem join_parts {t : Tok} {Q : Value → Shared → Prop} {D : Addr} {items : Array Value} {ys : List Str} (hl : s.heap.IsList D items) (hi : StrsAre items.toList ys)
    (h3 : ∀ x ∈ ys, x.length ≤ 4) (hn : ys.length ≤ 100) (h : ∀ (z : Str) t' k, QIs z (ys.flatMap sg) → z.length ≤ 400 → Q (.str z t') { s with toks := k }) : wpAny (model prog w) A (call (.builtin "str.join") [.str (Str.ofString "") t, .ref D]) Q E s := by
  have h1 := sum_le h3
  have h0 : (Str.ofString "").length = 0 := rfl
  exact join_list hl hi (by rw [h0]; lia) fun t' k => h _ t' k ⟨sg_join0 _⟩ (by rw [join0_len]; lia)
end
section
theorem c_jtp {w : World} {p : Program} {loose : List Str} {mean : ExcName → Option Value} {mg mb : Str → Option Value} {dp un : Nat} {gd : Option (List Code)} {cn : Str} {cs : Scope} {a : Addr} {ccd : Value} {cl : List (Str × Addr)} {outer : List Env} {A₀ : Around} {base h₀ : Heap} {L : Addr} {m : Str → Option Value} {s : Shared} {Q E : Value → Shared → Prop} {l st : Addr} {vs : List Value} {all : List Tk} {star : Bool} (C : Cal w p loose mean mg mb A₀ base outer h₀ L m s.heap cs dp un 3) (hl : s.heap.IsList l vs.toArray) (hv : TrOut all star st vs) (hn : all.length ≤ 90) (hx : ∀ t ∈ all, (partS t).length ≤ 4)
  (ret : ∀ (z y : Str) t h' tk', XF z y → sg y = all.flatMap (fun t => sg (partS t)) ++ tailS star → y.length ≤ 400 → s.heap.StaysIn h' → Q (.str z t) {s with heap := h', toks := tk'}) :
  wpAny (Md w) (ktrTop dp un gd cn cs L a ccd cl outer) (call (.ref 95) [.ref l, .ref st]) Q E s := by
  obtain ⟨us, hus, hvs⟩ := hv
  have hul : us.length = all.length := by rw [hus.length, List.length_map]
  have hvl : vs.length = us.length + (if star then 1 else 0) := by rw [hvs]; cases star <;> simp
  have hvl2 : vs.length ≤ 91 := by rw [hvl]; split <;> lia
  k_with_none
  k_with "m execs cons" => ((k_here; (try ((with_reducible refine Mine.toks_any ?_); intro zztk9)); (with_reducible refine wpAny_execs_cons ?_); (try dsimp only)))
  k_with "m execs nil" => ((k_here; (try ((with_reducible refine Mine.toks_any ?_); intro zztk9)); (with_reducible refine wpAny_execs_nil ?_); (try dsimp only)))
  k_with "m getAttr ref" => ((k_here; (rename Fr _ _ _ _ => zzFz); (rename News _ _ _ _ => zzNz); (with_reducible refine attr_append_K zzFz zzNz (by k_dflt k_mem) ?_); clear zzFz zzNz; intro zzu' zzh' zztk' zzF' zzN' zzl1; (try k_lt zzl1); (try dsimp only); (try k_sweep)))
  k_with "m exec While Compare cons nil" => (refine Stop.go ?_)
  k_with "m exec While BoolOp cons nil" => (refine Stop.go ?_)
  k_with "m KswEnd" => (refine Stop.go ?_)
  k_with "m And" => ((refine ⟨News.get (by k_asm) (by (with_reducible first | exact List.mem_cons_self | exact List.mem_cons_of_mem _ List.mem_cons_self | exact List.mem_cons_of_mem _ (List.mem_cons_of_mem _ List.mem_cons_self))), ?_⟩))
  k_with "m call ref" => ((k_here; (with_reducible show wpAny _ _ (call (Value.ref _) [_]) _ _ _); k_dflt (refine' call_add_K (by (k_asm)) (by (k_asm)) (by ((with_reducible first | exact List.mem_cons_self | exact List.mem_cons_of_mem _ List.mem_cons_self | exact List.mem_cons_of_mem _ (List.mem_cons_of_mem _ List.mem_cons_self)))) (by (k_upd)) (by (rw [List.size_toArray, sizeLine_eq]; lia)) ?_; k_whole); intro zzh' zzF' zzN'; (try dsimp only); (try k_sweep)))
  k_with "m compareOp IsNot str ref" => ((k_here; refine wpAny_isNot_other rfl (fun e => by cases e) ?_; (try dsimp only)))
  k_with "m compareOp IsNot ref ref" => ((k_here; refine wpAny_isNot_ref_self ?_; (try dsimp only)))
  k_with "m subscriptTail Name Name ref int" => ((k_here; (with_reducible show wpAny _ _ (subscriptTail _ _ (Value.ref _) (Value.int _ _)) _ _ _); k_dflt (refine' item_at_any (by (k_asm)) (by (assumption)) (by (lia)) (by (lia)) (by (assumption)) ?_ (by (with_unfolding_all rfl))); (try dsimp only)))
  k_with "m call builtin:len" => ((k_here; (with_reducible show wpAny _ _ (call (Value.builtin "len") [Value.ref _]) _ _ _); k_dflt (refine' len_any (by (k_asm)) (by (assumption)) (by (lia)) ?_); intro zzt9 zzk9; (try dsimp only)))
  k_with "m callWith ref" => ((k_here; k_dflt (refine' callWith_add (by (k_asm)) (by (with_reducible first | exact List.mem_cons_self | exact List.mem_cons_of_mem _ List.mem_cons_self | exact List.mem_cons_of_mem _ (List.mem_cons_of_mem _ List.mem_cons_self))) ?_ (by (rfl)) (by (rfl))); (try dsimp only)))
  k_with "m joinParts" => (first
  | ((with_reducible refine joinParts_consE ?_); (with_reducible refine joinParts_cons ?_))
  | ((with_reducible refine joinParts_nilE ?_); (with_reducible refine joinParts_nil (hsz := (by (size_fits))) ?_))
  | ((with_reducible show wpAny _ _ (joinParts _ (_ :: _)) _ _ _); (with_reducible refine joinParts_cons ?_))
  | ((with_reducible show wpAny _ _ (joinParts _ []) _ _ _); (with_reducible refine joinParts_nil (hsz := (by (size_fits))) ?_)))
  obtain ⟨B, F, X, T, kcs, hd, hu⟩ := C
  refine wpAny_call ?_
  k_dflt (refine' enterP ?k1 ?k2 ?k3 ?k5 ?kA ?kF ?kK ?k6 ?k7 ?k8 ?k9 ?kB ?_ ?c2 ?c3 ?c4 ?c5; (case kA => exact rfl); (case kF => exact rfl); (case kK => exact kcs); (case k1 => exact B); (case k2 => exact F); (case k3 => exact X); (case k5 => exact T); (case k6 => k_is); (case k7 => k_is); (case k8 => exact Nat.lt_of_le_of_lt (Nat.le_add_right _ _) hd); (case k9 => exact BindsTo.of_eq rfl); (case c5 => decide); (case kB => exact locs rfl); (case c2 => exact rfl); (case c3 => exact rfl); (case c4 => exact rfl); k_whole)
  intro g' L' h' st' sz' F' N' B' X' T'
  try dsimp only
  try k_fold
  have hl' := stays_list st' hl
  k_steps
  unfold Stop
  rename Fr g' _ _ _ => Fz
  rename News g' _ _ _ => Nz
  rename_i tkA res hA lA hB tkB hD tkD tup hE lC hF hG hH
  refine ksw_while (fun c : JnC => [(zzu', bm "list.append" (.ref res)), (res, listOf c.vs.toArray c.n)]) (fun c => [(Str.ofString "i", .int c.i c.t)]) (fun c => 0 ≤ c.i ∧ c.i ≤ us.length ∧ c.vs = us.take c.i.toNat)
    [] (fun _ => True) (fun c => ((us.length : Int) - c.i).toNat) ⟨[], 0, 0, tkD⟩
    Fz (fun p hp => Nz p (.tail _ hp)) ⟨Int.le_refl 0, by show (0 : Int) ≤ _; lia, rfl⟩ (List.forall_mem_cons.mpr ⟨by with_unfolding_all rfl, List.forall_mem_nil _⟩) trivial ?_
  clear Fz Nz
  intro c u h tk hQ _ F1 N1
  obtain ⟨cvs, cn, ci, ct⟩ := c
  obtain ⟨hlo, hhi, hcv⟩ := hQ
  dsimp only at hlo hhi hcv F1 N1
  simp only [kstB] at F1
  have hcl : cvs.length ≤ 90 := by rw [hcv, List.length_take]; lia
  by_cases hlt : ci < us.length
  · have hlt2 : ci < vs.length := by rw [hvl]; lia
    obtain ⟨y, ty, hy⟩ : ∃ y ty, us[ci.toNat]? = some (Value.str y ty) := by
      have hb : ci.toNat < us.length := by lia
      obtain ⟨ty, e⟩ := StrsAre.at hus ci.toNat us[ci.toNat] (List.getElem?_eq_getElem hb)
      exact ⟨_, ty, by rw [List.getElem?_eq_getElem hb, e]⟩
    have hv2 : vs[ci.toNat]? = some (Value.str y ty) := by
      rw [hvs]
      cases star with
      | false => exact hy
      | true => rw [if_pos rfl, List.getElem?_append_left (by lia)]; exact hy
    k_steps
    unfold Stop
    rename Fr g' _ _ _ => fE'
    rename News g' _ _ _ => nE'
    simp only [List.push_toArray] at nE'
    refine' ksw_end (⟨cvs ++ [.str y ty], cn + 1, ci + 1, _⟩ : JnC) fE' nE' ?kn ?kf ?kk ?kr trivial ?km
    case kn => kst_in
    case kk => kst_all
    case kr => ksw_same
    case kf =>
      refine ⟨by show 0 ≤ ci + 1; lia, by show ci + 1 ≤ _; lia, ?_⟩
      show cvs ++ _ = us.take (ci + 1).toNat
      rw [hcv, show (ci + 1).toNat = ci.toNat + 1 by lia, List.take_add_one, hy]; rfl
    case km => (dsimp only; lia)
  · have hce : ci = us.length := by lia
    have hcu : cvs = us := by rw [hcv, hce]; simp
    subst hcu
    cases star with
    | false =>
      have hnn : ci = vs.length := by rw [hvl]; simpa using hce
      k_steps
      unfold Stop
      rename Fr g' _ _ _ => Fz
      rename News g' _ _ _ => Nz
      refine ksw_while (σ := Unit) (fun _ => [(zzu', bm "list.append" (.ref res)), (res, listOf cvs.toArray cn)]) (fun _ => [(Str.ofString "i", .int ci ct)]) (fun _ => True) [] (fun _ => True) (fun _ => 0) () Fz Nz trivial (List.forall_mem_cons.mpr ⟨by with_unfolding_all rfl, List.forall_mem_nil _⟩) trivial ?_
      clear Fz Nz
      intro _ u2 h2 tk2 _ _ F2 N2
      simp only [kstB] at F2
      have h4 : ∀ x ∈ all.map partS, x.length ≤ 4 := fun x hxm => by obtain ⟨t, ht, rfl⟩ := List.mem_map.mp hxm; exact hx t ht
      k_with "call builtin:str.join" => (k_here; k_dflt (refine' join_parts (ys := all.map partS) ?k1 ?k2 ?k3 ?k5 ?_; (case k1 => exact News.isList (by k_asm) (by k_mem)); (case k2 => exact hus); (case k3 => exact h4); (case k5 => (rw [List.length_map]; lia))); intro z9 t9 k9 hz9 hl9; (try dsimp only))
      k_steps
      · rename QIs _ _ => hq9
        refine ret _ _ _ _ _ ⟨rfl⟩ ?_ (by assumption) (stays_end st' (by assumption))
        rw [hq9.eq, List.flatMap_map]; exact (List.append_nil _).symm
      · exact absurd hnn (by assumption)
    | true =>
      have hnn : ci + 1 = vs.length := by rw [hvl, hce]; simp
      have hlt2 : ci < vs.length := by lia
      have hv2 : vs[ci.toNat]? = some (Value.ref st) := by
        rw [hvs, if_pos rfl, hce]; simp
      k_steps
      unfold Stop
      rename Fr g' _ _ _ => Fz
      rename News g' _ _ _ => Nz
      refine ksw_while (σ := Unit) (fun _ => [(zzu', bm "list.append" (.ref res)), (res, listOf cvs.toArray cn)]) (fun _ => [(Str.ofString "i", .int ci ct)]) (fun _ => True) [] (fun _ => True) (fun _ => 0) () Fz Nz trivial (List.forall_mem_cons.mpr ⟨by with_unfolding_all rfl, List.forall_mem_nil _⟩) trivial ?_
      clear Fz Nz
      intro _ u2 h2 tk2 _ _ F2 N2
      simp only [kstB] at F2
      have h4 : ∀ x ∈ all.map partS ++ [Str.ofString ".*"], x.length ≤ 4 := fun x hxm => by
        rcases List.mem_append.mp hxm with hxm | hxm
        · obtain ⟨t, ht, rfl⟩ := List.mem_map.mp hxm; exact hx t ht
        · rw [List.mem_singleton.mp hxm]; decide
      k_with "call builtin:str.join" => (k_here; k_dflt (refine' join_parts (ys := all.map partS ++ [Str.ofString ".*"]) ?k1 ?k2 ?k3 ?k5 ?_; (case k1 => exact News.isList (by k_asm) (by k_mem)); (case k2 => (rw [List.push_toArray]; exact hus.append' (.cons _ _ .nil))); (case k3 => exact h4); (case k5 => (rw [List.length_append, List.length_map, List.length_singleton]; lia))); intro z9 t9 k9 hz9 hl9; (try dsimp only))
      k_with "subscriptTail Name Name ref int" => exact absurd hnn (by with_reducible assumption)
      k_steps
      · rename QIs _ _ => hq9
        refine ret _ _ _ _ _ ⟨rfl⟩ ?_ (by assumption) (stays_end st' (by assumption))
        rw [hq9.eq, List.flatMap_append, List.flatMap_map]
        rfl
      · exact absurd hnn (by assumption)
end
end Mine
end

section -- S17
open PySem PySem.W PyProof.Rows PySem.Calls PySem.Spec
set_option maxRecDepth 100000
set_option pp.deepTerms false
set_option pp.deepTerms.threshold 6
set_option maxHeartbeats 8000000

namespace Mine
theorem brS_le {q : List Nat} (h : q ∈ brs) : (brS q).length ≤ 4 := (by decide +kernel : ∀ q ∈ brs, (brS q).length ≤ 4) q h
theorem partS_le {t : Tk} (h : TkOk t) : (partS t).length ≤ 4 := by
  cases t with
  | c n =>
    show (escS n).length ≤ 4
    unfold escS
    split
    · exact Nat.le_of_ble_eq_true rfl
    · exact Nat.le_of_ble_eq_true rfl
  | br q => exact brS_le h
theorem Fr.but {h₀ h h' : Heap} {L P : Addr} {m : Str → Option Value} (F : Fr h₀ L h m) (hb : ∀ b o, b ≠ P → h.get? b = some o → h'.get? b = some o) (hP : h₀.get? P = none) (hL : L ≠ P) : Fr h₀ L h' m :=
  ⟨F.ns.extBut (fun b o n e => hb b o n e) hL, fun b o e => hb b o (fun q => by rw [q, hP] at e; cases e) (F.keep b o e), F.above⟩
theorem fresh_L {h₀ h : Heap} {L r : Addr} {m : Str → Option Value} (F : Fr h₀ L h m) (hr : h.get? r = none) : r ≠ L ∧ h₀.get? r = none := by
  constructor
  · intro e
    obtain ⟨o, es, ep, ho, _⟩ := F.ns
    rw [← e, hr] at ho; cases ho
  · cases q : h₀.get? r with
    | none => rfl
    | some o => have := F.keep r o q; rw [hr] at this; cases this
/-- a ledger whose last entry is the table, after a call that grows it -/
theorem News.but {h₀ h h' : Heap} {L P : Addr} {pre : List (Addr × Obj)} {to to' : Obj} (N : News h₀ L h (pre ++ [(P, to)])) (hpre : ∀ q ∈ pre, q.1 ≠ P) (hb : ∀ b o, b ≠ P → h.get? b = some o → h'.get? b = some o) (hP : h'.get? P = some to') : News h₀ L h' (pre ++ [(P, to')]) := by
  intro q hq
  rcases List.mem_append.mp hq with hq | hq
  · have := N q (List.mem_append_left _ hq)
    exact ⟨hb _ _ (hpre q hq) this.1, this.2⟩
  · rw [List.mem_singleton.mp hq]
    exact ⟨hP, (N (P, to) (List.mem_append_right _ (.head _))).2⟩
theorem all_le {all : List Tk} (h : ∀ t ∈ all, TkOk t) : ∀ t ∈ all, (partS t).length ≤ 4 := fun t ht => partS_le (h t ht)
section
theorem c_translate {w : World} {p : Program} {loose : List Str} {mean : ExcName → Option Value} {mg mb : Str → Option Value} {dp un : Nat} {gd : Option (List Code)} {cn : Str} {cs : Scope} {a : Addr} {ccd : Value} {cl : List (Str × Addr)} {outer : List Env} {A₀ : Around} {base h₀ : Heap} {L : Addr} {m : Str → Option Value} {s : Shared} {Q E : Value → Shared → Prop} {x : Str} {t1 : Tok} {ps : Array Value} {all : List Tk} {star : Bool} (C : Cal w p loose mean mg mb A₀ base outer h₀ L m s.heap cs dp un 8) (NT : News h₀ L s.heap [(83, tabObj ps)]) (CH : CodeHd h₀ 87 83) (hps : TabL ps)
  (hn : x.length ≤ 1000) (hx : sg x = rend all ++ tailT star) (ok : ∀ t ∈ all, TkOk t) (ha : all.length ≤ 90)
  (ret : ∀ (z y : Str) t h' tk' ps', XF z y → sg y = all.flatMap (fun t => sg (partS t)) ++ tailS star → y.length ≤ 400 → (∀ b o, b ≠ 83 → s.heap.get? b = some o → h'.get? b = some o) → h'.get? 83 = some (tabObj ps') → TabL ps' → Q (.str z t) {s with heap := h', toks := tk'}) :
  wpAny (Md w) (ktrTop dp un gd cn cs L a ccd cl outer) (call (.ref 69) [.str x t1]) Q E s := by
  k_with_none
  k_with "m execs cons" => ((k_here; (try ((with_reducible refine Mine.toks_any ?_); intro zztk9)); (with_reducible refine wpAny_execs_cons ?_); (try dsimp only)))
  k_with "m execs nil" => ((k_here; (try ((with_reducible refine Mine.toks_any ?_); intro zztk9)); (with_reducible refine wpAny_execs_nil ?_); (try dsimp only)))
  k_with "m call ref" => ((k_here; (with_reducible show wpAny _ _ (call (Value.ref 88) _) _ _ _); refine Stop.go ?_))
  k_with "m call ref" => ((k_here; (with_reducible show wpAny _ _ (call (Value.ref 95) [Value.ref _, Value.ref _]) _ _ _); k_dflt (refine' c_jtp (by (exact Cal.mk (by k_asm) (by k_asm) (by k_asm) (by k_asm) (by first | exact rfl | assumption) (by ktr_room) (by ktr_units))) (by (exact News.isList (by k_asm) (by k_mem))) (by (assumption)) (by (assumption)) (by (exact all_le (by assumption))) ?_; intro zzz9 zzy9 zzt9 zzh9 zzk9 zzhz9 zzhy9 zzhl9 zzst9; (have zzF9 := Fr.keeps (by k_asm) zzst9); (have zzN9 := News.grown (by k_asm) zzst9); (try dsimp only); (try k_sweep); (try k_fold))))
  k_with "m call type:object" => ((k_here; (rename Fr _ _ _ _ => zzFz); (rename News _ _ _ _ => zzNz); (with_reducible refine call_object_K zzFz zzNz ?_); clear zzFz zzNz; intro zzu' zzh' zzF' zzN' zzl1; (try k_lt zzl1); (try dsimp only); (try k_sweep)))
  obtain ⟨B, F, X, T, kcs, hd, hu⟩ := C
  refine wpAny_call ?_
  k_dflt (refine' code_defG ?k1 ?k2 ?k3 NT ?k5 ?kA ?kF ?kK ?k6 ?k7 ?k8 ?k9 ?kB ?_ ?c2 ?c3 ?c4 ?c5; (case kA => exact rfl); (case kF => exact rfl); (case kK => exact kcs); (case k1 => exact B); (case k2 => exact F); (case k3 => exact X); (case k5 => exact T); (case k6 => k_is); (case k7 => k_is); (case k8 => exact Nat.lt_of_le_of_lt (Nat.le_add_right _ _) hd); (case k9 => exact BindsTo.of_eq rfl); (case c5 => decide); (case kB => exact locs rfl); (case c2 => exact rfl); (case c3 => exact rfl); (case c4 => exact rfl); k_whole)
  intro g' L' h' FG' F' N' B' X' T' GS'
  try dsimp only
  try k_fold
  have CH' : CodeHd g' 87 83 := CH.keeps FG'.keep
  k_steps
  unfold Stop
  rename Fr g' _ _ _ => Fz
  rename News g' _ _ _ => Nz
  have h83 : g'.get? 83 = none := (Nz _ (.tail _ (.head _))).2.2
  have hL83 : L' ≠ 83 := fun e => (Nz _ (.tail _ (.head _))).2.1 e.symm
  have hu83 := Nz _ (.head _)
  refine c_tr (Cal.mk B' Fz X' T' rfl (by ktr_room) (by ktr_units)) (fun q hq => Nz q (.tail _ hq)) CH' hps hn hx ok ?_
  intro r h9 tk9 ps9 n9 vs9 hout hr1 hr2 hk9 hp9 hps9
  have F9 := Fr.but Fz hk9 h83 hL83
  have N8 := News.but (pre := [_]) Nz (fun q hq => by rw [List.mem_singleton.mp hq]; exact Nat.ne_of_gt (by assumption)) hk9 hp9
  have N9 : News g' L' h9 ((r, listOf vs9.toArray n9) :: _) := fun q hq => by
    rcases List.mem_cons.mp hq with rfl | hq
    · exact ⟨hr2, (fresh_L Fz hr1).1, (fresh_L Fz hr1).2⟩
    · exact N8 q hq
  dsimp only [List.cons_append, List.nil_append] at N9
  clear N8 Fz Nz
  try dsimp only
  k_steps
  rename Fr g' _ _ _ => Fq
  rename News g' _ _ _ => Nq
  exact ret _ _ _ _ _ ps9 (by assumption) (by assumption) (by assumption) (fun b o hb e => Fq.keep b o (GS' b o e (fun q => hb (List.mem_singleton.mp q)))) (Nq _ (.tail _ (.tail _ (.head _)))).1 hps9
end
end Mine
end

section -- S13
open PySem PySem.W PyProof.Rows PySem.Calls PySem.Spec
set_option maxRecDepth 100000
set_option pp.deepTerms false
set_option pp.deepTerms.threshold 6
set_option maxHeartbeats 8000000

namespace Mine
theorem LQ_len {x : Str} (h : x.cps.size ≤ 1000) : (LQ x).length ≤ 6008 := by
  have hx : x.length ≤ 1000 := h
  unfold LQ
  split
  · lia
  · have h1 := qesc_len x
    rw [Str.length_append, Str.length_append, show (Str.ofString "'").length = 1 from by decide +kernel]
    lia
theorem joinQ_ok {xs : List Str} (hx : ∀ x ∈ xs, x.cps.size ≤ 1000) (hn : xs.length ≤ 100) : JoinOk (Str.ofString " ") (xs.map LQ) = true := by
  refine joinOk_of ?_
  have h1 : ((xs.map LQ).map (·.length)).sum ≤ 6008 * (xs.map LQ).length := sum_le fun x h => by
    obtain ⟨y, hy, rfl⟩ := List.mem_map.mp h
    exact LQ_len (hx y hy)
  rw [List.length_map] at h1 ⊢
  rw [show (Str.ofString " ").length = 1 from by decide +kernel]
  lia
theorem range_map {xs : List Str} : (List.range xs.length).map (fun j => LQ (xs.getD j Str.empty)) = xs.map LQ := by
  apply List.ext_getElem?
  intro j
  by_cases h : j < xs.length
  · simp [h]
  · simp [h]
section
theorem c_join {w : World} {p : Program} {loose : List Str} {mean : ExcName → Option Value} {mg mb : Str → Option Value} {dp un : Nat} {gd : Option (List Code)} {cn : Str} {cs : Scope} {a : Addr} {ccd : Value} {cl : List (Str × Addr)} {outer : List Env} {A₀ : Around} {base h₀ : Heap} {L : Addr} {m : Str → Option Value} {s : Shared} {Q E : Value → Shared → Prop} {l : Addr} {vs : List Value} {xs : List Str} {ps : Array Value} (C : Cal w p loose mean mg mb A₀ base outer h₀ L m s.heap cs dp un 8) (NT : News h₀ L s.heap [(102, tabObj ps)]) (CH : CodeHd h₀ 106 102) (hps : TabG ⟨119, 20, 119, 57⟩ ps) (G : AllBare s.gens)
  (hl : s.heap.IsList l vs.toArray) (hi : StrsAre vs xs) (hx : ∀ x ∈ xs, x.cps.size ≤ 1000) (hn : xs.length ≤ 100)
  (ret : ∀ (t : Tok) s' ps', AllBare s'.gens → s'.os = s.os → (∀ b o, b ≠ 102 → s.heap.get? b = some o → s'.heap.get? b = some o) → s'.heap.get? 102 = some (tabObj ps') → TabG ⟨119, 20, 119, 57⟩ ps' → Q (.str (Txt.join (Str.ofString " ") (xs.map LQ)) t) s') :
  wpAny (Md w) (ktrTop dp un gd cn cs L a ccd cl outer) (call (.ref 107) [.ref l]) Q E s := by
  have hsz : 0 < s.heap.objs.size := by obtain ⟨o, ho, _⟩ := hl; exact Nat.zero_lt_of_lt (Heap.lt_size ho)
  k_with_none
  k_with "m execs cons" => ((k_here; (try ((with_reducible refine Mine.toks_any ?_); intro zztk9)); (with_reducible refine wpAny_execs_cons ?_); (try dsimp only)))
  k_with "m execs nil" => ((k_here; (try ((with_reducible refine Mine.toks_any ?_); intro zztk9)); (with_reducible refine wpAny_execs_nil ?_); (try dsimp only)))
  k_with "m eval GeneratorExp" => (refine Stop.go ?_)
  k_with "m call builtin:str.join" => (refine Stop.go ?_)
  k_with "m call ref" => (refine Stop.go ?_)
  k_with "m eval Name" => (((with_reducible show wpAny _ _ (eval (Expr.Name _ _) (genEnv _ _ _ _ _ _)) _ _ _); refine ldVarG (by assumption) (by assumption) ?_))
  obtain ⟨B, F, X, T, kcs, hd, hu⟩ := C
  refine wpAny_call ?_
  k_dflt (refine' code_defG ?k1 ?k2 ?k3 NT ?k5 ?kA ?kF ?kK ?k6 ?k7 ?k8 ?k9 ?kB ?_ ?c2 ?c3 ?c4 ?c5; (case kA => exact rfl); (case kF => exact rfl); (case kK => exact kcs); (case k1 => exact B); (case k2 => exact F); (case k3 => exact X); (case k5 => exact T); (case k6 => k_is); (case k7 => k_is); (case k8 => exact Nat.lt_of_le_of_lt (Nat.le_add_right _ _) hd); (case k9 => exact BindsTo.of_eq rfl); (case c5 => decide); (case kB => exact locs rfl); (case c2 => exact rfl); (case c3 => exact rfl); (case c4 => exact rfl); k_whole)
  intro g' L' h' FG' F' N' B' X' T' GS'
  try dsimp only
  try k_fold
  have hl2 : l ≠ 102 := fun e => by
    obtain ⟨o, ho, hc, _⟩ := hl
    rw [e, (NT _ (.head _)).1] at ho; cases ho; exact absurd hc (by simp)
  have hl' : g'.IsList l vs.toArray := hl.at fun o e => GS' l o e (fun q => hl2 (List.mem_singleton.mp q))
  k_steps
  unfold Stop
  rename Fr g' _ _ _ => Fz
  rename News g' _ _ _ => Nz
  rename g'.IsList _ _ => hl9
  have h102 := Nz _ (.head _)
  obtain ⟨bm, ob, M⟩ := bmod_of_top T'
  refine gen_list (c := 106) (P := 102) (l := l) (items := vs.toArray) (F := fun i y => ∃ u, y = .str (LQ (xs.getD i Str.empty)) u) rfl (CH.keeps (fun b o e => Fz.keep b o (FG'.keep b o e))) h102.1 hps (M.keeps Fz.keep) G (T'.nolimit.keeps Fz.keep) (hl9.at fun o e => Fz.keep _ _ e) rfl rfl rfl (by decide) rfl rfl rfl ?room ?hit ?helt ?hQ ?hs
  case room => ktr_room
  case hit => exact fun Q hq => ld Fz rfl hq
  case hs => exact fun _ => rfl
  case helt =>
    intro code C A' E' i v t m₂ hA hD hU hP hn2 hm hC hk
    obtain ⟨u, rfl⟩ := StrsAre.at hi i v (by simpa using hP)
    have hmem : (xs.getD i Str.empty).cps.size ≤ 1000 := by
      rw [List.getD_eq_getElem?_getD]
      cases e : xs[i]? with
      | none => exact Nat.zero_le _
      | some y => exact hx y (List.mem_of_getElem? e)
    have F2 : Fr g' C t.heap m₂ := ⟨hn2, fun b o e => hk b o (fun q => by rw [q, h102.2.2] at e; cases e) (Fz.keep b o e), Nat.le_trans Fz.above (Nat.le_trans (Nat.le_of_lt Fz.ns.lt) hC)⟩
    refine Call_ (nameG_K F2 X' (by k_asm) rfl ?_ rfl rfl rfl rfl)
    refine callWith_K X' rfl (args_cons (ldVarG F2 hm (args_nil ⟨X'.keeps F2.keep, ?_⟩)))
    refine c_quote hA ?rm (X'.keeps F2.keep) (T'.keeps F2.keep) hmem ?_
    case rm => exact Nat.lt_of_le_of_lt (Nat.add_le_add_right hD 3) (by ktr_room)
    intro t9 h9 k9 st9
    exact ⟨⟨t9, rfl⟩, h9, k9, rfl, st9⟩
  case hQ =>
    intro a9 s₅ ps9 hps9 G9 os9 hk9 hp9 X9
    have F5 := Fr.but Fz hk9 h102.2.2 (fun e => h102.2.1 e.symm)
    have N5 : News g' L' s₅.heap [(102, tabObj ps9)] := fun q hq => by
      rw [List.mem_singleton.mp hq]
      exact ⟨hp9, h102.2⟩
    clear Nz
    dsimp only at *
    k_steps
    unfold Stop
    rw [show vs.toArray.size = xs.length by rw [List.size_toArray]; exact StrsAre.length hi] at X9
    refine join_rowsK F5 G9 X9 ?hlk (fun j => LQ (xs.getD j Str.empty)) (fun j v h => h) (by rw [range_map]; exact joinQ_ok hx hn) ?hq (by rw [sizeLine_eq]; lia)
    case hlk =>
      exact Nat.le_sub_one_of_lt Fz.ns.lt
    case hq =>
      intro s6 t6 F6 G6 os6 k6
      rw [range_map]
      refine leaveK_ F6 News.nil fun _ _ => ?_
      exact ret _ _ ps9 G6 (os6.trans os9) (fun b o hb e => k6 b o (Nat.le_sub_one_of_lt (Heap.lt_size (Fz.keep b o (GS' b o e (fun q => hb (List.mem_singleton.mp q)))))) (hk9 b o hb (Fz.keep b o (GS' b o e (fun q => hb (List.mem_singleton.mp q)))))) (k6 _ _ (Nat.le_sub_one_of_lt (Heap.lt_size h102.1)) hp9) hps9
end
end Mine
end

section -- S12
open PySem PySem.W PyProof.Rows PySem.Calls PySem.Spec
set_option maxRecDepth 100000
set_option pp.deepTerms false
set_option pp.deepTerms.threshold 6
set_option maxHeartbeats 8000000

namespace Mine
structure PatC where
  r : Addr
  vs : List Value
  xs : List Str
  n : Nat
  o1 : Obj
  o2 : Obj
  v1 : Option Value
  v2 : Option Value
/-- what stands between two turns of _law_patterns -/
noncomputable def PatP (L : Nat) (ns : List Int) (i : Nat) (c : PatC) : Prop := (@Ne Nat c.r (L + 1)) ∧ (@Ne Nat c.r (L + 1 + 1)) ∧ StrsAre c.vs c.xs ∧ c.o1.data = .cell c.v1 ∧ c.o2.data = .cell c.v2 ∧ c.xs.map sg = (rowsT ((ns.take i).map Int.toNat)).map rend
theorem pat0 (ns : List Int) : [Str.ofString ""].map sg = (rowsT ((ns.take 0).map Int.toNat)).map rend := by
  rw [List.take_zero]; decide +kernel
theorem fig_A {k : Int} (h0 : 0 ≤ k) (h1 : k < 16) (h : (Txt.item (Str.ofString "0123456789ABCDEF") k).cps.toList < (Str.ofString "A").cps.toList) : Txt.item (Str.ofString "0123456789ABCDEF") k = figS k.toNat := by
  obtain ⟨d, rfl⟩ := Int.eq_ofNat_of_zero_le h0
  exact (by decide +kernel : ∀ d : Fin 16, (Txt.item (Str.ofString "0123456789ABCDEF") ((d.val : Nat) : Int)).cps.toList < (Str.ofString "A").cps.toList → Txt.item (Str.ofString "0123456789ABCDEF") ((d.val : Nat) : Int) = figS d.val) ⟨d, by lia⟩ h
theorem fig_B {k : Int} (h0 : 0 ≤ k) (h1 : k < 16) (h : ¬ (Txt.item (Str.ofString "0123456789ABCDEF") k).cps.toList < (Str.ofString "A").cps.toList) :
    Str.ofString "[" ++ Txt.item (Str.ofString "0123456789ABCDEF") k ++ Txt.lower (Txt.item (Str.ofString "0123456789ABCDEF") k) ++ Str.ofString "]" = figS k.toNat := by
  obtain ⟨d, rfl⟩ := Int.eq_ofNat_of_zero_le h0
  exact (by decide +kernel : ∀ d : Fin 16, ¬ (Txt.item (Str.ofString "0123456789ABCDEF") ((d.val : Nat) : Int)).cps.toList < (Str.ofString "A").cps.toList → Str.ofString "[" ++ Txt.item (Str.ofString "0123456789ABCDEF") ((d.val : Nat) : Int) ++ Txt.lower (Txt.item (Str.ofString "0123456789ABCDEF") ((d.val : Nat) : Int)) ++ Str.ofString "]" = figS d.val) ⟨d, by lia⟩ h
theorem figS_len {d : Nat} (h : d < 16) : (figS d).length ≤ 4 := (figS_ok ⟨d, h⟩).2
noncomputable def CellPost (g : Heap) (L : Addr) (m : Str → Option Value) (pre post : List (Addr × Obj)) (D : Addr) (R : Obj → Prop) (s₁ : Shared) (f : Flow) (s₂ : Shared) : Prop :=
  f = .next ∧ ∃ h tk o, s₂ = { s₁ with heap := h, toks := tk } ∧ Fr g L h m ∧ News g L h (pre ++ (D, o) :: post) ∧ R o
theorem cell_join {M : Model} {A : Around} {E : Value → Shared → Prop} {Q : Flow → Shared → Prop} {s : Shared} {t : Sem Flow} {g : Heap} {L : Addr} {m : Str → Option Value} {D : Addr} {o : Obj} (pre post : List (Addr × Obj)) (R : Obj → Prop)
    (_F : Fr g L s.heap m) (_N : News g L s.heap (pre ++ (D, o) :: post)) (h1 : wpAny M A t (CellPost g L m pre post D R s) E s)
    (h2 : ∀ h tk o, Fr g L h m → News g L h (pre ++ (D, o) :: post) → R o → Q .next { s with heap := h, toks := tk }) : wpAny M A t Q E s := by
  refine wpAny_mono h1 (fun f s₂ q => ?_) fun _ _ e => e
  obtain ⟨rfl, h, tk, o, rfl, F, N, r⟩ := q
  exact h2 h tk o F N r
structure IsEsc (e : Str) (o : Int) : Prop where
  eq : sg e = rend (escT o.toNat)
  len : e.length ≤ 9
structure FigTwo (f1 f2 : Str) (o : Int) : Prop where
  e1 : f1 = figS (o.toNat / 16)
  e2 : f2 = figS (o.toNat % 16)
  l1 : f1.length ≤ 4
  l2 : f2.length ≤ 4
theorem fig_two {o : Int} {ys : List Value} (h0 : 0 ≤ o) (h1 : o < 256) (hl : ys.length = 2) (hall : ∀ i y, ys[i]? = some y → ∃ t, y = Value.str (figS (if i = 0 then (o.fdiv 16).toNat else (o.fmod 16).toNat)) t) :
    ∃ f1 f2 t1 t2, ys = [Value.str f1 t1, Value.str f2 t2] ∧ FigTwo f1 f2 o := by
  obtain ⟨a, b, rfl⟩ := len_two hl
  obtain ⟨t1, rfl⟩ := hall 0 a rfl
  obtain ⟨t2, rfl⟩ := hall 1 b rfl
  have e1 : (o.fdiv 16).toNat = o.toNat / 16 := by rw [Int.fdiv_eq_ediv_of_nonneg _ (by decide)]; lia
  have e2 : (o.fmod 16).toNat = o.toNat % 16 := by rw [Int.fmod_eq_emod_of_nonneg _ (by decide)]; lia
  refine ⟨_, _, t1, t2, rfl, ?_, ?_, ?_, ?_⟩
  · rw [if_pos rfl, e1]
  · rw [if_neg (by decide), e2]
  · rw [if_pos rfl, e1]; exact figS_len (by lia)
  · rw [if_neg (by decide), e2]; exact figS_len (by lia)
structure IsFig (z : Str) (o : Int) : Prop where
  eq : sg z = rend [figT (o.toNat / 16), figT (o.toNat % 16)]
theorem IsFig.esc {z : Str} {o : Int} (h : IsFig z o) (hl : z.length ≤ 8) : IsEsc (Str.ofString "=" ++ z) o := by
  refine ⟨?_, by rw [Str.length_append, show (Str.ofString "=").length = 1 from rfl]; lia⟩
  rw [sg_app, h.eq, show sg (Str.ofString "=") = [61] from by decide +kernel]
  rfl
theorem join_esc {prog : Program} {w : World} {A : Around} {E : Value → Shared → Prop} {s : Shared} {t : Tok} {Q : Value → Shared → Prop} {D : Addr} {f1 f2 : Str} {t1 t2 : Tok} {o : Int} (hl : s.heap.IsList D #[Value.str f1 t1, Value.str f2 t2]) (hf : FigTwo f1 f2 o)
    (h : ∀ (z : Str) t' k, IsFig z o → z.length ≤ 8 → Q (.str z t') { s with toks := k }) : wpAny (model prog w) A (call (.builtin "str.join") [.str (Str.ofString "") t, .ref D]) Q E s := by
  have h0 : (Str.ofString "").length = 0 := rfl
  have h1 := hf.l1
  have h2 := hf.l2
  have hs : (([f1, f2] : List Str).map (·.length)).sum ≤ 8 := by simp only [List.map_cons, List.map_nil, List.sum_cons, List.sum_nil]; lia
  refine join_list hl (show StrsAre [Value.str f1 t1, Value.str f2 t2] [f1, f2] from .cons _ _ (.cons _ _ .nil)) (by rw [h0]; lia) fun t' k => h _ t' k ⟨?_⟩ (by rw [join0_len]; exact hs)
  rw [sg_join0, hf.e1, hf.e2]
  show sg (figS _) ++ (sg (figS _) ++ []) = _
  rw [List.append_nil]
  show rend1 _ ++ rend1 _ = rend1 _ ++ (rend1 _ ++ [])
  rw [List.append_nil]
theorem getD_len {xs : List Str} {k : Nat} (h : ∀ x ∈ xs, x.length ≤ k) (i : Nat) : (xs.getD i Str.empty).length ≤ k := by
  rw [List.getD_eq_getElem?_getD]
  cases e : xs[i]? with
  | none => exact Nat.zero_le _
  | some x => exact h x (List.mem_of_getElem? e)
/-- each of xs with e behind -/
theorem strs_more {ys : List Value} {xs : List Str} {e : Str} {n : Nat} (hl : ys.length = n) (hn : n = xs.length) (h : ∀ i y, ys[i]? = some y → ∃ t, y = Value.str (xs.getD i Str.empty ++ e) t) : StrsAre ys (xs.map (· ++ e)) := by
  refine strs_of (by rw [hl, hn, List.length_map]) fun i y hy => ?_
  obtain ⟨t, rfl⟩ := h i y hy
  have hi : i < xs.length := by
    have := (List.getElem?_eq_some_iff.mp hy).1
    lia
  refine ⟨t, ?_⟩
  rw [List.getD_eq_getElem?_getD, List.getD_eq_getElem?_getD, List.getElem?_map, List.getElem?_eq_getElem hi]
  rfl
theorem map_more {xs : List Str} {e : Str} {rows : List (List Tk)} {t : List Tk} (h : xs.map sg = rows.map rend) (he : sg e = rend t) : (xs.map (· ++ e)).map sg = (rows.map (· ++ t)).map rend := by
  rw [List.map_map, List.map_map]
  have e1 : (sg ∘ fun x => x ++ e) = (fun l => l ++ sg e) ∘ sg := by funext x; exact sg_app x e
  have e2 : (rend ∘ fun r => r ++ t) = (fun l => l ++ rend t) ∘ rend := by funext r; exact rend_app r t
  rw [e1, e2, ← List.map_map, ← List.map_map, h, he]
theorem take_snoc {ns : List Int} {i : Nat} {o : Int} (h : ns[i]? = some o) : (ns.take (i + 1)).map Int.toNat = (ns.take i).map Int.toNat ++ [o.toNat] := by
  rw [List.take_add_one, h]; simp
structure IsPlain (p : Str) (o : Int) : Prop where
  eq : o ≠ 95 → sg p = rend [plainT o.toNat]
  len : p.length ≤ 4
theorem plain_sp {o : Int} (h : o = 32) : IsPlain (Str.ofString "[_ ]") o := ⟨fun _ => by rw [h]; decide +kernel, by decide +kernel⟩
theorem plain_br {o : Int} (h0 : 0 ≤ o) (h : o ≠ 32) (hb : (Builtin.Str.occurrences (Str.ofString "*?[") { cps := #[o.toNat] } 0 (Str.ofString "*?[").length 1).isEmpty = false) : IsPlain (Str.ofString "[" ++ { cps := #[o.toNat] } ++ Str.ofString "]") o := by
  have hm := in_one (Str.ofString "*?[") o.toNat
  rw [hb] at hm
  have hm := of_decide_eq_true hm.symm
  rw [show sg (Str.ofString "*?[") = [42, 63, 91] from by decide +kernel] at hm
  simp only [List.mem_cons, List.not_mem_nil, or_false] at hm
  refine ⟨fun _ => ?_, Nat.le_of_ble_eq_true rfl⟩
  unfold plainT
  rw [if_neg (by lia), if_pos hm]
  rfl
theorem plain_pl {o : Int} (h0 : 0 ≤ o) (h : o ≠ 32) (hb : (Builtin.Str.occurrences (Str.ofString "*?[") { cps := #[o.toNat] } 0 (Str.ofString "*?[").length 1).isEmpty = true) : IsPlain { cps := #[o.toNat] } o := by
  have hm := in_one (Str.ofString "*?[") o.toNat
  rw [hb] at hm
  have hm := of_decide_eq_false hm.symm
  rw [show sg (Str.ofString "*?[") = [42, 63, 91] from by decide +kernel] at hm
  simp only [List.mem_cons, List.not_mem_nil, or_false] at hm
  refine ⟨fun _ => ?_, Nat.le_of_ble_eq_true rfl⟩
  unfold plainT
  rw [if_neg (by lia), if_neg hm]
  rfl
section
theorem c_patterns {w : World} {p : Program} {loose : List Str} {mean : ExcName → Option Value} {mg mb : Str → Option Value} {dp un : Nat} {gd : Option (List Code)} {cn : Str} {cs : Scope} {a : Addr} {ccd : Value} {cl : List (Str × Addr)} {outer : List Env} {A₀ : Around} {base h₀ : Heap} {L : Addr} {m : Str → Option Value} {s : Shared} {Q E : Value → Shared → Prop} {l : Addr} {vs : List Value} {ns : List Int} (C : Cal w p loose mean mg mb A₀ base outer h₀ L m s.heap cs dp un 2)
  (hl : s.heap.IsList l vs.toArray) (his : IntsAre vs ns) (hn : ns.length ≤ 3) (ho : ∀ z ∈ ns, 0 ≤ z ∧ z < 256 ∧ z ≠ 61)
  (ret : ∀ r h' tk' n vs (xs : List Str), StrsAre vs xs → xs.map sg = (rowsT (ns.map Int.toNat)).map rend → s.heap.get? r = none → h'.get? r = some (listOf vs.toArray n) → s.heap.StaysIn h' → Q (.ref r) {s with heap := h', toks := tk'}) :
  wpAny (Md w) (ktrTop dp un gd cn cs L a ccd cl outer) (call (.ref 146) [.ref l]) Q E s := by
  k_with_none
  k_with "m execs cons" => ((k_here; (try ((with_reducible refine Mine.toks_any ?_); intro zztk9)); (with_reducible refine wpAny_execs_cons ?_); (try dsimp only)))
  k_with "m execs nil" => ((k_here; (try ((with_reducible refine Mine.toks_any ?_); intro zztk9)); (with_reducible refine wpAny_execs_nil ?_); (try dsimp only)))
  k_with "m execs cons" => ((k_here; (try ((with_reducible refine Mine.toks_any ?_); intro zztk9)); (with_reducible refine Mine.execs_c ?_); intro zzC9 zzhC9; (try dsimp only)))
  k_with "m exec If" => ((k_here; (with_reducible refine Mine.if_c ?_); intro zzC9 zzhC9))
  k_with "m Cont" => (((first | ((refine Mine.Cont.go zzhC9 ?_); clear zzhC9; (try clear zzC9)) | (refine Mine.Cont.go (by with_reducible assumption) ?_)); (try dsimp only)))
  k_with "m call builtin:str.join" => ((k_here; (with_reducible show wpAny _ _ (call (Value.builtin "str.join") [Value.str _ _, Value.ref _]) _ _ _); k_dflt (refine' join_esc (by (exact News.isList (by k_asm) (by k_mem))) (by (assumption)) ?_); intro zzz9 zzt9 zzk9 zzhz9 zzhl9; (try dsimp only)))
  k_with "m eval ListComp" => ((k_here; k_dflt (refine LCg.ListComp_U (F₀ := by k_asm) (by rfl) (by decide) (by rfl) (by decide) (by rfl) ?_)))
  k_with "m exec Assign cons ListComp" => ((k_here; k_dflt (refine LCg.Assign_ListComp_U (F₀ := by k_asm) (by rfl) (by with_unfolding_all rfl) (by with_unfolding_all rfl) (by decide) (by rfl) (by decide) (by rfl) (by rfl) (by rfl) ?_)))
  k_with "m pyIter ref" => (refine Stop.go ?_)
  k_with "m exec If" => ((k_here; (with_reducible show wpAny _ _ (exec (Stmt.If (PySem.Expr.Compare _ _ _ _) _ (Stmt.If _ _ _ _ :: _) _) _) _ _ _); refine Stop.go ?_))
  k_with "m CompSrc" => (refine Stop.go ?_)
  obtain ⟨B, F, X, T, kcs, hd, hu⟩ := C
  refine wpAny_call ?_
  k_dflt (refine' enterCP ?k1 ?k2 ?k3 ?k5 ?kA ?kF ?kK ?k6 ?k7 ?k8 ?k9 ?kB ?kD ?_ ?c2 ?c3 ?c4; (case kA => exact rfl); (case kF => exact rfl); (case kK => exact kcs); (case k1 => exact B); (case k2 => exact F); (case k3 => exact X); (case k5 => exact T); (case k6 => k_is); (case k7 => k_is); (case k8 => exact Nat.lt_of_le_of_lt (Nat.le_add_right _ _) hd); (case k9 => exact BindsTo.of_eq rfl); (case kB => exact rfl); (case kD => decide +kernel); (case c2 => exact rfl); (case c3 => exact rfl); (case c4 => exact rfl); k_whole)
  intro g' L' h' tk' cells' st' sz' F' N' Y' B' X' T'
  k_cells Y'
  try simp only [List.cons_append, List.nil_append] at N'
  try dsimp only
  try k_fold
  have hl' := stays_list st' hl
  k_steps
  unfold Stop
  rename Fr g' _ _ _ => Fz
  rename News g' _ _ _ => Nz
  refine iter_list (fun c : PatC => [(c.r, listOf c.vs.toArray c.n), (L' + 1 + 1, c.o1), (L' + 1, c.o2)]) (fun c => [(Str.ofString "rows", .ref c.r)]) (PatP L' ns) ⟨_, _, [Str.ofString ""], _, _, _, _, _⟩ rfl (.inl hl') Fz Nz (List.forall_mem_cons.mpr ⟨by with_unfolding_all rfl, List.forall_mem_nil _⟩) ⟨(by dsimp only; lia), (by dsimp only; lia), .cons _ _ .nil, by assumption, by assumption, pat0 ns⟩ ?_ ?_
  · intro i v c u I oI h tk hv hP hoff F1 N1
    obtain ⟨r, vs1, xs1, n1, o1, o2, v1, v2⟩ := c
    obtain ⟨hr1, hr2, hs1, hc1, hc2, hx1⟩ := hP
    obtain ⟨hI1, hI2, hI3⟩ : (@Ne Nat r I) ∧ (@Ne Nat (L' + 1 + 1) I) ∧ (@Ne Nat (L' + 1) I) := ⟨hoff _ (.head _), hoff _ (.tail _ (.head _)), hoff _ (.tail _ (.tail _ (.head _)))⟩
    clear hoff
    dsimp only at hr1 hr2 hs1 hc1 hc2 hx1 F1 N1
    simp only [kstB] at F1
    rename IntsAre vs ns => his
    obtain ⟨o, t, rfl, hon⟩ := IntsAre.at his i v (by simpa using hv)
    obtain ⟨hb1, hb2, hb3⟩ := ho o (List.mem_of_getElem? hon)
    have hpre : ((ns.take i).map Int.toNat).length ≤ 3 := by rw [List.length_map, List.length_take]; lia
    obtain ⟨hxl, hxz⟩ := rows_xs hpre hx1
    have hsl := hs1.length
    k_steps
    unfold Stop
    rename Fr g' _ _ _ => Fw
    rename News g' _ _ _ => Nw
    have hd0 : 0 ≤ o.fdiv 16 := Int.fdiv_nonneg hb1 (by decide)
    have hd1 : o.fdiv 16 < 16 := by rw [Int.fdiv_eq_ediv_of_nonneg _ (by decide)]; lia
    have hm0 := Int.fmod_nonneg_of_pos o (show (0 : Int) < 16 by decide)
    have hm1 := Int.fmod_lt_of_pos o (show (0 : Int) < 16 by decide)
    refine LCg.CompSrc.ledger rfl Fw Nw (.head _) (by rw [sizeLine_eq]; exact Nat.le_of_ble_eq_true rfl) ?_
    intro g0
    refine comp_all (fun i y => ∃ t, y = .str (figS (if i = 0 then (o.fdiv 16).toNat else (o.fmod 16).toNat)) t) (Or.inr ⟨_, .head _, rfl, _, rfl⟩) ?_ ?_
    · intro i v I oI C oC D m₂ ys h tk E' hin hv hC hx F1 N1 off
      obtain ⟨k, t, rfl, hk, hk0, hk1⟩ : ∃ (k : Int) (t : Tok), v = .str (Txt.item (Str.ofString "0123456789ABCDEF") k) t ∧ k.toNat = (if i = 0 then (o.fdiv 16).toNat else (o.fmod 16).toNat) ∧ 0 ≤ k ∧ k < 16 := by
        match i, hin, hv with
        | 0, _, hv => exact ⟨o.fdiv 16, _, (Option.some.inj hv).symm, rfl, hd0, hd1⟩
        | 1, _, hv => exact ⟨o.fmod 16, _, (Option.some.inj hv).symm, rfl, hm0, hm1⟩
      rw [← hk]
      have hil : (Txt.item (Str.ofString "0123456789ABCDEF") k).length = 1 := by rw [item_sg hk0 (by exact hk1)]; rfl
      k_steps
      · exact EltEnd.intro (stays_refl _) ⟨_, congrArg (Value.str · _) (fig_A hk0 hk1 (by assumption))⟩
      · exact EltEnd.intro (stays_refl _) ⟨_, congrArg (Value.str · _) (fig_B hk0 hk1 (by assumption))⟩
    · intro ys hlen hall
      obtain ⟨f1, f2, t1, t2, rfl, hfe⟩ := fig_two hb1 hb2 hlen hall
      clear hall hlen
      intro D h tk F1 N1 off1
      refine a6 off1 fun hD1 hD2 hD3 hD4 hD5 zzc5 => ?_
      clear off1 zzc5
      try dsimp only at hD1 hD2 hD3 hD4 hD5
      try dsimp only
      k_steps
      unfold Stop
      rename IsFig _ _ => hfig
      rename Str.length _ ≤ 8 => hz8
      have hesc := hfig.esc hz8
      rename Fr g' _ _ _ => Fv
      rename News g' _ _ _ => Nv
      generalize Str.ofString "=" ++ _ = e9 at *
      refine cell_join [_, _, _, _] [_] (fun o1 => ∃ p t, o1.data = .cell (some (.str p t)) ∧ IsPlain p o) Fv Nv ?_ ?_
      · refine wpAny_If ?_
        k_steps
        all_goals (rename Fr g' _ _ _ => Fy; rename News g' _ _ _ => Ny)
        · exact ⟨rfl, _, _, _, rfl, Fy, Ny, _, _, (by assumption), plain_sp (by assumption)⟩
        · exact ⟨rfl, _, _, _, rfl, Fy, Ny, _, _, (by assumption), plain_pl hb1 (by assumption) (by assumption)⟩
        · exact ⟨rfl, _, _, _, rfl, Fy, Ny, _, _, (by assumption), plain_br hb1 (by assumption) (by assumption)⟩
      · clear Fv Nv
        intro h1 tk1 o1 F1 N1 hP1
        obtain ⟨p, t, hc3, hpl⟩ := hP1
        have hpl4 := hpl.len
        have hel := hesc.len
        dsimp only [List.cons_append, List.nil_append] at N1
        dsimp only
        k_steps
        unfold Stop
        rename Fr g' _ _ _ => Fw
        rename News g' _ _ _ => Nw
        refine LCg.CompSrc.ledger rfl Fw Nw (.tail _ (.tail _ (.tail _ (.head _)))) (by rw [List.size_toArray, sizeLine_eq]; lia) ?_
        intro g0
        refine comp_all (fun i y => ∃ t, y = .str (xs1.getD i Str.empty ++ e9) t) (Or.inr ⟨_, .tail _ (.tail _ (.tail _ (.head _))), rfl, _, rfl⟩) ?_ ?_
        · intro i v I oI C oC D m₂ ys h tk E' hin hv hC hx F1 N1 off
          obtain ⟨t, rfl⟩ := StrsAre.at hs1 i v (by simpa using hv)
          have hz1 := getD_len hxz i
          generalize xs1.getD i Str.empty = x1 at *
          k_steps
          refine EltEnd.intro (stays_refl _) ?_
          exact ⟨_, rfl⟩
        · intro ys hlen hall
          have hmo := strs_more (by simpa using hlen) hsl hall
          clear hall
          intro D2 h tk F1 N1 off1
          refine a7 off1 fun hE1 hE2 hE3 hE4 hE5 hE6 zzc6 => ?_
          clear off1 zzc6
          try dsimp only at hE1 hE2 hE3 hE4 hE5 hE6
          try dsimp only
          k_steps
          · rename Fr g' _ _ _ => Fx
            rename News g' _ _ _ => Nx
            refine iter_end (⟨_, ys, xs1.map (· ++ e9), _, _, _, _, _⟩ : PatC) Fx Nx (by k_mem) (List.forall_mem_cons.mpr ⟨(by k_mem), List.forall_mem_cons.mpr ⟨(by k_mem), List.forall_mem_cons.mpr ⟨(by k_mem), List.forall_mem_nil _⟩⟩⟩) (List.forall_mem_cons.mpr ⟨Ne.symm hE3, List.forall_mem_cons.mpr ⟨hI2, List.forall_mem_cons.mpr ⟨hI3, List.forall_mem_nil _⟩⟩⟩)
              (List.forall_mem_cons.mpr ⟨by with_unfolding_all rfl, List.forall_mem_nil _⟩) ⟨Ne.symm hE6, Ne.symm hE5, hmo, by assumption, by assumption, ?_⟩
            have h95 : o.toNat = 95 := by lia
            rw [take_snoc hon, rowsT_snoc, stepT, if_pos h95]
            exact map_more hx1 hesc.eq
          · unfold Stop
            rename Fr g' _ _ _ => Fw
            rename News g' _ _ _ => Nw
            have h95 : o ≠ 95 := by assumption
            refine LCg.CompSrc.ledger rfl Fw Nw (.tail _ (.tail _ (.tail _ (.tail _ (.head _))))) (by rw [List.size_toArray, sizeLine_eq]; lia) ?_
            intro g0
            refine comp_all (fun i y => ∃ t, y = .str (xs1.getD i Str.empty ++ p) t) (Or.inr ⟨_, .tail _ (.tail _ (.tail _ (.tail _ (.head _)))), rfl, _, rfl⟩) ?_ ?_
            · intro i v I oI C oC D m₂ ys h tk E' hin hv hC hx F1 N1 off
              obtain ⟨t, rfl⟩ := StrsAre.at hs1 i v (by simpa using hv)
              have hz1 := getD_len hxz i
              generalize xs1.getD i Str.empty = x1 at *
              k_steps
              refine EltEnd.intro (stays_refl _) ?_
              exact ⟨_, rfl⟩
            · intro ys2 hlen hall
              have hmp := strs_more (by simpa using hlen) hsl hall
              clear hall
              intro D3 h tk F1 N1 off1
              refine a8 off1 fun hG1 hG2 hG3 hG4 hG5 hG6 hG7 zzc7 => ?_
              clear off1 zzc7
              try dsimp only at hG1 hG2 hG3 hG4 hG5 hG6 hG7
              try dsimp only
              obtain ⟨hS1, hS2, hS3⟩ : I < h.objs.size ∧ L' + 1 + 1 < h.objs.size ∧ L' + 1 < h.objs.size := ⟨Heap.lt_size (N1 (I, oI) (by k_mem)).1, Heap.lt_size (N1 (L' + 1 + 1, o1) (by k_mem)).1, Heap.lt_size (N1 (L' + 1, _) (by k_mem)).1⟩
              k_steps
              rename Fr g' _ _ _ => Fx
              rename News g' _ _ _ => Nx
              refine iter_end (⟨_, ys2 ++ ys, xs1.map (· ++ p) ++ xs1.map (· ++ e9), _, _, _, _, _⟩ : PatC) Fx Nx (by k_mem) (List.forall_mem_cons.mpr ⟨List.Mem.head _, List.forall_mem_cons.mpr ⟨(by k_mem), List.forall_mem_cons.mpr ⟨(by k_mem), List.forall_mem_nil _⟩⟩⟩) (List.forall_mem_cons.mpr ⟨Nat.ne_of_gt hS1, List.forall_mem_cons.mpr ⟨hI2, List.forall_mem_cons.mpr ⟨hI3, List.forall_mem_nil _⟩⟩⟩)
                (List.forall_mem_cons.mpr ⟨by with_unfolding_all rfl, List.forall_mem_nil _⟩) ⟨Nat.ne_of_gt hS3, Nat.ne_of_gt hS2, StrsAre.append' (by assumption) hmo, by assumption, by assumption, ?_⟩
              rw [take_snoc hon, rowsT_snoc, stepT, if_neg (by lia), List.map_append, List.map_append, map_more hx1 hesc.eq, map_more hx1 (hpl.eq h95)]
  · intro c u h tk hP F1 N1
    obtain ⟨r, vs1, xs1, n1, o1, o2, v1, v2⟩ := c
    obtain ⟨hr1, hr2, hs1, hc1, hc2, hx1⟩ := hP
    dsimp only at hr1 hr2 hs1 hc1 hc2 hx1 F1 N1
    simp only [kstB] at F1
    rename IntsAre vs ns => his
    have hpost : xs1.map sg = (rowsT (ns.map Int.toNat)).map rend := by rw [hx1, his.length, List.take_length]
    have hget := N1 _ (.head _)
    k_steps
    exact ret _ _ _ _ _ _ hs1 hpost (fresh_end st' hget.2.2) hget.1 (stays_end st' F1)
end
end Mine
end

section -- S11
open PySem PySem.W PyProof.Rows PySem.Calls PySem.Spec
set_option maxRecDepth 100000
set_option pp.deepTerms false
set_option pp.deepTerms.threshold 6
set_option maxHeartbeats 8000000

namespace Mine
theorem join_ones {prog : Program} {w : World} {A : Around} {E : Value → Shared → Prop} {s : Shared} {t : Tok} {Q : Value → Shared → Prop} {D : Addr} {items : Array Value} {ys : List Str} (hl : s.heap.IsList D items) (hi : StrsAre items.toList ys)
    (h3 : ∀ x ∈ ys, x.length ≤ 1 ∧ PyData.strOk x = true) (hn : ys.length ≤ 1000) (h : ∀ (z : Str) t' k, sg z = ys.flatMap sg → PyData.strOk z = true → Q (.str z t') { s with toks := k }) : wpAny (model prog w) A (call (.builtin "str.join") [.str (Str.ofString "") t, .ref D]) Q E s := by
  have h1 := sum_le fun x hx => (h3 x hx).1
  have h0 : (Str.ofString "").length = 0 := rfl
  exact join_list hl hi (by rw [h0]; lia) fun t' k => h _ t' k (sg_join0 _) (join0_ok _ fun x hx => (h3 x hx).2)
theorem PR.ones {x : Str} {signs : List Str} {i : Int} (h : PR x signs i) : ∀ z ∈ signs, z.length ≤ 1 ∧ PyData.strOk z = true := h.2.2.2.1
noncomputable abbrev StR (x : Str) (signs : List Str) (i : Int) : Prop := 0 ≤ i ∧ i ≤ (x.length : Int) ∧ signs.length ≤ 1000 ∧ PR x signs i
theorem stR {x : Str} {signs : List Str} {i : Int} (hn : x.length ≤ 1000) (h : PR x signs i) : StR x signs i := by
  obtain ⟨h0, h1, h2, _, _⟩ := id h
  exact ⟨h0, h1, by lia, h⟩
/-- the ints of the figures behind i -/
theorem fnd_aux : ∀ (q : List Nat) (ys : List Value), q.length = ys.length → q.length ≤ 2 → (∀ i y, ys[i]? = some y → ∃ t, y = Value.int (fnd (q.getD i 0)) t) →
    (q = [] ∧ ys = []) ∨ (∃ a t, q = [a] ∧ ys = [Value.int (fnd a) t]) ∨ ∃ a b t u, q = [a, b] ∧ ys = [Value.int (fnd a) t, Value.int (fnd b) u]
  | [], ys, e, _, _ => .inl ⟨rfl, List.length_eq_zero_iff.mp e.symm⟩
  | [a], ys, e, _, hall => by
    obtain ⟨y, rfl⟩ := List.length_eq_one_iff.mp e.symm
    obtain ⟨t, rfl⟩ := hall 0 y rfl
    exact .inr (.inl ⟨a, t, rfl, rfl⟩)
  | [a, b], ys, e, _, hall => by
    obtain ⟨y0, y1, rfl⟩ := len_two e.symm
    obtain ⟨t, rfl⟩ := hall 0 y0 rfl
    obtain ⟨u, rfl⟩ := hall 1 y1 rfl
    exact .inr (.inr ⟨a, b, t, u, rfl, rfl⟩)
  | _ :: _ :: _ :: r, _, _, h, _ => absurd h (by simp only [List.length_cons]; lia)
theorem fnd_vals {r : List Nat} {z : Str} {n : Nat} (hz : sg z = r.take 2) (hn : n = z.cps.size) {ys : List Value} (hl : ys.length = n) (hall : ∀ i y, ys[i]? = some y → ∃ t, y = Value.int (fnd ((sg z).getD i 0)) t) :
    (r.take 2 = [] ∧ ys = []) ∨ (∃ a t, r.take 2 = [a] ∧ ys = [Value.int (fnd a) t]) ∨ ∃ a b t u, r.take 2 = [a, b] ∧ ys = [Value.int (fnd a) t, Value.int (fnd b) u] :=
  fnd_aux (r.take 2) ys (by rw [← hz, sg_size, hl, hn]) (by rw [List.length_take]; exact Nat.min_le_left _ _) (hz ▸ hall)
theorem find_fnd (c : Nat) : Txt.find (Str.ofString "0123456789ABCDEFabcdef") { cps := #[c] } = fnd c := rfl
theorem getD2_0 (a b : Int) : [a, b].getD (Int.toNat 0) 0 = a := rfl
theorem getD2_1 (a b : Int) : [a, b].getD (Int.toNat 1) 0 = b := rfl
section
structure FndIs (a : Nat) (v : Int) : Prop where
  eq : fnd a = v
structure ChrIs (z : Str) (n : Int) : Prop where
  eq : z = ⟨#[n.toNat]⟩
theorem chr_gen {prog : Program} {w : World} {A : Around} {E : Value → Shared → Prop} {s : Shared} {Q : Value → Shared → Prop} {i n : Int} {t : Tok} (hi : i = n) (h0 : 0 ≤ n) (h1 : n ≤ 1114111) (h : ∀ z t k, ChrIs z n → z.length = 1 → Q (.str z t) { s with toks := k }) : wpAny (model prog w) A (call (.builtin "chr") [.int i t]) Q E s := by
  subst hi
  exact chr_of_range h0 h1 (h _ _ _ ⟨rfl⟩ rfl)
theorem fnd_at {a : Nat} {v : Int} (g : FndIs a v) (h0 : 0 ≤ v) : isHex a = true ∧ (if v < 16 then v else v - 6) = (hv a : Int) := by
  obtain ⟨rfl⟩ := g
  exact ⟨fnd_is h0, (fnd_hex (fnd_is h0)).2.2⟩
theorem pr_hit' {x : Str} {signs : List Str} {i : Int} {a b : Nat} {v u v' u' : Int} {z : Str} (hP : PR x signs i) (hi : i < x.length) (he : (Txt.item x i == Str.ofString "=") = true) (h2 : ((sg x).drop (i + 1).toNat).take 2 = [a, b])
    (g1 : FndIs a v) (g2 : FndIs b u) (hz : ChrIs z (16 * v' + u')) (h0 : 0 ≤ v) (h1 : 0 ≤ u) (c1 : v' = if v < 16 then v else v - 6) (c2 : u' = if u < 16 then u else u - 6) (hx : PyData.strOk x = true) : PR x (signs ++ [z]) (i + 3) := by
  rw [hz.eq]
  obtain ⟨e1, f1⟩ := fnd_at g1 h0
  obtain ⟨e2, f2⟩ := fnd_at g2 h1
  refine pr_hit hP hi he h2 e1 e2 ?_ hx
  rw [c1, c2, f1, f2]
theorem esc3 {r : List Nat} {a b : Nat} {v u : Int} (h2 : r.take 2 = [a, b]) (g1 : FndIs a v) (g2 : FndIs b u) (h : v < 0 ∨ u < 0) : esc2 r = false := by
  rw [(take2_two h2).1]
  cases ha : isHex a with
  | false => rfl
  | true =>
    cases hb : isHex b with
    | false => rfl
    | true =>
      have := (fnd_hex ha).1
      have := (fnd_hex hb).1
      rw [← g1.eq, ← g2.eq] at h
      lia
theorem us_t {x : Str} {i : Int} (h : (Txt.item x i == Str.ofString "_") = true) : Str.ofString " " = if (Txt.item x i == Str.ofString "_") = true then Str.ofString " " else Txt.item x i := (if_pos h).symm
theorem us_f {x : Str} {i : Int} (h : (Txt.item x i == Str.ofString "_") = false) : Txt.item x i = if (Txt.item x i == Str.ofString "_") = true then Str.ofString " " else Txt.item x i := (if_neg (by rw [h]; exact Bool.false_ne_true)).symm
theorem ne_eq {x : Str} {i : Int} {p : Prop} (h : (Txt.item x i == Str.ofString "=") = false) : (Txt.item x i == Str.ofString "=") = true → p := fun h' => absurd (h'.symm.trans h) (by decide)
theorem c_read {w : World} {p : Program} {loose : List Str} {mean : ExcName → Option Value} {mg mb : Str → Option Value} {dp un : Nat} {gd : Option (List Code)} {cn : Str} {cs : Scope} {a : Addr} {ccd : Value} {cl : List (Str × Addr)} {outer : List Env} {A₀ : Around} {base h₀ : Heap} {L : Addr} {m : Str → Option Value} {s : Shared} {Q E : Value → Shared → Prop} {x : Str} {t1 : Tok} (C : Cal w p loose mean mg mb A₀ base outer h₀ L m s.heap cs dp un 2)
  (hxk : PyData.strOk x = true) (hn : x.length ≤ 1000)
  (ret : ∀ (z : Str) (t : Tok) h' tk', sg z = LR (sg x) → PyData.strOk z = true → s.heap.StaysIn h' → Q (.str z t) {s with heap := h', toks := tk'}) :
  wpAny (Md w) (ktrTop dp un gd cn cs L a ccd cl outer) (call (.ref 151) [.str x t1]) Q E s := by
  k_with_none
  k_with "m execs cons" => ((k_here; (try ((with_reducible refine Mine.toks_any ?_); intro zztk9)); (with_reducible refine wpAny_execs_cons ?_); (try dsimp only)))
  k_with "m execs nil" => ((k_here; (try ((with_reducible refine Mine.toks_any ?_); intro zztk9)); (with_reducible refine wpAny_execs_nil ?_); (try dsimp only)))
  k_with "m execs cons" => ((k_here; (try ((with_reducible refine Mine.toks_any ?_); intro zztk9)); (with_reducible refine Mine.execs_c ?_); intro zzC9 zzhC9; (try dsimp only)))
  k_with "m exec If" => ((k_here; (with_reducible refine Mine.if_c ?_); intro zzC9 zzhC9))
  k_with "m Cont" => (((first | ((refine Mine.Cont.go zzhC9 ?_); clear zzhC9; (try clear zzC9)) | (refine Mine.Cont.go (by with_reducible assumption) ?_)); (try dsimp only)))
  k_with "m call builtin:chr" => ((k_here; refine chr_gen (by simp only [getD2_0, getD2_1]; rfl) (by lia) (by lia) ?_; intro zzz9 zzt9 zzk9 zzhz9 zzhzl9; (try dsimp only)))
  k_with "m call builtin:list.append" => ((k_here; (with_reducible show wpAny _ _ (call (Value.builtin _) [Value.ref _, _]) _ _ _); k_dflt (refine' append_K (by (k_asm)) (by (k_asm)) (by (k_upd)) ?_ (by (rw [List.size_toArray, sizeLine_eq]; lia)); k_whole); intro zzh' zzF' zzN'; (try k_sweep)))
  k_with "m KswEnd" => (refine Stop.go ?_)
  k_with "m exec While Compare cons nil" => (refine Stop.go ?_)
  k_with "m exec Assign cons ListComp" => ((k_here; (with_reducible show wpAny _ _ (exec (Stmt.Assign _ (PySem.Expr.ListComp _ [⟨_, PySem.Expr.Subscript _ _ _, _, _⟩] _ _) _) _) _ _ _); k_dflt (refine Assign_ListComp_S (_F₀ := by k_asm) (by rfl) (by with_unfolding_all rfl) (by with_unfolding_all rfl) (by decide) (by rfl) (by decide) (by rfl) (by rfl) (by rfl) ?_)))
  k_with "m call builtin:str.join" => ((k_here; (with_reducible show wpAny _ _ (call (Value.builtin "str.join") [Value.str _ _, Value.ref _]) _ _ _); k_dflt (refine' join_ones (by (exact News.isList (by k_asm) (by k_mem))) (by (assumption)) (by (exact PR.ones (by with_reducible assumption))) (by (assumption)) ?_); intro zzz9 zzt9 zzk9 zzhz9 zzho9; (try dsimp only)))
  obtain ⟨B, F, X, T, kcs, hd, hu⟩ := C
  refine wpAny_call ?_
  k_dflt (refine' enterCP ?k1 ?k2 ?k3 ?k5 ?kA ?kF ?kK ?k6 ?k7 ?k8 ?k9 ?kB ?kD ?_ ?c2 ?c3 ?c4; (case kA => exact rfl); (case kF => exact rfl); (case kK => exact kcs); (case k1 => exact B); (case k2 => exact F); (case k3 => exact X); (case k5 => exact T); (case k6 => k_is); (case k7 => k_is); (case k8 => exact Nat.lt_of_le_of_lt (Nat.le_add_right _ _) hd); (case k9 => exact BindsTo.of_eq rfl); (case kB => exact rfl); (case kD => decide +kernel); (case c2 => exact rfl); (case c3 => exact rfl); (case c4 => exact rfl); k_whole)
  intro g' L' h' tk' cells' st' sz' F' N' Y' B' X' T'
  k_cells Y'
  try simp only [List.cons_append, List.nil_append] at N'
  try dsimp only
  try k_fold
  have hP0 : PR x [] 0 := pr_start x
  k_with "state" => exact ⟨by decide, by lia, by decide, hP0⟩
  k_steps
  unfold Stop
  k_while (fun _ signs i => 0 ≤ i ∧ i ≤ (x.length : Int) ∧ signs.length ≤ 1000 ∧ PR x signs i) (fun _ _ i => ((x.length : Int) - i).toNat) "signs$" "at"
  k_steps
  · rename Fr g' _ _ _ => Fz
    rename News g' _ _ _ => Nz
    rename _ < (x.length : Int) => hlt
    rename PR x _ _ => hPR
    rename Int => i
    have hz := pr_two hPR.1 hlt
    generalize Txt.slice x (some (_ + 1)) (some (_ + 3)) = z at *
    have hzl : z.cps.size ≤ 2 := by rw [← sg_size, hz, List.length_take]; lia
    refine ⟨_, _, _, rfl, rfl, Fz, Nz, by rw [sizeLine_eq]; lia, fun g0 => ?_⟩
    refine comp_all (fun i y => ∃ t, y = .int (fnd ((sg z).getD i 0)) t) trivial ?_ ?_
    · intro i v I oI C oC D m₂ ys h tk E' hin hv hC hx F1 N1 off
      obtain ⟨c, u, hc, rfl⟩ := hv
      k_steps
      have e : (sg z).getD i 0 = c := by rw [sg_get, Array.getD_eq_getD_getElem?, hc]; rfl
      rw [e]
      exact EltEnd.intro (stays_refl _) ⟨_, congrArg (Value.int · _) (find_fnd c)⟩
    · intro ys hlen hall
      intro D h tk F1 N1 off1
      obtain ⟨hD1, hD2, -⟩ := off1
      try dsimp only at hD1 hD2
      try dsimp only
      k_with "m exec If" => refine Stop.go ?_
      k_with "m eval IfExp" => refine Stop.go ?_
      k_steps
      unfold Stop
      refine if_else ((Txt.item x i == Str.ofString "=") = true → esc2 ((sg x).drop (i + 1).toNat) = false) F1 N1 ?_ ?_
      · intro he h5 k5 F5 N5
        clear F1 N1
        k_steps
        unfold Stop
        refine meet (fun v => ∃ t, v = .str (if (Txt.item x i == Str.ofString "_") = true then Str.ofString " " else Txt.item x i) t) ?_ ?_
        · rintro v k ⟨t, rfl⟩
          k_steps
          (unfold Stop; (rename News _ _ _ _ => nE'); (rename Fr _ _ _ _ => fE'); (try simp only [List.push_toArray] at nE'); refine' ksw_end (_, _, _, _, _) fE' nE' ?kn ?kf ?kk ?kr ?kp ?km; (case kn => kst_in); (case kf => kst_facts); (case kk => kst_all); (case kr => ksw_same); (case kp => ((try dsimp only); (exact stR hn (pr_miss (by with_reducible assumption) (by with_reducible assumption) he hxk rfl)))); (case km => (dsimp only; lia)))
        · refine PyProof.Rows.IfExp_ ?_
          k_steps
          · exact Met.go ⟨_, congrArg (Value.str · _) (us_t (by assumption))⟩
          · exact Met.go ⟨_, congrArg (Value.str · _) (us_f (by assumption))⟩
      · rcases fnd_vals hz rfl hlen hall with ⟨h2, rfl⟩ | ⟨a1, t1, h2, rfl⟩ | ⟨a1, a2, t1, t2, h2, rfl⟩
        · k_steps
          all_goals exact MetK.go (by assumption) (by assumption) fun _ => take2_nil h2
        · have hb1 := fnd_lt a1
          generalize hf1 : fnd a1 = v1 at *
          clear hf1 hall
          k_steps
          all_goals exact MetK.go (by assumption) (by assumption) fun _ => take2_one h2
        · have hb1 := fnd_lt a1
          have hb2 := fnd_lt a2
          generalize hf1 : fnd a1 = v1 at *
          generalize hf2 : fnd a2 = v2 at *
          have hg1 := FndIs.mk hf1
          have hg2 := FndIs.mk hf2
          clear hf1 hf2 hall
          k_steps
          · unfold Stop
            refine meet (fun v => ∃ w t, v = .int w t ∧ w = (if v1 < 16 then v1 else v1 - 6) ∧ 0 ≤ w ∧ w < 16) ?_ ?_
            · rintro v k ⟨w1, u1, rfl, hw1, hl1, hh1⟩
              k_steps
              unfold Stop
              refine meet (fun v => ∃ w t, v = .int w t ∧ w = (if v2 < 16 then v2 else v2 - 6) ∧ 0 ≤ w ∧ w < 16) ?_ ?_
              · rintro v k ⟨w2, u2, rfl, hw2, hl2, hh2⟩
                k_steps
                (unfold Stop; (rename News _ _ _ _ => nE'); (rename Fr _ _ _ _ => fE'); (try simp only [List.push_toArray] at nE'); refine' ksw_end (_, _, _, _, _) fE' nE' ?kn ?kf ?kk ?kr ?kp ?km; (case kn => kst_in); (case kf => kst_facts); (case kk => kst_all); (case kr => ksw_same); (case kp => ((try dsimp only); (exact stR hn (pr_hit' (by with_reducible assumption) (by with_reducible assumption) (by with_reducible assumption) (by with_reducible assumption) hg1 hg2 (by with_reducible assumption) (by lia) (by lia) hw1 hw2 hxk)))); (case km => (dsimp only; lia)))
              · refine PyProof.Rows.IfExp_ ?_
                k_steps
                all_goals exact Met.go ⟨_, _, rfl, by split <;> lia, by lia, by lia⟩
            · refine PyProof.Rows.IfExp_ ?_
              k_steps
              all_goals exact Met.go ⟨_, _, rfl, by split <;> lia, by lia, by lia⟩
          all_goals first | exact MetK.go (by assumption) (by assumption) (ne_eq (by with_reducible assumption)) | exact MetK.go (by assumption) (by assumption) fun _ => esc3 h2 hg1 hg2 (by lia)
  · rename PR x _ _ => hPR
    exact ret _ _ _ _ (Eq.trans (by assumption) (pr_end hPR (by assumption))) (by assumption) (stays_end st' kFr)
end
end Mine
end

section -- S8
open PySem PySem.W PyProof.Rows PySem.Calls PySem.Spec
set_option maxRecDepth 100000
set_option pp.deepTerms false
set_option pp.deepTerms.threshold 6
set_option maxHeartbeats 8000000

namespace Mine
theorem hv_lt {a b : Nat} (ha : isHex a = true) (hb : isHex b = true) : 16 * hv a + hv b < 256 :=
  (by decide +kernel : ∀ a ∈ hexs, ∀ b ∈ hexs, 16 * hv a + hv b < 256) a (hex_mem ha) b (hex_mem hb)
section
theorem c_unq {w : World} {p : Program} {loose : List Str} {mean : ExcName → Option Value} {mg mb : Str → Option Value} {dp un : Nat} {gd : Option (List Code)} {cn : Str} {cs : Scope} {a : Addr} {ccd : Value} {cl : List (Str × Addr)} {outer : List Env} {A₀ : Around} {base h₀ : Heap} {L : Addr} {m : Str → Option Value} {s : Shared} {Q E : Value → Shared → Prop} {x : Str} {t1 : Tok} {ha hb : Nat} (C : Cal w p loose mean mg mb A₀ base outer h₀ L m s.heap cs dp un 1) (hx : x.length = 3) (hs : sg x = [61, ha, hb]) (h1 : isHex ha = true) (h2 : isHex hb = true)
  (ret : ∀ t' h' tk', s.heap.StaysIn h' → Q (.str ⟨#[16 * hv ha + hv hb]⟩ t') {s with heap := h', toks := tk'}) :
  wpAny (Md w) (ktrTop dp un gd cn cs L a ccd cl outer) (call (.ref 43) [.str x t1]) Q E s := by
  have hsl : sg (Txt.slice x (some 1) (some 3)) = [ha, hb] := by
    rw [slice_cut (by decide) (by decide), hs]; rfl
  have hlt := hv_lt h1 h2
  k_with_none
  k_with "m execs cons" => ((k_here; (try ((with_reducible refine Mine.toks_any ?_); intro zztk9)); (with_reducible refine wpAny_execs_cons ?_); (try dsimp only)))
  k_with "m execs nil" => ((k_here; (try ((with_reducible refine Mine.toks_any ?_); intro zztk9)); (with_reducible refine wpAny_execs_nil ?_); (try dsimp only)))
  k_with "m call type:int" => ((k_here; (with_reducible show wpAny _ _ (call (Value.type "int") [Value.str _ _, Value.int 16 _]) _ _ _); refine int16 (by assumption) (by assumption) (by assumption) ?_; intro zzt9 zzk9; (try dsimp only)))
  obtain ⟨B, F, X, T, kcs, hd, hu⟩ := C
  refine wpAny_call ?_
  k_dflt (refine' enterP ?k1 ?k2 ?k3 ?k5 ?kA ?kF ?kK ?k6 ?k7 ?k8 ?k9 ?kB ?_ ?c2 ?c3 ?c4 ?c5; (case kA => exact rfl); (case kF => exact rfl); (case kK => exact kcs); (case k1 => exact B); (case k2 => exact F); (case k3 => exact X); (case k5 => exact T); (case k6 => k_is); (case k7 => k_is); (case k8 => exact Nat.lt_of_le_of_lt (Nat.le_add_right _ _) hd); (case k9 => exact BindsTo.of_eq rfl); (case c5 => decide); (case kB => exact locs rfl); (case c2 => exact rfl); (case c3 => exact rfl); (case c4 => exact rfl); k_whole)
  intro g' L' h' st' sz' F' N' B' X' T'
  try dsimp only
  try k_fold
  k_steps
  exact ret _ _ _ (stays_end st' (by assumption))
end
section
theorem HitQ.hex1 {x : Str} {k : Nat} (h : HitQ x k) : isHex (x.cps.getD (k + 1) 0) = true := by
  have := h.hex; unfold hex2 at this; simp only [Bool.and_eq_true] at this; exact this.1
theorem HitQ.hex2 {x : Str} {k : Nat} (h : HitQ x k) : isHex (x.cps.getD (k + 2) 0) = true := by
  have := h.hex; unfold Mine.hex2 at this; simp only [Bool.and_eq_true] at this; exact this.2
theorem HitQ.len {x : Str} {k : Nat} (h : HitQ x k) : (⟨x.cps.extract k (k + 3)⟩ : Str).length = 3 := by
  have := h.lt
  show (x.cps.extract k (k + 3)).size = 3
  rw [Array.size_extract]; lia
theorem HitQ.signs {x : Str} {k : Nat} (h : HitQ x k) : sg ⟨x.cps.extract k (k + 3)⟩ = [61, x.cps.getD (k + 1) 0, x.cps.getD (k + 2) 0] := by
  have h1 := h.lt
  rw [sg_ext_slice, show k + 3 - k = 3 by lia, drop_head (by rw [sg_size]; lia), drop_head (by rw [sg_size]; lia), drop_head (by rw [sg_size]; lia), sg_get, sg_get, sg_get, h.eq]
  rfl
theorem c_um {w : World} {p : Program} {loose : List Str} {mean : ExcName → Option Value} {mg mb : Str → Option Value} {dp un : Nat} {gd : Option (List Code)} {cn : Str} {cs : Scope} {a : Addr} {ccd : Value} {cl : List (Str × Addr)} {outer : List Env} {A₀ : Around} {base h₀ : Heap} {L : Addr} {m : Str → Option Value} {s : Shared} {Q E : Value → Shared → Prop} {x : Str} {t1 : Tok} {pv : Value} {r sp : Addr} {k lim : Nat} (C : Cal w p loose mean mg mb A₀ base outer h₀ L m s.heap cs dp un 3) (hx : x.cps.size ≤ 1000) (hit : HitQ x k)
  (h1 : s.heap.get? r = some (matchObj (.str x t1) pv 0 lim (-1) sp)) (h2 : s.heap.get? sp = some (spanObj k (k + 3)))
  (ret : ∀ t' h' tk', s.heap.StaysIn h' → Q (.str (repQ x k) t') {s with heap := h', toks := tk'}) :
  wpAny (Md w) (ktrTop dp un gd cn cs L a ccd cl outer) (call (.ref 50) [.ref r]) Q E s := by
  have hl := hit.len
  have hs := hit.signs
  k_with_none
  k_with "m execs cons" => ((k_here; (try ((with_reducible refine Mine.toks_any ?_); intro zztk9)); (with_reducible refine wpAny_execs_cons ?_); (try dsimp only)))
  k_with "m execs nil" => ((k_here; (try ((with_reducible refine Mine.toks_any ?_); intro zztk9)); (with_reducible refine wpAny_execs_nil ?_); (try dsimp only)))
  k_with "m getMethod ref" => ((k_here; refine meth_group (Fr.keep (by k_asm) _ _ (by assumption)) ?_; (try dsimp only)))
  k_with "m call builtin:re.Match.group" => ((k_here; refine group_any (Fr.keep (by k_asm) _ _ (by assumption)) (Fr.keep (by k_asm) _ _ (by assumption)) (by lia) ?_; intro zzt9 zzk9; (try dsimp only)))
  k_with "m call ref" => ((k_here; (with_reducible show wpAny _ _ (call (Value.ref 43) [Value.str _ _]) _ _ _); k_dflt (refine' c_unq (by (exact Cal.mk (by k_asm) (by k_asm) (by k_asm) (by k_asm) (by first | exact rfl | assumption) (by ktr_room) (by ktr_units))) (by (assumption)) (by (assumption)) (by (exact HitQ.hex1 (by assumption))) (by (exact HitQ.hex2 (by assumption))) ?_; intro zzt9 zzh9 zzk9 zzst9; (have zzF9 := Fr.keeps (by k_asm) zzst9); (have zzN9 := News.grown (by k_asm) zzst9); (try dsimp only); (try k_sweep); (try k_fold))))
  obtain ⟨B, F, X, T, kcs, hd, hu⟩ := C
  refine wpAny_call ?_
  k_dflt (refine' enterP ?k1 ?k2 ?k3 ?k5 ?kA ?kF ?kK ?k6 ?k7 ?k8 ?k9 ?kB ?_ ?c2 ?c3 ?c4 ?c5; (case kA => exact rfl); (case kF => exact rfl); (case kK => exact kcs); (case k1 => exact B); (case k2 => exact F); (case k3 => exact X); (case k5 => exact T); (case k6 => k_is); (case k7 => k_is); (case k8 => exact Nat.lt_of_le_of_lt (Nat.le_add_right _ _) hd); (case k9 => exact BindsTo.of_eq rfl); (case c5 => decide); (case kB => exact locs rfl); (case c2 => exact rfl); (case c3 => exact rfl); (case c4 => exact rfl); k_whole)
  intro g' L' h' st' sz' F' N' B' X' T'
  try dsimp only
  try k_fold
  have hg1 := st' _ _ h1
  have hg2 := st' _ _ h2
  k_steps
  exact ret _ _ _ (stays_end st' (by assumption))
end
end Mine
end

section -- S9
open PySem PySem.W PyProof.Rows PySem.Calls PySem.Spec
set_option maxRecDepth 100000
set_option pp.deepTerms false
set_option pp.deepTerms.threshold 6
set_option maxHeartbeats 8000000

namespace Mine
section
variable {prog : Program} {A : Around} {E : Value → Shared → Prop} {s : Shared} {w : World}
theorem sub_Q {a f : Addr} {x : Str} {t : Tok} {Q : Value → Shared → Prop} (hp : IsPat s.heap a codeQ 0) (hf : s.TypeIs (.ref f) "function") (hx : x.cps.size ≤ 1000)
    (hrep : ∀ k h' tk r sp (Q' E' : Value → Shared → Prop), HitQ x k → s.heap.StaysIn h' → h'.get? r = some (matchObj (.str x t) (.ref a) 0 x.cps.size (-1) sp) → h'.get? sp = some (spanObj k (k + 3)) →
      (∀ t' h'' tk'', h'.StaysIn h'' → Q' (.str (repQ x k) t') { s with heap := h'', toks := tk'' }) → wpAny (model prog w) A.in1 (call (.ref f) [.ref r]) Q' E' { s with heap := h', toks := tk })
    (hq : ∀ t' h' k, s.heap.StaysIn h' → Q (.str (Txt.join (Str.ofString "") (piecesQ x (repQ x) (x.cps.size + 1) 0)) t') { s with heap := h', toks := k }) :
    wpAny (model prog w) A (call (.builtin "re.Pattern.sub") [.ref a, .ref f, .str x t]) Q E s := by
  refine wpAny_call (sub_any hp hf ?_)
  have hn : s.heap.get? s.heap.objs.size = none := by
    cases e : s.heap.get? s.heap.objs.size with
    | none => rfl
    | some o => exact absurd (Heap.lt_size e) (Nat.lt_irrefl _)
  exact loop_Q (s := s) (rep := repQ x) hp hx (fun k => Nat.le_refl 1) hrep hn (x.cps.size + 1) 0 0 [] [] _ s.toks (by lia) (fun b o e => Heap.get?_push_of_some _ e) ⟨_, Heap.get?_push_size _ rfl, rfl, 0, rfl⟩ .nil (Nat.zero_le _) (Nat.zero_le _) (Nat.zero_le _) fun t' h' k st => hq t' h' k st
end
section
theorem c_hd {w : World} {p : Program} {loose : List Str} {mean : ExcName → Option Value} {mg mb : Str → Option Value} {dp un : Nat} {gd : Option (List Code)} {cn : Str} {cs : Scope} {a : Addr} {ccd : Value} {cl : List (Str × Addr)} {outer : List Env} {A₀ : Around} {base h₀ : Heap} {L : Addr} {m : Str → Option Value} {s : Shared} {Q E : Value → Shared → Prop} {x : Str} {t1 : Tok} (C : Cal w p loose mean mg mb A₀ base outer h₀ L m s.heap cs dp un 6) (hx : x.cps.size ≤ 1000)
  (ret : ∀ z t' h' tk', sg z = LR (sg x) → s.heap.StaysIn h' → Q (.str z t') {s with heap := h', toks := tk'}) :
  wpAny (Md w) (ktrTop dp un gd cn cs L a ccd cl outer) (call (.ref 57) [.str x t1]) Q E s := by
  have hx2 : x.length ≤ 1000 := hx
  k_with_none
  k_with "m execs cons" => ((k_here; (try ((with_reducible refine Mine.toks_any ?_); intro zztk9)); (with_reducible refine wpAny_execs_cons ?_); (try dsimp only)))
  k_with "m execs nil" => ((k_here; (try ((with_reducible refine Mine.toks_any ?_); intro zztk9)); (with_reducible refine wpAny_execs_nil ?_); (try dsimp only)))
  k_with "m execs cons" => ((k_here; (with_reducible refine wpAny_execs_cons ?_); (try dsimp only)))
  k_with "m getMethod ref" => ((k_here; refine meth_sub (patQ _ (Frag.In.keeps (by k_asm) (Fr.keep (by k_asm)))) ?_; (try dsimp only)))
  k_with "m call builtin:re.Pattern.sub" => ((k_here; refine sub_Q (patQ _ (Frag.In.keeps (by k_asm) (Fr.keep (by k_asm)))) ⟨_, Fr.keep (by k_asm) _ _ (by assumption), rfl⟩ (by rw [blank_len]; assumption) (by ((intro zzk9 zzh9 zztk9 zzr9 zzsp9 zzQ9 zzE9 zzhit9 zzst9 zze9 zzf9 zzq9; exact c_um (Cal.mk (by k_asm) (Fr.keeps (by k_asm) zzst9) (by k_asm) (by k_asm) (by first | exact rfl | assumption) (by ktr_room) (by ktr_units)) (by rw [blank_len]; assumption) zzhit9 zze9 zzf9 zzq9))) ?_; intro zzt9 zzh9 zzk9 zzst9; (have zzF9 := Fr.keeps (by k_asm) zzst9); (have zzN9 := News.grown (by k_asm) zzst9); (try dsimp only); (try k_sweep); (try k_fold)))
  obtain ⟨B, F, X, T, kcs, hd, hu⟩ := C
  refine wpAny_call ?_
  k_dflt (refine' enterP ?k1 ?k2 ?k3 ?k5 ?kA ?kF ?kK ?k6 ?k7 ?k8 ?k9 ?kB ?_ ?c2 ?c3 ?c4 ?c5; (case kA => exact rfl); (case kF => exact rfl); (case kK => exact kcs); (case k1 => exact B); (case k2 => exact F); (case k3 => exact X); (case k5 => exact T); (case k6 => k_is); (case k7 => k_is); (case k8 => exact Nat.lt_of_le_of_lt (Nat.le_add_right _ _) hd); (case k9 => exact BindsTo.of_eq rfl); (case c5 => decide); (case kB => exact locs rfl); (case c2 => exact rfl); (case c3 => exact rfl); (case c4 => exact rfl); k_whole)
  intro g' L' h' st' sz' F' N' B' X' T'
  try dsimp only
  try k_fold
  have hf : g'.get? 50 = some _ := X' 50 _ rfl
  k_steps
  exact ret _ _ _ _ (hd_sg x) (stays_end st' (by assumption))
end
end Mine
end

section -- S6
open PySem PySem.W PyProof.Rows PySem.Calls PySem.Spec
set_option maxRecDepth 100000
set_option pp.deepTerms false
set_option pp.deepTerms.threshold 6
set_option maxHeartbeats 8000000

namespace Mine
/-- a row of items takes a text, sign by sign -/
noncomputable def takesB (xs : List Str) (x : Str) : Bool := decide (x.length = xs.length) && (List.range xs.length).all fun k => (xs.getD k Str.empty).cps.contains (x.cps.getD k 0)
theorem takes_len {xs : List Str} {x : Str} (h : x.length ≠ xs.length) : takesB xs x = false := by
  unfold takesB; rw [decide_eq_false h]; rfl
theorem takes_all {xs : List Str} {x : Str} (h : x.length = xs.length) {q : Nat → Bool} (hq : ∀ k, k < xs.length → q k = !(xs.getD k Str.empty).cps.contains (x.cps.getD k 0)) :
    ((List.range xs.length).filter q).length = 0 ↔ takesB xs x = true := by
  unfold takesB
  rw [decide_eq_true h, Bool.true_and, List.length_eq_zero_iff, List.filter_eq_nil_iff, List.all_eq_true]
  constructor
  · intro a k hk
    have := a k hk
    rw [hq k (List.mem_range.mp hk)] at this
    simpa using this
  · intro a k hk
    rw [hq k (List.mem_range.mp hk), a k hk]
    decide
theorem takes_done {xs : List Str} {x : Str} {zs : List Int} {n : Nat} (h : x.length = xs.length) (hz : zs.length = n) (hn : n = ((List.range xs.length).filter fun k => !(xs.getD k Str.empty).cps.contains (x.cps.getD k 0)).length) : decide (zs = []) = takesB xs x := by
  rw [Bool.eq_iff_iff, decide_eq_true_eq, ← takes_all h (fun _ _ => rfl), ← hn, ← hz, List.length_eq_zero_iff]
theorem in_item {z x : Str} {k : Int} {n : Nat} (hk : k = 0 + (n : Int)) (hn : n < x.length) : (!!(Builtin.Str.occurrences z (Txt.item x k) 0 z.length 1).isEmpty) = !z.cps.contains (x.cps.getD n 0) := by
  have e : Txt.item x k = ⟨#[x.cps.getD n 0]⟩ := item_at (by lia) (by lia) (by lia)
  rw [e, StrLaws.found_one]
  congr 1
  rw [Bool.eq_iff_iff, decide_eq_true_eq, Array.contains_iff_mem, Array.mem_toList_iff]
section
theorem c_takes0 {w : World} {p : Program} {loose : List Str} {mean : ExcName → Option Value} {mg mb : Str → Option Value} {dp un : Nat} {gd : Option (List Code)} {cn : Str} {cs : Scope} {a : Addr} {ccd : Value} {cl : List (Str × Addr)} {outer : List Env} {A₀ : Around} {base h₀ : Heap} {L : Addr} {m : Str → Option Value} {s : Shared} {Q E : Value → Shared → Prop} {l : Addr} {vs : List Value} {xs : List Str} {x : Str} {t1 : Tok} (C : Cal w p loose mean mg mb A₀ base outer h₀ L m s.heap cs dp un 6)
  (hl : s.heap.IsList l vs.toArray) (hi : StrsAre vs xs) (hlast : xs = [] ∨ ∃ ys y, xs = ys ++ [y] ∧ (y == Str.ofString "") = false) (hok : ∀ z ∈ xs, PyData.strOk z = true) (hn : xs.length ≤ 100) (hx : x.length ≤ 1000)
  (ret : ∀ h' tk', s.heap.StaysIn h' → Q (.bool (takesB xs x)) {s with heap := h', toks := tk'}) :
  wpAny (Md w) (ktrTop dp un gd cn cs L a ccd cl outer) (call (.ref 168) [.ref l, .str x t1]) Q E s := by
  k_with_none
  k_with "m execs cons" => ((k_here; (try ((with_reducible refine Mine.toks_any ?_); intro zztk9)); (with_reducible refine wpAny_execs_cons ?_); (try dsimp only)))
  k_with "m execs nil" => ((k_here; (try ((with_reducible refine Mine.toks_any ?_); intro zztk9)); (with_reducible refine wpAny_execs_nil ?_); (try dsimp only)))
  k_with "m execs cons" => ((k_here; (try ((with_reducible refine Mine.toks_any ?_); intro zztk9)); (with_reducible refine Mine.execs_c ?_); intro zzC9 zzhC9; (try dsimp only)))
  k_with "m exec If" => ((k_here; (with_reducible refine Mine.if_c ?_); intro zzC9 zzhC9))
  k_with "m Cont" => (((first | ((refine Mine.Cont.go zzhC9 ?_); clear zzhC9; (try clear zzC9)) | (refine Mine.Cont.go (by with_reducible assumption) ?_)); (try dsimp only)))
  k_with "m call builtin:len" => ((k_here; (with_reducible show wpAny _ _ (call (Value.builtin "len") [Value.ref _]) _ _ _); k_dflt (refine' len_strsL (by (kmk_list)) (by (assumption)) (by ((try simp only [List.length_append, List.length_singleton]); lia)) ?_); intro zzt9 zzk9; (try dsimp only)))
  k_with "m subscriptTail Name UnaryOp ref int" => ((k_here; (with_reducible show wpAny _ _ (subscriptTail _ _ (Value.ref _) (Value.int _ _)) _ _ _); k_dflt (refine' item_neg1 (by (kmk_list)) ?_ (by (with_unfolding_all rfl))); (try dsimp only)))
  k_with "m subscriptTail Name Name ref int" => ((k_here; (with_reducible show wpAny _ _ (subscriptTail _ _ (Value.ref _) (Value.int _ _)) _ _ _); k_dflt (refine' item_str (by (kmk_list)) (by (assumption)) (by (lia)) (by (lia)) (by (lia)) ?_ (by (with_unfolding_all rfl))); intro zzt9; (try dsimp only)))
  k_with "m eval ListComp" => ((k_here; k_dflt (refine LCt.ListComp_T (F₀ := by k_asm) (by with_unfolding_all rfl) (by decide) (by rfl) (by decide) (by rfl) ?_)))
  k_with "m CompSrcT" => (refine Stop.go ?_)
  k_with "m compareOp Eq ref ref" => (refine Stop.go ?_)
  obtain ⟨B, F, X, T, kcs, hd, hu⟩ := C
  refine wpAny_call ?_
  k_dflt (refine' enterCP ?k1 ?k2 ?k3 ?k5 ?kA ?kF ?kK ?k6 ?k7 ?k8 ?k9 ?kB ?kD ?_ ?c2 ?c3 ?c4; (case kA => exact rfl); (case kF => exact rfl); (case kK => exact kcs); (case k1 => exact B); (case k2 => exact F); (case k3 => exact X); (case k5 => exact T); (case k6 => k_is); (case k7 => k_is); (case k8 => exact Nat.lt_of_le_of_lt (Nat.le_add_right _ _) hd); (case k9 => exact BindsTo.of_eq rfl); (case kB => exact rfl); (case kD => decide +kernel); (case c2 => exact rfl); (case c3 => exact rfl); (case c4 => exact rfl); k_whole)
  intro g' L' h' tk' cells' st' sz' F' N' Y' B' X' T'
  k_cells Y'
  try simp only [List.cons_append, List.nil_append] at N'
  try dsimp only
  try k_fold
  have hl' := stays_list st' hl
  have hvs := hi.length
  k_steps
  rename Fr g' _ _ _ => Fz
  rename News g' _ _ _ => Nz
  have hlz : (_ : Heap).IsList l vs.toArray := hl'.at fun o e => Fz.keep l o e
  refine ne_strsL hlz hi (Nz.isList (.head _)) .nil hok (fun _ h => absurd h List.not_mem_nil) (by show un + 3 + 64 < cLine; lia) ?_
  have fin : ∀ {b : Bool} {h'' : Heap} {tk'' : Nat} {m'' : Str → Option Value}, Fr g' L' h'' m'' → b = takesB xs x → Q (.bool b) { s with heap := h'', toks := tk'' } := fun F9 e => by subst e; exact ret _ _ (stays_end st' F9)
  rcases hlast with rfl | ⟨ys, y, rfl, hy⟩
  · cases hi
    rw [decide_eq_true rfl]
    k_steps
    · exact fin (by assumption) (takes_len (by simp only [List.length_nil]; lia)).symm
    · unfold Stop
      rename Fr g' _ _ _ => Fw
      rename News g' _ _ _ => Nw
      rename IsRange _ _ _ _ _ _ _ _ => Rw
      refine LCt.CompSrcT.range rfl Fw Nw Rw (rng_small (by lia)) (rng_size _) (by rw [sizeLine_eq]; lia) ?_
      intro g0
      refine compT_all (fun k => !(([] : List Str).getD k Str.empty).cps.contains (x.cps.getD k 0)) (fun y => ∃ v t, y = .int v t) trivial ?_ ?_ ?_
      · intro i v I oI C oC D m₂ ys h tk E' hin hv hC hx F1 N1 off
        exact absurd hin (Nat.not_lt_zero _)
      · intro i v I oI C oC D m₂ ys h tk E' hin hv hq hC hx F1 N1 off
        obtain ⟨t, rfl⟩ := hv
        k_steps
        exact EltEnd.intro (stays_refl _) ⟨_, _, rfl⟩
      · intro ys hlen hall
        obtain ⟨zs, hz, hzl⟩ := intsAre_of_all hall
        intro D h tk F1 N1 off1
        try dsimp only
        k_steps
        unfold Stop
        rename News g' _ _ _ => Nv
        refine eq_intsK (us := []) (ms := []) (Nv.isList (.tail _ (.head _))) hz (Nv.isList (.head _)) .nil (by show un + 3 + 64 < cLine; lia) ?_
        k_steps
        refine fin (by assumption) ?_
        exact takes_done (by simp only [List.length_append, List.length_singleton, List.length_nil] at *; lia) hzl hlen
  · rw [decide_eq_false (by simp)]
    obtain ⟨us, ty, rfl, hu⟩ := strs_snoc hi
    k_steps
    · exact fin (by assumption) (takes_len (by lia)).symm
    · unfold Stop
      rename Fr g' _ _ _ => Fw
      rename News g' _ _ _ => Nw
      rename IsRange _ _ _ _ _ _ _ _ => Rw
      refine LCt.CompSrcT.range rfl Fw Nw Rw (rng_small (by lia)) (rng_size _) (by rw [sizeLine_eq]; lia) ?_
      intro g0
      refine compT_all (fun k => !((ys ++ [y]).getD k Str.empty).cps.contains (x.cps.getD k 0)) (fun y => ∃ v t, y = .int v t) trivial ?_ ?_ ?_
      · intro i v I oI C oC D m₂ ys h tk E' hin hv hC hx F1 N1 off
        obtain ⟨t, rfl⟩ := hv
        have hin2 : i < x.length := by lia
        generalize hk0 : (0 : Int) + (i : Int) = k0 at *
        k_steps
        · rw [in_item hk0.symm hin2, show k0.toNat = i by lia]
        · exact EltEnd.intro (stays_refl _) trivial
      · intro i v I oI C oC D m₂ ys h tk E' hin hv hq hC hx F1 N1 off
        obtain ⟨t, rfl⟩ := hv
        k_steps
        exact EltEnd.intro (stays_refl _) ⟨_, _, rfl⟩
      · intro ys hlen hall
        obtain ⟨zs, hz, hzl⟩ := intsAre_of_all hall
        intro D h tk F1 N1 off1
        try dsimp only
        k_steps
        unfold Stop
        rename News g' _ _ _ => Nv
        refine eq_intsK (us := []) (ms := []) (Nv.isList (.tail _ (.head _))) hz (Nv.isList (.head _)) .nil (by show un + 3 + 64 < cLine; lia) ?_
        k_steps
        refine fin (by assumption) ?_
        exact takes_done (by simp only [List.length_append, List.length_singleton, List.length_nil] at *; lia) hzl hlen
theorem c_takes1 {w : World} {p : Program} {loose : List Str} {mean : ExcName → Option Value} {mg mb : Str → Option Value} {dp un : Nat} {gd : Option (List Code)} {cn : Str} {cs : Scope} {a : Addr} {ccd : Value} {cl : List (Str × Addr)} {outer : List Env} {A₀ : Around} {base h₀ : Heap} {L : Addr} {m : Str → Option Value} {s : Shared} {Q E : Value → Shared → Prop} {l : Addr} {vs : List Value} {xs : List Str} {x : Str} {t1 : Tok} (C : Cal w p loose mean mg mb A₀ base outer h₀ L m s.heap cs dp un 6)
  (hl : s.heap.IsList l vs.toArray) (hi : StrsAre vs (xs ++ [Str.ofString ""])) (hok : ∀ z ∈ xs, PyData.strOk z = true) (hn : xs.length ≤ 100) (hx : x.length ≤ 1000)
  (ret : ∀ h' tk', s.heap.StaysIn h' → Q (.bool (takesB xs (Txt.slice x none (some (xs.length : Int))))) {s with heap := h', toks := tk'}) :
  wpAny (Md w) (ktrTop dp un gd cn cs L a ccd cl outer) (call (.ref 168) [.ref l, .str x t1]) Q E s := by
  k_with_none
  k_with "m execs cons" => ((k_here; (try ((with_reducible refine Mine.toks_any ?_); intro zztk9)); (with_reducible refine wpAny_execs_cons ?_); (try dsimp only)))
  k_with "m execs nil" => ((k_here; (try ((with_reducible refine Mine.toks_any ?_); intro zztk9)); (with_reducible refine wpAny_execs_nil ?_); (try dsimp only)))
  k_with "m execs cons" => ((k_here; (try ((with_reducible refine Mine.toks_any ?_); intro zztk9)); (with_reducible refine Mine.execs_c ?_); intro zzC9 zzhC9; (try dsimp only)))
  k_with "m exec If" => ((k_here; (with_reducible refine Mine.if_c ?_); intro zzC9 zzhC9))
  k_with "m Cont" => (((first | ((refine Mine.Cont.go zzhC9 ?_); clear zzhC9; (try clear zzC9)) | (refine Mine.Cont.go (by with_reducible assumption) ?_)); (try dsimp only)))
  k_with "m call builtin:len" => ((k_here; (with_reducible show wpAny _ _ (call (Value.builtin "len") [Value.ref _]) _ _ _); k_dflt (refine' len_strsL (by (kmk_list)) (by (assumption)) (by ((try simp only [List.length_append, List.length_singleton]); lia)) ?_); intro zzt9 zzk9; (try dsimp only)))
  k_with "m subscriptTail Name UnaryOp ref int" => ((k_here; (with_reducible show wpAny _ _ (subscriptTail _ _ (Value.ref _) (Value.int _ _)) _ _ _); k_dflt (refine' item_neg1 (by (kmk_list)) ?_ (by (with_unfolding_all rfl))); (try dsimp only)))
  k_with "m subscriptTail Name Name ref int" => ((k_here; (with_reducible show wpAny _ _ (subscriptTail _ _ (Value.ref _) (Value.int _ _)) _ _ _); k_dflt (refine' item_str (by (kmk_list)) (by (assumption)) (by (lia)) (by (lia)) (by (lia)) ?_ (by (with_unfolding_all rfl))); intro zzt9; (try dsimp only)))
  k_with "m eval ListComp" => ((k_here; k_dflt (refine LCt.ListComp_T (F₀ := by k_asm) (by with_unfolding_all rfl) (by decide) (by rfl) (by decide) (by rfl) ?_)))
  k_with "m CompSrcT" => (refine Stop.go ?_)
  k_with "m compareOp Eq ref ref" => (refine Stop.go ?_)
  k_with "m subscriptTail Name Slice ref ref" => ((k_here; (with_reducible show wpAny _ _ (subscriptTail _ (PySem.Expr.Slice _ _ none _) (Value.ref _) (Value.ref _)) _ _ _); k_dflt (refine' kms_slice_lit (by (k_asm)) (by (k_asm)) (by (kmk_list)) (by (kmk_part)) (by (kmk_part)) (by (exact pick_init _ _)) ?_ (by (with_unfolding_all rfl)) (by (kmk_pure)) (by (exact strs_size (by assumption) (by simp only [List.length_append, List.length_singleton]; lia)))); intro zzD' zzh' zzF' zzN' zzl1'; (try k_lt zzl1'); (try dsimp only); (try k_sweep)))
  obtain ⟨B, F, X, T, kcs, hd, hu⟩ := C
  refine wpAny_call ?_
  k_dflt (refine' enterCP ?k1 ?k2 ?k3 ?k5 ?kA ?kF ?kK ?k6 ?k7 ?k8 ?k9 ?kB ?kD ?_ ?c2 ?c3 ?c4; (case kA => exact rfl); (case kF => exact rfl); (case kK => exact kcs); (case k1 => exact B); (case k2 => exact F); (case k3 => exact X); (case k5 => exact T); (case k6 => k_is); (case k7 => k_is); (case k8 => exact Nat.lt_of_le_of_lt (Nat.le_add_right _ _) hd); (case k9 => exact BindsTo.of_eq rfl); (case kB => exact rfl); (case kD => decide +kernel); (case c2 => exact rfl); (case c3 => exact rfl); (case c4 => exact rfl); k_whole)
  intro g' L' h' tk' cells' st' sz' F' N' Y' B' X' T'
  k_cells Y'
  try simp only [List.cons_append, List.nil_append] at N'
  try dsimp only
  try k_fold
  have hl' := stays_list st' hl
  have hvs := hi.length
  k_steps
  rename Fr g' _ _ _ => Fz
  rename News g' _ _ _ => Nz
  have hlz : (_ : Heap).IsList l vs.toArray := hl'.at fun o e => Fz.keep l o e
  refine ne_strsL hlz hi (Nz.isList (.head _)) .nil (fun z hz => (List.mem_append.mp hz).elim (hok z) fun hz => by rw [List.mem_singleton.mp hz]; decide +kernel) (fun _ h => absurd h List.not_mem_nil) (by show un + 3 + 64 < cLine; lia) ?_
  have fin : ∀ {b : Bool} {h'' : Heap} {tk'' : Nat} {m'' : Str → Option Value}, Fr g' L' h'' m'' → b = takesB xs (Txt.slice x none (some (xs.length : Int))) → Q (.bool b) { s with heap := h'', toks := tk'' } := fun F9 e => by subst e; exact ret _ _ (stays_end st' F9)
  rw [decide_eq_false (by simp)]
  obtain ⟨us, ty, rfl, hu⟩ := strs_snoc hi
  k_steps
  · exact fin (by assumption) (takes_len (by lia)).symm
  · unfold Stop
    rename Fr g' _ _ _ => Fw
    rename News g' _ _ _ => Nw
    rename IsRange _ _ _ _ _ _ _ _ => Rw
    have hzl : (Txt.slice x none (some (xs.length : Int))).length = xs.length := by lia
    generalize hz9 : Txt.slice x none (some (xs.length : Int)) = z9 at *
    refine LCt.CompSrcT.range rfl Fw Nw Rw (rng_small (by lia)) (rng_size _) (by rw [sizeLine_eq]; lia) ?_
    intro g0
    refine compT_all (fun k => !(xs.getD k Str.empty).cps.contains (z9.cps.getD k 0)) (fun y => ∃ v t, y = .int v t) trivial ?_ ?_ ?_
    · intro i v I oI C oC D m₂ ys h tk E' hin hv hC hx F1 N1 off
      obtain ⟨t, rfl⟩ := hv
      have hin2 : i < z9.length := by lia
      generalize hk0 : (0 : Int) + (i : Int) = k0 at *
      k_steps
      · rw [in_item hk0.symm hin2, show k0.toNat = i by lia]
      · exact EltEnd.intro (stays_refl _) trivial
    · intro i v I oI C oC D m₂ ys h tk E' hin hv hq hC hx F1 N1 off
      obtain ⟨t, rfl⟩ := hv
      k_steps
      exact EltEnd.intro (stays_refl _) ⟨_, _, rfl⟩
    · intro ys hlen hall
      obtain ⟨zs, hz, hzl⟩ := intsAre_of_all hall
      intro D h tk F1 N1 off1
      try dsimp only
      k_steps
      unfold Stop
      rename News g' _ _ _ => Nv
      refine eq_intsK (us := []) (ms := []) (Nv.isList (.tail _ (.head _))) hz (Nv.isList (.head _)) .nil (by show un + 3 + 64 < cLine; lia) ?_
      k_steps
      refine fin (by assumption) ?_
      exact takes_done (by lia) hzl hlen
end
end Mine
end

section -- S4
open PySem PySem.W PyProof.Rows PySem.Calls PySem.Spec
set_option maxRecDepth 100000
set_option pp.deepTerms false
set_option pp.deepTerms.threshold 6
set_option maxHeartbeats 8000000

namespace Mine
section
theorem c_numbers {w : World} {p : Program} {loose : List Str} {mean : ExcName → Option Value} {mg mb : Str → Option Value} {dp un : Nat} {gd : Option (List Code)} {cn : Str} {cs : Scope} {a : Addr} {ccd : Value} {cl : List (Str × Addr)} {outer : List Env} {A₀ : Around} {base h₀ : Heap} {L : Addr} {m : Str → Option Value} {s : Shared} {Q E : Value → Shared → Prop} {l : Addr} {vs : List Value} {ns : List Int} (C : Cal w p loose mean mg mb A₀ base outer h₀ L m s.heap cs dp un 2)
  (hl : s.heap.IsList l vs.toArray) (hi : IntsAre vs ns) (hn : ns.length ≤ 63)
  (ret : ∀ r h' tk' n ys (zs : List Int), IntsAre ys zs → zs.length = 9 → s.heap.get? r = none → h'.get? r = some (listOf ys.toArray n) → s.heap.StaysIn h' → Q (.ref r) {s with heap := h', toks := tk'}) :
  wpAny (Md w) (ktrTop dp un gd cn cs L a ccd cl outer) (call (.ref 120) [.ref l]) Q E s := by
  k_with_none
  k_with "m execs cons" => ((k_here; (try ((with_reducible refine Mine.toks_any ?_); intro zztk9)); (with_reducible refine wpAny_execs_cons ?_); (try dsimp only)))
  k_with "m execs nil" => ((k_here; (try ((with_reducible refine Mine.toks_any ?_); intro zztk9)); (with_reducible refine wpAny_execs_nil ?_); (try dsimp only)))
  k_with "m eval ListComp" => ((k_here; k_dflt (refine LCg.ListComp_U (F₀ := by k_asm) (by rfl) (by decide) (by rfl) (by decide) (by rfl) ?_)))
  obtain ⟨B, F, X, T, kcs, hd, hu⟩ := C
  refine wpAny_call ?_
  k_dflt (refine' enterP ?k1 ?k2 ?k3 ?k5 ?kA ?kF ?kK ?k6 ?k7 ?k8 ?k9 ?kB ?_ ?c2 ?c3 ?c4 ?c5; (case kA => exact rfl); (case kF => exact rfl); (case kK => exact kcs); (case k1 => exact B); (case k2 => exact F); (case k3 => exact X); (case k5 => exact T); (case k6 => k_is); (case k7 => k_is); (case k8 => exact Nat.lt_of_le_of_lt (Nat.le_add_right _ _) hd); (case k9 => exact BindsTo.of_eq rfl); (case c5 => decide); (case kB => exact locs rfl); (case c2 => exact rfl); (case c3 => exact rfl); (case c4 => exact rfl); k_whole)
  intro g' L' h' st' sz' F' N' B' X' T'
  try dsimp only
  try k_fold
  have hl' := stays_list st' hl
  have hvs := hi.length
  k_with "pyIter ref" => k_state (fun pre (items : List Int) => items.length = 9 ∧ pre.length = pre.length) "fixed"
  k_steps
  · rename Fr g' _ _ _ => Fz
    rename News g' _ _ _ => Nz
    refine LCg.CompSrc.ledger rfl Fz Nz (.head _) (Nat.le_trans (slicePick_size_le _ _ _ _) (by rw [List.size_toArray, sizeLine_eq]; lia)) ?_
    intro g0
    refine comp_all (fun _ y => ∃ v t, y = .int v t) (Or.inr ⟨_, .head _, rfl, _, rfl⟩) ?_ ?_
    · intro i v I oI C oC D m₂ ys h tk E' hin hv hC hx F1 N1 off
      obtain ⟨k, t, rfl, hk⟩ := IntsAre.at (IntsAre.pick hi _ _ _) i v (by simpa using hv)
      k_steps
      all_goals exact EltEnd.intro (stays_refl _) ⟨_, _, rfl⟩
    · intro ys hlen hall
      obtain ⟨zs, hz, hzl⟩ := ints_of hall
      intro D h tk F1 N1 off1
      try dsimp only
      k_steps
      have hb : kN < 9 := by split at kLt <;> lia
      rename Fr g' _ _ _ => Fz
      rename News g' _ _ _ => Nz
      have N2 : News _ _ _ _ := fun q hq => Nz q (.tail _ (.tail _ hq))
      clear Nz N1 F1 off1
      refine ksa_set Fz N2 (by k_upd) kFacts (by lia) (by lia) (by lia) ?_
      intro h6 F6 N6 hi6 hl6 hs6
      try dsimp only
      try dsimp only at N6
      k_steps
  · rename News g' _ _ _ => Nz
    exact ret _ _ _ _ _ _ (by assumption) (by assumption) (fresh_end st' (Nz _ (.head _)).2.2) (Nz _ (.head _)).1 (stays_end st' (by assumption))
end
end Mine
end

section -- S2
open PySem PySem.W PyProof.Rows PySem.Calls PySem.Spec
set_option maxRecDepth 100000
set_option pp.deepTerms false
set_option pp.deepTerms.threshold 6
set_option maxHeartbeats 8000000

namespace Mine
noncomputable abbrev octOk (z : Int) : Prop := 0 ≤ z ∧ z < 256 ∧ z ≠ 61
theorem getD_all {α : Type} {P : α → Prop} {l : List α} {d : α} (h : ∀ z ∈ l, P z) (hd : P d) (k : Nat) : P (l.getD k d) := by
  rw [List.getD_eq_getElem?_getD]
  cases e : l[k]? with
  | none => exact hd
  | some x => exact h x (List.mem_of_getElem? e)
theorem oct_step {items pre : List Int} {n v : Int} (h : ∀ z ∈ items, 0 ≤ z ∧ z < 256 ∧ z ≠ 61) (h2 : items.length ≤ pre.length) (hv : octOk v) :
    (∀ z ∈ items ++ [v], 0 ≤ z ∧ z < 256 ∧ z ≠ 61) ∧ (items ++ [v]).length ≤ (pre ++ [n]).length := by
  refine ⟨fun z hz => ?_, by simp only [List.length_append, List.length_cons, List.length_nil]; lia⟩
  rcases List.mem_append.mp hz with hz | hz
  · exact h z hz
  · rw [List.mem_singleton.mp hz]; exact hv
theorem rem_ok {n : Int} (h : (n.fdiv 24).fmod 256 ≠ 61) : octOk ((n.fdiv 24).fmod 256) :=
  ⟨Int.fmod_nonneg_of_pos _ (by decide), Int.fmod_lt_of_pos _ (by decide), h⟩
theorem c_octets {w : World} {p : Program} {loose : List Str} {mean : ExcName → Option Value} {mg mb : Str → Option Value} {dp un : Nat} {gd : Option (List Code)} {cn : Str} {cs : Scope} {a : Addr} {ccd : Value} {cl : List (Str × Addr)} {outer : List Env} {A₀ : Around} {base h₀ : Heap} {L : Addr} {m : Str → Option Value} {s : Shared} {Q E : Value → Shared → Prop} {l : Addr} {vs : List Value} {ns : List Int} (C : Cal w p loose mean mg mb A₀ base outer h₀ L m s.heap cs dp un 2)
  (hl : s.heap.IsList l vs.toArray) (hi : IntsAre vs ns) (hn : ns.length ≤ 20)
  (ret : ∀ r h' tk' n ys (zs : List Int), IntsAre ys zs → zs.length ≤ ns.length → (∀ z ∈ zs, 0 ≤ z ∧ z < 256 ∧ z ≠ 61) → s.heap.get? r = none → h'.get? r = some (listOf ys.toArray n) → s.heap.StaysIn h' → Q (.ref r) {s with heap := h', toks := tk'}) :
  wpAny (Md w) (ktrTop dp un gd cn cs L a ccd cl outer) (call (.ref 127) [.ref l]) Q E s := by
  k_with_none
  k_with "m execs cons" => ((k_here; (try ((with_reducible refine Mine.toks_any ?_); intro zztk9)); (with_reducible refine wpAny_execs_cons ?_); (try dsimp only)))
  k_with "m execs nil" => ((k_here; (try ((with_reducible refine Mine.toks_any ?_); intro zztk9)); (with_reducible refine wpAny_execs_nil ?_); (try dsimp only)))
  k_with "m execs cons" => ((k_here; (try ((with_reducible refine Mine.toks_any ?_); intro zztk9)); (with_reducible refine Mine.execs_c ?_); intro zzC9 zzhC9; (try dsimp only)))
  k_with "m exec If" => ((k_here; (with_reducible refine Mine.if_c ?_); intro zzC9 zzhC9))
  k_with "m Cont" => (((first | ((refine Mine.Cont.go zzhC9 ?_); clear zzhC9; (try clear zzC9)) | (refine Mine.Cont.go (by with_reducible assumption) ?_)); (try dsimp only)))
  obtain ⟨B, F, X, T, kcs, hd, hu⟩ := C
  refine wpAny_call ?_
  k_dflt (refine' enterP ?k1 ?k2 ?k3 ?k5 ?kA ?kF ?kK ?k6 ?k7 ?k8 ?k9 ?kB ?_ ?c2 ?c3 ?c4 ?c5; (case kA => exact rfl); (case kF => exact rfl); (case kK => exact kcs); (case k1 => exact B); (case k2 => exact F); (case k3 => exact X); (case k5 => exact T); (case k6 => k_is); (case k7 => k_is); (case k8 => exact Nat.lt_of_le_of_lt (Nat.le_add_right _ _) hd); (case k9 => exact BindsTo.of_eq rfl); (case c5 => decide); (case kB => exact locs rfl); (case c2 => exact rfl); (case c3 => exact rfl); (case c4 => exact rfl); k_whole)
  intro g' L' h' st' sz' F' N' B' X' T'
  try dsimp only
  try k_fold
  have hl' := stays_list st' hl
  k_with "pyIter ref" => k_state (fun pre items => (∀ z ∈ items, 0 ≤ z ∧ z < 256 ∧ z ≠ 61) ∧ items.length ≤ pre.length) "octets"
  k_with "state" => (first
    | exact ⟨fun _ h => absurd h List.not_mem_nil, Nat.le_refl _⟩
    | exact oct_step (by assumption) (by assumption) (getD_all (by decide) (by decide) _)
    | exact oct_step (by assumption) (by assumption) (rem_ok (by assumption)))
  k_steps
  rename News g' _ _ _ => Nz
  exact ret _ _ _ _ _ _ (by assumption) (by lia) (by assumption) (fresh_end st' (Nz _ (.head _)).2.2) (Nz _ (.head _)).1 (stays_end st' (by assumption))
end Mine
end

section -- P8
open PySem PySem.W PyProof.Rows PySem.Calls PySem.Spec
set_option maxRecDepth 100000
set_option pp.deepTerms false
set_option pp.deepTerms.threshold 6
set_option maxHeartbeats 8000000

namespace Mine
theorem part_sub {t : Tk} : ∀ c ∈ sg (partS t), c = 92 ∨ c ∈ rend1 t := by
  intro c hc
  cases t with
  | c n =>
    change c ∈ sg (escS n) at hc
    unfold escS at hc
    split at hc
    · have q : c ∈ [92, n] := hc
      simp only [List.mem_cons, List.not_mem_nil, or_false] at q
      rcases q with q | q
      · exact .inl q
      · exact .inr (by rw [q]; exact .head _)
    · have q : c ∈ [n] := hc
      exact .inr q
  | br q =>
    change c ∈ sg (brS q) at hc
    unfold brS at hc
    split at hc
    · rename_i e
      subst e
      have q : c ∈ [91, 92, 91, 93] := hc
      simp only [List.mem_cons, List.not_mem_nil, or_false] at q
      rcases q with rfl | rfl | rfl | rfl
      · exact .inr (.head _)
      · exact .inl rfl
      · exact .inr (.head _)
      · exact .inr (.tail _ (.tail _ (.head _)))
    · exact .inr hc
theorem items_ok {x y : Str} {all : List Tk} {star : Bool} (hx : sg x = rend all ++ tailT star) (hxo : PyData.strOk x = true) (hy : sg y = all.flatMap (fun t => sg (partS t)) ++ tailS star) : PyData.strOk y = true := by
  have h := strOk_sg.mp hxo
  refine strOk_sg.mpr fun c hc => ?_
  rw [hy] at hc
  rcases List.mem_append.mp hc with hc | hc
  · obtain ⟨t, ht, hc⟩ := List.mem_flatMap.mp hc
    rcases part_sub c hc with rfl | hc
    · decide
    · refine h c ?_
      rw [hx]
      exact List.mem_append_left _ (List.mem_flatMap.mpr ⟨t, ht, hc⟩)
  · unfold tailS at hc
    split at hc
    · exact (by decide : ∀ c ∈ [46, 42], c < 0x110000) c hc
    · cases hc
theorem rend_len : ∀ r : List Tk, r.length ≤ (rend r).length
  | [] => Nat.le_refl _
  | t :: r => by
    have h1 := rend_len r
    have h2 : 1 ≤ (rend1 t).length := by cases t <;> simp [rend1]
    show r.length + 1 ≤ (rend1 t ++ rend r).length
    rw [List.length_append]; lia
theorem row_at {os : List Nat} {xs : List Str} {i : Nat} {x : Str} (h : xs.map sg = (rowsT os).map rend) (hi : xs[i]? = some x) : ∃ r, (rowsT os)[i]? = some r ∧ sg x = rend r := by
  have q := congrArg (fun l : List (List Nat) => l[i]?) h
  simp only [List.getElem?_map, hi, Option.map_some] at q
  cases e : (rowsT os)[i]? with
  | none => rw [e] at q; cases q
  | some r => rw [e] at q; exact ⟨r, rfl, Option.some.inj q⟩
theorem oct_ok {ns : List Int} (hno : ∀ z ∈ ns, 0 ≤ z ∧ z < 256 ∧ z ≠ 61) : OctOk (ns.map Int.toNat) := fun o ho => by
  obtain ⟨z, hz, rfl⟩ := List.mem_map.mp ho
  have := hno z hz
  lia
theorem tk_list : ∀ (qs : List (List Nat)) (l : List Nat), (decide (l.length = qs.length) && (List.range qs.length).all fun k => (qs.getD k []).contains (l.getD k 0)) = tkF List.isEmpty qs l
  | [], [] => rfl
  | [], _ :: _ => rfl
  | _ :: qs, [] => by simp [tkF]
  | q :: qs, c :: l => by
    rw [tkF, ← tk_list qs l]
    simp only [List.length_cons, List.range_succ_eq_map, List.all_cons, List.all_map, List.getD_cons_zero]
    have e : ((fun k => ((q :: qs).getD k []).contains ((c :: l).getD k 0)) ∘ Nat.succ) = fun k => (qs.getD k []).contains (l.getD k 0) := rfl
    rw [e]
    have e2 : decide (l.length + 1 = qs.length + 1) = decide (l.length = qs.length) := by rw [Bool.eq_iff_iff, decide_eq_true_eq, decide_eq_true_eq]; lia
    rw [e2, Bool.and_left_comm]
theorem takes_tk (xs : List Str) (x : Str) : takesB xs x = tkF List.isEmpty (xs.map sg) (sg x) := by
  rw [← tk_list, takesB, List.length_map, sg_len]
  congr 1
  rw [Bool.eq_iff_iff, List.all_eq_true, List.all_eq_true]
  have e : ∀ k ∈ List.range xs.length, (xs.getD k Str.empty).cps.contains (x.cps.getD k 0) = ((xs.map sg).getD k []).contains ((sg x).getD k 0) := fun k hk => by
    have hk := List.mem_range.mp hk
    rw [List.getD_eq_getElem?_getD, List.getD_eq_getElem?_getD, List.getElem?_map, List.getElem?_eq_getElem hk]
    show (xs[k]).cps.contains _ = (xs[k]).cps.toList.contains _
    rw [Array.contains_toList]
    congr 1
    unfold sg
    rw [List.getD_eq_getElem?_getD, Array.getElem?_toList, Array.getD_eq_getD_getElem?]
  exact ⟨fun h k hk => (e k hk) ▸ h k hk, fun h k hk => (e k hk).symm ▸ h k hk⟩
theorem tk_take : ∀ (qs : List (List Nat)) (l : List Nat), tkF List.isEmpty qs (l.take qs.length) = tkF (fun _ => true) qs l
  | [], l => rfl
  | _ :: qs, [] => rfl
  | q :: qs, c :: l => by
    show (q.contains c && tkF List.isEmpty qs (l.take qs.length)) = (q.contains c && tkF (fun _ => true) qs l)
    rw [tk_take qs l]
theorem takes_tk1 (xs : List Str) (x : Str) : takesB xs (Txt.slice x none (some (xs.length : Int))) = tkF (fun _ => true) (xs.map sg) (sg x) := by
  rw [takes_tk, slice_cut_to (Int.natCast_nonneg _), Int.toNat_natCast]
  have := tk_take (xs.map sg) (sg x)
  rw [List.length_map] at this
  exact this
theorem filter_count {α : Type} {p : α → Bool} : ∀ {rows : List α} {q : Nat → Bool}, (∀ k r, rows[k]? = some r → q k = p r) → ((List.range rows.length).filter q).length = rows.countP p
  | [], _, _ => rfl
  | r :: rows, q, h => by
    have ih := filter_count (rows := rows) (q := q ∘ Nat.succ) fun k r e => h (k + 1) r e
    rw [List.length_cons, List.range_succ_eq_map, List.filter_cons, List.filter_map, List.countP_cons, ← ih, h 0 r rfl]
    split <;> simp_all
theorem acc_ne {t : Tk} (h : TkOk t) : acc t ≠ [] := by
  cases t with
  | c n => exact fun e => nomatch e
  | br q => exact (by decide : ∀ q ∈ brs, q ≠ []) q h
theorem last_ok {xs : List Str} {row : List Tk} (h : xs.map sg = row.map acc) (ok : ∀ t ∈ row, TkOk t) : xs = [] ∨ ∃ ys y, xs = ys ++ [y] ∧ (y == Str.ofString "") = false := by
  rcases List.eq_nil_or_concat xs with e | ⟨ys, y, rfl⟩
  · exact .inl e
  · refine .inr ⟨ys, y, List.concat_eq_append, ?_⟩
    have hy : sg y ∈ row.map acc := h ▸ List.mem_map_of_mem (by simp)
    obtain ⟨t, ht, e⟩ := List.mem_map.mp hy
    rw [beq_eq_false_iff_ne]
    rintro rfl
    exact acc_ne (ok t ht) e
theorem split_last {xs : List Str} {row : List (List Nat)} (h : xs.map sg = row ++ [[]]) : ∃ ys, xs = ys ++ [Str.ofString ""] ∧ ys.map sg = row := by
  obtain ⟨ys, zs, rfl, h1, h2⟩ := List.map_eq_append_iff.mp h
  refine ⟨ys, ?_, h1⟩
  obtain ⟨z, r, rfl, h3, h4⟩ := List.map_eq_cons_iff.mp h2
  rw [List.map_eq_nil_iff.mp h4, sg_ext (x := z) (y := Str.ofString "") (by rw [h3]; decide +kernel)]
/-- what an element of whole or heads is -/
noncomputable def RowIt (os : List Nat) (star : Bool) (i : Nat) (y : Value) (q : Addr × Obj) : Prop :=
  ∃ r vs xs n row, y = .ref r ∧ q = (r, listOf vs.toArray n) ∧ StrsAre vs xs ∧ (∀ z ∈ xs, PyData.strOk z = true) ∧ (rowsT os)[i]? = some row ∧ xs.map sg = row.map acc ++ if star then [[]] else []

section
open LCg
variable {prog : Program} {w : World} {A : Around} {h₀ : Heap} {L : Addr} {m : Str → Option Value} {env : Env} {elt : Expr} {x : Str} {scope : Scope} {cl : List (Str × Addr)} {s : Shared} {S : List (Addr × Obj) → Prop} {P : Nat → Value → Prop} {Fin : List Value → List (Addr × Obj) → Prop}
/-- where an element ends that grows the table 83 and makes one object -/
noncomputable def EltTab (s₁ : Shared) (R : Value → Addr × Obj → Prop) (y : Value) (s₂ : Shared) : Prop :=
  ∃ h' tk' ps' r o, s₂ = { s₁ with heap := h', toks := tk' } ∧ (∀ b o, b ≠ 83 → s₁.heap.get? b = some o → h'.get? b = some o) ∧ h'.get? 83 = some (tabObj ps') ∧ TabL ps' ∧ s₁.heap.get? r = none ∧ h'.get? r = some o ∧ R y (r, o)
theorem comp_tab {n : Nat} {rest : List (Addr × Obj)} {ps0 : Array Value} (R : Nat → Value → Addr × Obj → Prop) (hps0 : TabL ps0) (hS : ∀ ps acc, S ((83, tabObj ps) :: (rest ++ acc))) (hr83 : ∀ q ∈ rest, q.1 ≠ 83)
    (turn : ∀ i v I oI C oC D m₂ ys ps acc h tk (E' : Value → Shared → Prop), i < n → P i v → TabL ps → NsObj oC m₂ → m₂ x = some v → Fr h₀ L h m → News h₀ L h ((83, tabObj ps) :: (I, oI) :: (C, oC) :: (D, lst ys) :: (rest ++ acc)) → (@Ne Nat 83 I) ∧ (@Ne Nat 83 C) ∧ (@Ne Nat 83 D) →
      wpAny (model prog w) A (eval elt (compEnvC scope cl C env)) (EltTab { s with heap := h, toks := tk } (R i)) E' { s with heap := h, toks := tk })
    (fin : ∀ (ys : List Value) ps acc, ys.length = n → TabL ps → (∀ q ∈ acc, ∀ p ∈ (83, tabObj ps) :: rest, p.1 ≠ q.1) → (∀ i y, ys[i]? = some y → ∃ q ∈ acc, R i y q) → Fin ys ((83, tabObj ps) :: (rest ++ acc))) :
    CompRest prog w A h₀ L m env elt x scope cl s S P Fin n 0 [] ((83, tabObj ps0) :: rest) := by
  have key : ∀ (j i : Nat) (ys : List Value) ps acc, i + j = n → ys.length = i → TabL ps → (∀ q ∈ acc, ∀ p ∈ (83, tabObj ps) :: rest, p.1 ≠ q.1) → (∀ k y, ys[k]? = some y → ∃ q ∈ acc, R k y q) → CompRest prog w A h₀ L m env elt x scope cl s S P Fin j i ys ((83, tabObj ps) :: (rest ++ acc)) := by
    intro j
    induction j with
    | zero =>
      intro i ys ps acc hi hy hps hacc hr
      exact CompRest.zero (fin ys ps acc (by lia) hps hacc hr)
    | succ j ih =>
      intro i ys ps acc hi hy hps hacc hr
      refine CompRest.succ ?_
      intro v I oI C oC D m₂ h tk E' hv hC hx F N off ne
      have N1 : News h₀ L h ((83, tabObj ps) :: (I, oI) :: (C, oC) :: (D, lst ys) :: (rest ++ acc)) := fun q hq => N q (by
        simp only [List.mem_cons] at hq ⊢
        rcases hq with h | h | h | h | h <;> simp only [h, true_or, or_true])
      have o83 := off.1
      have orest : ∀ p ∈ rest ++ acc, p.1 ≠ I ∧ p.1 ≠ C ∧ p.1 ≠ D := off.2.mem
      refine wpAny_mono (turn i v I oI C oC D m₂ ys ps acc h tk E' (by lia) hv hps hC hx F N1 o83) (fun y s₂ hq => ?_) fun _ _ e => e
      obtain ⟨h', tk', ps', r, o, rfl, kp, h83, hps', hrn, hrg, hR⟩ := hq
      have n83 := N1 (83, tabObj ps) (.head _)
      have F' := Fr.but F kp n83.2.2 (Ne.symm n83.2.1)
      have hacc83 : ∀ q ∈ acc, q.1 ≠ 83 := fun q hq => Ne.symm (hacc q hq _ (.head _))
      have rfresh := fresh_L F hrn
      have rnew : ∀ q ∈ (83, tabObj ps) :: (I, oI) :: (C, oC) :: (D, lst ys) :: (rest ++ acc), q.1 ≠ r := fun q hq e => by
        have := (N1 q hq).1
        rw [e, hrn] at this; cases this
      have N2 : News h₀ L h' ((I, oI) :: (C, oC) :: (D, lst ys) :: (83, tabObj ps') :: (rest ++ (acc ++ [(r, o)]))) := fun q hq => by
        have old : q ∈ (I, oI) :: (C, oC) :: (D, lst ys) :: (rest ++ acc) → q.1 ≠ 83 → h'.get? q.1 = some q.2 ∧ q.1 ≠ L ∧ h₀.get? q.1 = none := fun hq hne => by
          have z := N1 q (.tail _ hq)
          exact ⟨kp _ _ hne z.1, z.2⟩
        simp only [List.mem_cons, List.mem_append, List.not_mem_nil, or_false] at hq
        rcases hq with rfl | rfl | rfl | rfl | hq | hq | rfl
        · exact old (.head _) (Ne.symm o83.1)
        · exact old (.tail _ (.head _)) (Ne.symm o83.2.1)
        · exact old (.tail _ (.tail _ (.head _))) (Ne.symm o83.2.2)
        · exact ⟨h83, n83.2⟩
        · exact old (.tail _ (.tail _ (.tail _ (List.mem_append_left _ hq)))) (hr83 q hq)
        · exact old (.tail _ (.tail _ (.tail _ (List.mem_append_right _ hq)))) (hacc83 q hq)
        · exact ⟨hrg, rfresh.1, rfresh.2⟩
      refine ⟨h', tk', (83, tabObj ps') :: (rest ++ (acc ++ [(r, o)])), rfl, F', N2, Off3.of fun p hp => ?_, hS _ _, ih (i + 1) (ys ++ [y]) ps' (acc ++ [(r, o)]) (by lia) (by rw [List.length_append, List.length_singleton, hy]) hps' ?_ ?_⟩
      · rcases List.mem_cons.mp hp with rfl | hp
        · exact o83
        · rcases List.mem_append.mp hp with hp | hp
          · exact orest p (List.mem_append_left _ hp)
          · rcases List.mem_append.mp hp with hp | hp
            · exact orest p (List.mem_append_right _ hp)
            · rw [List.mem_singleton.mp hp]
              exact ⟨Ne.symm (rnew _ (.tail _ (.head _))), Ne.symm (rnew _ (.tail _ (.tail _ (.head _)))), Ne.symm (rnew _ (.tail _ (.tail _ (.tail _ (.head _)))))⟩
      · intro q hq p hp
        rcases List.mem_append.mp hq with hq | hq
        · rcases List.mem_cons.mp hp with rfl | hp
          · exact Ne.symm (hacc83 q hq)
          · exact hacc q hq p (.tail _ hp)
        · rw [List.mem_singleton.mp hq]
          rcases List.mem_cons.mp hp with rfl | hp
          · exact rnew (83, tabObj ps) (.head _)
          · exact rnew p (.tail _ (.tail _ (.tail _ (.tail _ (List.mem_append_left _ hp)))))
      · intro k z hk
        rcases Nat.lt_or_ge k ys.length with h1 | h1
        · rw [List.getElem?_append_left h1] at hk
          obtain ⟨q, hq, e⟩ := hr k z hk
          exact ⟨q, List.mem_append_left _ hq, e⟩
        · rw [List.getElem?_append_right h1] at hk
          have hz : k - ys.length = 0 := by
            cases e : k - ys.length with
            | zero => rfl
            | succ q => rw [e] at hk; simp at hk
          rw [hz] at hk
          have hki : k = i := by lia
          cases hk
          rw [hki]; exact ⟨_, List.mem_append_right _ (.head _), hR⟩
  have := key n 0 [] ps0 [] (by lia) rfl hps0 (fun _ h => nomatch h) (fun k y e => by simp at e)
  rwa [List.append_nil] at this
theorem EltTab.intro {s₁ : Shared} {R : Value → Addr × Obj → Prop} {y : Value} {h' h'' : Heap} {tk'' : Nat} {ps' : Array Value} {r : Addr} {o : Obj} (kp : ∀ b o, b ≠ 83 → s₁.heap.get? b = some o → h'.get? b = some o) (h83 : h'.get? 83 = some (tabObj ps')) (hps : TabL ps')
    (hrn : h'.get? r = none) (st : h'.StaysIn h'') (hrg : h''.get? r = some o) (hR : R y (r, o)) : EltTab s₁ R y { s₁ with heap := h'', toks := tk'' } := by
  refine ⟨h'', tk'', ps', r, o, rfl, fun b o hb e => st b o (kp b o hb e), st _ _ h83, hps, ?_, hrg, hR⟩
  cases e : s₁.heap.get? r with
  | none => rfl
  | some o' =>
    by_cases hr : r = 83
    · rw [hr, h83] at hrn; cases hrn
    · rw [kp r o' hr e] at hrn; cases hrn
theorem News.up4 {h₀ h : Heap} {L : Addr} {a b c d e : Addr × Obj} {rest : List (Addr × Obj)} (N : News h₀ L h (a :: b :: c :: d :: e :: rest)) : News h₀ L h (e :: a :: b :: c :: d :: rest) := fun q hq => N q (by
  simp only [List.mem_cons] at hq ⊢
  rcases hq with h | h | h | h | h | h <;> simp only [h, true_or, or_true])
theorem News.swap {h₀ h : Heap} {L : Addr} {a b : Addr × Obj} {rest : List (Addr × Obj)} (N : News h₀ L h (a :: b :: rest)) : News h₀ L h (b :: a :: rest) := fun q hq => N q (by
  simp only [List.mem_cons] at hq ⊢
  rcases hq with h | h | h <;> simp only [h, true_or, or_true])
/-- whole, or heads: each row's items -/
noncomputable def RowsIt (os : List Nat) (star : Bool) (ys : List Value) (acc : List (Addr × Obj)) : Prop := ∀ (i : Nat) (y : Value), ys[i]? = some y → ∃ q ∈ acc, RowIt os star i y q
theorem RowsIt.left {os : List Nat} {star : Bool} {ys : List Value} {a b : List (Addr × Obj)} (h : RowsIt os star ys a) : RowsIt os star ys (a ++ b) := fun i y e => let ⟨q, hq, r⟩ := h i y e; ⟨q, List.mem_append_left _ hq, r⟩
theorem RowsIt.right {os : List Nat} {star : Bool} {ys : List Value} {a b : List (Addr × Obj)} (h : RowsIt os star ys b) : RowsIt os star ys (a ++ b) := fun i y e => let ⟨q, hq, r⟩ := h i y e; ⟨q, List.mem_append_right _ hq, r⟩
theorem none_in {E : Value → Shared → Prop} {Q : Value → Shared → Prop} {os : List Nat} {star : Bool} {ys : List Value} {acc news : List (Addr × Obj)} {l : Addr} (hl : s.heap.IsList l ys.toArray) (N : News h₀ L s.heap news) (sub : ∀ q ∈ acc, q ∈ news) (hr : RowsIt os star ys acc) (hu : A.units + 64 < cLine)
    (h : Q (.bool false) s) : wpAny (model prog w) A (compareOp .In .none (.ref l)) Q E s := by
  refine SeqAt.in_listAt (fun _ => false) hl (fun y hy => ?_) (by rw [show (ys.toArray.any fun _ => false) = false from Bool.eq_false_iff.mpr fun e => by obtain ⟨_, _, h⟩ := Array.any_eq_true.mp e; cases h]; exact h)
  obtain ⟨i, hi⟩ := List.mem_iff_getElem?.mp (List.mem_toArray.mp hy)
  obtain ⟨q, hq, r, vs, xs, n, row, rfl, rfl, -⟩ := hr i y hi
  exact SeqAt.EqAt.list_none (News.isList N (sub _ hq)) (show A.units + 1 < cLine by lia)
/-- a local cell set anew -/
theorem store_cell {M : Model} {E : Value → Shared → Prop} {name : Str} {px : Pos} {c : Addr} {ok : Obj} {vk : Option Value} {v : Value} {rest : List (Addr × Obj)} {Q : Unit → Shared → Prop} (hk : env.scope.kind = .function) (hl : env.kindOf name = some .cell) (hc : env.cells.lookup name = some c)
    (F : Fr h₀ L s.heap m) (N : News h₀ L s.heap ((c, ok) :: rest)) (hok : ok.data = .cell vk) (hne : ∀ q ∈ rest, q.1 ≠ c)
    (h : ∀ h' o', o'.data = .cell (some v) → Fr h₀ L h' m → News h₀ L h' ((c, o') :: rest) → Q () { s with heap := h' }) : wpAny M A (assign (.Name name px) env v) Q E s := by
  have hN := N (c, ok) (.head _)
  refine wpAny_assign_Name (wpAny_storeName_cell hk hl hc ⟨ok, hN.1, hok⟩ fun h' hv hs => ?_)
  obtain ⟨o', ho', hd'⟩ := hv
  refine h h' o' hd' (F.change hs hN.2.1 hN.2.2) fun q hq => ?_
  rcases List.mem_cons.mp hq with rfl | hq
  · exact ⟨ho', hN.2⟩
  · have z := N q (.tail _ hq)
    exact ⟨hs.extBut _ _ (hne q hq) z.1, z.2⟩
theorem RowIt.whole {os : List Nat} {i : Nat} {y : Value} {q : Addr × Obj} (h : RowIt os false i y q) : ∃ r vs xs n row, y = .ref r ∧ q = (r, listOf vs.toArray n) ∧ StrsAre vs xs ∧ (∀ z ∈ xs, PyData.strOk z = true) ∧ (rowsT os)[i]? = some row ∧ xs.map sg = row.map acc := by
  obtain ⟨r, vs, xs, n, row, h1, h2, h3, h4, h5, h6⟩ := h
  exact ⟨r, vs, xs, n, row, h1, h2, h3, h4, h5, by rw [h6]; exact List.append_nil _⟩
theorem RowIt.heads {os : List Nat} {i : Nat} {y : Value} {q : Addr × Obj} (h : RowIt os true i y q) : ∃ r vs xs n row, y = .ref r ∧ q = (r, listOf vs.toArray n) ∧ StrsAre vs (xs ++ [Str.ofString ""]) ∧ (∀ z ∈ xs, PyData.strOk z = true) ∧ (rowsT os)[i]? = some row ∧ xs.map sg = row.map acc := by
  obtain ⟨r, vs, xs, n, row, h1, h2, h3, h4, h5, h6⟩ := h
  obtain ⟨ys, rfl, hy⟩ := split_last (show xs.map sg = row.map acc ++ [[]] from h6)
  exact ⟨r, vs, ys, n, row, h1, h2, h3, fun z hz => h4 z (List.mem_append_left _ hz), h5, hy⟩
theorem row_short {os : List Nat} (h : os.length ≤ 3) {row : List Tk} {i : Nat} (hr : (rowsT os)[i]? = some row) : row.length ≤ 27 := Nat.le_trans (rend_len row) (rowsT_le h row (List.mem_of_getElem? hr))
theorem told_at {us as : List Str} {j : Nat} (h : us.map sg = as.map (fun x => LR (sg x))) (hj : j < as.length) : us.length = as.length ∧ sg (us.getD j Str.empty) = LR (sg (as.getD j Str.empty)) := by
  have hl := congrArg List.length h
  rw [List.length_map, List.length_map] at hl
  refine ⟨hl, ?_⟩
  have q := congrArg (fun l : List (List Nat) => l[j]?) h
  simp only [List.getElem?_map] at q
  rw [List.getElem?_eq_getElem hj, List.getElem?_eq_getElem (hl ▸ hj)] at q
  rw [List.getD_eq_getElem?_getD, List.getD_eq_getElem?_getD, List.getElem?_eq_getElem hj, List.getElem?_eq_getElem (hl ▸ hj)]
  exact Option.some.inj q
theorem cnt_q {rows : List (List Tk)} {fin : List Nat → Bool} {l : List Nat} : ((List.range rows.length).filter fun i => tkF fin ((rows.getD i []).map acc) l).length = rows.countP fun r => tkF fin (r.map acc) l :=
  filter_count fun k r e => by rw [List.getD_eq_getElem?_getD, e]; rfl
theorem cnt_whole {ns : List Int} {a u nm : Str} {n k : Nat} (hno : ∀ z ∈ ns, 0 ≤ z ∧ z < 256 ∧ z ≠ 61) (hnm : sg nm = ns.map Int.toNat) (hu : sg u = LR (sg a)) (hk : k = (rowsT (ns.map Int.toNat)).length)
    (hn : n = ((List.range k).filter fun i => tkF List.isEmpty (((rowsT (ns.map Int.toNat)).getD i []).map acc) (sg a)).length) : n = if u = nm then 1 else 0 := by
  rw [hn, hk, cnt_q, count_whole (oct_ok hno)]
  by_cases h : u = nm
  · rw [if_pos h, if_pos (by rw [← hu, h, hnm])]
  · rw [if_neg h, if_neg fun e => h (sg_ext (by rw [hu, e, hnm]))]
theorem cnt_heads {ns : List Int} {a u nm : Str} {n k : Nat} (hno : ∀ z ∈ ns, 0 ≤ z ∧ z < 256 ∧ z ≠ 61) (hnm : sg nm = ns.map Int.toNat) (hu : sg u = LR (sg a)) (hk : k = (rowsT (ns.map Int.toNat)).length)
    (hn : n = ((List.range k).filter fun i => tkF (fun _ => true) (((rowsT (ns.map Int.toNat)).getD i []).map acc) (sg a)).length) : n = if Txt.slice u none (some (nm.length : Int)) = nm then 1 else 0 := by
  rw [hn, hk, cnt_q, count_heads (oct_ok hno)]
  have e : sg (Txt.slice u none (some (nm.length : Int))) = (LR (sg a)).take (ns.map Int.toNat).length := by rw [slice_cut_to (Int.natCast_nonneg _), Int.toNat_natCast, hu, ← hnm, sg_len]
  by_cases h : Txt.slice u none (some (nm.length : Int)) = nm
  · rw [if_pos h, if_pos (by rw [← e, h, hnm])]
  · rw [if_neg h, if_neg fun e' => h (sg_ext (by rw [e, e', hnm]))]
theorem LR_len : ∀ (n : Nat) (l : List Nat), l.length ≤ n → (LR l).length ≤ l.length
  | _, [], _ => by simp [LR, decQ]
  | 0, _ :: _, h => absurd h (by simp)
  | n + 1, c :: r, h => by
    rw [List.length_cons] at h
    by_cases hc : c = 61 ∧ esc2 r = true
    · rw [LR_hit hc, List.length_cons, List.length_cons]
      have := LR_len n (r.drop 2) (by rw [List.length_drop]; lia)
      rw [List.length_drop] at this
      lia
    · rw [LR_miss hc, List.length_cons, List.length_cons]
      exact Nat.succ_le_succ (LR_len n r (by lia))
theorem told_len {u a : Str} {k : Nat} (h : sg u = LR (sg a)) (ha : a.length ≤ k) : u.length ≤ k := by
  rw [← sg_len, h]
  refine Nat.le_trans (LR_len _ _ (Nat.le_refl _)) ?_
  rw [sg_len]; exact ha
end
end Mine
end

section -- L1
open PySem PySem.W PyProof.Rows PySem.Calls PySem.Spec
set_option maxRecDepth 100000
set_option pp.deepTerms false
set_option pp.deepTerms.threshold 6
set_option maxHeartbeats 8000000

namespace Mine
/-- kn_post for a law that makes generators: their states may stay, all bare -/
theorem gen_post {M : Model} {A : Around} {cd : Code} {s s₁ : Shared} {cw : ClaimW} {cl : Str → Option Addr} {mean : ExcName → Option Value} {args : List WData} {tabs : List (Addr × Addr)} (hT : TabsAt tabs s₁.heap) (hr : ∀ a x, cw.raises a x = false)
    (h : codeAny M A cd (fun r s' => GoodW cw cl mean args { s₁ with heap := ghostOf s₁.heap tabs } r { s' with gens := #[] } ∧ AllBare s'.gens ∧ GrownAll tabs s'.heap) s) : codeAny M A cd (GoodWG cw cl mean args s₁) s :=
  codeAny_mono h fun r s' ⟨⟨hc, hk, hos, _⟩, hg, hgr⟩ => by
    have keep : ∀ b o, b ∉ tabs.map (·.2) → s₁.heap.get? b = some o → s'.heap.get? b = some o := fun b o hb e => hk b o (ghost_ne e hb)
    have grown : ∀ b o, b ∈ tabs.map (·.2) → s₁.heap.get? b = some o → isCodeTable s₁.heap b ∧ o = tabObj #[] ∧ ∃ ps, s'.heap.get? b = some (tabObj ps) := fun b o hb e => by
      obtain ⟨q, hq, rfl⟩ := List.mem_map.mp hb
      have e2 := (hT q hq).2
      rw [e] at e2
      exact ⟨((hT q hq).1.tab (hT q hq).2).isCodeTable, Option.some.inj e2, hgr.get q hq⟩
    refine ⟨?_, ⟨fun b o e => ?_, fun b o e => ?_⟩, hos, hg⟩
    · rcases hc with ⟨v, d, as, r1, r2, r3, r4, r5⟩ | ⟨e, ob, x, _, _, _, r4, _⟩
      · refine .inl ⟨v, d, as, r1, r2, r3, r4, fun q => ⟨(r5 q).1, fun a ha => ?_⟩⟩
        cases q1 : s₁.heap.get? a with
        | none => rfl
        | some o =>
          by_cases hb : a ∈ tabs.map (·.2)
          · obtain ⟨_, _, ps, hP⟩ := grown a o hb q1
            exact absurd ha (readsW_apart hP rfl r3)
          · have e3 := (r5 q).2 a ha
            rw [show (ghostOf s₁.heap tabs).get? a = some o from ghost_ne q1 hb] at e3
            cases e3
      · rw [hr] at r4; cases r4
    · by_cases hb : b ∈ tabs.map (·.2)
      · obtain ⟨ht, rfl, ps, hP⟩ := grown b o hb e
        exact .inr (.inl ⟨ht, rfl, #[], ps, rfl, by rw [Array.empty_append]; exact hP⟩)
      · exact .inl (keep b o hb e)
    · by_cases hb : b ∈ tabs.map (·.2)
      · obtain ⟨_, _, ps, hP⟩ := grown b o hb e
        exact ⟨_, hP⟩
      · exact ⟨o, keep b o hb e⟩
theorem fresh_ne {h₀ h : Heap} {L r : Addr} {news : List (Addr × Obj)} (N : News h₀ L h news) (hr : h.get? r = none) : ∀ q ∈ news, q.1 ≠ r := fun q hq e => by
  have := (N q hq).1
  rw [e, hr] at this; cases this
/-- the post of the law's walk made small -/
noncomputable def LawEnd (g : Heap) (s₁ s' : Shared) : Prop := (∀ b o, g.get? b = some o → s'.heap.get? b = some o) ∧ s'.os = s₁.os ∧ AllBare s'.gens ∧ GrownAll [(87, 83), (106, 102)] s'.heap
theorem gen_Q {M : Model} {A : Around} {c : Sem Flow} {Q : Flow → Shared → Prop} {E : Value → Shared → Prop} {s : Shared} (P : Shared → Prop)
    (h : ∀ (Q0 : Flow → Shared → Prop) (E0 : Value → Shared → Prop), (∀ s', P s' → Q0 (.ret (.bool true)) s') → wpAny M A c Q0 E0 s) (fin : ∀ s', P s' → Q (.ret (.bool true)) s') : wpAny M A c Q E s := h Q E fin
theorem News.drop2 {h₀ h : Heap} {L : Addr} {a b : Addr × Obj} {rest : List (Addr × Obj)} (N : News h₀ L h (a :: b :: rest)) : News h₀ L h (a :: rest) := fun q hq => by
  rcases List.mem_cons.mp hq with rfl | hq
  · exact N _ (.head _)
  · exact N q (.tail _ (.tail _ hq))
theorem strs_with {P : Str → Prop} : ∀ {ys : List Value}, (∀ (i : Nat) (y : Value), ys[i]? = some y → ∃ x t, y = .str x t ∧ P x) → ∃ xs : List Str, StrsAre ys xs ∧ xs.length = ys.length ∧ ∀ x ∈ xs, P x
  | [], _ => ⟨[], .nil, rfl, fun _ h => nomatch h⟩
  | y :: ys, h => by
    obtain ⟨x, t, rfl, hx⟩ := h 0 y rfl
    obtain ⟨xs, h1, h2, h3⟩ := strs_with (P := P) (ys := ys) fun i y e => h (i + 1) y (by simpa using e)
    refine ⟨x :: xs, .cons x t h1, by simp [h2], fun z hz => ?_⟩
    rcases List.mem_cons.mp hz with rfl | hz
    · exact hx
    · exact h3 z hz
theorem strs_map {α : Type} {f g : Str → α} : ∀ {ys : List Value} {as : List Str}, ys.length = as.length → (∀ (i : Nat) (y : Value), ys[i]? = some y → ∃ z t, y = .str z t ∧ f z = g (as.getD i Str.empty)) → ∃ xs : List Str, StrsAre ys xs ∧ xs.map f = as.map g
  | [], [], _, _ => ⟨[], .nil, rfl⟩
  | y :: ys, a :: as, hl, h => by
    obtain ⟨z, t, rfl, hz⟩ := h 0 y rfl
    obtain ⟨xs, h1, h2⟩ := strs_map (f := f) (g := g) (ys := ys) (as := as) (by simpa using hl) fun i y e => by
      have q := h (i + 1) y (by simpa using e)
      simpa using q
    exact ⟨z :: xs, .cons z t h1, by rw [List.map_cons, List.map_cons, h2, hz]; simp⟩
theorem same_told {ts us as : List Str} (h : ts.map sg = as.map (fun x => LR (sg x))) (h' : us.map (fun z => (sg z, PyData.strOk z)) = as.map (fun x => (LR (sg x), true))) : (∀ z ∈ us, PyData.strOk z = true) ∧ us = ts := by
  have h1 : us.map sg = as.map (fun x => LR (sg x)) := by
    have q := congrArg (List.map Prod.fst) h'
    simpa [List.map_map, Function.comp_def] using q
  have h2 : us.map PyData.strOk = as.map (fun _ => true) := by
    have q := congrArg (List.map Prod.snd) h'
    simpa [List.map_map, Function.comp_def] using q
  constructor
  · intro z hz
    have : PyData.strOk z ∈ us.map PyData.strOk := List.mem_map_of_mem hz
    rw [h2] at this
    obtain ⟨_, _, e⟩ := List.mem_map.mp this
    exact e.symm
  · have h3 : us.map sg = ts.map sg := h1.trans h.symm
    have q := congrArg (List.map (fun l : List Nat => (⟨l.toArray⟩ : Str))) h3
    simpa [List.map_map, Function.comp_def, mk_sg] using q
/-- a fresh object, after a call that gave it -/
theorem News.fresh {h₀ h h' : Heap} {L r : Addr} {m : Str → Option Value} {news : List (Addr × Obj)} {o : Obj} (F : Fr h₀ L h m) (N : News h₀ L h news) (st : h.StaysIn h') (hr : h.get? r = none) (hr' : h'.get? r = some o) : News h₀ L h' ((r, o) :: news) := fun q hq => by
  rcases List.mem_cons.mp hq with rfl | hq
  · exact ⟨hr', (fresh_L F hr).1, (fresh_L F hr).2⟩
  · exact (News.grown N st) q hq
theorem ne_sameL {prog : Program} {w : World} {A : Around} {E : Value → Shared → Prop} {s : Shared} {a b : Addr} {vs us : List Value} {xs : List Str} {Q : Value → Shared → Prop} (hl : s.heap.IsList a vs.toArray) (hi : StrsAre vs xs) (hl' : s.heap.IsList b us.toArray) (hi' : StrsAre us xs) (hx : ∀ x ∈ xs, PyData.strOk x = true) (hu : A.units + 64 < cLine)
    (h : Q (.bool false) s) : wpAny (model prog w) A (compareOp .NotEq (.ref a) (.ref b)) Q E s :=
  ne_strsL hl hi hl' hi' hx hx hu (by rw [show (!decide (xs = xs)) = false from by simp]; exact h)
section
open LCg
variable {prog : Program} {w : World} {A : Around} {E : Value → Shared → Prop} {s : Shared} {env : Env} {h₀ : Heap} {target : Expr} {body : List Stmt} {Q : Flow → Shared → Prop}
/-- where a turn of a loop ends when generators may be made in it -/
noncomputable def TurnEnd (h₀ : Heap) (L I : Addr) (oI : Obj) (s : Shared) (Jn : (Str → Option Value) → List (Addr × Obj) → Prop) (f : Flow) (s' : Shared) : Prop :=
  f = .next ∧ AllBare s'.gens ∧ s'.os = s.os ∧ ∃ m' news', Fr h₀ L s'.heap m' ∧ News h₀ L s'.heap ((I, oI) :: news') ∧ (∀ p ∈ news', p.1 ≠ I) ∧ Jn m' news'
theorem loop_free {R : Result → Shared → Prop} {I : Addr} {fp : List Addr} {n : Nat} {P : Nat → Value → Prop} {St : Nat → Heap → Prop} {S : List (Addr × Obj) → Prop} {m : Str → Option Value} {news : List (Addr × Obj)} (W : Walks prog w A I fp [I] n P St)
    (hIo : ∀ i h, St i h → ∃ o, h.get? I = some o)
    (hSt : ∀ i h h' o nw, St i h → h.get? I = some o → h'.get? I = some o → (∀ b o, h₀.get? b = some o → h'.get? b = some o) → News h₀ env.locals h' nw → S nw → St i h')
    (ht : ∀ v, letOwnedTupleGo target (.ref I) v = pure ()) (hIL : env.locals ≠ I) (hI₀ : h₀.get? I = none)
    (hst : St 0 s.heap) (F : Fr h₀ env.locals s.heap m) (N : News h₀ env.locals s.heap news) (hoff : ∀ p ∈ news, p.1 ≠ I) (G : AllBare s.gens)
    (J : Nat → (Str → Option Value) → List (Addr × Obj) → Prop) (h0 : J 0 m news) (hS : ∀ i m' nw, J i m' nw → S nw)
    (turn : ∀ i v oI m₁ news₁ (s₁ : Shared) (E' : Value → Shared → Prop), i < n → P i v → J i m₁ news₁ → (∀ p ∈ news₁, p.1 ≠ I) → AllBare s₁.gens → s₁.os = s.os → Fr h₀ env.locals s₁.heap m₁ → News h₀ env.locals s₁.heap ((I, oI) :: news₁) →
      wpAny (model prog w) A (assign target env v) (fun _ s₂ => wpAny (model prog w) A (execs body env) (TurnEnd h₀ env.locals I oI s (J (i + 1))) E' s₂) E' s₁)
    (fin : ∀ m' news' (s' : Shared), Fr h₀ env.locals s'.heap m' → News h₀ env.locals s'.heap news' → J n m' news' → AllBare s'.gens → s'.os = s.os → R (.ok .next) s') :
    codeAny (model prog w) A (.forLoop target (.ref I) body [] env) R s := by
  refine codeAny_forLoop
    (fun k s' => ∃ m' news' i, St i s'.heap ∧ Fr h₀ env.locals s'.heap m' ∧ News h₀ env.locals s'.heap news' ∧ (∀ p ∈ news', p.1 ≠ I) ∧ J i m' news' ∧ AllBare s'.gens ∧ s'.os = s.os ∧ i ≤ n ∧ k = n + 1 - i) ?_ (n + 1)
    ⟨m, news, 0, hst, F, N, hoff, h0, G, rfl, Nat.zero_le _, rfl⟩ ht
  rintro k s' ⟨m', news', i, hst', F', N', off', hJ, G', hos, hi, rfl⟩
  by_cases hlt : i < n
  · refine W.item i _ _ _ hlt hst' fun v h₁ tk₁ hP hst₁ hk₁ => ?_
    have F₁ := fr_but F' hk₁ hIL hI₀
    have N₁ := news_but N' hk₁ off'
    obtain ⟨oI, heI⟩ := hIo _ _ hst₁
    refine wpAny_mono (turn i v oI m' news' { s' with heap := h₁, toks := tk₁ } _ hlt hP hJ off' G' hos F₁ fun p hp => ?_) (fun _ s₂ h₂ => wpAny_mono h₂ (fun f s₃ h₃ => ?_) fun _ _ e => e) fun _ _ e => e
    · rcases List.mem_cons.mp hp with rfl | hp
      · exact ⟨heI, Ne.symm hIL, hI₀⟩
      · exact N₁ p hp
    · obtain ⟨rfl, G₃, hos₃, m₃, news₃, F₃, N₃, off₃, J₃⟩ := h₃
      have N₄ : News h₀ env.locals s₃.heap news₃ := fun p hp => N₃ p (.tail _ hp)
      exact ⟨n + 1 - (i + 1), by lia, m₃, news₃, i + 1, hSt _ _ _ _ _ hst₁ heI (N₃ _ (.head _)).1 F₃.keep N₄ (hS _ _ _ J₃), F₃, N₄, off₃, J₃, G₃, hos₃, hlt, rfl⟩
  · obtain rfl : i = n := Nat.le_antisymm hi (Nat.not_lt.mp hlt)
    refine W.done _ _ _ hst' fun h₁ tk₁ hk₁ => wpAny_execs_nil ?_
    exact fin m' news' _ (fr_but F' hk₁ hIL hI₀) (news_but N' hk₁ off') hJ G' hos
/-- what a for statement goes through stands evaluated -/
noncomputable def ForAt (M : Model) (A : Around) (env : Env) (target : Expr) (body : List Stmt) (Q : Flow → Shared → Prop) (E : Value → Shared → Prop) (xv : Value) (s₁ : Shared) : Prop :=
  wpAny M A (pyIter xv) (fun it s₂ => codeAny M A (.forLoop target it body [] env) (fun r s' => match r with | .ok f => Q f s' | .error e => cameBackBy M A env E e s') s₂) E s₁
theorem For_at {M : Model} {iter : Expr} {pos : Pos} (hs : ∀ x, foldedSetIterable iter env x = pure x) (h : wpAny M A (eval iter env) (ForAt M A env target body Q E) E s) : wpAny M A (exec (.For target iter body [] pos) env) Q E s := wpAny_For h hs
theorem ForAt.list {x : Str} {px : Pos} {ax : Addr} {its : Array Value} {m : Str → Option Value} {news : List (Addr × Obj)} (hh : A.handled = none) (F : Fr h₀ env.locals s.heap m) (N : News h₀ env.locals s.heap news) (G : AllBare s.gens)
    (J : Nat → (Str → Option Value) → List (Addr × Obj) → Prop) (h0 : J 0 m news) (hS : ∀ i m' nw, J i m' nw → SrcAt h₀ ax its nw)
    (turn : ∀ I i v oI m₁ news₁ (s₁ : Shared) (E' : Value → Shared → Prop), i < its.size → its[i]? = some v → J i m₁ news₁ → (∀ p ∈ news₁, p.1 ≠ I) → AllBare s₁.gens → s₁.os = s.os → Fr h₀ env.locals s₁.heap m₁ → News h₀ env.locals s₁.heap ((I, oI) :: news₁) →
      wpAny (model prog w) A (assign (.Name x px) env v) (fun _ s₂ => wpAny (model prog w) A (execs body env) (TurnEnd h₀ env.locals I oI s (J (i + 1))) E' s₂) E' s₁)
    (fin : ∀ m' news' (s' : Shared), Fr h₀ env.locals s'.heap m' → News h₀ env.locals s'.heap news' → J its.size m' news' → AllBare s'.gens → s'.os = s.os → Q .next s') :
    ForAt (model prog w) A env (.Name x px) body Q E (.ref ax) s := by
  have hl := (hS _ _ _ h0).list F.keep N
  have hlt : ax < s.heap.objs.size := by obtain ⟨_, e, _⟩ := hl; exact Heap.lt_size e
  refine wpAny_pyIter_list hl ?_
  have up : ∀ b o, s.heap.get? b = some o → (s.heap.push { cls := .type "list_iterator", data := .fields #[.ref ax, .int 0 0] }).get? b = some o := fun b o e => Heap.get?_push_of_some _ e
  exact loop_free (Walks.list hh s.heap.objs.size ax (Nat.ne_of_lt hlt) its) (fun i h st => by obtain ⟨o, e, _⟩ := st.1; exact ⟨o, e⟩) list_st (fun _ => rfl) (Nat.ne_of_lt F.ns.lt) (next_is_new F)
    ⟨⟨_, Heap.get?_push_size _ rfl, rfl, rfl⟩, hl.push _⟩ (F.keeps up) (N.grown up) (fun p hp => Nat.ne_of_lt (Heap.lt_size (N p hp).1)) G J h0 hS (fun i v oI m₁ news₁ s₁ E' a1 a2 a3 a4 a5 a6 a7 a8 => turn _ i v oI m₁ news₁ s₁ E' a1 a2 a3 a4 a5 a6 a7 a8) fin
theorem ForAt.range {x : Str} {px : Pos} {r : Addr} {a b : Int} {t u v : Tok} {n : Nat} {m : Str → Option Value} {news : List (Addr × Obj)} (hh : A.handled = none) (F : Fr h₀ env.locals s.heap m) (N : News h₀ env.locals s.heap news) (G : AllBare s.gens)
    (hr : IsRange s.heap r a b 1 t u v) (hsm : Builtin.Range.small a b 1 = true) (hn : Builtin.Range.rangeSize a b 1 = ((n : Nat) : Int))
    (J : Nat → (Str → Option Value) → List (Addr × Obj) → Prop) (h0 : J 0 m news)
    (turn : ∀ I i v oI m₁ news₁ (s₁ : Shared) (E' : Value → Shared → Prop), i < n → (∃ t, v = .int (a + (i : Int)) t) → J i m₁ news₁ → (∀ p ∈ news₁, p.1 ≠ I) → AllBare s₁.gens → s₁.os = s.os → Fr h₀ env.locals s₁.heap m₁ → News h₀ env.locals s₁.heap ((I, oI) :: news₁) →
      wpAny (model prog w) A (assign (.Name x px) env v) (fun _ s₂ => wpAny (model prog w) A (execs body env) (TurnEnd h₀ env.locals I oI s (J (i + 1))) E' s₂) E' s₁)
    (fin : ∀ m' news' (s' : Shared), Fr h₀ env.locals s'.heap m' → News h₀ env.locals s'.heap news' → J n m' news' → AllBare s'.gens → s'.os = s.os → Q .next s') :
    ForAt (model prog w) A env (.Name x px) body Q E (.ref r) s := by
  refine wpAny_pyIter_range hr hsm ?_
  exact loop_free (S := fun _ => True) (range_walks hh a n) (fun i h st => ⟨_, st⟩) range_st (fun _ => rfl) (Nat.ne_of_lt F.ns.lt) (next_is_new F)
    (by show IsRangeIter _ _ _ _ _; rw [hn]; simpa using Heap.get?_push_size _ rfl) (F.keeps fun _ _ e => Heap.get?_push_of_some _ e) (N.grown fun _ _ e => Heap.get?_push_of_some _ e) (fun p hp => Nat.ne_of_lt (Heap.lt_size (N p hp).1)) G J h0 (fun _ _ _ _ => trivial) (fun i v oI m₁ news₁ s₁ E' a1 a2 a3 a4 a5 a6 a7 a8 => turn _ i v oI m₁ news₁ s₁ E' a1 a2 a3 a4 a5 a6 a7 a8) fin
end
theorem News.sub {h₀ h : Heap} {L : Addr} {xs ys : List (Addr × Obj)} (N : News h₀ L h xs) (e : ∀ q ∈ ys, q ∈ xs) : News h₀ L h ys := fun q hq => N q (e q hq)
theorem News.keep {h₀ h h' : Heap} {L P : Addr} {xs : List (Addr × Obj)} (N : News h₀ L h xs) (hne : ∀ q ∈ xs, q.1 ≠ P) (hb : ∀ b o, b ≠ P → h.get? b = some o → h'.get? b = some o) : News h₀ L h' xs := fun q hq => ⟨hb _ _ (hne q hq) (N q hq).1, (N q hq).2⟩
theorem News.put {h₀ h : Heap} {L a : Addr} {o : Obj} {xs : List (Addr × Obj)} (N : News h₀ L h xs) (e : h.get? a = some o) (hL : a ≠ L) (h0 : h₀.get? a = none) : News h₀ L h ((a, o) :: xs) := fun q hq => by
  rcases List.mem_cons.mp hq with rfl | hq
  · exact ⟨e, hL, h0⟩
  · exact N q hq
theorem News.head {h₀ h : Heap} {L : Addr} {q : Addr × Obj} {xs : List (Addr × Obj)} (N : News h₀ L h (q :: xs)) : h.get? q.1 = some q.2 ∧ q.1 ≠ L ∧ h₀.get? q.1 = none := N q (.head _)
theorem News.rest {h₀ h : Heap} {L : Addr} {q : Addr × Obj} {xs : List (Addr × Obj)} (N : News h₀ L h (q :: xs)) : News h₀ L h xs := fun p hp => N p (.tail _ hp)
/-- the list of octets a turn is about -/
theorem octs_two {h₀ h : Heap} {L : Addr} {xs : List (Addr × Obj)} {r2 r3 : Addr} {ys2 ys3 : List Value} {zs2 zs3 : List Int} {n2 n3 i : Nat} {v : Value} (N : News h₀ L h xs) (hv : (#[Value.ref r2, Value.ref r3] : Array Value)[i]? = some v)
    (m2 : (r2, listOf ys2.toArray n2) ∈ xs) (m3 : (r3, listOf ys3.toArray n3) ∈ xs) (i2 : IntsAre ys2 zs2) (i3 : IntsAre ys3 zs3) (l2 : zs2.length ≤ 3) (l3 : zs3.length ≤ 3)
    (o2 : ∀ z ∈ zs2, 0 ≤ z ∧ z < 256 ∧ z ≠ 61) (o3 : ∀ z ∈ zs3, 0 ≤ z ∧ z < 256 ∧ z ≠ 61) :
    ∃ r vs ns n, v = .ref r ∧ News h₀ L h ((r, listOf vs.toArray n) :: xs) ∧ IntsAre vs ns ∧ ns.length ≤ 3 ∧ (∀ z ∈ ns, 0 ≤ z ∧ z < 256 ∧ z ≠ 61) ∧ ∀ P, r2 ≠ P → r3 ≠ P → r ≠ P := by
  match i, hv with
  | 0, hv => cases hv; exact ⟨_, _, _, _, rfl, News.sub N (fun q hq => (List.mem_cons.mp hq).elim (fun e => e ▸ m2) id), i2, l2, o2, fun _ h _ => h⟩
  | 1, hv => cases hv; exact ⟨_, _, _, _, rfl, News.sub N (fun q hq => (List.mem_cons.mp hq).elim (fun e => e ▸ m3) id), i3, l3, o3, fun _ _ h => h⟩
  | i + 2, hv => simp at hv
/-- what holds between two turns of the law's loop over its texts -/
noncomputable def LawJ (D4 ck : Addr) (xs : List (Addr × Obj)) (m : Str → Option Value) (nw : List (Addr × Obj)) : Prop :=
  m (Str.ofString "told") = some (.ref D4) ∧ ∃ ps qs ok vk, TabL ps ∧ TabG ⟨119, 20, 119, 57⟩ qs ∧ ok.data = .cell vk ∧ nw = (102, tabObj qs) :: (83, tabObj ps) :: (ck, ok) :: xs
theorem law_for {prog : Program} {w : World} {A : Around} {E : Value → Shared → Prop} {s : Shared} {env : Env} {h₀ : Heap} {body : List Stmt} {Q : Flow → Shared → Prop} {x : Str} {px : Pos} {ax D4 ck : Addr} {its : Array Value} {m : Str → Option Value} {ok : Obj} {x0 x1 x2 x4 x5 x6 xa xt : Addr × Obj} {k : Nat} {vk : Option Value} (hh : A.handled = none) (F : Fr h₀ env.locals s.heap m)
    (N : News h₀ env.locals s.heap [x0, x1, x2, (ax, listOf its k), x4, x5, x6, (ck, ok), xa, xt, (83, tabObj #[]), (102, tabObj #[])]) (G : AllBare s.gens)
    (hm : m (Str.ofString "told") = some (.ref D4)) (hok : ok.data = .cell vk)
    (turn : ∀ (I : Addr) (i : Nat) v oI m₁ ps qs ok' vk' (s₁ : Shared) (E' : Value → Shared → Prop), its[i]? = some v → m₁ (Str.ofString "told") = some (.ref D4) → TabL ps → TabG ⟨119, 20, 119, 57⟩ qs → ok'.data = .cell vk' →
      (102 ≠ I ∧ 83 ≠ I ∧ ck ≠ I ∧ ∀ p ∈ [x1, x2, (ax, listOf its k), x4, x5, xa, xt], p.1 ≠ I) → AllBare s₁.gens → s₁.os = s.os → Fr h₀ env.locals s₁.heap m₁ → News h₀ env.locals s₁.heap ((I, oI) :: (102, tabObj qs) :: (83, tabObj ps) :: (ck, ok') :: [x1, x2, (ax, listOf its k), x4, x5, xa, xt]) →
      wpAny (model prog w) A (assign (.Name x px) env v) (fun _ s₂ => wpAny (model prog w) A (execs body env) (TurnEnd h₀ env.locals I oI s (LawJ D4 ck [x1, x2, (ax, listOf its k), x4, x5, xa, xt])) E' s₂) E' s₁)
    (fin : ∀ m' ps qs (s' : Shared), Fr h₀ env.locals s'.heap m' → News h₀ env.locals s'.heap [(83, tabObj ps), (102, tabObj qs)] → AllBare s'.gens → s'.os = s.os → Q .next s') :
    ForAt (model prog w) A env (.Name x px) body Q E (.ref ax) s := by
  have Nx : News h₀ env.locals s.heap ((102, tabObj #[]) :: (83, tabObj #[]) :: (ck, ok) :: [x1, x2, (ax, listOf its k), x4, x5, xa, xt]) := News.sub N fun q hq => by
    simp only [List.mem_cons] at hq ⊢
    rcases hq with h | h | h | h | h | h | h | h | h | h | h <;> simp only [h, true_or, or_true]
  refine ForAt.list (its := its) (m := m) hh F Nx G (fun _ => LawJ D4 ck [x1, x2, (ax, listOf its k), x4, x5, xa, xt]) ⟨hm, #[], #[], ok, vk, .inl rfl, .inl rfl, hok, rfl⟩ (fun i m' nw hJ => ?_) (fun I i v oI m₁ news₁ s₁ E' hi hv hJ hoff hG hos F₁ N₁ => ?_) (fun m' nw s' F' N' hJ G' hos => ?_)
  · obtain ⟨_, _, _, _, _, _, _, _, rfl⟩ := hJ
    exact Or.inr ⟨_, .tail _ (.tail _ (.tail _ (.tail _ (.tail _ (.head _))))), rfl, _, rfl⟩
  · obtain ⟨hm1, ps, qs, ok', vk', h1, h2, h3, rfl⟩ := hJ
    exact turn I i v oI m₁ ps qs ok' vk' s₁ E' hv hm1 h1 h2 h3 ⟨hoff _ (.head _), hoff _ (.tail _ (.head _)), hoff _ (.tail _ (.tail _ (.head _))), fun p hp => hoff p (.tail _ (.tail _ (.tail _ hp)))⟩ hG hos F₁ N₁
  · obtain ⟨hm1, ps, qs, ok', vk', h1, h2, h3, rfl⟩ := hJ
    exact fin m' ps qs s' F' (News.sub N' fun q hq => by
      rcases List.mem_cons.mp hq with rfl | hq
      · exact .tail _ (.head _)
      · rw [List.mem_singleton.mp hq]; exact .head _) G' hos
theorem strs_idx {ns : List Int} {f : Int → Str} : ∀ {ys : List Value}, ys.length = ns.length → (∀ (i : Nat) (y : Value), ys[i]? = some y → ∃ o t, ns[i]? = some o ∧ y = .str (f o) t) → StrsAre ys (ns.map f) := by
  intro ys hl h
  refine strs_of (by rw [hl, List.length_map]) fun i y e => ?_
  obtain ⟨o, t, ho, rfl⟩ := h i y e
  refine ⟨t, ?_⟩
  rw [List.getD_eq_getElem?_getD, List.getElem?_map, ho]; rfl
noncomputable def chrS (o : Int) : Str := ⟨#[o.toNat]⟩
theorem chrs_ones {ns : List Int} (h : ∀ z ∈ ns, 0 ≤ z ∧ z < 256 ∧ z ≠ 61) : ∀ x ∈ ns.map chrS, x.length ≤ 1 ∧ PyData.strOk x = true := fun x hx => by
  obtain ⟨o, ho, rfl⟩ := List.mem_map.mp hx
  exact ⟨Nat.le_refl _, strOk_one (by have := (h o ho).1; have := (h o ho).2.1; lia)⟩
theorem chrs_sg (ns : List Int) : (ns.map chrS).flatMap sg = ns.map Int.toNat := by
  induction ns with
  | nil => rfl
  | cons o r ih => rw [List.map_cons, List.flatMap_cons, ih, List.map_cons]; rfl
theorem rows_facts {ns : List Int} {xs : List Str} (hnl : ns.length ≤ 3) (hno : ∀ z ∈ ns, 0 ≤ z ∧ z < 256 ∧ z ≠ 61) (h : xs.map sg = (rowsT (ns.map Int.toNat)).map rend) : xs.length ≤ 8 ∧ (∀ x ∈ xs, x.length ≤ 27) ∧ ∀ x ∈ xs, PyData.strOk x = true := by
  have h1 := rows_xs (os := ns.map Int.toNat) (by rw [List.length_map]; exact hnl) h
  have h2 := rows_ok (os := ns.map Int.toNat) (fun o ho => by
    obtain ⟨z, hz, rfl⟩ := List.mem_map.mp ho
    have := hno z hz
    lia) h
  exact ⟨h1.1, h1.2, fun x hx => strOk_sg.mpr fun c hc => Nat.lt_trans (h2 x hx c hc) (by decide)⟩
noncomputable def starS (x : Str) : Str := x ++ Str.ofString "*"
theorem starS_len (x : Str) : (starS x).length = x.length + 1 := by
  unfold starS
  show (x ++ Str.ofString "*").cps.size = _
  rw [Str.cps_append, Array.size_append]; rfl
theorem starS_ok {x : Str} (h : PyData.strOk x = true) : PyData.strOk (starS x) = true := strOk_append h (by decide +kernel)
theorem after_join {h₀ h h' : Heap} {L : Addr} {a b c d e : Addr × Obj} {o o' : Obj} {rest : List (Addr × Obj)} (N : News h₀ L h (a :: b :: c :: d :: e :: (102, o) :: rest)) (hne : ∀ q ∈ c :: d :: e :: rest, q.1 ≠ 102)
    (kp : ∀ b o, b ≠ 102 → h.get? b = some o → h'.get? b = some o) (h102 : h'.get? 102 = some o') : News h₀ L h' ((102, o') :: c :: d :: e :: rest) := by
  have h1 := N (102, o) (.tail _ (.tail _ (.tail _ (.tail _ (.tail _ (.head _))))))
  refine News.put (News.keep (News.sub N fun q hq => ?_) hne kp) h102 h1.2.1 h1.2.2
  rcases List.mem_cons.mp hq with rfl | hq
  · exact .tail _ (.tail _ (.head _))
  rcases List.mem_cons.mp hq with rfl | hq
  · exact .tail _ (.tail _ (.tail _ (.head _)))
  rcases List.mem_cons.mp hq with rfl | hq
  · exact .tail _ (.tail _ (.tail _ (.tail _ (.head _))))
  · exact .tail _ (.tail _ (.tail _ (.tail _ (.tail _ (.tail _ hq)))))
theorem strs_fun {xs : List Str} {f : Str → Str} {ys : List Value} {n : Nat} (hl : ys.length = n) (hn : n = xs.length) (h : ∀ (i : Nat) (y : Value), ys[i]? = some y → ∃ t, y = .str (f (xs.getD i Str.empty)) t) : StrsAre ys (xs.map f) := by
  refine strs_of (by rw [hl, hn, List.length_map]) fun i y hy => ?_
  obtain ⟨t, rfl⟩ := h i y hy
  have hi : i < xs.length := by
    have := (List.getElem?_eq_some_iff.mp hy).1
    lia
  refine ⟨t, ?_⟩
  rw [List.getD_eq_getElem?_getD, List.getD_eq_getElem?_getD, List.getElem?_map, List.getElem?_eq_getElem hi]
  rfl
theorem ne_same {prog : Program} {w : World} {A : Around} {E : Value → Shared → Prop} {s : Shared} {x : Str} {t u : Tok} {Q : Value → Shared → Prop} (h : Q (.bool false) s) : wpAny (model prog w) A (compareOp .NotEq (.str x t) (.str x u)) Q E s :=
  ne_str (by rw [show (x != x) = false from by simp]; exact h)
theorem join_quoted {prog : Program} {w : World} {A : Around} {E : Value → Shared → Prop} {s : Shared} {t : Tok} {Q : Value → Shared → Prop} {D : Addr} {vs : List Value} {xs : List Str} (hl : s.heap.IsList D vs.toArray) (hi : StrsAre vs (xs.map LQ)) (hx : ∀ x ∈ xs, x.cps.size ≤ 1000) (hn : xs.length ≤ 100)
    (h : ∀ t' k, Q (.str (Txt.join (Str.ofString " ") (xs.map LQ)) t') { s with toks := k }) : wpAny (model prog w) A (call (.builtin "str.join") [.str (Str.ofString " ") t, .ref D]) Q E s := by
  refine join_list hl hi ?_ h
  have h1 : ((xs.map LQ).map (·.length)).sum ≤ 6008 * (xs.map LQ).length := sum_le fun x h => by
    obtain ⟨y, hy, rfl⟩ := List.mem_map.mp h
    exact LQ_len (hx y hy)
  rw [List.length_map] at h1 ⊢
  rw [show (Str.ofString " ").length = 1 from by decide +kernel]
  lia
theorem getD_ok {xs : List Str} (h : ∀ x ∈ xs, PyData.strOk x = true) (i : Nat) : PyData.strOk (xs.getD i Str.empty) = true := by
  rw [List.getD_eq_getElem?_getD]
  cases e : xs[i]? with
  | none => exact (by decide +kernel : PyData.strOk Str.empty = true)
  | some y => exact h y (List.mem_of_getElem? e)
/-- where the inner loop's turn ends -/
noncomputable def EndK (h₀ : Heap) (L : Addr) (m : Str → Option Value) (nw : List (Addr × Obj)) (s₁ : Shared) (f : Flow) (s' : Shared) : Prop :=
  f = .next ∧ ∃ h' tk, s' = { s₁ with heap := h', toks := tk } ∧ Fr h₀ L h' m ∧ News h₀ L h' nw
theorem for_k {prog : Program} {w : World} {A : Around} {E : Value → Shared → Prop} {s : Shared} {env : Env} {h₀ : Heap} {body : List Stmt} {Q : Flow → Shared → Prop} {name : Str} {px : Pos} {r ck : Addr} {t u v : Tok} {m : Str → Option Value} {ok : Obj} {vk : Option Value} {rest : List (Addr × Obj)}
    (hh : A.handled = none) (F : Fr h₀ env.locals s.heap m) (N : News h₀ env.locals s.heap ((ck, ok) :: rest)) (hok : ok.data = .cell vk) (G : AllBare s.gens) (hr : IsRange s.heap r 0 4 1 t u v)
    (hk : env.scope.kind = .function) (hl : env.kindOf name = some .cell) (hc : env.cells.lookup name = some ck) (hne : ∀ q ∈ rest, q.1 ≠ ck)
    (turn : ∀ (I : Addr) (j : Nat) tj oI o' (s₁ : Shared) (E' : Value → Shared → Prop), j < 4 → (∀ q ∈ (ck, o') :: rest, q.1 ≠ I) → o'.data = .cell (some (.int (j : Int) tj)) → Fr h₀ env.locals s₁.heap m → News h₀ env.locals s₁.heap ((ck, o') :: (I, oI) :: rest) →
      wpAny (model prog w) A (execs body env) (EndK h₀ env.locals m ((ck, o') :: (I, oI) :: rest) s₁) E' s₁)
    (fin : ∀ (s' : Shared) o' vk', o'.data = .cell vk' → Fr h₀ env.locals s'.heap m → News h₀ env.locals s'.heap ((ck, o') :: rest) → AllBare s'.gens → s'.os = s.os → Q .next s') :
    ForAt (model prog w) A env (.Name name px) body Q E (.ref r) s := by
  refine ForAt.range (n := 4) hh F N G hr (by decide +kernel) (by decide +kernel) (fun _ m' nw => m' = m ∧ ∃ o' vk', o'.data = .cell vk' ∧ nw = (ck, o') :: rest) ⟨rfl, _, _, hok, rfl⟩ ?_ ?_
  · rintro I j v oI m₁ news₁ s₁ E' hj ⟨tj, rfl⟩ ⟨rfl, o1, vk1, hd1, rfl⟩ hoff hG hos F₁ N₁
    have N2 : News h₀ env.locals s₁.heap ((ck, o1) :: (I, oI) :: rest) := News.swap N₁
    refine store_cell hk hl hc F₁ N2 hd1 (fun q hq => ?_) fun h' o' hd' F' N' => ?_
    · rcases List.mem_cons.mp hq with rfl | hq
      · exact Ne.symm (hoff (ck, o1) (.head _))
      · exact hne q hq
    · have hoff' : ∀ q ∈ (ck, o') :: rest, q.1 ≠ I := fun q hq => by
        rcases List.mem_cons.mp hq with rfl | hq
        · exact hoff (ck, o1) (.head _)
        · exact hoff q (.tail _ hq)
      refine wpAny_mono (turn I j tj oI o' { s₁ with heap := h' } E' hj hoff' (by rw [hd', Int.zero_add]) F' N') (fun f s' h => ?_) fun _ _ e => e
      obtain ⟨rfl, h2, tk2, rfl, F2, N2⟩ := h
      exact ⟨rfl, hG, hos, _, _, F2, News.swap N2, hoff', rfl, o', _, hd', rfl⟩
  · rintro m' news' s' F' N' ⟨rfl, o', vk', hd', rfl⟩ G' hos
    exact fin s' o' vk' hd' F' N' G' hos
theorem News.forK {h₀ h : Heap} {L : Addr} {x1 x2 x3 x4 x5 x6 x7 x8 : Addr × Obj} {rest : List (Addr × Obj)} (N : News h₀ L h (x1 :: x2 :: x3 :: x4 :: x5 :: x6 :: x7 :: x8 :: rest)) : News h₀ L h (x8 :: x1 :: x2 :: x3 :: x4 :: x7 :: rest) := fun q hq => N q (by
  simp only [List.mem_cons] at hq ⊢
  rcases hq with h | h | h | h | h | h | h <;> simp only [h, true_or, or_true])
theorem News.endK {h₀ h : Heap} {L : Addr} {xk x1 x2 x3 x4 x7 y1 y2 y3 y4 y5 y6 y7 : Addr × Obj} {acc : List (Addr × Obj)} (N : News h₀ L h (xk :: x1 :: x2 :: x3 :: x4 :: x7 :: y1 :: y2 :: y3 :: y4 :: y5 :: y6 :: y7 :: acc)) : News h₀ L h (x7 :: x4 :: x2 :: xk :: [y1, y2, y3, y4, y5, y6, y7]) := fun q hq => N q (by
  simp only [List.mem_cons, List.not_mem_nil, or_false] at hq ⊢
  rcases hq with h | h | h | h | h | h | h | h | h | h | h <;> simp only [h, true_or, or_true])
theorem item_strN {prog : Program} {w : World} {A : Around} {E : Value → Shared → Prop} {s : Shared} {value slice : Expr} {l : Addr} {vs : List Value} {xs : List Str} {j : Nat} {u : Tok} {Q : Value → Shared → Prop} (hl : s.heap.IsList l vs.toArray) (hi : StrsAre vs xs) (h1 : j < xs.length) (hf : j < 1000) (h : ∀ t, Q (.str (xs.getD j Str.empty) t) s)
    (hs : subscripted slice false (.ref l) (.int (j : Int) u) = operate [.ref l, .int (j : Int) u] (getItem (.ref l) (.int (j : Int) u))) :
    wpAny (model prog w) A (subscriptTail value slice (.ref l) (.int (j : Int) u)) Q E s :=
  item_str hl hi (Int.natCast_nonneg _) (by lia) (by lia) (by rw [Int.toNat_natCast]; exact h) hs
theorem len_items {prog : Program} {w : World} {A : Around} {E : Value → Shared → Prop} {s : Shared} {l : Addr} {vs : List Value} {n : Nat} {Q : Value → Shared → Prop} (hl : s.heap.IsList l vs.toArray) (hn : vs.length = n) (hf : n ≤ 1000) (h : ∀ t k, Q (.int (n : Int) t) { s with toks := k }) : wpAny (model prog w) A (call (.builtin "len") [.ref l]) Q E s := by
  subst hn
  have e : vs.toArray.size = vs.length := List.size_toArray
  refine PyProof.Rows.len_list hl (by rw [e]; lia) ?_
  rw [e]
  exact h _ _
section
variable {prog : Program} {w : World} {A : Around} {E : Value → Shared → Prop} {s : Shared}
theorem eq_yes {x y : Str} {t u : Tok} {Q : Value → Shared → Prop} (e : x = y) (h : Q (.bool true) s) : wpAny (model prog w) A (compareOp .Eq (.str x t) (.str y u)) Q E s :=
  PyProof.Rows.eq_str (by subst e; rw [show (x == x) = true from by simp]; exact h)
theorem eq_no {x y : Str} {t u : Tok} {Q : Value → Shared → Prop} (e : x ≠ y) (h : Q (.bool false) s) : wpAny (model prog w) A (compareOp .Eq (.str x t) (.str y u)) Q E s :=
  PyProof.Rows.eq_str (by rw [show (x == y) = false from by simpa using e]; exact h)
theorem ne_ints {a b : Int} {t u : Tok} {Q : Value → Shared → Prop} (e : a = b) (h : Q (.bool false) s) : wpAny (model prog w) A (compareOp .NotEq (.int a t) (.int b u)) Q E s :=
  PyProof.Rows.ne_int (by subst e; rw [show (a != a) = false from by simp]; exact h)
theorem stmt_join {M : Model} {h₀ : Heap} {L : Addr} {m : Str → Option Value} {nw : List (Addr × Obj)} {c : Sem Flow} {Q : Flow → Shared → Prop} (_F : Fr h₀ L s.heap m) (_N : News h₀ L s.heap nw) (h : wpAny M A c (EndK h₀ L m nw s) E s)
    (h2 : ∀ h' tk, Fr h₀ L h' m → News h₀ L h' nw → Q .next { s with heap := h', toks := tk }) : wpAny M A c Q E s :=
  wpAny_mono h (fun f s' ⟨e, h', tk, e2, F, N⟩ => by subst e e2; exact h2 h' tk F N) fun _ _ e => e
end
theorem Fr.known {h₀ h : Heap} {L : Addr} {m : Str → Option Value} {x : Str} {v : Value} (F : Fr h₀ L h m) (e : m x = some v) : Fr h₀ L h (fun z => if z = x then some v else m z) := by
  have q : (fun z => if z = x then some v else m z) = m := by
    funext z
    by_cases hz : z = x
    · rw [if_pos hz, hz, e]
    · rw [if_neg hz]
  rw [q]; exact F
theorem len_text {prog : Program} {w : World} {A : Around} {E : Value → Shared → Prop} {s : Shared} {x : Str} {t : Tok} {Q : Value → Shared → Prop} (hx : x.length ≤ 1000) (h : ∀ u k, Q (.int (x.length : Int) u) { s with toks := k }) : wpAny (model prog w) A (call (.builtin "len") [.str x t]) Q E s :=
  len_str (by lia) (h _ _)
end Mine
end

section -- L2
open PySem PySem.W PyProof.Rows PySem.Calls PySem.Spec
set_option maxRecDepth 100000
set_option pp.deepTerms false
set_option pp.deepTerms.threshold 6
set_option maxHeartbeats 8000000

namespace Mine
section
theorem top_go : PySem.Challenge.rw_ku0012_01.Holds := by
  k_with_none
  k_with "m execs cons" => ((k_here; (try ((with_reducible refine Mine.toks_any ?_); intro zztk9)); (with_reducible refine wpAny_execs_cons ?_); (try dsimp only)))
  k_with "m execs nil" => ((k_here; (try ((with_reducible refine Mine.toks_any ?_); intro zztk9)); (with_reducible refine wpAny_execs_nil ?_); (try dsimp only)))
  k_with "m execs cons" => ((k_here; (try ((with_reducible refine Mine.toks_any ?_); intro zztk9)); (with_reducible refine Mine.execs_c ?_); intro zzC9 zzhC9; (try dsimp only)))
  k_with "m exec If" => ((k_here; (with_reducible refine Mine.if_c ?_); intro zzC9 zzhC9))
  k_with "m Cont" => (((first | ((refine Mine.Cont.go zzhC9 ?_); clear zzhC9; (try clear zzC9)) | (refine Mine.Cont.go (by with_reducible assumption) ?_)); (try dsimp only)))
  k_with "m call ref" => (refine Stop.go ?_)
  k_with "m eval ListComp" => (refine Stop.go ?_)
  k_with "m CompSrc" => (refine Stop.go ?_)
  k_with "m exec For" => (refine Stop.go ?_)
  k_with "m exec For Name Name cons nil" => (refine Stop.go ?_)
  k_with "m exec For Name Call cons nil" => (refine Stop.go ?_)
  k_with "m ForAt" => (refine Stop.go ?_)
  k_with "m CompSrcT" => (refine Stop.go ?_)
  k_with "m call builtin:len" => (refine Stop.go ?_)
  k_with "m compareOp Eq str str" => (refine Stop.go ?_)
  k_with "m compareOp NotEq int int" => (refine Stop.go ?_)
  k_with "m exec If" => ((k_here; (with_reducible show wpAny _ _ (exec (Stmt.If (PySem.Expr.Compare (PySem.Expr.Call _ [PySem.Expr.ListComp _ _ _ _] _ _) _ _ _) _ _ _) _) _ _ _); refine Stop.go ?_))
  k_with "m subscriptTail Name Name ref int" => (refine Stop.go ?_)
  k_with "m call builtin:str.join" => (refine Stop.go ?_)
  k_with "m call builtin:chr" => (refine Stop.go ?_)
  k_with "m binaryOp Add ref ref" => (refine Stop.go ?_)
  k_with "m compareOp NotEq str str" => (refine Stop.go ?_)
  refine hd ?_
  k_fill
  intro w s₀ s₁ mg mb G Y fa o pm cd doc dV kV ho hd hcd hD hmg hg args vals as hpre hlay hrd hwl hlo
  have KX := km_in_of Y
  km_tabs Y
  have X := (Ground.X G).1
  have V := (Ground.X G).2
  refine Ground.open G ?_
  intro T B D TE TW
  try (refine guard_noD D (by decide +kernel) ?_; clear D)
  km_lay T hmg ho hd cd
  clear hmg
  have hT7 := hT9
  clear hT9
  have hT9 : TabsAt [(87, 83), (106, 102)] s₁.heap := List.forall_mem_cons.mpr ⟨hT7 _ (.head _), List.forall_mem_cons.mpr ⟨tab_of (x := Str.ofString "join") (c := 106) (P := 102) T KX rfl (by kernel_rfl), fun _ h => nomatch h⟩⟩
  clear hT7
  wrow_args hpre hlay hrd hwl hlo
  all_goals
    first | refine callC_kw (enter_call ?_) | refine enter_call ?_
    w_top on
    refine gen_post hT9 (fun _ _ => rfl) ?_
    w_call any ho hd hcd hD T F
    clear hd
    kn_ghosts F T
    k_drop
    skip
  all_goals (try k_fold)
  refine gen_Q (LawEnd (ghostOf s₁.heap [(87, 83), (106, 102)]) s₁) ?walk ?fin
  case fin =>
    rintro s' ⟨hk, hos, hgs, hgr⟩
    refine ⟨⟨.inl ⟨.bool true, .bool true, [], rfl, fun _ => rfl, .bool true, ?post, fun _ => ⟨List.nodup_nil, fun a h => nomatch h⟩⟩, hk, hos, rfl⟩, hgs, hgr⟩
    case post => wrow_post
  intro Q0 E0 ret0
  have G0 : AllBare s₁.gens := by rw [hg]; exact AllBare.of_eq rfl
  rename IntsAre _ _ => hI
  rename Below _ _ _ _ => K'
  rename Fr _ _ _ _ => F'
  rename News _ _ _ _ => N'
  rename Top topProg _ _ _ _ _ => T'
  rename Frag.In _ (ghostOf _ _) => X'
  rename ¬ (63 : Int) < _ => hlen
  clear hT9 hT8 hcd hD TE TW B V X T G Y ho
  generalize ghostOf s₁.heap [(87, 83), (106, 102)] = gd at *
  generalize s₁.heap.objs.size = Ld at *
  rename CellsAre _ _ _ => X0
  clear X0
  rename _ = Data.cell (bindC _ _ _ (Str.ofString "k")) => hck
  rename _ = Data.cell (bindC _ _ _ (Str.ofString "asked")) => hca
  rename _ = Data.cell (bindC _ _ _ (Str.ofString "texts")) => hct
  change _ = Data.cell none at hck
  change _ = Data.cell none at hca
  change _ = Data.cell none at hct
  rename CodeHd gd (106, 102).fst _ => CJ
  rename CodeHd gd (87, 83).fst _ => CT
  change CodeHd gd 106 102 at CJ
  change CodeHd gd 87 83 at CT
  rename 83 < Ld ∧ 102 < Ld => hLd
  rename gd.IsList _ _ => hsc
  try k_fold
  k_steps
  unfold Stop
  rename Fr gd _ _ _ => Fz
  rename News gd _ _ _ => Nz
  refine c_numbers (Cal.mk K' Fz X' T' rfl (by ktr_room) (by ktr_units)) (hsc.at fun o e => Fz.keep _ o e) hI (by lia) ?_
  intro r1 h1 tk1 n1 ys1 zs1 hz1 hzl1 hrn1 hrg1 st1
  have F1 := Fr.keeps Fz st1
  have N1 := News.fresh Fz Nz st1 hrn1 hrg1
  have zzq : (@Ne Nat (Ld+1+1+1) r1) ∧ (@Ne Nat (Ld+1+1) r1) ∧ (@Ne Nat (Ld+1) r1) ∧ (@Ne Nat 83 r1) ∧ (@Ne Nat 102 r1) ∧ True := by
    have q := fresh_ne Nz hrn1
    simp only [List.forall_mem_cons] at q
    exact ⟨q.1, q.2.1, q.2.2.1, q.2.2.2.1, q.2.2.2.2.1, trivial⟩
  refine a6 zzq fun na1 nb1 nc1 nd1 ne1 zzc5 => ?_
  clear zzq zzc5
  clear Fz Nz
  try dsimp only
  k_steps
  unfold Stop
  rename Fr gd _ _ _ => Fz
  rename News gd _ _ _ => Nz
  rename IntsAre _ (List.take 3 zs1) => hi2
  refine c_octets (Cal.mk K' Fz X' T' rfl (by ktr_room) (by ktr_units)) (News.isList Nz (.head _)) hi2 (by simp only [List.length_take]; lia) ?_
  intro r2 h2 tk2 n2 ys2 zs2 hz2 hzl2 ho2 hrn2 hrg2 st2
  have F2 := Fr.keeps Fz st2
  have N2 := News.drop2 (News.fresh Fz Nz st2 hrn2 hrg2)
  have zzq := fresh_ne Nz hrn2
  simp only [List.forall_mem_cons] at zzq
  refine a8 zzq fun zzc0 ng2 na2 nb2 nc2 nd2 ne2 zzc7 => ?_
  clear zzq zzc0 zzc7
  clear Fz Nz
  try dsimp only
  k_steps
  unfold Stop
  rename Fr gd _ _ _ => Fz
  rename News gd _ _ _ => Nz

  rename IntsAre _ _ => hi3
  refine c_octets (Cal.mk K' Fz X' T' rfl (by ktr_room) (by ktr_units)) (News.isList Nz (.head _)) hi3 (by simp only [List.length_take]; lia) ?_
  intro r3 h3 tk3 n3 ys3 zs3 hz3 hzl3 ho3 hrn3 hrg3 st3
  have F3 := Fr.keeps Fz st3
  have N3 := News.drop2 (News.fresh Fz Nz st3 hrn3 hrg3)
  have zzq := fresh_ne Nz hrn3
  simp only [List.forall_mem_cons] at zzq
  refine a9 zzq fun zzc0 ni3 ng3 na3 nb3 nc3 nd3 ne3 zzc8 => ?_
  clear zzq zzc0 zzc8
  clear Fz Nz
  try dsimp only
  k_steps
  unfold Stop
  rename Fr gd _ _ _ => Fz
  rename News gd _ _ _ => Nz
  refine LCg.ListComp_U (F₀ := Fz) (by with_unfolding_all rfl) ?c1 (by with_unfolding_all rfl) ?c2 (by with_unfolding_all rfl) ?_
  case c1 => decide
  case c2 => decide
  k_steps
  unfold Stop
  rename Fr gd _ _ _ => Fz
  rename News gd _ _ _ => Nz
  rename IntsAre _ (List.drop 5 zs1) => hi4
  have hlz2 : zs2.length ≤ 3 := by have q := hzl2; simp only [List.length_take] at q; lia
  have hlz3 : zs3.length ≤ 3 := by have q := hzl3; simp only [List.length_take] at q; lia
  refine LCg.CompSrc.ledger rfl Fz Nz (.head _) (by rw [List.size_toArray, hi4.length, sizeLine_eq]; lia) ?_
  intro g0
  refine comp_all (fun _ y => ∃ x t, y = .str x t ∧ x.length ≤ 10 ∧ PyData.strOk x = true) (Or.inr ⟨_, .head _, rfl, _, rfl⟩) ?_ ?_
  · intro i v I oI C oC D m₂ ys h tk E' hin hv hC hx F1 N1 off
    obtain ⟨k, t, rfl, hk⟩ := IntsAre.at hi4 i v (by simpa using hv)
    k_steps
    unfold Stop
    rename Fr gd _ _ _ => Fe
    rename News gd _ _ _ => Ne
    refine c_asked (ns0 := zs2) (ns1 := zs3) (Cal.mk K' Fe X' T' rfl (by ktr_room) (by ktr_units)) (News.isList Ne (.tail _ (.tail _ (.tail _ (.tail _ (.head _)))))) (News.isList Ne (.tail _ (.tail _ (.tail _ (.tail _ (.tail _ (.tail _ (.head _)))))))) hz2 (News.isList Ne (.tail _ (.tail _ (.tail _ (.tail _ (.tail _ (.head _))))))) hz3 hlz2 hlz3 ho2 ho3 ?_
    intro x t' h' tk' hxl hxo st
    exact EltEnd.intro st ⟨_, _, rfl, hxl, hxo⟩
  · intro ys hlen hall
    intro D h tk F1 N1 off1
    try dsimp only
    obtain ⟨as, hAs, hAl, hAx⟩ := strs_with hall
    have hAn : as.length = 4 := by rw [hAl, hlen, List.size_toArray, hi4.length, List.length_drop]; lia
    have N4 := News.drop2 N1
    clear N1
    refine a11 off1 fun zzc0 nl4 nr43 nr42 nr41 nk4 na4 nt4 n834 n1024 zzc10 => ?_
    clear off1 zzc0 zzc10
    dsimp only at nl4 nr43 nr42 nr41 nk4 na4 nt4 n834 n1024
    clear hall
    k_steps
    have hAg : ∀ i, (as.getD i Str.empty).length ≤ 10 := fun i => by
      rw [List.getD_eq_getElem?_getD]
      cases e : as[i]? with
      | none => exact Nat.zero_le _
      | some y => exact (hAx y (List.mem_of_getElem? e)).1
    have hAo : ∀ i, PyData.strOk (as.getD i Str.empty) = true := fun i => by
      rw [List.getD_eq_getElem?_getD]
      cases e : as[i]? with
      | none => exact (by decide +kernel : PyData.strOk Str.empty = true)
      | some y => exact (hAx y (List.mem_of_getElem? e)).2
    unfold Stop
    rename Fr gd _ _ _ => Fz
    rename News gd _ _ _ => Nz
    refine LCg.CompSrc.ledger rfl Fz Nz (.head _) (by rw [List.size_toArray, hAs.length, sizeLine_eq]; lia) ?_
    intro g1
    refine comp_all (fun i y => ∃ z t, y = .str z t ∧ sg z = LR (sg (as.getD i Str.empty))) (Or.inr ⟨_, .head _, rfl, _, rfl⟩) ?_ ?_
    · intro i v I oI C oC D2 m₂ ys' h tk E' hin hv hC hx F1 N1 off
      obtain ⟨t, rfl⟩ := StrsAre.at hAs i v (by simpa using hv)
      k_steps
      unfold Stop
      rename Fr gd _ _ _ => Fe
      rename News gd _ _ _ => Ne
      refine c_hd (Cal.mk K' Fe X' T' rfl (by ktr_room) (by ktr_units)) (Nat.le_trans (hAg i) (by decide)) ?_
      intro z t' h' tk' hz st
      exact EltEnd.intro st ⟨_, _, rfl, hz⟩
    · intro ys4 hlen4 hall4
      obtain ⟨ts, hTs, hTm⟩ := strs_map (f := sg) (g := fun x => LR (sg x)) (as := as) (by rw [hlen4, List.size_toArray, hAs.length]) hall4
      clear hall4
      intro D4 h tk F1 N1 off1
      refine a11 off1 fun nD4 nl5 nr53 nr52 nr51 nk5 na5 nt5 n835 n1025 zzc10 => ?_
      clear off1 zzc10
      dsimp only at nD4 nl5 nr53 nr52 nr51 nk5 na5 nt5 n835 n1025
      try dsimp only
      k_steps
      unfold Stop
      rename Fr gd _ _ _ => Fz
      rename News gd _ _ _ => Nz
      refine LCg.ListComp_U (F₀ := Fz) (by with_unfolding_all rfl) ?c1 (by with_unfolding_all rfl) ?c2 (by with_unfolding_all rfl) ?_
      case c1 => decide
      case c2 => decide
      k_steps
      unfold Stop
      refine LCg.CompSrc.ledger rfl Fz Nz (.tail _ (.head _)) (by rw [List.size_toArray, hAs.length, sizeLine_eq]; lia) ?_
      intro g2
      refine comp_all (fun i y => ∃ z t, y = .str z t ∧ (sg z, PyData.strOk z) = (LR (sg (as.getD i Str.empty)), true)) (Or.inr ⟨_, .tail _ (.head _), rfl, _, rfl⟩) ?_ ?_
      · intro i v I oI C oC D2 m₂ ys' h tk E' hin hv hC hx F1 N1 off
        obtain ⟨t, rfl⟩ := StrsAre.at hAs i v (by simpa using hv)
        k_steps
        unfold Stop
        rename Fr gd _ _ _ => Fe
        rename News gd _ _ _ => Ne
        refine c_read (Cal.mk K' Fe X' T' rfl (by ktr_room) (by ktr_units)) (hAo i) (Nat.le_trans (hAg i) (by decide)) ?_
        intro z t' h' tk' hz hzo st
        exact EltEnd.intro st ⟨_, _, rfl, by rw [hz, hzo]⟩
      · intro ys5 hlen5 hall5
        obtain ⟨us, hUs, hUm⟩ := strs_map (f := fun z => (sg z, PyData.strOk z)) (g := fun x => (LR (sg x), true)) (as := as) (by rw [hlen5, List.size_toArray, hAs.length]) hall5
        clear hall5
        obtain ⟨hUo, hUe⟩ := same_told hTm hUm
        subst hUe
        intro D5 h tk F1 N1 off1
        refine a12 off1 fun nDD5 nD5 nl6 nr63 nr62 nr61 nk6 na6 nt6 n836 n1026 zzc11 => ?_
        clear off1 zzc11
        dsimp only at nDD5 nD5 nl6 nr63 nr62 nr61 nk6 na6 nt6 n836 n1026
        try dsimp only
        -- TAIL
        have hA : h.IsList D4 ys4.toArray := News.isList N1 (.tail _ (.head _))
        have hB : h.IsList D5 ys5.toArray := News.isList N1 (.head _)
        with_reducible refine ne_sameL hA hTs hB hUs hUo ?hun ?_
        case hun => first | ktr_units | decide +kernel
        clear hA hB
        clear hUm hlen hlen4 hlen5 hca hct
        k_steps
        unfold Stop
        refine For_at (fun _ => rfl) ?_
        k_steps
        unfold Stop
        rename Fr gd _ _ _ => Fz
        rename News gd _ _ _ => Nz
        rename _ = Data.cell (some (Value.ref D)) => hca
        rename r3 < _ ∧ r2 < _ ∧ r1 < _ ∧ _ => hll
        refine a8 hll fun zzc0 zzc1 zzc2 hl1 hl2 hl3 hl4 hl5 => ?_
        clear hll zzc0 zzc1 zzc2
        have nlk := Nat.ne_of_gt hl1
        have nla := Nat.ne_of_gt hl2
        have nlt := Nat.ne_of_gt hl3
        have nl83 := Nat.ne_of_gt hl4
        have nl102 := Nat.ne_of_gt hl5
        clear hl1 hl2 hl3 hl4 hl5
        have hL1 := hLd.1
        have hL2 := hLd.2
        have nk83 : Ld + 1 + 1 + 1 ≠ 83 := by lia
        have nk102 : Ld + 1 + 1 + 1 ≠ 102 := by lia
        have na83 : Ld + 1 + 1 ≠ 83 := by lia
        have na102 : Ld + 1 + 1 ≠ 102 := by lia
        have nt83 : Ld + 1 ≠ 83 := by lia
        have nt102 : Ld + 1 ≠ 102 := by lia
        have nak : Ld + 1 + 1 ≠ Ld + 1 + 1 + 1 := by lia
        have ntk : Ld + 1 ≠ Ld + 1 + 1 + 1 := by lia
        clear hL1 hL2
        refine law_for (D4 := D4) rfl Fz Nz G0 (if_pos rfl) hck ?turn ?fin
        case fin =>
          intro m' ps qs s' F' N' G' hos
          try dsimp only
          k_steps
          exact ret0 _ ⟨F'.keep, hos, G', ⟨_, (N' _ (.head _)).1⟩, ⟨_, (N' _ (.tail _ (.head _))).1⟩, trivial⟩
        case turn =>
          clear hrn1 hrg1 st1 na1 nb1 nc1 nd1 ne1 hrn2 hrg2 st2 ng2 hrn3 hrg3 st3 ng3 hlen hck Fz Nz hI hsc hLd ret0 nDD5 nD5 nl6 nr63 nr62 nr61 nk6 na6 nt6 n836 n1026 nr41 nr51 hi4
          intro I i v oI m₁ ps qs ok' vk' s₂ E' hv hm₁ hps hqs hok' hI hG hos F₁ N₁
          obtain ⟨r, vs, ns, n, rfl, N₂, hns, hnl, hno, hrr⟩ := octs_two N₁ hv (.tail _ (.tail _ (.tail _ (.tail _ (.tail _ (.tail _ (.tail _ (.tail _ (.head _))))))))) (.tail _ (.tail _ (.tail _ (.tail _ (.tail _ (.tail _ (.tail _ (.head _)))))))) hz2 hz3 hlz2 hlz3 ho2 ho3
          change Fr gd Ld _ _ at F₁
          replace F₁ := Fr.known F₁ hm₁
          change News gd Ld _ _ at N₂
          refine a4 hI fun nI1 nI2 nI3 hI => ?_
          simp only [List.forall_mem_cons] at hI
          refine a8 hI fun nI4 nI5 nI6 nI7 nI8 nI9 nI10 zzc7 => ?_
          clear hI zzc7
          have nrI : r ≠ I := hrr _ nI8 nI7
          have nrk : r ≠ Ld + 1 + 1 + 1 := hrr _ (Ne.symm na2) (Ne.symm na3)
          have nr83 : r ≠ 83 := hrr _ (Ne.symm nd2) (Ne.symm nd3)
          have nr102 : r ≠ 102 := hrr _ (Ne.symm ne2) (Ne.symm ne3)
          clear N₁ hrr
          k_steps
          unfold Stop
          rename Fr gd _ _ _ => Fz
          rename News gd _ _ _ => Nz
          refine LCg.ListComp_U (F₀ := Fz) (by with_unfolding_all rfl) ?c1 (by with_unfolding_all rfl) ?c2 (by with_unfolding_all rfl) ?_
          case c1 => decide
          case c2 => decide
          k_steps
          unfold Stop
          rename Fr gd _ _ _ => Fz
          rename News gd _ _ _ => Nz
          refine LCg.CompSrc.ledger rfl Fz Nz (.head _) (by rw [List.size_toArray, hns.length, sizeLine_eq]; lia) ?_
          intro g3
          refine comp_all (fun i y => ∃ o t, ns[i]? = some o ∧ y = .str (chrS o) t) (Or.inr ⟨_, .head _, rfl, _, rfl⟩) ?_ ?_
          · intro j v9 I9 oI9 C9 oC9 D9 m9 ys9 h9 tk9 E9 hin9 hv9 hC9 hx9 F9 N9 off9
            obtain ⟨o9, t9, rfl, hk9⟩ := IntsAre.at hns j v9 (by simpa using hv9)
            k_steps
            unfold Stop
            refine chr_of_range (hno o9 (List.mem_of_getElem? hk9)).1 (Int.le_of_lt (Int.lt_trans (hno o9 (List.mem_of_getElem? hk9)).2.1 (by decide))) ?_
            exact EltEnd.intro (stays_refl _) ⟨_, _, hk9, rfl⟩
          · intro ysn hln hal
            have hcs := strs_idx (f := chrS) (by rw [hln, List.size_toArray, hns.length]) hal
            clear hal
            intro Dn h tk F1 N1 off1
            try dsimp only
            k_steps
            unfold Stop
            refine join_ones (News.isList N1 (.head _)) hcs (chrs_ones hno) (by rw [List.length_map]; lia) ?_
            intro nm tn kn hnm hnmo
            have N2 := News.rest N1
            clear N1 Nz Fz hcs hln off1
            rw [chrs_sg] at hnm
            try dsimp only
            k_steps
            unfold Stop
            rename Fr gd _ _ _ => Fz
            rename News gd _ _ _ => Nz
            refine c_patterns (Cal.mk K' Fz X' T' rfl (by ktr_room) (by ktr_units)) (News.isList Nz (.head _)) hns hnl hno ?_
            intro R hR tkR nR vsR xsR hxsR hxe hRn hRg stR
            have F3 := Fr.keeps Fz stR
            have N3 := News.fresh Fz Nz stR hRn hRg
            have zzq := fresh_ne Nz hRn
            simp only [List.forall_mem_cons] at zzq
            refine a13 zzq fun nRr nRI nR102 nR83 nRk nRD4 nRD nRl nRr3 nRr2 nRa nRt zzc12 => ?_
            clear zzq zzc12
            clear Fz Nz hRn hRg stR
            try dsimp only
            k_steps
            unfold Stop
            rename Fr gd _ _ _ => Fz
            rename News gd _ _ _ => Nz
            refine LCg.ListComp_U (F₀ := Fz) (by with_unfolding_all rfl) ?c1 (by with_unfolding_all rfl) ?c2 (by with_unfolding_all rfl) ?_
            case c1 => decide
            case c2 => decide
            k_steps
            unfold Stop
            rename Fr gd _ _ _ => Fz
            rename News gd _ _ _ => Nz
            obtain ⟨hR8, hR27, hRok⟩ := rows_facts hnl hno hxe
            have hRl := hxsR.length
            refine LCg.CompSrc.ledger rfl Fz Nz (.head _) (by rw [List.size_toArray, sizeLine_eq]; lia) ?_
            intro g4
            refine comp_all (fun i y => ∃ t, y = .str (xsR.getD i Str.empty ++ Str.ofString "*") t) (Or.inr ⟨_, .head _, rfl, _, rfl⟩) ?_ ?_
            · intro j v9 I9 oI9 C9 oC9 D9 m9 ys9 h9 tk9 E9 hin9 hv9 hC9 hx9 F9 N9 off9
              obtain ⟨t9, rfl⟩ := StrsAre.at hxsR j v9 (by simpa using hv9)
              have hz1 := getD_len hR27 j
              generalize xsR.getD j Str.empty = x1 at *
              k_steps
              exact EltEnd.intro (stays_refl _) ⟨_, rfl⟩
            · intro ysS hlS haS
              have hsS := strs_more (by rw [hlS, List.size_toArray]) hRl haS
              clear haS
              intro Ds h tk F1 N1 off1
              try dsimp only
              k_steps
              unfold Stop
              rename Fr gd _ _ _ => Fz
              rename News gd _ _ _ => Nz
              refine kmk_add_lit (zs := vsR ++ ysS) Fz Nz (News.isList Nz (.tail _ (.head _))) (News.isList Nz (.head _)) rfl ?_ (by rw [sizeLine_eq, hlS, List.size_toArray]; show vsR.length + vsR.length ≤ _; lia)
              intro Dc hc F1 N1 _
              clear off1 Fz Nz
              try dsimp only
              k_steps
              unfold Stop
              rename Fr gd _ _ _ => Fz
              rename News gd _ _ _ => Nz
              have NT : News gd Ld _ [(102, tabObj qs)] := News.sub Nz fun q hq => by
                rw [List.mem_singleton.mp hq]
                exact .tail _ (.tail _ (.tail _ (.tail _ (.tail _ (.head _)))))
              have hlj := News.isList Nz (.head _)
              have hsj := StrsAre.append' hxsR hsS
              refine c_join (Cal.mk K' Fz X' T' rfl (by ktr_room) (by ktr_units)) NT CJ hqs hG hlj hsj ?hxj ?hnj ?_
              case hxj =>
                intro x hx
                rcases List.mem_append.mp hx with h | h
                · exact Nat.le_trans (hR27 x h) (by decide)
                · obtain ⟨y, hy, rfl⟩ := List.mem_map.mp h
                  have q1 := starS_len y
                  have q2 := hR27 y hy
                  show (starS y).length ≤ 1000
                  lia
              case hnj => rw [List.length_append, List.length_map]; lia
              intro tj s3 qs' G3 os3 kp h102 hqs'
              have F3 := Fr.but Fz kp (Nz _ (.tail _ (.tail _ (.tail _ (.tail _ (.tail _ (.head _))))))).2.2 (Ne.symm (Nz _ (.tail _ (.tail _ (.tail _ (.tail _ (.tail _ (.head _))))))).2.1)
              have N3 := after_join Nz (by
                simp only [List.forall_mem_cons]
                exact ⟨Ne.symm nR102, nr102, Ne.symm nI1, by decide, nk102, Ne.symm n1025, Ne.symm n1024, nl102, Ne.symm ne3, Ne.symm ne2, na102, nt102, fun _ h => nomatch h⟩) kp h102
              clear kp h102 Fz Nz hsS
              try dsimp only
              clear hlj hsj NT hlS
              k_steps
              unfold Stop
              rename Fr gd _ _ _ => Fz
              rename News gd _ _ _ => Nz
              refine LCg.ListComp_U (F₀ := Fz) (by with_unfolding_all rfl) ?c1 (by with_unfolding_all rfl) ?c2 (by with_unfolding_all rfl) ?_
              case c1 => decide
              case c2 => decide
              k_steps
              unfold Stop
              rename Fr gd _ _ _ => Fz
              rename News gd _ _ _ => Nz
              refine LCg.CompSrc.ledger rfl Fz Nz (.tail _ (.head _)) (by rw [List.size_toArray, sizeLine_eq]; lia) ?_
              intro g5
              refine comp_all (fun i y => ∃ t, y = .str (LQ (xsR.getD i Str.empty)) t) (Or.inr ⟨_, .tail _ (.head _), rfl, _, rfl⟩) ?_ ?_
              · intro j v9 I9 oI9 C9 oC9 D9 m9 ys9 h9 tk9 E9 hin9 hv9 hC9 hx9 F9 N9 off9
                obtain ⟨t9, rfl⟩ := StrsAre.at hxsR j v9 (by simpa using hv9)
                have hz1 := getD_len hR27 j
                have hz2 := getD_ok hRok j
                generalize xsR.getD j Str.empty = x1 at *
                k_steps
                unfold Stop
                rename Fr gd _ _ _ => Fe
                refine c_quoted (Cal.mk K' Fe X' T' rfl (by ktr_room) (by ktr_units)) (Nat.le_trans hz1 (by decide)) hz2 ?_
                intro t' h' tk' st
                exact EltEnd.intro st ⟨_, rfl⟩
              · intro ysQ hlQ haQ
                have hsQ := strs_fun (f := LQ) (by rw [hlQ, List.size_toArray]) hRl haQ
                clear haQ
                intro Dq h tk F1 N1 off1
                try dsimp only
                k_steps
                unfold Stop
                rename Fr gd _ _ _ => Fz
                rename News gd _ _ _ => Nz
                refine LCg.ListComp_U (F₀ := Fz) (by with_unfolding_all rfl) ?c1 (by with_unfolding_all rfl) ?c2 (by with_unfolding_all rfl) ?_
                case c1 => decide
                case c2 => decide
                k_steps
                unfold Stop
                rename Fr gd _ _ _ => Fz
                rename News gd _ _ _ => Nz
                refine LCg.CompSrc.ledger rfl Fz Nz (.tail _ (.tail _ (.head _))) (by rw [List.size_toArray, sizeLine_eq]; lia) ?_
                intro g6
                refine comp_all (fun i y => ∃ t, y = .str (LQ (xsR.getD i Str.empty ++ Str.ofString "*")) t) (Or.inr ⟨_, .tail _ (.tail _ (.head _)), rfl, _, rfl⟩) ?_ ?_
                · intro j v9 I9 oI9 C9 oC9 D9 m9 ys9 h9 tk9 E9 hin9 hv9 hC9 hx9 F9 N9 off9
                  obtain ⟨t9, rfl⟩ := StrsAre.at hxsR j v9 (by simpa using hv9)
                  have hz1 := getD_len hR27 j
                  have hz2 := getD_ok hRok j
                  generalize xsR.getD j Str.empty = x1 at *
                  k_steps
                  unfold Stop
                  rename Fr gd _ _ _ => Fe
                  refine c_quoted (Cal.mk K' Fe X' T' rfl (by ktr_room) (by ktr_units)) (Nat.le_trans (Nat.le_of_eq (starS_len x1)) (Nat.le_trans (Nat.succ_le_succ hz1) (by decide))) (starS_ok hz2) ?_
                  intro t' h' tk' st
                  exact EltEnd.intro st ⟨_, rfl⟩
                · intro ysP hlP haP
                  have hsP := strs_fun (f := fun x => LQ (x ++ Str.ofString "*")) (by rw [hlP, List.size_toArray]) hRl haP
                  clear haP
                  intro Dp h tk F1 N1 off1
                  try dsimp only
                  k_steps
                  unfold Stop
                  rename Fr gd _ _ _ => Fz
                  rename News gd _ _ _ => Nz
                  refine kmk_add_lit (zs := ysQ ++ ysP) Fz Nz (News.isList Nz (.tail _ (.head _))) (News.isList Nz (.head _)) rfl ?_ (by rw [sizeLine_eq, hlQ, hlP, List.size_toArray]; lia)
                  intro Dz hz F1 N1 _
                  try dsimp only
                  k_steps
                  unfold Stop
                  rename Fr gd _ _ _ => Fz
                  rename News gd _ _ _ => Nz
                  refine join_quoted (xs := xsR ++ xsR.map fun x => x ++ Str.ofString "*") (News.isList Nz (.head _)) (by rw [List.map_append, List.map_map]; exact StrsAre.append' hsQ hsP) ?hxj ?hnj ?_
                  case hxj =>
                    intro x hx
                    rcases List.mem_append.mp hx with h | h
                    · exact Nat.le_trans (hR27 x h) (by decide)
                    · obtain ⟨y, hy, rfl⟩ := List.mem_map.mp h
                      have q1 := starS_len y
                      have q2 := hR27 y hy
                      show (starS y).length ≤ 1000
                      lia
                  case hnj => rw [List.length_append, List.length_map]; lia
                  intro tj2 kj
                  have N7 := News.rest (News.rest (News.rest Nz))
                  clear hsQ hsP hlQ hlP Nz off1
                  try dsimp only
                  k_steps
                  unfold Stop
                  refine ne_same ?_
                  try dsimp only
                  k_steps
                  unfold Stop
                  rename Fr gd _ _ _ => Fz
                  rename News gd _ _ _ => Nz
                  have N8 := News.up4 Nz
                  clear Nz
                  refine LCg.CompSrc.ledger rfl Fz N8 (.tail _ (.tail _ (.head _))) (by rw [List.size_toArray, sizeLine_eq]; lia) ?_
                  intro g7
                  refine comp_tab (RowIt (ns.map Int.toNat) false) hps (fun ps acc => Or.inr ⟨_, .tail _ (.tail _ (.head _)), rfl, _, rfl⟩) (by
                    simp only [List.forall_mem_cons]
                    exact ⟨by decide, Ne.symm nR83, nr83, Ne.symm nI2, nk83, Ne.symm n835, Ne.symm n834, nl83, Ne.symm nd3, Ne.symm nd2, na83, nt83, fun _ h => nomatch h⟩) ?_ ?_
                  · intro j v9 I9 oI9 C9 oC9 D9 m9 ys9 ps9 acc9 h9 tk9 E9 hin9 hv9 hps9 hC9 hx9 F9 N9 o83
                    obtain ⟨x1, t9, rfl, hk9⟩ := StrsAre.item hxsR j v9 (by simpa using hv9)
                    obtain ⟨row, hrow, hsx⟩ := row_at hxe hk9
                    have hmem := List.mem_of_getElem? hk9
                    have hok9 := rows_tkok (oct_ok hno) row (List.mem_of_getElem? hrow)
                    have hl27 := hR27 x1 hmem
                    have hro9 := hRok x1 hmem
                    have hrl9 : row.length ≤ 27 := Nat.le_trans (rend_len row) (by rw [← hsx, sg_len]; exact hl27)
                    simp only [List.cons_append, List.nil_append] at N9
                    k_steps
                    unfold Stop
                    rename Fr gd _ _ _ => Fe
                    rename News gd _ _ _ => Ne9
                    have hn83 := Ne9 _ (.head _)
                    refine c_translate (star := false) (all := row) (Cal.mk K' Fe X' T' rfl (by ktr_room) (by ktr_units)) (News.sub Ne9 fun q hq => by rw [List.mem_singleton.mp hq]; exact .head _) CT hps9 (Nat.le_trans hl27 (by decide)) (by rw [hsx]; exact (List.append_nil _).symm) hok9 (Nat.le_trans hrl9 (by decide)) ?_
                    intro z9 y9 tz9 hh9 tkk9 ps9' hXF hsy hyl kp9 h839 hps9'
                    have Ff := Fr.but Fe kp9 hn83.2.2 (Ne.symm hn83.2.1)
                    have Nf : News gd Ld hh9 [(83, tabObj ps9')] := News.put (fun _ h => nomatch h) h839 hn83.2.1 hn83.2.2
                    clear Fe Ne9
                    try dsimp only
                    k_steps
                    unfold Stop
                    rename Fr gd _ _ _ => Fe
                    refine c_items (Cal.mk K' Fe X' T' rfl (by ktr_room) (by ktr_units)) hXF (items_ok (star := false) (by rw [hsx]; exact (List.append_nil _).symm) hro9 hsy) (Nat.le_trans hyl (by decide)) (by rw [hsy]; exact it_row false row hok9) ?_
                    intro r9 h99 tk99 n9 vs9 xs9 hvs9 hxs9 hxo9 hrn9 hrg9 st9
                    exact EltTab.intro kp9 h839 hps9' hrn9 st9 hrg9 ⟨r9, vs9, xs9, n9, row, rfl, rfl, hvs9, hxo9, hrow, hxs9⟩
                  · intro ysW psW accW hlW hpsW hoffW haccW
                    intro DW h tk F1 N1 off1
                    simp only [List.cons_append, List.nil_append] at N1 off1
                    simp only [List.forall_mem_cons] at hoffW
                    try dsimp only
                    k_steps
                    unfold Stop
                    rename Fr gd _ _ _ => Fz
                    rename News gd _ _ _ => Nz
                    refine a14 off1 fun nW83 nW102 nWR nWr nWI nWk nWD4 nWD nWl nWr3 nWr2 nWa nWt zzc13 => ?_
                    clear off1 zzc13
                    have N8 := News.swap Nz
                    clear Nz
                    refine LCg.CompSrc.ledger rfl Fz N8 (.tail _ (.tail _ (.tail _ (.head _)))) (by rw [List.size_toArray, sizeLine_eq]; lia) ?_
                    intro g8
                    refine comp_tab (RowIt (ns.map Int.toNat) true) hpsW (fun ps acc => Or.inr ⟨_, .tail _ (.tail _ (.tail _ (.head _))), rfl, _, rfl⟩) (by
                      simp only [List.forall_mem_cons]
                      exact ⟨Ne.symm nW83, by decide, Ne.symm nR83, nr83, Ne.symm nI2, nk83, Ne.symm n835, Ne.symm n834, nl83, Ne.symm nd3, Ne.symm nd2, na83, nt83, fun q hq => Ne.symm (hoffW q hq).1⟩) ?_ ?_
                    · intro j v9 I9 oI9 C9 oC9 D9 m9 ys9 ps9 acc9 h9 tk9 E9 hin9 hv9 hps9 hC9 hx9 F9 N9 o83
                      obtain ⟨x1, t9, rfl, hk9⟩ := StrsAre.item hxsR j v9 (by simpa using hv9)
                      obtain ⟨row, hrow, hsx⟩ := row_at hxe hk9
                      have hmem := List.mem_of_getElem? hk9
                      have hok9 := rows_tkok (oct_ok hno) row (List.mem_of_getElem? hrow)
                      have hl27 := hR27 x1 hmem
                      have hro9 := hRok x1 hmem
                      have hrl9 : row.length ≤ 27 := Nat.le_trans (rend_len row) (by rw [← hsx, sg_len]; exact hl27)
                      have hst9 : sg (x1 ++ Str.ofString "*") = rend row ++ tailT true := by rw [sg_app, hsx]; rfl
                      simp only [List.cons_append, List.nil_append] at N9
                      k_steps
                      unfold Stop
                      rename Fr gd _ _ _ => Fe
                      rename News gd _ _ _ => Ne9
                      have hn83 := Ne9 _ (.head _)
                      refine c_translate (star := true) (all := row) (Cal.mk K' Fe X' T' rfl (by ktr_room) (by ktr_units)) (News.sub Ne9 fun q hq => by rw [List.mem_singleton.mp hq]; exact .head _) CT hps9 (Nat.le_trans (Nat.le_of_eq (starS_len x1)) (Nat.le_trans (Nat.succ_le_succ hl27) (by decide))) hst9 hok9 (Nat.le_trans hrl9 (by decide)) ?_
                      intro z9 y9 tz9 hh9 tkk9 ps9' hXF hsy hyl kp9 h839 hps9'
                      have Ff := Fr.but Fe kp9 hn83.2.2 (Ne.symm hn83.2.1)
                      have Nf : News gd Ld hh9 [(83, tabObj ps9')] := News.put (fun _ h => nomatch h) h839 hn83.2.1 hn83.2.2
                      clear Fe Ne9
                      try dsimp only
                      k_steps
                      unfold Stop
                      rename Fr gd _ _ _ => Fe
                      refine c_items (Cal.mk K' Fe X' T' rfl (by ktr_room) (by ktr_units)) hXF (items_ok (star := true) hst9 (starS_ok hro9) hsy) (Nat.le_trans hyl (by decide)) (by rw [hsy]; exact it_row true row hok9) ?_
                      intro r9 h99 tk99 n9 vs9 xs9 hvs9 hxs9 hxo9 hrn9 hrg9 st9
                      exact EltTab.intro kp9 h839 hps9' hrn9 st9 hrg9 ⟨r9, vs9, xs9, n9, row, rfl, rfl, hvs9, hxo9, hrow, hxs9⟩
                    · intro ysH psH accH hlH hpsH hoffH haccH
                      intro DH h tk F1 N1 off1
                      simp only [List.cons_append, List.nil_append] at N1 off1
                      simp only [List.forall_mem_cons] at hoffH
                      try dsimp only
                      k_steps
                      rename Fr gd _ _ _ => Fz
                      rename News gd _ _ _ => Nz
                      have hrW : RowsIt (ns.map Int.toNat) false ysW (accW ++ accH) := RowsIt.left haccW
                      have hrH : RowsIt (ns.map Int.toNat) true ysH (accW ++ accH) := RowsIt.right haccH
                      have hka : ∀ q ∈ accW ++ accH, q.1 ≠ Ld + 1 + 1 + 1 := fun q hq => (List.mem_append.mp hq).elim (fun h => Ne.symm (hoffW q h).2.2.2.2.2.1) fun h => Ne.symm (hoffH q h).2.2.2.2.2.2.1
                      generalize accW ++ accH = acc at *
                      clear haccW haccH hoffW hoffH
                      refine a15 off1 fun nH83 nHW nH102 nHR nHr nHI nHk nHD4 nHD nHl nHr3 nHr2 nHa nHt zzc14 => ?_
                      clear off1 zzc14
                      refine none_in (News.isList Nz (.tail _ (.tail _ (.head _)))) Nz (fun q hq => .tail _ (.tail _ (.tail _ (.tail _ (.tail _ (.tail _ (.tail _ (.tail _ (.tail _ (.tail _ (.tail _ (.tail _ (.tail _ (.tail _ (.tail _ hq))))))))))))))) hrW (by first | ktr_units | decide +kernel) ?_
                      try dsimp only
                      k_steps
                      rename News gd _ _ _ => Nz
                      refine none_in (News.isList Nz (.head _)) Nz (fun q hq => .tail _ (.tail _ (.tail _ (.tail _ (.tail _ (.tail _ (.tail _ (.tail _ (.tail _ (.tail _ (.tail _ (.tail _ (.tail _ (.tail _ (.tail _ hq))))))))))))))) hrH (by first | ktr_units | decide +kernel) ?_
                      try dsimp only
                      k_steps
                      unfold Stop
                      refine For_at (fun _ => rfl) ?_
                      k_steps
                      unfold Stop
                      rename Fr gd _ _ _ => Fz
                      rename News gd _ _ _ => Nz
                      rename IsRange _ _ _ _ _ _ _ _ => Rw
                      have N9 := News.forK Nz
                      refine for_k rfl Fz N9 hok' G3 Rw rfl (by with_unfolding_all rfl) (by with_unfolding_all rfl) ?hne ?turn2 ?fin2
                      case hne =>
                        simp only [List.forall_mem_cons]
                        exact ⟨Ne.symm nHk, Ne.symm nk83, Ne.symm nWk, Ne.symm nk102, Ne.symm nI3, Ne.symm nk5, Ne.symm nk4, nlk, Ne.symm na3, Ne.symm na2, nak, ntk, hka⟩
                      case fin2 =>
                        intro s5 o5 vk5 hd5 F5 N5 G5 os5
                        try dsimp only
                        k_steps
                        refine ⟨rfl, G5, os5.trans (os3.trans hos), _, _, F5, News.endK N5, ?_, ?_, psH, qs', o5, vk5, hpsH, hqs', hd5, rfl⟩
                        · simp only [List.forall_mem_cons]
                          exact ⟨nI1, nI2, nI3, nI4, nI5, nI6, nI7, nI8, nI9, nI10, fun _ h => nomatch h⟩
                        · dsimp only
                          iterate 5 rw [if_neg (by decide +kernel)]
                          exact if_pos rfl
                      case turn2 =>
                        clear Nz N9 Rw Fz
                        intro I2 j tj oI2 o2 s6 E2 hj hoff2 hd2 F6 N6
                        change Fr gd Ld _ _ at F6
                        change News gd Ld _ _ at N6
                        have hrows : vsR.length = (rowsT (ns.map Int.toNat)).length := by
                          rw [hRl]
                          have q := congrArg List.length hxe
                          rwa [List.length_map, List.length_map] at q
                        obtain ⟨hus, huj⟩ := told_at hTm (show j < as.length by rw [hAn]; exact hj)
                        have hju : j < us.length := by rw [hus, hAn]; exact hj
                        have huj10 := told_len huj (hAg j)
                        have hj9 : j < 1000 := Nat.lt_trans hj (by decide)
                        have hnml : nm.length ≤ 1000 := by rw [← sg_len, hnm, List.length_map]; lia
                        k_steps
                        unfold Stop
                        rename Fr gd _ _ _ => Fz
                        rename News gd _ _ _ => Nz
                        refine stmt_join Fz Nz ?if1 ?rest1
                        case if1 =>
                          refine wpAny_If ?_
                          k_steps
                          unfold Stop
                          refine LCt.ListComp_T (F₀ := Fz) (by with_unfolding_all rfl) ?c1 (by with_unfolding_all rfl) ?c2 (by with_unfolding_all rfl) ?_
                          case c1 => decide
                          case c2 => decide
                          k_steps
                          unfold Stop
                          refine LCt.CompSrcT.ledger rfl Fz Nz (.tail _ (.tail _ (.tail _ (.tail _ (.head _))))) (by rw [List.size_toArray, sizeLine_eq, hlW, List.size_toArray]; lia) ?_
                          intro g9
                          refine compT_all (fun i => tkF List.isEmpty (((rowsT (ns.map Int.toNat)).getD i []).map Mine.acc) (sg (as.getD j Str.empty))) (fun _ => True) (Or.inr ⟨_, .tail _ (.tail _ (.tail _ (.tail _ (.head _)))), rfl, _, rfl⟩) ?_ ?_ ?_
                          · intro i v9 I9 oI9 C9 oC9 D9 m9 ys9 h9 tk9 E9 hin9 hv9 hC9 hx9 F9 N9 off9
                            obtain ⟨q9, hq9, hr9⟩ := hrW i v9 (by simpa using hv9)
                            obtain ⟨r9, vs9, xs9, n9, row, rfl, rfl, hs9, ho9, hrow, hxs9⟩ := RowIt.whole hr9
                            k_steps
                            unfold Stop
                            refine item_strN (News.isList N9 (.tail _ (.tail _ (.tail _ (.tail _ (.tail _ (.tail _ (.tail _ (.tail _ (.tail _ (.tail _ (.tail _ (.head _))))))))))))) hAs (by rw [hAn]; exact hj) hj9 ?_ (by with_unfolding_all rfl)
                            intro t9
                            try dsimp only
                            k_steps
                            unfold Stop
                            rename Fr gd _ _ _ => Fe
                            rename News gd _ _ _ => Ne9
                            refine c_takes0 (Cal.mk K' Fe X' T' rfl (by ktr_room) (by ktr_units)) (News.isList Ne9 (.tail _ (.tail _ (.tail _ (.tail _ (.tail _ (.tail _ (.tail _ (.tail _ (.tail _ (.tail _ (.tail _ (.tail _ (.tail _ (.tail _ (.tail _ (.tail _ (.tail _ hq9)))))))))))))))))) hs9 (last_ok hxs9 (rows_tkok (oct_ok hno) row (List.mem_of_getElem? hrow))) ho9 ?hlx (Nat.le_trans (hAg j) (by decide)) ?_
                            case hlx =>
                              have e9 := congrArg List.length hxs9
                              rw [List.length_map, List.length_map] at e9
                              rw [e9]
                              exact Nat.le_trans (row_short (by rw [List.length_map]; exact hnl) hrow) (by decide)
                            intro h' tk' st
                            try dsimp only
                            k_steps
                            · have e8 : (rowsT (ns.map Int.toNat)).getD i [] = row := by rw [List.getD_eq_getElem?_getD, hrow]; rfl
                              rw [takes_tk, hxs9, e8]
                            · exact EltEnd.intro st trivial
                          · intro i v9 I9 oI9 C9 oC9 D9 m9 ys9 h9 tk9 E9 hin9 hv9 hq9 hC9 hx9 F9 N9 off9
                            k_steps
                            exact EltEnd.intro (stays_refl _) trivial
                          · intro ysc hlc hac
                            rw [List.size_toArray, hlW, List.size_toArray] at hlc
                            have hcnt := cnt_whole hno hnm huj hrows hlc
                            clear hlc hac
                            have hc1 : ysc.length ≤ 1000 := by rw [hcnt]; split <;> decide
                            intro Dk h tk F1 N1 off1
                            try dsimp only
                            k_steps
                            unfold Stop
                            refine len_items (News.isList N1 (.head _)) rfl hc1 ?_
                            intro t7 k7
                            try dsimp only
                            k_steps
                            unfold Stop
                            refine item_strN (News.isList N1 (.tail _ (.tail _ (.tail _ (.tail _ (.tail _ (.tail _ (.tail _ (.tail _ (.head _)))))))))) hTs hju hj9 ?_ (by with_unfolding_all rfl)
                            intro t6
                            try dsimp only
                            k_steps
                            unfold Stop
                            by_cases hq : us.getD j Str.empty = nm
                            · rw [if_pos hq] at hcnt
                              refine eq_yes hq ?_
                              try dsimp only
                              k_steps
                              unfold Stop
                              refine ne_ints (by rw [hcnt]; rfl) ?_
                              try dsimp only
                              k_steps
                              exact ⟨rfl, _, _, rfl, F1, News.rest N1⟩
                            · rw [if_neg hq] at hcnt
                              refine eq_no hq ?_
                              try dsimp only
                              k_steps
                              unfold Stop
                              refine ne_ints (by rw [hcnt]; rfl) ?_
                              try dsimp only
                              k_steps
                              exact ⟨rfl, _, _, rfl, F1, News.rest N1⟩
                        case rest1 =>
                          intro h7 tk7 F7 N7
                          clear Fz Nz
                          try dsimp only
                          k_steps
                          unfold Stop
                          rename Fr gd _ _ _ => Fz
                          rename News gd _ _ _ => Nz
                          refine stmt_join Fz Nz ?if2 ?rest2
                          case if2 =>
                            refine wpAny_If ?_
                            k_steps
                            unfold Stop
                            refine LCt.ListComp_T (F₀ := Fz) (by with_unfolding_all rfl) ?c1 (by with_unfolding_all rfl) ?c2 (by with_unfolding_all rfl) ?_
                            case c1 => decide
                            case c2 => decide
                            k_steps
                            unfold Stop
                            refine LCt.CompSrcT.ledger rfl Fz Nz (.tail _ (.tail _ (.head _))) (by rw [List.size_toArray, sizeLine_eq, hlH, List.size_toArray]; lia) ?_
                            intro g9
                            refine compT_all (fun i => tkF (fun _ => true) (((rowsT (ns.map Int.toNat)).getD i []).map Mine.acc) (sg (as.getD j Str.empty))) (fun _ => True) (Or.inr ⟨_, .tail _ (.tail _ (.head _)), rfl, _, rfl⟩) ?_ ?_ ?_
                            · intro i v9 I9 oI9 C9 oC9 D9 m9 ys9 h9 tk9 E9 hin9 hv9 hC9 hx9 F9 N9 off9
                              obtain ⟨q9, hq9, hr9⟩ := hrH i v9 (by simpa using hv9)
                              obtain ⟨r9, vs9, xs9, n9, row, rfl, rfl, hs9, ho9, hrow, hxs9⟩ := RowIt.heads hr9
                              k_steps
                              unfold Stop
                              refine item_strN (News.isList N9 (.tail _ (.tail _ (.tail _ (.tail _ (.tail _ (.tail _ (.tail _ (.tail _ (.tail _ (.tail _ (.tail _ (.head _))))))))))))) hAs (by rw [hAn]; exact hj) hj9 ?_ (by with_unfolding_all rfl)
                              intro t9
                              try dsimp only
                              k_steps
                              unfold Stop
                              rename Fr gd _ _ _ => Fe
                              rename News gd _ _ _ => Ne9
                              refine c_takes1 (Cal.mk K' Fe X' T' rfl (by ktr_room) (by ktr_units)) (News.isList Ne9 (.tail _ (.tail _ (.tail _ (.tail _ (.tail _ (.tail _ (.tail _ (.tail _ (.tail _ (.tail _ (.tail _ (.tail _ (.tail _ (.tail _ (.tail _ (.tail _ (.tail _ hq9)))))))))))))))))) hs9 ho9 ?hlx (Nat.le_trans (hAg j) (by decide)) ?_
                              case hlx =>
                                have e9 := congrArg List.length hxs9
                                rw [List.length_map, List.length_map] at e9
                                rw [e9]
                                exact Nat.le_trans (row_short (by rw [List.length_map]; exact hnl) hrow) (by decide)
                              intro h' tk' st
                              try dsimp only
                              k_steps
                              · have e8 : (rowsT (ns.map Int.toNat)).getD i [] = row := by rw [List.getD_eq_getElem?_getD, hrow]; rfl
                                rw [takes_tk1, hxs9, e8]
                              · exact EltEnd.intro st trivial
                            · intro i v9 I9 oI9 C9 oC9 D9 m9 ys9 h9 tk9 E9 hin9 hv9 hq9 hC9 hx9 F9 N9 off9
                              k_steps
                              exact EltEnd.intro (stays_refl _) trivial
                            · intro ysc hlc hac
                              rw [List.size_toArray, hlH, List.size_toArray] at hlc
                              have hcnt := cnt_heads hno hnm huj hrows hlc
                              clear hlc hac
                              have hc1 : ysc.length ≤ 1000 := by rw [hcnt]; split <;> decide
                              intro Dk h tk F1 N1 off1
                              try dsimp only
                              k_steps
                              unfold Stop
                              refine len_items (News.isList N1 (.head _)) rfl hc1 ?_
                              intro t7 k7
                              try dsimp only
                              k_steps
                              unfold Stop
                              refine item_strN (News.isList N1 (.tail _ (.tail _ (.tail _ (.tail _ (.tail _ (.tail _ (.tail _ (.tail _ (.head _)))))))))) hTs hju hj9 ?_ (by with_unfolding_all rfl)
                              intro t6
                              try dsimp only
                              k_steps
                              unfold Stop
                              refine len_text hnml ?_
                              intro t5 k5
                              try dsimp only
                              k_steps
                              unfold Stop
                              rename Fr gd _ _ _ => Fw
                              rename News gd _ _ _ => Nw
                              by_cases hq : Txt.slice (us.getD j Str.empty) none (some (nm.length : Int)) = nm
                              · rw [if_pos hq] at hcnt
                                refine eq_yes hq ?_
                                try dsimp only
                                k_steps
                                unfold Stop
                                refine ne_ints (by rw [hcnt]; rfl) ?_
                                try dsimp only
                                k_steps
                                exact ⟨rfl, _, _, rfl, Fw, News.rest Nw⟩
                              · rw [if_neg hq] at hcnt
                                refine eq_no hq ?_
                                try dsimp only
                                k_steps
                                unfold Stop
                                refine ne_ints (by rw [hcnt]; rfl) ?_
                                try dsimp only
                                k_steps
                                exact ⟨rfl, _, _, rfl, Fw, News.rest Nw⟩
                          case rest2 =>
                            intro h8 tk8 F8 N8
                            clear Fz Nz
                            try dsimp only
                            k_steps
                            exact ⟨rfl, _, _, rfl, F8, N8⟩
end
end Mine
end

end
theorem PySem.Challenge.cw_ku0012_01_holds : PySem.Challenge.rw_ku0012_01.Holds := by
  exact Mine.top_go
