import PyProof.Rows.All
import Wide.All
import OpenK.AllK
import Wide.FinOn
import PySem.Challenge.RW_mr0358_01
open PySem PySem.W PyProof.Rows PySem.Calls
set_option Elab.async false
set_option maxRecDepth 100000
set_option maxHeartbeats 8000000
set_option linter.all false
namespace Mine
theorem left_whole {p q : Program} {loose : List Str} {Xt : Shared → Bool} {α : Type} {Yf : Shared → α} {Ya : World → α} {N : Nat} {g0 : Bool} {H₀ : Params → Heap} {gs₀ : Array GenState} {d₀ : Drawn} {k₀ : Nat} {m₀ : Nat} {ann : Option Value} {M : Nat}
    (open_ : ∀ w : World, (fencedOpening treeTable p w N).map (fun s => (s.heap, s.gens, s.drawn, s.toks)) = some (H₀ w.params, gs₀, d₀, k₀))
    (size : ∀ w : World, ((H₀ w.params).isNs mainGlobals && gs₀.size == 0, (H₀ w.params).objs.size, (H₀ w.params).nsMap mainGlobals "__annotations__") = (true, m₀, ann))
    (h : ∀ (w : World) (os : OsState), (topRun treeTable p w m₀ ann M ⟨H₀ w.params, gs₀, d₀, k₀, os⟩ (topStub p)).map (fun s => (staticsOk (importedModules p.main.body) (H₀ w.params) s.heap && namesBound p s.heap && gensDone s && laidKept (H₀ w.params) s.heap, openSeen q loose (importedModules p.main.body) Xt g0 s, Yf s)) = some (true, openGood q loose, Ya w))
    (le : Nat.ble M N = true) : LeftO p q loose Xt Yf Ya N g0 := fun w => by
  obtain ⟨⟨hp, gs, d, k, os⟩, e, e'⟩ := Option.map_eq_some_iff.mp (open_ w)
  obtain ⟨rfl, rfl, rfl, rfl⟩ : hp = H₀ w.params ∧ gs = gs₀ ∧ d = d₀ ∧ k = k₀ := by simpa using e'
  obtain ⟨z1, z2, z3⟩ : _ ∧ _ ∧ _ := by simpa only [Prod.mk.injEq] using size w
  obtain ⟨s₁, run, looks⟩ := Option.map_eq_some_iff.mp (h w os)
  obtain ⟨l1, l2, l3⟩ : _ ∧ _ ∧ _ := by simpa only [Prod.mk.injEq] using looks
  have r := topRun_mono (N - M) _ _ _ _ run
  rw [show M + (N - M) = N by have := Nat.le_of_ble_eq_true le; omega] at r
  have t : topFrom treeTable p w N ⟨H₀ w.params, gs, d, k, os⟩ = some s₁ := by
    unfold topFrom
    dsimp only
    rw [z1, z2, z3, r]
    show (match staticsOk (importedModules p.main.body) (H₀ w.params) s₁.heap && namesBound p s₁.heap && gensDone s₁ && laidKept (H₀ w.params) s₁.heap with | true => _ | false => _) = _
    rw [l1]
  unfold openEnds
  rw [e]
  show (topFrom treeTable p w N _).map _ = _
  rw [t]
  exact congrArg some (Prod.ext l2 l3)
theorem top_of_run {p : Program} {w : World} {n₀ : Nat} {ann : Option Value} {env : Env} {q pos pos1 : Pos} {bd : List Stmt} {cE : Code} {a b n c : Nat} {s sa : Shared} {T : SharedT} {β : Type} {looks : Shared → β} {R : β}
    (hc : cE = .body bd env)
    (pre : topGo treeTable p w n₀ ann a s (topStub p) = some (sa, ⟨denote treeTable cE, cE, pos, [topFrame q]⟩))
    (block : segRun treeTable p w n₀ ann 1 b sa (blockOf bd env cE pos [topFrame q]) = some (.next, T.abs, cE, pos))
    (run : (segRunT treeTable p w n₀ ann 1 n T (piecesOf bd env cE pos [topFrame q])).map (fun x => (x.1, x.2.2, (topRun treeTable p w n₀ ann c x.2.1.abs ⟨doneF .next, cE, pos1, [topFrame q]⟩).map looks)) = some (.next, (cE, pos1), some R)) :
    (topRun treeTable p w n₀ ann (a + (b + (n + c))) s (topStub p)).map looks = some R := by
  obtain ⟨⟨f, sT, c', p'⟩, h1, h2⟩ := Option.map_eq_some_iff.mp run
  simp only [Prod.mk.injEq] at h2
  obtain ⟨rfl, ⟨rfl, rfl⟩, h3⟩ := h2
  obtain ⟨r, h4, h5⟩ := Option.map_eq_some_iff.mp h3
  have h6 := segRun_of h1
  have h7 := piece_app (rest := []) h6 (piece_nil (env := env) h4)
  rw [List.append_nil] at h7
  have h8 := piece_block block h7
  have h9 : topRun treeTable p w n₀ ann (a + (b + (n + c))) s (topStub p) = some r := go_top pre (by rw [hc] at h8 ⊢; exact h8)
  rw [h9]
  exact congrArg some h5
abbrev pw : Program := PySem.Challenge.pw_mr0358_01
def w0 (P : Params) : World := ⟨fun _ _ => 0, P⟩
/-- the heap that the opening leaves -/
noncomputable def H0 (P : Params) : Heap := { objs := List.toArray (
  ({ cls := Value.type "dict",   data :=     Data.dict       #[{ hash := PyData.keyHash P (Str.ofString "__name__"), key := Value.str (Str.ofString "__name__") 1,           val := Value.str (Str.ofString "builtins") 160 },         { hash := PyData.keyHash P (Str.ofString "__doc__"), key := Value.str (Str.ofString "__doc__") 2,           val := Value.builtin "builtins.__doc__:str#opaque" },         { hash := PyData.keyHash P (Str.ofString "__package__"), key := Value.str (Str.ofString "__package__") 3,           val := Value.builtin "builtins.__package__:str#opaque" },         { hash := PyData.keyHash P (Str.ofString "__loader__"), key := Value.str (Str.ofString "__loader__") 4,           val := Value.builtin "builtins.__loader__:shared#opaque" },         { hash := PyData.keyHash P (Str.ofString "__spec__"), key := Value.str (Str.ofString "__spec__") 5,           val := Value.builtin "builtins.__spec__#opaque" },         { hash := PyData.keyHash P (Str.ofString "__build_class__"),           key := Value.str (Str.ofString "__build_class__") 6, val := Value.builtin "__build_class__" },         { hash := PyData.keyHash P (Str.ofString "__import__"), key := Value.str (Str.ofString "__import__") 7,           val := Value.builtin "__import__" },         { hash := PyData.keyHash P (Str.ofString "abs"), key := Value.str (Str.ofString "abs") 8,           val := Value.builtin "abs" },         { hash := PyData.keyHash P (Str.ofString "all"), key := Value.str (Str.ofString "all") 9,           val := Value.builtin "all" },         { hash := PyData.keyHash P (Str.ofString "any"), key := Value.str (Str.ofString "any") 10,           val := Value.builtin "any" },         { hash := PyData.keyHash P (Str.ofString "ascii"), key := Value.str (Str.ofString "ascii") 11,           val := Value.builtin "ascii" },         { hash := PyData.keyHash P (Str.ofString "bin"), key := Value.str (Str.ofString "bin") 12,           val := Value.builtin "bin" },         { hash := PyData.keyHash P (Str.ofString "breakpoint"), key := Value.str (Str.ofString "breakpoint") 13,           val := Value.builtin "breakpoint" },         { hash := PyData.keyHash P (Str.ofString "callable"), key := Value.str (Str.ofString "callable") 14,           val := Value.builtin "callable" },         { hash := PyData.keyHash P (Str.ofString "chr"), key := Value.str (Str.ofString "chr") 15,           val := Value.builtin "chr" },         { hash := PyData.keyHash P (Str.ofString "compile"), key := Value.str (Str.ofString "compile") 16,           val := Value.builtin "compile" },         { hash := PyData.keyHash P (Str.ofString "delattr"), key := Value.str (Str.ofString "delattr") 17,           val := Value.builtin "delattr" },         { hash := PyData.keyHash P (Str.ofString "dir"), key := Value.str (Str.ofString "dir") 18,           val := Value.builtin "dir" },         { hash := PyData.keyHash P (Str.ofString "divmod"), key := Value.str (Str.ofString "divmod") 19,           val := Value.builtin "divmod" },         { hash := PyData.keyHash P (Str.ofString "eval"), key := Value.str (Str.ofString "eval") 20,           val := Value.builtin "eval" },         { hash := PyData.keyHash P (Str.ofString "exec"), key := Value.str (Str.ofString "exec") 21,           val := Value.builtin "exec" },         { hash := PyData.keyHash P (Str.ofString "format"), key := Value.str (Str.ofString "format") 22,           val := Value.builtin "format" },         { hash := PyData.keyHash P (Str.ofString "getattr"), key := Value.str (Str.ofString "getattr") 23,           val := Value.builtin "getattr" },         { hash := PyData.keyHash P (Str.ofString "globals"), key := Value.str (Str.ofString "globals") 24,           val := Value.builtin "globals" },         { hash := PyData.keyHash P (Str.ofString "hasattr"), key := Value.str (Str.ofString "hasattr") 25,           val := Value.builtin "hasattr" },         { hash := PyData.keyHash P (Str.ofString "hash"), key := Value.str (Str.ofString "hash") 26,           val := Value.builtin "hash" },         { hash := PyData.keyHash P (Str.ofString "hex"), key := Value.str (Str.ofString "hex") 27,           val := Value.builtin "hex" },         { hash := PyData.keyHash P (Str.ofString "id"), key := Value.str (Str.ofString "id") 28,           val := Value.builtin "id" },         { hash := PyData.keyHash P (Str.ofString "input"), key := Value.str (Str.ofString "input") 29,           val := Value.builtin "input" },         { hash := PyData.keyHash P (Str.ofString "isinstance"), key := Value.str (Str.ofString "isinstance") 30,           val := Value.builtin "isinstance" },         { hash := PyData.keyHash P (Str.ofString "issubclass"), key := Value.str (Str.ofString "issubclass") 31,           val := Value.builtin "issubclass" },         { hash := PyData.keyHash P (Str.ofString "iter"), key := Value.str (Str.ofString "iter") 32,           val := Value.builtin "iter" },         { hash := PyData.keyHash P (Str.ofString "aiter"), key := Value.str (Str.ofString "aiter") 33,           val := Value.builtin "aiter" },         { hash := PyData.keyHash P (Str.ofString "len"), key := Value.str (Str.ofString "len") 34,           val := Value.builtin "len" },         { hash := PyData.keyHash P (Str.ofString "locals"), key := Value.str (Str.ofString "locals") 35,           val := Value.builtin "locals" },         { hash := PyData.keyHash P (Str.ofString "max"), key := Value.str (Str.ofString "max") 36,           val := Value.builtin "max" },         { hash := PyData.keyHash P (Str.ofString "min"), key := Value.str (Str.ofString "min") 37,           val := Value.builtin "min" },         { hash := PyData.keyHash P (Str.ofString "next"), key := Value.str (Str.ofString "next") 38,           val := Value.builtin "next" },         { hash := PyData.keyHash P (Str.ofString "anext"), key := Value.str (Str.ofString "anext") 39,           val := Value.builtin "anext" },         { hash := PyData.keyHash P (Str.ofString "oct"), key := Value.str (Str.ofString "oct") 40,           val := Value.builtin "oct" },         { hash := PyData.keyHash P (Str.ofString "ord"), key := Value.str (Str.ofString "ord") 41,           val := Value.builtin "ord" },         { hash := PyData.keyHash P (Str.ofString "pow"), key := Value.str (Str.ofString "pow") 42,           val := Value.builtin "pow" },         { hash := PyData.keyHash P (Str.ofString "print"), key := Value.str (Str.ofString "print") 43,           val := Value.builtin "print" },         { hash := PyData.keyHash P (Str.ofString "repr"), key := Value.str (Str.ofString "repr") 44,           val := Value.builtin "repr" },         { hash := PyData.keyHash P (Str.ofString "round"), key := Value.str (Str.ofString "round") 45,           val := Value.builtin "round" },         { hash := PyData.keyHash P (Str.ofString "setattr"), key := Value.str (Str.ofString "setattr") 46,           val := Value.builtin "setattr" },         { hash := PyData.keyHash P (Str.ofString "sorted"), key := Value.str (Str.ofString "sorted") 47,           val := Value.builtin "sorted" },         { hash := PyData.keyHash P (Str.ofString "sum"), key := Value.str (Str.ofString "sum") 48,           val := Value.builtin "sum" },         { hash := PyData.keyHash P (Str.ofString "vars"), key := Value.str (Str.ofString "vars") 49,           val := Value.builtin "vars" },         { hash := PyData.keyHash P (Str.ofString "None"), key := Value.str (Str.ofString "None") 50,           val := Value.none },         { hash := PyData.keyHash P (Str.ofString "Ellipsis"), key := Value.str (Str.ofString "Ellipsis") 51,           val := Value.ellipsis },         { hash := PyData.keyHash P (Str.ofString "NotImplemented"), key := Value.str (Str.ofString "NotImplemented") 52,           val := Value.notImplemented },         { hash := PyData.keyHash P (Str.ofString "False"), key := Value.str (Str.ofString "False") 53,           val := Value.bool false },         { hash := PyData.keyHash P (Str.ofString "True"), key := Value.str (Str.ofString "True") 54,           val := Value.bool true },         { hash := PyData.keyHash P (Str.ofString "bool"), key := Value.str (Str.ofString "bool") 55,           val := Value.type "bool" },         { hash := PyData.keyHash P (Str.ofString "memoryview"), key := Value.str (Str.ofString "memoryview") 56,           val := Value.type "memoryview" },         { hash := PyData.keyHash P (Str.ofString "bytearray"), key := Value.str (Str.ofString "bytearray") 57,           val := Value.type "bytearray" },         { hash := PyData.keyHash P (Str.ofString "bytes"), key := Value.str (Str.ofString "bytes") 58,           val := Value.type "bytes" },         { hash := PyData.keyHash P (Str.ofString "classmethod"), key := Value.str (Str.ofString "classmethod") 59,           val := Value.type "classmethod" },         { hash := PyData.keyHash P (Str.ofString "complex"), key := Value.str (Str.ofString "complex") 60,           val := Value.type "complex" },         { hash := PyData.keyHash P (Str.ofString "dict"), key := Value.str (Str.ofString "dict") 61,           val := Value.type "dict" },         { hash := PyData.keyHash P (Str.ofString "enumerate"), key := Value.str (Str.ofString "enumerate") 62,           val := Value.type "enumerate" },         { hash := PyData.keyHash P (Str.ofString "filter"), key := Value.str (Str.ofString "filter") 63,           val := Value.type "filter" },         { hash := PyData.keyHash P (Str.ofString "float"), key := Value.str (Str.ofString "float") 64,           val := Value.type "float" },         { hash := PyData.keyHash P (Str.ofString "frozenset"), key := Value.str (Str.ofString "frozenset") 65,           val := Value.type "frozenset" },         { hash := PyData.keyHash P (Str.ofString "property"), key := Value.str (Str.ofString "property") 66,           val := Value.type "property" },         { hash := PyData.keyHash P (Str.ofString "int"), key := Value.str (Str.ofString "int") 67,           val := Value.type "int" },         { hash := PyData.keyHash P (Str.ofString "list"), key := Value.str (Str.ofString "list") 68,           val := Value.type "list" },         { hash := PyData.keyHash P (Str.ofString "map"), key := Value.str (Str.ofString "map") 69,           val := Value.type "map" },         { hash := PyData.keyHash P (Str.ofString "object"), key := Value.str (Str.ofString "object") 70,           val := Value.type "object" },         { hash := PyData.keyHash P (Str.ofString "range"), key := Value.str (Str.ofString "range") 71,           val := Value.type "range" },         { hash := PyData.keyHash P (Str.ofString "reversed"), key := Value.str (Str.ofString "reversed") 72,           val := Value.type "reversed" },         { hash := PyData.keyHash P (Str.ofString "set"), key := Value.str (Str.ofString "set") 73,           val := Value.type "set" },         { hash := PyData.keyHash P (Str.ofString "slice"), key := Value.str (Str.ofString "slice") 74,           val := Value.type "slice" },         { hash := PyData.keyHash P (Str.ofString "staticmethod"), key := Value.str (Str.ofString "staticmethod") 75,           val := Value.type "staticmethod" },         { hash := PyData.keyHash P (Str.ofString "str"), key := Value.str (Str.ofString "str") 76,           val := Value.type "str" },         { hash := PyData.keyHash P (Str.ofString "super"), key := Value.str (Str.ofString "super") 77,           val := Value.type "super" },         { hash := PyData.keyHash P (Str.ofString "tuple"), key := Value.str (Str.ofString "tuple") 78,           val := Value.type "tuple" },         { hash := PyData.keyHash P (Str.ofString "type"), key := Value.str (Str.ofString "type") 79,           val := Value.type "type" },         { hash := PyData.keyHash P (Str.ofString "zip"), key := Value.str (Str.ofString "zip") 80,           val := Value.type "zip" },         { hash := PyData.keyHash P (Str.ofString "__debug__"), key := Value.str (Str.ofString "__debug__") 81,           val := Value.bool true },         { hash := PyData.keyHash P (Str.ofString "BaseException"), key := Value.str (Str.ofString "BaseException") 82,           val := Value.type "BaseException" },         { hash := PyData.keyHash P (Str.ofString "BaseExceptionGroup"),           key := Value.str (Str.ofString "BaseExceptionGroup") 83, val := Value.type "BaseExceptionGroup" },         { hash := PyData.keyHash P (Str.ofString "Exception"), key := Value.str (Str.ofString "Exception") 84,           val := Value.type "Exception" },         { hash := PyData.keyHash P (Str.ofString "GeneratorExit"), key := Value.str (Str.ofString "GeneratorExit") 85,           val := Value.type "GeneratorExit" },         { hash := PyData.keyHash P (Str.ofString "KeyboardInterrupt"),           key := Value.str (Str.ofString "KeyboardInterrupt") 86, val := Value.type "KeyboardInterrupt" },         { hash := PyData.keyHash P (Str.ofString "SystemExit"), key := Value.str (Str.ofString "SystemExit") 87,           val := Value.type "SystemExit" },         { hash := PyData.keyHash P (Str.ofString "ArithmeticError"),           key := Value.str (Str.ofString "ArithmeticError") 88, val := Value.type "ArithmeticError" },         { hash := PyData.keyHash P (Str.ofString "AssertionError"), key := Value.str (Str.ofString "AssertionError") 89,           val := Value.type "AssertionError" },         { hash := PyData.keyHash P (Str.ofString "AttributeError"), key := Value.str (Str.ofString "AttributeError") 90,           val := Value.type "AttributeError" },         { hash := PyData.keyHash P (Str.ofString "BufferError"), key := Value.str (Str.ofString "BufferError") 91,           val := Value.type "BufferError" },         { hash := PyData.keyHash P (Str.ofString "EOFError"), key := Value.str (Str.ofString "EOFError") 92,           val := Value.type "EOFError" },         { hash := PyData.keyHash P (Str.ofString "ImportError"), key := Value.str (Str.ofString "ImportError") 93,           val := Value.type "ImportError" },         { hash := PyData.keyHash P (Str.ofString "LookupError"), key := Value.str (Str.ofString "LookupError") 94,           val := Value.type "LookupError" },         { hash := PyData.keyHash P (Str.ofString "MemoryError"), key := Value.str (Str.ofString "MemoryError") 95,           val := Value.type "MemoryError" },         { hash := PyData.keyHash P (Str.ofString "NameError"), key := Value.str (Str.ofString "NameError") 96,           val := Value.type "NameError" },         { hash := PyData.keyHash P (Str.ofString "OSError"), key := Value.str (Str.ofString "OSError") 97,           val := Value.type "OSError" },         { hash := PyData.keyHash P (Str.ofString "ReferenceError"), key := Value.str (Str.ofString "ReferenceError") 98,           val := Value.type "ReferenceError" },         { hash := PyData.keyHash P (Str.ofString "RuntimeError"), key := Value.str (Str.ofString "RuntimeError") 99,           val := Value.type "RuntimeError" },         { hash := PyData.keyHash P (Str.ofString "StopAsyncIteration"),           key := Value.str (Str.ofString "StopAsyncIteration") 100, val := Value.type "StopAsyncIteration" },         { hash := PyData.keyHash P (Str.ofString "StopIteration"), key := Value.str (Str.ofString "StopIteration") 101,           val := Value.type "StopIteration" },         { hash := PyData.keyHash P (Str.ofString "SyntaxError"), key := Value.str (Str.ofString "SyntaxError") 102,           val := Value.type "SyntaxError" },         { hash := PyData.keyHash P (Str.ofString "SystemError"), key := Value.str (Str.ofString "SystemError") 103,           val := Value.type "SystemError" },         { hash := PyData.keyHash P (Str.ofString "TypeError"), key := Value.str (Str.ofString "TypeError") 104,           val := Value.type "TypeError" },         { hash := PyData.keyHash P (Str.ofString "ValueError"), key := Value.str (Str.ofString "ValueError") 105,           val := Value.type "ValueError" },         { hash := PyData.keyHash P (Str.ofString "Warning"), key := Value.str (Str.ofString "Warning") 106,           val := Value.type "Warning" },         { hash := PyData.keyHash P (Str.ofString "FloatingPointError"),           key := Value.str (Str.ofString "FloatingPointError") 107, val := Value.type "FloatingPointError" },         { hash := PyData.keyHash P (Str.ofString "OverflowError"), key := Value.str (Str.ofString "OverflowError") 108,           val := Value.type "OverflowError" },         { hash := PyData.keyHash P (Str.ofString "ZeroDivisionError"),           key := Value.str (Str.ofString "ZeroDivisionError") 109, val := Value.type "ZeroDivisionError" },         { hash := PyData.keyHash P (Str.ofString "BytesWarning"), key := Value.str (Str.ofString "BytesWarning") 110,           val := Value.type "BytesWarning" },         { hash := PyData.keyHash P (Str.ofString "DeprecationWarning"),           key := Value.str (Str.ofString "DeprecationWarning") 111, val := Value.type "DeprecationWarning" },         { hash := PyData.keyHash P (Str.ofString "EncodingWarning"),           key := Value.str (Str.ofString "EncodingWarning") 112, val := Value.type "EncodingWarning" },         { hash := PyData.keyHash P (Str.ofString "FutureWarning"), key := Value.str (Str.ofString "FutureWarning") 113,           val := Value.type "FutureWarning" },         { hash := PyData.keyHash P (Str.ofString "ImportWarning"), key := Value.str (Str.ofString "ImportWarning") 114,           val := Value.type "ImportWarning" },         { hash := PyData.keyHash P (Str.ofString "PendingDeprecationWarning"),           key := Value.str (Str.ofString "PendingDeprecationWarning") 115,           val := Value.type "PendingDeprecationWarning" },         { hash := PyData.keyHash P (Str.ofString "ResourceWarning"),           key := Value.str (Str.ofString "ResourceWarning") 116, val := Value.type "ResourceWarning" },         { hash := PyData.keyHash P (Str.ofString "RuntimeWarning"),           key := Value.str (Str.ofString "RuntimeWarning") 117, val := Value.type "RuntimeWarning" },         { hash := PyData.keyHash P (Str.ofString "SyntaxWarning"), key := Value.str (Str.ofString "SyntaxWarning") 118,           val := Value.type "SyntaxWarning" },         { hash := PyData.keyHash P (Str.ofString "UnicodeWarning"),           key := Value.str (Str.ofString "UnicodeWarning") 119, val := Value.type "UnicodeWarning" },         { hash := PyData.keyHash P (Str.ofString "UserWarning"), key := Value.str (Str.ofString "UserWarning") 120,           val := Value.type "UserWarning" },         { hash := PyData.keyHash P (Str.ofString "BlockingIOError"),           key := Value.str (Str.ofString "BlockingIOError") 121, val := Value.type "BlockingIOError" },         { hash := PyData.keyHash P (Str.ofString "ChildProcessError"),           key := Value.str (Str.ofString "ChildProcessError") 122, val := Value.type "ChildProcessError" },         { hash := PyData.keyHash P (Str.ofString "ConnectionError"),           key := Value.str (Str.ofString "ConnectionError") 123, val := Value.type "ConnectionError" },         { hash := PyData.keyHash P (Str.ofString "FileExistsError"),           key := Value.str (Str.ofString "FileExistsError") 124, val := Value.type "FileExistsError" },         { hash := PyData.keyHash P (Str.ofString "FileNotFoundError"),           key := Value.str (Str.ofString "FileNotFoundError") 125, val := Value.type "FileNotFoundError" },         { hash := PyData.keyHash P (Str.ofString "InterruptedError"),           key := Value.str (Str.ofString "InterruptedError") 126, val := Value.type "InterruptedError" },         { hash := PyData.keyHash P (Str.ofString "IsADirectoryError"),           key := Value.str (Str.ofString "IsADirectoryError") 127, val := Value.type "IsADirectoryError" },         { hash := PyData.keyHash P (Str.ofString "NotADirectoryError"),           key := Value.str (Str.ofString "NotADirectoryError") 128, val := Value.type "NotADirectoryError" },         { hash := PyData.keyHash P (Str.ofString "PermissionError"),           key := Value.str (Str.ofString "PermissionError") 129, val := Value.type "PermissionError" },         { hash := PyData.keyHash P (Str.ofString "ProcessLookupError"),           key := Value.str (Str.ofString "ProcessLookupError") 130, val := Value.type "ProcessLookupError" },         { hash := PyData.keyHash P (Str.ofString "TimeoutError"), key := Value.str (Str.ofString "TimeoutError") 131,           val := Value.type "TimeoutError" },         { hash := PyData.keyHash P (Str.ofString "IndentationError"),           key := Value.str (Str.ofString "IndentationError") 132, val := Value.type "IndentationError" },         { hash := PyData.keyHash P (Str.ofString "_IncompleteInputError"),           key := Value.str (Str.ofString "_IncompleteInputError") 133, val := Value.type "_IncompleteInputError" },         { hash := PyData.keyHash P (Str.ofString "IndexError"), key := Value.str (Str.ofString "IndexError") 134,           val := Value.type "IndexError" },         { hash := PyData.keyHash P (Str.ofString "KeyError"), key := Value.str (Str.ofString "KeyError") 135,           val := Value.type "KeyError" },         { hash := PyData.keyHash P (Str.ofString "ModuleNotFoundError"),           key := Value.str (Str.ofString "ModuleNotFoundError") 136, val := Value.type "ModuleNotFoundError" },         { hash := PyData.keyHash P (Str.ofString "NotImplementedError"),           key := Value.str (Str.ofString "NotImplementedError") 137, val := Value.type "NotImplementedError" },         { hash := PyData.keyHash P (Str.ofString "PythonFinalizationError"),           key := Value.str (Str.ofString "PythonFinalizationError") 138, val := Value.type "PythonFinalizationError" },         { hash := PyData.keyHash P (Str.ofString "RecursionError"),           key := Value.str (Str.ofString "RecursionError") 139, val := Value.type "RecursionError" },         { hash := PyData.keyHash P (Str.ofString "UnboundLocalError"),           key := Value.str (Str.ofString "UnboundLocalError") 140, val := Value.type "UnboundLocalError" },         { hash := PyData.keyHash P (Str.ofString "UnicodeError"), key := Value.str (Str.ofString "UnicodeError") 141,           val := Value.type "UnicodeError" },         { hash := PyData.keyHash P (Str.ofString "BrokenPipeError"),           key := Value.str (Str.ofString "BrokenPipeError") 142, val := Value.type "BrokenPipeError" },         { hash := PyData.keyHash P (Str.ofString "ConnectionAbortedError"),           key := Value.str (Str.ofString "ConnectionAbortedError") 143, val := Value.type "ConnectionAbortedError" },         { hash := PyData.keyHash P (Str.ofString "ConnectionRefusedError"),           key := Value.str (Str.ofString "ConnectionRefusedError") 144, val := Value.type "ConnectionRefusedError" },         { hash := PyData.keyHash P (Str.ofString "ConnectionResetError"),           key := Value.str (Str.ofString "ConnectionResetError") 145, val := Value.type "ConnectionResetError" },         { hash := PyData.keyHash P (Str.ofString "TabError"), key := Value.str (Str.ofString "TabError") 146,           val := Value.type "TabError" },         { hash := PyData.keyHash P (Str.ofString "UnicodeDecodeError"),           key := Value.str (Str.ofString "UnicodeDecodeError") 147, val := Value.type "UnicodeDecodeError" },         { hash := PyData.keyHash P (Str.ofString "UnicodeEncodeError"),           key := Value.str (Str.ofString "UnicodeEncodeError") 148, val := Value.type "UnicodeEncodeError" },         { hash := PyData.keyHash P (Str.ofString "UnicodeTranslateError"),           key := Value.str (Str.ofString "UnicodeTranslateError") 149, val := Value.type "UnicodeTranslateError" },         { hash := PyData.keyHash P (Str.ofString "ExceptionGroup"),           key := Value.str (Str.ofString "ExceptionGroup") 150, val := Value.type "ExceptionGroup" },         { hash := PyData.keyHash P (Str.ofString "EnvironmentError"),           key := Value.str (Str.ofString "EnvironmentError") 151, val := Value.type "OSError" },         { hash := PyData.keyHash P (Str.ofString "IOError"), key := Value.str (Str.ofString "IOError") 152,           val := Value.type "OSError" },         { hash := PyData.keyHash P (Str.ofString "open"), key := Value.str (Str.ofString "open") 153,           val := Value.builtin "open" },         { hash := PyData.keyHash P (Str.ofString "quit"), key := Value.str (Str.ofString "quit") 154,           val := Value.builtin "builtins.quit#opaque" },         { hash := PyData.keyHash P (Str.ofString "exit"), key := Value.str (Str.ofString "exit") 155,           val := Value.builtin "builtins.exit#opaque" },         { hash := PyData.keyHash P (Str.ofString "copyright"), key := Value.str (Str.ofString "copyright") 156,           val := Value.builtin "builtins.copyright#opaque" },         { hash := PyData.keyHash P (Str.ofString "credits"), key := Value.str (Str.ofString "credits") 157,           val := Value.builtin "builtins.credits#opaque" },         { hash := PyData.keyHash P (Str.ofString "license"), key := Value.str (Str.ofString "license") 158,           val := Value.builtin "builtins.license#opaque" },         { hash := PyData.keyHash P (Str.ofString "help"), key := Value.str (Str.ofString "help") 159,           val := Value.builtin "builtins.help#opaque" }]       159 } : Obj) ::
  ({ cls := Value.type "dict",   data :=     Data.dict       #[{ hash := PyData.keyHash P (Str.ofString "builtins"), key := Value.str (Str.ofString "builtins") 162,           val := Value.ref 4 },         { hash := PyData.keyHash P (Str.ofString "__main__"), key := Value.str (Str.ofString "__main__") 163,           val := Value.ref 5 },         { hash := PyData.keyHash P (Str.ofString "_collections"), key := Value.str (Str.ofString "_collections") 246,           val := Value.ref 13 }]       3 } : Obj) ::
  ({ cls := Value.none,   data :=     Data.dict       #[{ hash := PyData.keyHash P (Str.ofString "\x69mport.loaded._collections"),           key := Value.str (Str.ofString "\x69mport.loaded._collections") 185, val := Value.bool true },         { hash := PyData.keyHash P (Str.ofString "class._frozen_importlib.BuiltinImporter"),           key := Value.str (Str.ofString "class._frozen_importlib.BuiltinImporter") 187, val := Value.ref 15 },         { hash := PyData.keyHash P (Str.ofString "watched.\x69mport"),           key := Value.str (Str.ofString "watched.\x69mport") 208, val := Value.ref 19 },         { hash := PyData.keyHash P (Str.ofString "class._frozen_importlib.ModuleSpec"),           key := Value.str (Str.ofString "class._frozen_importlib.ModuleSpec") 218, val := Value.ref 23 },         { hash := PyData.keyHash P (Str.ofString "sys.modules.booked-epoch"),           key := Value.str (Str.ofString "sys.modules.booked-epoch") 247, val := Value.int 3 0 },         { hash := PyData.keyHash P (Str.ofString "sys.modules.landed._collections"),           key := Value.str (Str.ofString "sys.modules.landed._collections") 248, val := Value.bool true },         { hash := PyData.keyHash P (Str.ofString "\x69mport.later-laid._collections"),           key := Value.str (Str.ofString "\x69mport.later-laid._collections") 263, val := Value.bool true },         { hash := PyData.keyHash P (Str.ofString "watched.library"),           key := Value.str (Str.ofString "watched.library") 265, val := Value.ref 28 },         { hash := PyData.keyHash P (Str.ofString "watched.library-objects"),           key := Value.str (Str.ofString "watched.library-objects") 0, val := Value.str (Str.ofString "\x0d") 0 },         { hash := PyData.keyHash P (Str.ofString "watched.library-deep._collections"),           key := Value.str (Str.ofString "watched.library-deep._collections") 266,           val :=             Value.str (Str.ofString "\x04\x00\x00\x0c\x04\x00\x00\x0c\x04\x00\x00\x03\x04\x00\x00\x0c\x08\x04dict\x02")               0 }]       10 } : Obj) ::
  ({ cls := Value.type "dict",   data :=     Data.dict       #[{ hash := PyData.keyHash P (Str.ofString "__name__"), key := Value.str (Str.ofString "__name__") 165,           val := Value.str (Str.ofString "__main__") 164 },         { hash := PyData.keyHash P (Str.ofString "__doc__"), key := Value.str (Str.ofString "__doc__") 166,           val := Value.none },         { hash := PyData.keyHash P (Str.ofString "__package__"), key := Value.str (Str.ofString "__package__") 167,           val := Value.none },         { hash := PyData.keyHash P (Str.ofString "__loader__"), key := Value.str (Str.ofString "__loader__") 168,           val := Value.builtin "__main__.__loader__#opaque" },         { hash := PyData.keyHash P (Str.ofString "__spec__"), key := Value.str (Str.ofString "__spec__") 169,           val := Value.none },         { hash := PyData.keyHash P (Str.ofString "__annotations__"),           key := Value.str (Str.ofString "__annotations__") 170, val := Value.ref 6 },         { hash := PyData.keyHash P (Str.ofString "__builtins__"), key := Value.str (Str.ofString "__builtins__") 171,           val := Value.ref 4 },         { hash := PyData.keyHash P (Str.ofString "__file__"), key := Value.str (Str.ofString "__file__") 173,           val := Value.str (Str.ofString "/claim/cut.py") 172 },         { hash := PyData.keyHash P (Str.ofString "__cached__"), key := Value.str (Str.ofString "__cached__") 174,           val := Value.none },         { hash := PyData.keyHash P (Str.ofString "deque"), key := Value.str (Str.ofString "deque") 272,           val := Value.type "collections.deque" }]       10 } : Obj) ::
  ({ cls := Value.type "module", dict := some 0 } : Obj) ::
  ({ cls := Value.type "module", dict := some 3 } : Obj) ::
  ({ cls := Value.type "dict", data := Data.dict #[] } : Obj) ::
  ({ cls := Value.type "tuple", data := Data.seq #[] } : Obj) ::
  ({ cls := Value.none, data := Data.fields #[] } : Obj) ::
  ({ cls := Value.type "code",   data :=     Data.fields       #[Value.str (Str.ofString "<module>") 176, Value.str (Str.ofString "<module>") 177,         Value.str (Str.ofString "/claim/cut.py") 178, Value.int 1 0, Value.int 0 0, Value.int 0 0, Value.int 0 0,         Value.int 0 0, Value.ref 7, Value.bool false, Value.int 175 0, Value.ref 8, Value.none, Value.none, Value.none,         Value.none, Value.int 179 0, Value.int 1 0, Value.str (Str.ofString "/claim/cut.py") 180] } : Obj) ::
  ({ cls := Value.type "frame",   slots :=     #[some (Value.ref 9), some (Value.ref 3), some (Value.ref 3), none, some (Value.str (Str.ofString "__main__") 164),       none, some (Value.ref 0)] } : Obj) ::
  ({ cls := Value.type "tuple", data := Data.seq #[Value.str (Str.ofString "deque") 182] } : Obj) ::
  ({ cls := Value.type "dict",   data :=     Data.dict       #[{ hash := PyData.keyHash P (Str.ofString "__name__"), key := Value.str (Str.ofString "__name__") 250,           val := Value.str (Str.ofString "_collections") 249 },         { hash := PyData.keyHash P (Str.ofString "__doc__"), key := Value.str (Str.ofString "__doc__") 251,           val := Value.builtin "off-the-table:_collections.__doc__:shared#opaque" },         { hash := PyData.keyHash P (Str.ofString "__package__"), key := Value.str (Str.ofString "__package__") 253,           val := Value.str (Str.ofString "") 252 },         { hash := PyData.keyHash P (Str.ofString "__loader__"), key := Value.str (Str.ofString "__loader__") 254,           val := Value.builtin "off-the-table:_collections.__loader__:shared#opaque" },         { hash := PyData.keyHash P (Str.ofString "__spec__"), key := Value.str (Str.ofString "__spec__") 255,           val := Value.builtin "off-the-table:_collections.__spec__:shared#opaque" },         { hash := PyData.keyHash P (Str.ofString "_count_elements"),           key := Value.str (Str.ofString "_count_elements") 256, val := Value.builtin "_collections._count_elements" },         { hash := PyData.keyHash P (Str.ofString "deque"), key := Value.str (Str.ofString "deque") 257,           val := Value.type "collections.deque" },         { hash := PyData.keyHash P (Str.ofString "defaultdict"), key := Value.str (Str.ofString "defaultdict") 258,           val := Value.type "collections.defaultdict" },         { hash := PyData.keyHash P (Str.ofString "_deque_iterator"),           key := Value.str (Str.ofString "_deque_iterator") 259,           val := Value.builtin "off-the-table:_collections._deque_iterator:shared#opaque" },         { hash := PyData.keyHash P (Str.ofString "_deque_reverse_iterator"),           key := Value.str (Str.ofString "_deque_reverse_iterator") 260,           val := Value.builtin "off-the-table:_collections._deque_reverse_iterator:shared#opaque" },         { hash := PyData.keyHash P (Str.ofString "_tuplegetter"), key := Value.str (Str.ofString "_tuplegetter") 261,           val := Value.type "collections._tuplegetter" },         { hash := PyData.keyHash P (Str.ofString "OrderedDict"), key := Value.str (Str.ofString "OrderedDict") 262,           val := Value.type "collections.OrderedDict" }]       12 } : Obj) ::
  ({ cls := Value.type "module", dict := some 12 } : Obj) ::
  ({ cls := Value.type "dict",   data :=     Data.dict       #[{ hash := PyData.keyHash P (Str.ofString "__module__"), key := Value.str (Str.ofString "__module__") 191,           val := Value.str (Str.ofString "_frozen_importlib") 188 },         { hash := PyData.keyHash P (Str.ofString "__firstlineno__"),           key := Value.str (Str.ofString "__firstlineno__") 192, val := Value.int 971 189 },         { hash := PyData.keyHash P (Str.ofString "__doc__"), key := Value.str (Str.ofString "__doc__") 193,           val := Value.builtin "_frozen_importlib.BuiltinImporter.__doc__:str#opaque" },         { hash := PyData.keyHash P (Str.ofString "_ORIGIN"), key := Value.str (Str.ofString "_ORIGIN") 194,           val := Value.str (Str.ofString "built-in") 190 },         { hash := PyData.keyHash P (Str.ofString "find_spec"), key := Value.str (Str.ofString "find_spec") 195,           val := Value.builtin "_frozen_importlib.BuiltinImporter.find_spec#opaque" },         { hash := PyData.keyHash P (Str.ofString "create_module"), key := Value.str (Str.ofString "create_module") 196,           val := Value.builtin "_frozen_importlib.BuiltinImporter.create_module#opaque" },         { hash := PyData.keyHash P (Str.ofString "exec_module"), key := Value.str (Str.ofString "exec_module") 197,           val := Value.builtin "_frozen_importlib.BuiltinImporter.exec_module#opaque" },         { hash := PyData.keyHash P (Str.ofString "get_code"), key := Value.str (Str.ofString "get_code") 198,           val := Value.builtin "_frozen_importlib.BuiltinImporter.get_code#opaque" },         { hash := PyData.keyHash P (Str.ofString "get_source"), key := Value.str (Str.ofString "get_source") 199,           val := Value.builtin "_frozen_importlib.BuiltinImporter.get_source#opaque" },         { hash := PyData.keyHash P (Str.ofString "is_package"), key := Value.str (Str.ofString "is_package") 200,           val := Value.builtin "_frozen_importlib.BuiltinImporter.is_package#opaque" },         { hash := PyData.keyHash P (Str.ofString "load_module"), key := Value.str (Str.ofString "load_module") 201,           val := Value.builtin "_frozen_importlib.BuiltinImporter.load_module#opaque" },         { hash := PyData.keyHash P (Str.ofString "__static_attributes__"),           key := Value.str (Str.ofString "__static_attributes__") 202, val := Value.ref 16 },         { hash := PyData.keyHash P (Str.ofString "__dict__"), key := Value.str (Str.ofString "__dict__") 204,           val := Value.ref 17 },         { hash := PyData.keyHash P (Str.ofString "__weakref__"), key := Value.str (Str.ofString "__weakref__") 206,           val := Value.ref 18 }]       14 } : Obj) ::
  ({ cls := Value.type "type",   data :=     Data.cls       { name := Str.ofString "BuiltinImporter", bases := [Value.type "object"],         mro := [Value.ref 15, Value.type "object"], ns := 14, qualname := Str.ofString "BuiltinImporter" } } : Obj) ::
  ({ cls := Value.type "tuple", data := Data.seq #[] } : Obj) ::
  ({ cls := Value.type "getset_descriptor",   data :=     Data.fields       #[Value.str (Str.ofString "__dict__") 203, Value.ref 15, Value.builtin "function.__dict__",         Value.builtin "function.__dict__#set"] } : Obj) ::
  ({ cls := Value.type "getset_descriptor",   data :=     Data.fields       #[Value.str (Str.ofString "__weakref__") 205, Value.ref 15, Value.builtin "ExceptionGroup.__weakref__",         Value.none] } : Obj) ::
  ({ cls := Value.none,   data :=     Data.seq       #[Value.int 14 0,         Value.str           (Str.ofString             "\x06¿\n__module__\x06¼\x11_frozen_importlib\x06À\x0f__firstlineno__\x04½\x00ϋ\x06Á\x07__doc__\t4_frozen_importlib.BuiltinImporter.__doc__:str#opaque\x06Â\x07_ORIGIN\x06¾\x08built-in\x06Ã\tfind_spec\t2_frozen_importlib.BuiltinImporter.find_spec#opaque\x06Ä\x0dcreate_module\t6_frozen_importlib.BuiltinImporter.create_module#opaque\x06Å\x0bexec_module\t4_frozen_importlib.BuiltinImporter.exec_module#opaque\x06Æ\x08get_code\t1_frozen_importlib.BuiltinImporter.get_code#opaque\x06Ç\nget_source\t3_frozen_importlib.BuiltinImporter.get_source#opaque\x06È\nis_package\t3_frozen_importlib.BuiltinImporter.is_package#opaque\x06É\x0bload_module\t4_frozen_importlib.BuiltinImporter.load_module#opaque\x06Ê\x15__static_attributes__\x04\x00\x00\x10\x06Ì\x08__dict__\x04\x00\x00\x11\x06Î\x0b__weakref__\x04\x00\x00\x12")           0,         Value.bool true, Value.bool true, Value.str (Str.ofString "") 207, Value.int 22 0,         Value.str           (Str.ofString             "\x06å\n__module__\x06Û\x11_frozen_importlib\x06æ\x0f__firstlineno__\x04Ü\x00Ȳ\x06ç\x07__doc__\t/_frozen_importlib.ModuleSpec.__doc__:str#opaque\x06è\x08__init__\t,_frozen_importlib.ModuleSpec.__init__#opaque\x06é\x08__repr__\t,_frozen_importlib.ModuleSpec.__repr__#opaque\x06ê\x06__eq__\t*_frozen_importlib.ModuleSpec.__eq__#opaque\x06ë\x06cached\t*_frozen_importlib.ModuleSpec.cached#opaque\x06ì\x06parent\t*_frozen_importlib.ModuleSpec.parent#opaque\x06í\x0chas_location\t0_frozen_importlib.ModuleSpec.has_location#opaque\x06î\x15__static_attributes__\x04\x00\x00\x18\x06ð\x08__dict__\x04\x00\x00\x19\x06ò\x0b__weakref__\x04\x00\x00\x1a\x06ó\x08__hash__\x00")           0,         Value.bool true, Value.bool true, Value.str (Str.ofString "") 244]       1 } : Obj) ::
  ({ cls := Value.type "list", data := Data.seq #[] } : Obj) ::
  ({ cls := Value.type "dict",   data :=     Data.dict       #[{ hash := PyData.keyHash P (Str.ofString "name"), key := Value.str (Str.ofString "name") 210,           val := Value.str (Str.ofString "_collections") 209 },         { hash := PyData.keyHash P (Str.ofString "loader"), key := Value.str (Str.ofString "loader") 211,           val := Value.ref 15 },         { hash := PyData.keyHash P (Str.ofString "origin"), key := Value.str (Str.ofString "origin") 212,           val := Value.str (Str.ofString "built-in") 186 },         { hash := PyData.keyHash P (Str.ofString "loader_state"), key := Value.str (Str.ofString "loader_state") 213,           val := Value.none },         { hash := PyData.keyHash P (Str.ofString "submodule_search_locations"),           key := Value.str (Str.ofString "submodule_search_locations") 214, val := Value.none },         { hash := PyData.keyHash P (Str.ofString "_uninitialized_submodules"),           key := Value.str (Str.ofString "_uninitialized_submodules") 215, val := Value.ref 20 },         { hash := PyData.keyHash P (Str.ofString "_set_fileattr"), key := Value.str (Str.ofString "_set_fileattr") 216,           val := Value.bool false },         { hash := PyData.keyHash P (Str.ofString "_cached"), key := Value.str (Str.ofString "_cached") 217,           val := Value.none },         { hash := PyData.keyHash P (Str.ofString "_initializing"), key := Value.str (Str.ofString "_initializing") 245,           val := Value.bool false }]       9 } : Obj) ::
  ({ cls := Value.type "dict",   data :=     Data.dict       #[{ hash := PyData.keyHash P (Str.ofString "__module__"), key := Value.str (Str.ofString "__module__") 229,           val := Value.str (Str.ofString "_frozen_importlib") 219 },         { hash := PyData.keyHash P (Str.ofString "__firstlineno__"),           key := Value.str (Str.ofString "__firstlineno__") 230, val := Value.int 562 220 },         { hash := PyData.keyHash P (Str.ofString "__doc__"), key := Value.str (Str.ofString "__doc__") 231,           val := Value.builtin "_frozen_importlib.ModuleSpec.__doc__:str#opaque" },         { hash := PyData.keyHash P (Str.ofString "__init__"), key := Value.str (Str.ofString "__init__") 232,           val := Value.builtin "_frozen_importlib.ModuleSpec.__init__#opaque" },         { hash := PyData.keyHash P (Str.ofString "__repr__"), key := Value.str (Str.ofString "__repr__") 233,           val := Value.builtin "_frozen_importlib.ModuleSpec.__repr__#opaque" },         { hash := PyData.keyHash P (Str.ofString "__eq__"), key := Value.str (Str.ofString "__eq__") 234,           val := Value.builtin "_frozen_importlib.ModuleSpec.__eq__#opaque" },         { hash := PyData.keyHash P (Str.ofString "cached"), key := Value.str (Str.ofString "cached") 235,           val := Value.builtin "_frozen_importlib.ModuleSpec.cached#opaque" },         { hash := PyData.keyHash P (Str.ofString "parent"), key := Value.str (Str.ofString "parent") 236,           val := Value.builtin "_frozen_importlib.ModuleSpec.parent#opaque" },         { hash := PyData.keyHash P (Str.ofString "has_location"), key := Value.str (Str.ofString "has_location") 237,           val := Value.builtin "_frozen_importlib.ModuleSpec.has_location#opaque" },         { hash := PyData.keyHash P (Str.ofString "__static_attributes__"),           key := Value.str (Str.ofString "__static_attributes__") 238, val := Value.ref 24 },         { hash := PyData.keyHash P (Str.ofString "__dict__"), key := Value.str (Str.ofString "__dict__") 240,           val := Value.ref 25 },         { hash := PyData.keyHash P (Str.ofString "__weakref__"), key := Value.str (Str.ofString "__weakref__") 242,           val := Value.ref 26 },         { hash := PyData.keyHash P (Str.ofString "__hash__"), key := Value.str (Str.ofString "__hash__") 243,           val := Value.none }]       13 } : Obj) ::
  ({ cls := Value.type "type",   data :=     Data.cls       { name := Str.ofString "ModuleSpec", bases := [Value.type "object"], mro := [Value.ref 23, Value.type "object"],         ns := 22, qualname := Str.ofString "ModuleSpec" } } : Obj) ::
  ({ cls := Value.type "tuple",   data :=     Data.seq       #[Value.str (Str.ofString "_cached") 221, Value.str (Str.ofString "_set_fileattr") 222,         Value.str (Str.ofString "_uninitialized_submodules") 223, Value.str (Str.ofString "loader") 224,         Value.str (Str.ofString "loader_state") 225, Value.str (Str.ofString "name") 226,         Value.str (Str.ofString "origin") 227, Value.str (Str.ofString "submodule_search_locations") 228] } : Obj) ::
  ({ cls := Value.type "getset_descriptor",   data :=     Data.fields       #[Value.str (Str.ofString "__dict__") 239, Value.ref 23, Value.builtin "function.__dict__",         Value.builtin "function.__dict__#set"] } : Obj) ::
  ({ cls := Value.type "getset_descriptor",   data :=     Data.fields       #[Value.str (Str.ofString "__weakref__") 241, Value.ref 23, Value.builtin "ExceptionGroup.__weakref__",         Value.none] } : Obj) ::
  ({ cls := Value.ref 23, dict := some 21 } : Obj) ::
  ({ cls := Value.none,   data :=     Data.seq       #[Value.int 12 0,         Value.str           (Str.ofString             "\x06ú\x08__name__\x06ù\x0c_collections\x06û\x07__doc__\t\x1f_collections.__doc__:str#opaque\x06ý\x0b__package__\x06ü\x00\x06þ\n__loader__\x04\x00\x00\x0f\x06ÿ\x08__spec__\x04\x00\x00\x1b\x06Ā\x0f_count_elements\t\x1c_collections._count_elements\x06ā\x05deque\x08\x11collections.deque\x06Ă\x0bdefaultdict\x08\x17collections.defaultdict\x06ă\x0f_deque_iterator\x08\x1bcollections._deque_iterator\x06Ą\x17_deque_reverse_iterator\x08#collections._deque_reverse_iterator\x06ą\x0c_tuplegetter\x08\x18collections._tuplegetter\x06Ć\x0bOrderedDict\x08\x17collections.OrderedDict")           0,         Value.bool true, Value.bool false, Value.str (Str.ofString "_collections") 264] } : Obj) :: []) }
theorem open1 : ∀ w : World, ((PySem.W.Fast.tw10274390034422433532 PySem.W.Fast.tw14364793385576792824 (opening pw) w 11128 (PySem.W.Fast.tw1435165496053646825 (opening pw)).1 (PySem.W.Fast.tw1435165496053646825 (opening pw)).2).bind (PySem.W.Fast.tw14289696077712309145 pw)).map (fun s => (s.heap, s.gens, s.drawn, s.toks)) = some (H0 w.params, ⟨[]⟩, {}, 273) := fun w => by kernel_rfl
theorem open0 : ∀ w : World, (fencedOpening treeTable pw w 11128).map (fun s => (s.heap, s.gens, s.drawn, s.toks)) = some (H0 w.params, ⟨[]⟩, {}, 273) := fun w => by
  have h := open1 w
  rw [← PySem.W.Fast.te10274390034422433532, ← PySem.W.Fast.te14364793385576792824, ← PySem.W.Fast.te1435165496053646825, ← PySem.W.Fast.te14289696077712309145] at h
  exact h
abbrev an0 : Option Value := some (.ref 6)
def os0 : OsState := (start (opening pw)).1.os
def env0 : Env := { scope := pw.main.scope, locals := mainNs, globals := mainNs, cells := [], code := .ref 31, frame := some 32 }
abbrev bd0 : List Stmt := behindTheImports pw
abbrev cE0 : Code := .body bd0 env0
abbrev ps0 : Pos := { line := 0, col := 0, endLine := 0, endCol := 0 }
theorem size0 : ∀ w : World, ((H0 w.params).isNs mainGlobals && (⟨[]⟩ : Array GenState).size == 0, (H0 w.params).objs.size, (H0 w.params).nsMap mainGlobals "__annotations__") = (true, 29, an0) := fun w => by kernel_rfl
noncomputable def Ha (P : Params) : Heap := match topGo treeTable pw (w0 P) 29 an0 12 ⟨H0 P, ⟨[]⟩, {}, 273, os0⟩ (topStub pw) with
  | some (s, _) => s.heap
  | none => default
theorem pre0 : ∀ (w : World) (os : OsState), topGo treeTable pw w 29 an0 12 ⟨H0 w.params, ⟨[]⟩, {}, 273, os⟩ (topStub pw) = some (⟨Ha w.params, ⟨[]⟩, {}, 279, os⟩, ⟨denote treeTable cE0, cE0, ps0, [topFrame ps0]⟩) := fun w os => by kernel_rfl
def treeOf : List Obj → Nat → BT → BT
  | [], _, t => t
  | o :: r, i, t => treeOf r (i + 1) (t.ins i o)
noncomputable def Tb (P : Params) (os : OsState) : SharedT := ⟨treeOf (Ha P).objs.toList 0 .nil, 33, {}, ⟨[]⟩, {}, 279, os⟩
theorem block0 : ∀ (w : World) (os : OsState), segRun treeTable pw w 29 an0 1 1 ⟨Ha w.params, ⟨[]⟩, {}, 279, os⟩ (blockOf bd0 env0 cE0 ps0 [topFrame ps0]) = some (.next, (Tb w.params os).abs, cE0, ps0) := fun w os => by kernel_rfl
abbrev ps1 : Pos := { line := 885, col := 0, endLine := 887, endCol := 53 }
abbrev fw (w : World) (b : Bool) : World := w.withFollow "special-get-raises" b
theorem fin0 : ∀ (w : World) (T : SharedT), topRun treeTable pw w 29 an0 2 T.abs ⟨doneF .next, cE0, ps1, [topFrame ps0]⟩ = some T.abs := fun w T => by kernel_rfl
def nthS : Nat → List Stmt → Stmt
  | 0, s :: _ => s
  | n + 1, _ :: r => nthS n r
  | _, [] => default
def clsB : Stmt → List Stmt
  | .ClassDef (body := b) .. => b
  | _ => []
def topN (i : Nat) : Stmt := nthS i pw.main.body
def metN (i j : Nat) : Stmt := nthS j (clsB (topN i))
def fnO (s : Stmt) (q : Str) (df md : Value) (c : Addr) : Obj := match s with
  | .FunctionDef n a b _ _ _ sc _ _ _ => { cls := .type "function", data := .func { name := n, qualname := q, params := a, body := .stmts b, scope := sc, globals := 3, closure := [], defaults := df, kwdefaults := .none, pyModule := md, code := .ref c } }
  | _ => default
noncomputable def hd.heap_39 : Params → Frag := fun P => (fun (f53 f60 f67 f74 f81 f95 f122 f399 f406 f413 f575 f688 f695 f725 f732 f781 f788 f795 f802 f809 f816 f823 : Obj)
  (_ : f53 = fnO (topN 4) (Str.ofString "_escape_cdata") Value.none (Value.str (Str.ofString "cpy313.xml.etree.ElementTree") 286) 52)
  (_ : f60 = fnO (topN 5) (Str.ofString "_escape_attrib") Value.none (Value.str (Str.ofString "cpy313.xml.etree.ElementTree") 286) 59)
  (_ : f67 = fnO (topN 6) (Str.ofString "_escape_attrib_html") Value.none (Value.str (Str.ofString "cpy313.xml.etree.ElementTree") 286) 66)
  (_ : f74 = fnO (topN 7) (Str.ofString "_escape_cdata_c14n") Value.none (Value.str (Str.ofString "cpy313.xml.etree.ElementTree") 286) 73)
  (_ : f81 = fnO (topN 8) (Str.ofString "_escape_attrib_c14n") Value.none (Value.str (Str.ofString "cpy313.xml.etree.ElementTree") 286) 80)
  (_ : f95 = fnO (topN 11) (Str.ofString "_index") Value.none (Value.str (Str.ofString "io") 330) 94)
  (_ : f122 = fnO (metN 13 1) (Str.ofString "IOBase.__new__") Value.none (Value.str (Str.ofString "io") 330) 121)
  (_ : f399 = fnO (metN 17 1) (Str.ofString "StringIO.__init__") (Value.ref 392) (Value.str (Str.ofString "io") 330) 398)
  (_ : f406 = fnO (metN 17 2) (Str.ofString "StringIO.__translated") Value.none (Value.str (Str.ofString "io") 330) 405)
  (_ : f413 = fnO (metN 17 3) (Str.ofString "StringIO.__check") Value.none (Value.str (Str.ofString "io") 330) 412)
  (_ : f575 = fnO (metN 17 25) (Str.ofString "StringIO.read") (Value.ref 568) (Value.str (Str.ofString "io") 330) 574)
  (_ : f688 = fnO (metN 26 0) (Str.ofString "shlex.__init__") (Value.ref 681) (Value.str (Str.ofString "cpy313.shlex") 1045) 687)
  (_ : f695 = fnO (metN 26 1) (Str.ofString "shlex.punctuation_chars") Value.none (Value.str (Str.ofString "cpy313.shlex") 1045) 694)
  (_ : f725 = fnO (metN 26 5) (Str.ofString "shlex.get_token") Value.none (Value.str (Str.ofString "cpy313.shlex") 1045) 724)
  (_ : f732 = fnO (metN 26 6) (Str.ofString "shlex.read_token") Value.none (Value.str (Str.ofString "cpy313.shlex") 1045) 731)
  (_ : f781 = fnO (topN 31) (Str.ofString "_law_spelled") Value.none (Value.str (Str.ofString "law_mr0358_01") 1186) 780)
  (_ : f788 = fnO (topN 32) (Str.ofString "_law_attribute") Value.none (Value.str (Str.ofString "law_mr0358_01") 1186) 787)
  (_ : f795 = fnO (topN 33) (Str.ofString "_law_text") Value.none (Value.str (Str.ofString "law_mr0358_01") 1186) 794)
  (_ : f802 = fnO (topN 34) (Str.ofString "_law_document") Value.none (Value.str (Str.ofString "law_mr0358_01") 1186) 801)
  (_ : f809 = fnO (topN 35) (Str.ofString "_law_reading") Value.none (Value.str (Str.ofString "law_mr0358_01") 1186) 808)
  (_ : f816 = fnO (topN 36) (Str.ofString "_law_answer") Value.none (Value.str (Str.ofString "law_mr0358_01") 1186) 815)
  (_ : f823 = fnO (topN 37) (Str.ofString "law") Value.none (Value.str (Str.ofString "law_mr0358_01") 1186) 822) => ((nat_lit 2, ({ cls := Value.none, data := Data.dict #[{ hash := PyData.keyHash P (Str.ofString "\x69mport.loaded._collections"), key := Value.str (Str.ofString "\x69mport.loaded._collections") 185, val := Value.bool true }, { hash := PyData.keyHash P (Str.ofString "class._frozen_importlib.BuiltinImporter"), key := Value.str (Str.ofString "class._frozen_importlib.BuiltinImporter") 187, val := Value.ref 15 }, { hash := PyData.keyHash P (Str.ofString "watched.\x69mport"), key := Value.str (Str.ofString "watched.\x69mport") 208, val := Value.ref 19 }, { hash := PyData.keyHash P (Str.ofString "class._frozen_importlib.ModuleSpec"), key := Value.str (Str.ofString "class._frozen_importlib.ModuleSpec") 218, val := Value.ref 23 }, { hash := PyData.keyHash P (Str.ofString "sys.modules.booked-epoch"), key := Value.str (Str.ofString "sys.modules.booked-epoch") 247, val := Value.int 3 0 }, { hash := PyData.keyHash P (Str.ofString "sys.modules.landed._collections"), key := Value.str (Str.ofString "sys.modules.landed._collections") 248, val := Value.bool true }, { hash := PyData.keyHash P (Str.ofString "\x69mport.later-laid._collections"), key := Value.str (Str.ofString "\x69mport.later-laid._collections") 263, val := Value.bool true }, { hash := PyData.keyHash P (Str.ofString "watched.library"), key := Value.str (Str.ofString "watched.library") 265, val := Value.ref 28 }, { hash := PyData.keyHash P (Str.ofString "watched.library-objects"), key := Value.str (Str.ofString "watched.library-objects") 0, val := Value.str (Str.ofString "\x0d") 0 }, { hash := PyData.keyHash P (Str.ofString "watched.library-deep._collections"), key := Value.str (Str.ofString "watched.library-deep._collections") 266, val := Value.str (Str.ofString "\x04\x00\x00\x0c\x04\x00\x00\x0c\x04\x00\x00\x03\x04\x00\x00\x0c\x08\x04dict\x02") 0 }, { hash := PyData.keyHash P (Str.ofString "type.__subclasses__.OSError.0"), key := Value.str (Str.ofString "type.__subclasses__.OSError.0") 366, val := Value.int 105 0 }, { hash := PyData.keyHash P (Str.ofString "type.__subclasses__.OSError.n"), key := Value.str (Str.ofString "type.__subclasses__.OSError.n") 367, val := Value.int 1 0 }] 12 })) ::
  (nat_lit 3, ({ cls := Value.type "dict", data := Data.dict #[{ hash := PyData.keyHash P (Str.ofString "__name__"), key := Value.str (Str.ofString "__name__") 165, val := Value.str (Str.ofString "law_mr0358_01") 1186 }, { hash := PyData.keyHash P (Str.ofString "__doc__"), key := Value.str (Str.ofString "__doc__") 166, val := Value.none }, { hash := PyData.keyHash P (Str.ofString "__package__"), key := Value.str (Str.ofString "__package__") 167, val := Value.none }, { hash := PyData.keyHash P (Str.ofString "__loader__"), key := Value.str (Str.ofString "__loader__") 168, val := Value.builtin "__main__.__loader__#opaque" }, { hash := PyData.keyHash P (Str.ofString "__spec__"), key := Value.str (Str.ofString "__spec__") 169, val := Value.none }, { hash := PyData.keyHash P (Str.ofString "__annotations__"), key := Value.str (Str.ofString "__annotations__") 170, val := Value.ref 6 }, { hash := PyData.keyHash P (Str.ofString "__builtins__"), key := Value.str (Str.ofString "__builtins__") 171, val := Value.ref 4 }, { hash := PyData.keyHash P (Str.ofString "__file__"), key := Value.str (Str.ofString "__file__") 173, val := Value.str (Str.ofString "/claim/cut.py") 172 }, { hash := PyData.keyHash P (Str.ofString "__cached__"), key := Value.str (Str.ofString "__cached__") 174, val := Value.none }, { hash := PyData.keyHash P (Str.ofString "deque"), key := Value.str (Str.ofString "deque") 272, val := Value.type "collections.deque" }, { hash := PyData.keyHash P (Str.ofString "_wall"), key := Value.str (Str.ofString "_wall") 285, val := Value.ref 39 }, { hash := PyData.keyHash P (Str.ofString "_raise_serialization_error"), key := Value.str (Str.ofString "_raise_serialization_error") 294, val := Value.ref 46 }, { hash := PyData.keyHash P (Str.ofString "_escape_cdata"), key := Value.str (Str.ofString "_escape_cdata") 301, val := Value.ref 53 }, { hash := PyData.keyHash P (Str.ofString "_escape_attrib"), key := Value.str (Str.ofString "_escape_attrib") 308, val := Value.ref 60 }, { hash := PyData.keyHash P (Str.ofString "_escape_attrib_html"), key := Value.str (Str.ofString "_escape_attrib_html") 315, val := Value.ref 67 }, { hash := PyData.keyHash P (Str.ofString "_escape_cdata_c14n"), key := Value.str (Str.ofString "_escape_cdata_c14n") 322, val := Value.ref 74 }, { hash := PyData.keyHash P (Str.ofString "_escape_attrib_c14n"), key := Value.str (Str.ofString "_escape_attrib_c14n") 329, val := Value.ref 81 }, { hash := PyData.keyHash P (Str.ofString "_whence"), key := Value.str (Str.ofString "_whence") 339, val := Value.ref 88 }, { hash := PyData.keyHash P (Str.ofString "_index"), key := Value.str (Str.ofString "_index") 347, val := Value.ref 95 }, { hash := PyData.keyHash P (Str.ofString "UnsupportedOperation"), key := Value.str (Str.ofString "UnsupportedOperation") 369, val := Value.ref 105 }, { hash := PyData.keyHash P (Str.ofString "IOBase"), key := Value.str (Str.ofString "IOBase") 401, val := Value.ref 125 }, { hash := PyData.keyHash P (Str.ofString "BufferedIOBase"), key := Value.str (Str.ofString "BufferedIOBase") 419, val := Value.ref 140 }, { hash := PyData.keyHash P (Str.ofString "TextIOBase"), key := Value.str (Str.ofString "TextIOBase") 437, val := Value.ref 152 }, { hash := PyData.keyHash P (Str.ofString "BytesIO"), key := Value.str (Str.ofString "BytesIO") 699, val := Value.ref 382 }, { hash := PyData.keyHash P (Str.ofString "StringIO"), key := Value.str (Str.ofString "StringIO") 986, val := Value.ref 629 }, { hash := PyData.keyHash P (Str.ofString "_kind"), key := Value.str (Str.ofString "_kind") 997, val := Value.ref 638 }, { hash := PyData.keyHash P (Str.ofString "_fspath"), key := Value.str (Str.ofString "_fspath") 1006, val := Value.ref 645 }, { hash := PyData.keyHash P (Str.ofString "_check_arg_types"), key := Value.str (Str.ofString "_check_arg_types") 1016, val := Value.ref 652 }, { hash := PyData.keyHash P (Str.ofString "isabs"), key := Value.str (Str.ofString "isabs") 1023, val := Value.ref 659 }, { hash := PyData.keyHash P (Str.ofString "join"), key := Value.str (Str.ofString "join") 1034, val := Value.ref 666 }, { hash := PyData.keyHash P (Str.ofString "dirname"), key := Value.str (Str.ofString "dirname") 1044, val := Value.ref 673 }, { hash := PyData.keyHash P (Str.ofString "shlex"), key := Value.str (Str.ofString "shlex") 1185, val := Value.ref 764 }, { hash := PyData.keyHash P (Str.ofString "_law_signs"), key := Value.str (Str.ofString "_law_signs") 1204, val := Value.ref 769 }, { hash := PyData.keyHash P (Str.ofString "_law_attributes"), key := Value.str (Str.ofString "_law_attributes") 1253, val := Value.ref 773 }, { hash := PyData.keyHash P (Str.ofString "_law_texts"), key := Value.str (Str.ofString "_law_texts") 1275, val := Value.ref 776 }, { hash := PyData.keyHash P (Str.ofString "_law_spelled"), key := Value.str (Str.ofString "_law_spelled") 1281, val := Value.ref 781 }, { hash := PyData.keyHash P (Str.ofString "_law_attribute"), key := Value.str (Str.ofString "_law_attribute") 1289, val := Value.ref 788 }, { hash := PyData.keyHash P (Str.ofString "_law_text"), key := Value.str (Str.ofString "_law_text") 1297, val := Value.ref 795 }, { hash := PyData.keyHash P (Str.ofString "_law_document"), key := Value.str (Str.ofString "_law_document") 1319, val := Value.ref 802 }, { hash := PyData.keyHash P (Str.ofString "_law_reading"), key := Value.str (Str.ofString "_law_reading") 1333, val := Value.ref 809 }, { hash := PyData.keyHash P (Str.ofString "_law_answer"), key := Value.str (Str.ofString "_law_answer") 1340, val := Value.ref 816 }, { hash := PyData.keyHash P (Str.ofString "law"), key := Value.str (Str.ofString "law") 1348, val := Value.ref 823 }] 42 })) ::
  (nat_lit 52, ({ cls := Value.type "code", data := Data.fields #[Value.str (Str.ofString "_escape_cdata") 295, Value.str (Str.ofString "_escape_cdata") 296, Value.str (Str.ofString "/claim/cut.py") 297, Value.int 8 0, Value.int 1 0, Value.int 0 0, Value.int 0 0, Value.int 3 0, Value.ref 47, Value.bool true, Value.int 273 0, Value.ref 48, Value.none, Value.ref 49, Value.ref 50, Value.ref 51, Value.int 299 0, Value.int 8 0, Value.str (Str.ofString "/claim/cut.py") 300] })) ::
  (nat_lit 53, f53) ::
  (nat_lit 59, ({ cls := Value.type "code", data := Data.fields #[Value.str (Str.ofString "_escape_attrib") 302, Value.str (Str.ofString "_escape_attrib") 303, Value.str (Str.ofString "/claim/cut.py") 304, Value.int 19 0, Value.int 1 0, Value.int 0 0, Value.int 0 0, Value.int 3 0, Value.ref 54, Value.bool true, Value.int 273 0, Value.ref 55, Value.none, Value.ref 56, Value.ref 57, Value.ref 58, Value.int 306 0, Value.int 19 0, Value.str (Str.ofString "/claim/cut.py") 307] })) ::
  (nat_lit 60, f60) ::
  (nat_lit 66, ({ cls := Value.type "code", data := Data.fields #[Value.str (Str.ofString "_escape_attrib_html") 309, Value.str (Str.ofString "_escape_attrib_html") 310, Value.str (Str.ofString "/claim/cut.py") 311, Value.int 38 0, Value.int 1 0, Value.int 0 0, Value.int 0 0, Value.int 3 0, Value.ref 61, Value.bool true, Value.int 273 0, Value.ref 62, Value.none, Value.ref 63, Value.ref 64, Value.ref 65, Value.int 313 0, Value.int 38 0, Value.str (Str.ofString "/claim/cut.py") 314] })) ::
  (nat_lit 67, f67) ::
  (nat_lit 73, ({ cls := Value.type "code", data := Data.fields #[Value.str (Str.ofString "_escape_cdata_c14n") 316, Value.str (Str.ofString "_escape_cdata_c14n") 317, Value.str (Str.ofString "/claim/cut.py") 318, Value.int 49 0, Value.int 1 0, Value.int 0 0, Value.int 0 0, Value.int 3 0, Value.ref 68, Value.bool true, Value.int 273 0, Value.ref 69, Value.none, Value.ref 70, Value.ref 71, Value.ref 72, Value.int 320 0, Value.int 49 0, Value.str (Str.ofString "/claim/cut.py") 321] })) ::
  (nat_lit 74, f74) ::
  (nat_lit 80, ({ cls := Value.type "code", data := Data.fields #[Value.str (Str.ofString "_escape_attrib_c14n") 323, Value.str (Str.ofString "_escape_attrib_c14n") 324, Value.str (Str.ofString "/claim/cut.py") 325, Value.int 62 0, Value.int 1 0, Value.int 0 0, Value.int 0 0, Value.int 3 0, Value.ref 75, Value.bool true, Value.int 273 0, Value.ref 76, Value.none, Value.ref 77, Value.ref 78, Value.ref 79, Value.int 327 0, Value.int 62 0, Value.str (Str.ofString "/claim/cut.py") 328] })) ::
  (nat_lit 81, f81) ::
  (nat_lit 94, ({ cls := Value.type "code", data := Data.fields #[Value.str (Str.ofString "_index") 340, Value.str (Str.ofString "_index") 341, Value.str (Str.ofString "/claim/cut.py") 342, Value.int 85 0, Value.int 2 0, Value.int 0 0, Value.int 0 0, Value.int 3 0, Value.ref 89, Value.bool true, Value.int 273 0, Value.ref 90, Value.none, Value.ref 91, Value.ref 92, Value.ref 93, Value.int 345 0, Value.int 85 0, Value.str (Str.ofString "/claim/cut.py") 346] })) ::
  (nat_lit 95, f95) ::
  (nat_lit 121, ({ cls := Value.type "code", data := Data.fields #[Value.str (Str.ofString "__new__") 384, Value.str (Str.ofString "IOBase.__new__") 385, Value.str (Str.ofString "/claim/cut.py") 386, Value.int 97 0, Value.int 1 0, Value.int 1 0, Value.int 0 0, Value.int 15 0, Value.ref 116, Value.bool true, Value.int 273 0, Value.ref 117, Value.none, Value.ref 118, Value.ref 119, Value.ref 120, Value.int 390 0, Value.int 97 0, Value.str (Str.ofString "/claim/cut.py") 391] })) ::
  (nat_lit 122, f122) ::
  (nat_lit 124, ({ cls := Value.type "dict", data := Data.dict #[{ hash := PyData.keyHash P (Str.ofString "__module__"), key := Value.str (Str.ofString "__module__") 377, val := Value.str (Str.ofString "io") 382 }, { hash := PyData.keyHash P (Str.ofString "__firstlineno__"), key := Value.str (Str.ofString "__firstlineno__") 381, val := Value.int 94 380 }, { hash := PyData.keyHash P (Str.ofString "__new__"), key := Value.str (Str.ofString "__new__") 392, val := Value.ref 126 }, { hash := PyData.keyHash P (Str.ofString "__static_attributes__"), key := Value.str (Str.ofString "__static_attributes__") 393, val := Value.ref 123 }, { hash := PyData.keyHash P (Str.ofString "__dict__"), key := Value.str (Str.ofString "__dict__") 396, val := Value.ref 127 }, { hash := PyData.keyHash P (Str.ofString "__weakref__"), key := Value.str (Str.ofString "__weakref__") 398, val := Value.ref 128 }, { hash := PyData.keyHash P (Str.ofString "__doc__"), key := Value.str (Str.ofString "__doc__") 399, val := Value.none }] 4 })) ::
  (nat_lit 125, ({ cls := Value.type "type", data := Data.cls { name := Str.ofString "IOBase", bases := [Value.type "object"], mro := [Value.ref 125, Value.type "object"], ns := 124, qualname := Str.ofString "IOBase", subclasses := [Value.ref 140, Value.ref 152] }, slots := #[none, none, some (Value.str (Str.ofString "IOBase") 370), some (Value.str (Str.ofString "IOBase") 378), some Value.none, some (Value.bool true)] })) ::
  (nat_lit 126, ({ cls := Value.type "staticmethod", data := Data.fields #[Value.ref 122] })) ::
  (nat_lit 127, ({ cls := Value.type "getset_descriptor", data := Data.fields #[Value.str (Str.ofString "__dict__") 395, Value.ref 125, Value.builtin "function.__dict__", Value.builtin "function.__dict__#set"] })) ::
  (nat_lit 128, ({ cls := Value.type "getset_descriptor", data := Data.fields #[Value.str (Str.ofString "__weakref__") 397, Value.ref 125, Value.builtin "ExceptionGroup.__weakref__", Value.none] })) ::
  (nat_lit 151, ({ cls := Value.type "dict", data := Data.dict #[{ hash := PyData.keyHash P (Str.ofString "__module__"), key := Value.str (Str.ofString "__module__") 427, val := Value.str (Str.ofString "io") 432 }, { hash := PyData.keyHash P (Str.ofString "__firstlineno__"), key := Value.str (Str.ofString "__firstlineno__") 431, val := Value.int 103 430 }, { hash := PyData.keyHash P (Str.ofString "__static_attributes__"), key := Value.str (Str.ofString "__static_attributes__") 434, val := Value.ref 150 }, { hash := PyData.keyHash P (Str.ofString "__doc__"), key := Value.str (Str.ofString "__doc__") 435, val := Value.none }] 2 })) ::
  (nat_lit 152, ({ cls := Value.type "type", data := Data.cls { name := Str.ofString "TextIOBase", bases := [Value.ref 125], mro := [Value.ref 152, Value.ref 125, Value.type "object"], ns := 151, qualname := Str.ofString "TextIOBase", subclasses := [Value.ref 629] }, slots := #[some (Value.ref 143), none, some (Value.str (Str.ofString "TextIOBase") 420), some (Value.str (Str.ofString "TextIOBase") 428), some Value.none, some (Value.bool true)] })) ::
  (nat_lit 382, ({ cls := Value.type "type", data := Data.cls { name := Str.ofString "BytesIO", bases := [Value.ref 140], mro := [Value.ref 382, Value.ref 140, Value.ref 125, Value.type "object"], ns := 381, qualname := Str.ofString "BytesIO" }, slots := #[some (Value.ref 155), none, some (Value.str (Str.ofString "BytesIO") 438), some (Value.str (Str.ofString "BytesIO") 446), some Value.none, some (Value.bool true)] })) ::
  (nat_lit 392, ({ cls := Value.type "tuple", data := Data.seq #[Value.str (Str.ofString "") 714, Value.str (Str.ofString "\n") 715] })) ::
  (nat_lit 398, ({ cls := Value.type "code", data := Data.fields #[Value.str (Str.ofString "__init__") 716, Value.str (Str.ofString "StringIO.__init__") 717, Value.str (Str.ofString "/claim/cut.py") 718, Value.int 278 0, Value.int 3 0, Value.int 0 0, Value.int 0 0, Value.int 3 0, Value.ref 393, Value.bool true, Value.int 273 0, Value.ref 394, Value.none, Value.ref 395, Value.ref 396, Value.ref 397, Value.int 722 0, Value.int 278 0, Value.str (Str.ofString "/claim/cut.py") 723] })) ::
  (nat_lit 399, f399) ::
  (nat_lit 405, ({ cls := Value.type "code", data := Data.fields #[Value.str (Str.ofString "__translated") 725, Value.str (Str.ofString "StringIO.__translated") 726, Value.str (Str.ofString "/claim/cut.py") 727, Value.int 291 0, Value.int 2 0, Value.int 0 0, Value.int 0 0, Value.int 3 0, Value.ref 400, Value.bool true, Value.int 273 0, Value.ref 401, Value.none, Value.ref 402, Value.ref 403, Value.ref 404, Value.int 731 0, Value.int 291 0, Value.str (Str.ofString "/claim/cut.py") 732] })) ::
  (nat_lit 406, f406) ::
  (nat_lit 412, ({ cls := Value.type "code", data := Data.fields #[Value.str (Str.ofString "__check") 734, Value.str (Str.ofString "StringIO.__check") 735, Value.str (Str.ofString "/claim/cut.py") 736, Value.int 299 0, Value.int 1 0, Value.int 0 0, Value.int 0 0, Value.int 3 0, Value.ref 407, Value.bool true, Value.int 273 0, Value.ref 408, Value.none, Value.ref 409, Value.ref 410, Value.ref 411, Value.int 738 0, Value.int 299 0, Value.str (Str.ofString "/claim/cut.py") 739] })) ::
  (nat_lit 413, f413) ::
  (nat_lit 435, ({ cls := Value.type "property", data := Data.fields #[Value.ref 434, Value.none, Value.none, Value.none, Value.str (Str.ofString "closed") 770, Value.bool false] })) ::
  (nat_lit 443, ({ cls := Value.type "property", data := Data.fields #[Value.ref 442, Value.none, Value.none, Value.none, Value.str (Str.ofString "line_buffering") 778, Value.bool false] })) ::
  (nat_lit 451, ({ cls := Value.type "property", data := Data.fields #[Value.ref 450, Value.none, Value.none, Value.none, Value.str (Str.ofString "newlines") 786, Value.bool false] })) ::
  (nat_lit 459, ({ cls := Value.type "property", data := Data.fields #[Value.ref 458, Value.none, Value.none, Value.none, Value.str (Str.ofString "encoding") 794, Value.bool false] })) ::
  (nat_lit 467, ({ cls := Value.type "property", data := Data.fields #[Value.ref 466, Value.none, Value.none, Value.none, Value.str (Str.ofString "errors") 802, Value.bool false] })) ::
  (nat_lit 568, ({ cls := Value.type "tuple", data := Data.seq #[Value.int (-1) 907] })) ::
  (nat_lit 574, ({ cls := Value.type "code", data := Data.fields #[Value.str (Str.ofString "read") 908, Value.str (Str.ofString "StringIO.read") 909, Value.str (Str.ofString "/claim/cut.py") 910, Value.int 421 0, Value.int 2 0, Value.int 2 0, Value.int 0 0, Value.int 3 0, Value.ref 569, Value.bool true, Value.int 273 0, Value.ref 570, Value.none, Value.ref 571, Value.ref 572, Value.ref 573, Value.int 915 0, Value.int 421 0, Value.str (Str.ofString "/claim/cut.py") 916] })) ::
  (nat_lit 575, f575) ::
  (nat_lit 628, ({ cls := Value.type "dict", data := Data.dict #[{ hash := PyData.keyHash P (Str.ofString "__module__"), key := Value.str (Str.ofString "__module__") 707, val := Value.str (Str.ofString "_io") 712 }, { hash := PyData.keyHash P (Str.ofString "__firstlineno__"), key := Value.str (Str.ofString "__firstlineno__") 711, val := Value.int 275 710 }, { hash := PyData.keyHash P (Str.ofString "__init__"), key := Value.str (Str.ofString "__init__") 724, val := Value.ref 399 }, { hash := PyData.keyHash P (Str.ofString "_StringIO__translated"), key := Value.str (Str.ofString "_StringIO__translated") 733, val := Value.ref 406 }, { hash := PyData.keyHash P (Str.ofString "_StringIO__check"), key := Value.str (Str.ofString "_StringIO__check") 740, val := Value.ref 413 }, { hash := PyData.keyHash P (Str.ofString "_StringIO__check_dot"), key := Value.str (Str.ofString "_StringIO__check_dot") 747, val := Value.ref 420 }, { hash := PyData.keyHash P (Str.ofString "_StringIO__line"), key := Value.str (Str.ofString "_StringIO__line") 762, val := Value.ref 427 }, { hash := PyData.keyHash P (Str.ofString "closed"), key := Value.str (Str.ofString "closed") 770, val := Value.ref 435 }, { hash := PyData.keyHash P (Str.ofString "line_buffering"), key := Value.str (Str.ofString "line_buffering") 778, val := Value.ref 443 }, { hash := PyData.keyHash P (Str.ofString "newlines"), key := Value.str (Str.ofString "newlines") 786, val := Value.ref 451 }, { hash := PyData.keyHash P (Str.ofString "encoding"), key := Value.str (Str.ofString "encoding") 794, val := Value.ref 459 }, { hash := PyData.keyHash P (Str.ofString "errors"), key := Value.str (Str.ofString "errors") 802, val := Value.ref 467 }, { hash := PyData.keyHash P (Str.ofString "close"), key := Value.str (Str.ofString "close") 809, val := Value.ref 474 }, { hash := PyData.keyHash P (Str.ofString "__enter__"), key := Value.str (Str.ofString "__enter__") 816, val := Value.ref 481 }, { hash := PyData.keyHash P (Str.ofString "__exit__"), key := Value.str (Str.ofString "__exit__") 824, val := Value.ref 488 }, { hash := PyData.keyHash P (Str.ofString "readable"), key := Value.str (Str.ofString "readable") 831, val := Value.ref 495 }, { hash := PyData.keyHash P (Str.ofString "writable"), key := Value.str (Str.ofString "writable") 838, val := Value.ref 502 }, { hash := PyData.keyHash P (Str.ofString "seekable"), key := Value.str (Str.ofString "seekable") 845, val := Value.ref 509 }, { hash := PyData.keyHash P (Str.ofString "isatty"), key := Value.str (Str.ofString "isatty") 852, val := Value.ref 516 }, { hash := PyData.keyHash P (Str.ofString "flush"), key := Value.str (Str.ofString "flush") 859, val := Value.ref 523 }, { hash := PyData.keyHash P (Str.ofString "fileno"), key := Value.str (Str.ofString "fileno") 866, val := Value.ref 530 }, { hash := PyData.keyHash P (Str.ofString "detach"), key := Value.str (Str.ofString "detach") 873, val := Value.ref 537 }, { hash := PyData.keyHash P (Str.ofString "getvalue"), key := Value.str (Str.ofString "getvalue") 880, val := Value.ref 544 }, { hash := PyData.keyHash P (Str.ofString "tell"), key := Value.str (Str.ofString "tell") 887, val := Value.ref 551 }, { hash := PyData.keyHash P (Str.ofString "seek"), key := Value.str (Str.ofString "seek") 897, val := Value.ref 559 }, { hash := PyData.keyHash P (Str.ofString "truncate"), key := Value.str (Str.ofString "truncate") 905, val := Value.ref 567 }, { hash := PyData.keyHash P (Str.ofString "read"), key := Value.str (Str.ofString "read") 917, val := Value.ref 575 }, { hash := PyData.keyHash P (Str.ofString "readline"), key := Value.str (Str.ofString "readline") 927, val := Value.ref 583 }, { hash := PyData.keyHash P (Str.ofString "readlines"), key := Value.str (Str.ofString "readlines") 937, val := Value.ref 591 }, { hash := PyData.keyHash P (Str.ofString "__iter__"), key := Value.str (Str.ofString "__iter__") 944, val := Value.ref 598 }, { hash := PyData.keyHash P (Str.ofString "__next__"), key := Value.str (Str.ofString "__next__") 952, val := Value.ref 605 }, { hash := PyData.keyHash P (Str.ofString "write"), key := Value.str (Str.ofString "write") 964, val := Value.ref 612 }, { hash := PyData.keyHash P (Str.ofString "writelines"), key := Value.str (Str.ofString "writelines") 972, val := Value.ref 619 }, { hash := PyData.keyHash P (Str.ofString "__repr__"), key := Value.str (Str.ofString "__repr__") 979, val := Value.ref 626 }, { hash := PyData.keyHash P (Str.ofString "__static_attributes__"), key := Value.str (Str.ofString "__static_attributes__") 983, val := Value.ref 627 }, { hash := PyData.keyHash P (Str.ofString "__doc__"), key := Value.str (Str.ofString "__doc__") 984, val := Value.none }] 2 })) ::
  (nat_lit 629, ({ cls := Value.type "type", data := Data.cls { name := Str.ofString "StringIO", bases := [Value.ref 152], mro := [Value.ref 629, Value.ref 152, Value.ref 125, Value.type "object"], ns := 628, qualname := Str.ofString "StringIO" }, slots := #[some (Value.ref 385), none, some (Value.str (Str.ofString "StringIO") 700), some (Value.str (Str.ofString "StringIO") 708), some Value.none, some (Value.bool true)] })) ::
  (nat_lit 681, ({ cls := Value.type "tuple", data := Data.seq #[Value.none, Value.none, Value.bool false, Value.bool false] })) ::
  (nat_lit 687, ({ cls := Value.type "code", data := Data.fields #[Value.str (Str.ofString "__init__") 1059, Value.str (Str.ofString "shlex.__init__") 1060, Value.str (Str.ofString "/claim/cut.py") 1061, Value.int 546 0, Value.int 5 0, Value.int 0 0, Value.int 0 0, Value.int 3 0, Value.ref 682, Value.bool true, Value.int 273 0, Value.ref 683, Value.none, Value.ref 684, Value.ref 685, Value.ref 686, Value.int 1068 0, Value.int 546 0, Value.str (Str.ofString "/claim/cut.py") 1069] })) ::
  (nat_lit 688, f688) ::
  (nat_lit 694, ({ cls := Value.type "code", data := Data.fields #[Value.str (Str.ofString "punctuation_chars") 1071, Value.str (Str.ofString "shlex.punctuation_chars") 1072, Value.str (Str.ofString "/claim/cut.py") 1073, Value.int 587 0, Value.int 1 0, Value.int 0 0, Value.int 0 0, Value.int 3 0, Value.ref 689, Value.bool true, Value.int 273 0, Value.ref 690, Value.none, Value.ref 691, Value.ref 692, Value.ref 693, Value.int 1075 0, Value.int 587 0, Value.str (Str.ofString "/claim/cut.py") 1076] })) ::
  (nat_lit 695, f695) ::
  (nat_lit 696, ({ cls := Value.type "property", data := Data.fields #[Value.ref 695, Value.none, Value.none, Value.none, Value.str (Str.ofString "punctuation_chars") 1078, Value.bool false] })) ::
  (nat_lit 724, ({ cls := Value.type "code", data := Data.fields #[Value.str (Str.ofString "get_token") 1103, Value.str (Str.ofString "shlex.get_token") 1104, Value.str (Str.ofString "/claim/cut.py") 1105, Value.int 614 0, Value.int 1 0, Value.int 0 0, Value.int 0 0, Value.int 3 0, Value.ref 719, Value.bool true, Value.int 273 0, Value.ref 720, Value.none, Value.ref 721, Value.ref 722, Value.ref 723, Value.int 1112 0, Value.int 614 0, Value.str (Str.ofString "/claim/cut.py") 1113] })) ::
  (nat_lit 725, f725) ::
  (nat_lit 731, ({ cls := Value.type "code", data := Data.fields #[Value.str (Str.ofString "read_token") 1115, Value.str (Str.ofString "shlex.read_token") 1116, Value.str (Str.ofString "/claim/cut.py") 1117, Value.int 641 0, Value.int 1 0, Value.int 0 0, Value.int 0 0, Value.int 3 0, Value.ref 726, Value.bool true, Value.int 273 0, Value.ref 727, Value.none, Value.ref 728, Value.ref 729, Value.ref 730, Value.int 1123 0, Value.int 641 0, Value.str (Str.ofString "/claim/cut.py") 1124] })) ::
  (nat_lit 732, f732) ::
  (nat_lit 763, ({ cls := Value.type "dict", data := Data.dict #[{ hash := PyData.keyHash P (Str.ofString "__module__"), key := Value.str (Str.ofString "__module__") 1054, val := Value.str (Str.ofString "cpy313.shlex") 1045 }, { hash := PyData.keyHash P (Str.ofString "__firstlineno__"), key := Value.str (Str.ofString "__firstlineno__") 1058, val := Value.int 544 1057 }, { hash := PyData.keyHash P (Str.ofString "__init__"), key := Value.str (Str.ofString "__init__") 1070, val := Value.ref 688 }, { hash := PyData.keyHash P (Str.ofString "punctuation_chars"), key := Value.str (Str.ofString "punctuation_chars") 1078, val := Value.ref 696 }, { hash := PyData.keyHash P (Str.ofString "push_token"), key := Value.str (Str.ofString "push_token") 1086, val := Value.ref 703 }, { hash := PyData.keyHash P (Str.ofString "push_source"), key := Value.str (Str.ofString "push_source") 1095, val := Value.ref 711 }, { hash := PyData.keyHash P (Str.ofString "pop_source"), key := Value.str (Str.ofString "pop_source") 1102, val := Value.ref 718 }, { hash := PyData.keyHash P (Str.ofString "get_token"), key := Value.str (Str.ofString "get_token") 1114, val := Value.ref 725 }, { hash := PyData.keyHash P (Str.ofString "read_token"), key := Value.str (Str.ofString "read_token") 1125, val := Value.ref 732 }, { hash := PyData.keyHash P (Str.ofString "sourcehook"), key := Value.str (Str.ofString "sourcehook") 1133, val := Value.ref 739 }, { hash := PyData.keyHash P (Str.ofString "error_leader"), key := Value.str (Str.ofString "error_leader") 1142, val := Value.ref 747 }, { hash := PyData.keyHash P (Str.ofString "__iter__"), key := Value.str (Str.ofString "__iter__") 1149, val := Value.ref 754 }, { hash := PyData.keyHash P (Str.ofString "__next__"), key := Value.str (Str.ofString "__next__") 1157, val := Value.ref 761 }, { hash := PyData.keyHash P (Str.ofString "__static_attributes__"), key := Value.str (Str.ofString "__static_attributes__") 1178, val := Value.ref 762 }, { hash := PyData.keyHash P (Str.ofString "__dict__"), key := Value.str (Str.ofString "__dict__") 1180, val := Value.ref 765 }, { hash := PyData.keyHash P (Str.ofString "__weakref__"), key := Value.str (Str.ofString "__weakref__") 1182, val := Value.ref 766 }, { hash := PyData.keyHash P (Str.ofString "__doc__"), key := Value.str (Str.ofString "__doc__") 1183, val := Value.none }] 4 })) ::
  (nat_lit 764, ({ cls := Value.type "type", data := Data.cls { name := Str.ofString "shlex", bases := [Value.type "object"], mro := [Value.ref 764, Value.type "object"], ns := 763, qualname := Str.ofString "shlex" }, slots := #[none, none, some (Value.str (Str.ofString "shlex") 1047), some (Value.str (Str.ofString "shlex") 1055), some (Value.builtin "object.__new__"), some (Value.bool true)] })) ::
  (nat_lit 765, ({ cls := Value.type "getset_descriptor", data := Data.fields #[Value.str (Str.ofString "__dict__") 1179, Value.ref 764, Value.builtin "function.__dict__", Value.builtin "function.__dict__#set"] })) ::
  (nat_lit 766, ({ cls := Value.type "getset_descriptor", data := Data.fields #[Value.str (Str.ofString "__weakref__") 1181, Value.ref 764, Value.builtin "ExceptionGroup.__weakref__", Value.none] })) ::
  (nat_lit 769, ({ cls := Value.type "tuple", data := Data.seq #[Value.str (Str.ofString "a") 1188, Value.str (Str.ofString " ") 1189, Value.str (Str.ofString "\"") 1190, Value.str (Str.ofString "'") 1191, Value.str (Str.ofString "<") 1192, Value.str (Str.ofString ">") 1193, Value.str (Str.ofString "&") 1194, Value.str (Str.ofString "\n") 1195, Value.str (Str.ofString "\t") 1196, Value.str (Str.ofString "\x0d") 1197, Value.str (Str.ofString "\\") 1198, Value.str (Str.ofString "=") 1199, Value.str (Str.ofString "/") 1200, Value.str (Str.ofString ";") 1201, Value.str (Str.ofString "#") 1202, Value.str (Str.ofString "é") 1203] })) ::
  (nat_lit 770, ({ cls := Value.type "dict", data := Data.dict #[{ hash := PyData.keyHash P (Str.ofString "&"), key := Value.str (Str.ofString "&") 1205, val := Value.str (Str.ofString "&amp;") 1206 }, { hash := PyData.keyHash P (Str.ofString "<"), key := Value.str (Str.ofString "<") 1207, val := Value.str (Str.ofString "&lt;") 1208 }, { hash := PyData.keyHash P (Str.ofString ">"), key := Value.str (Str.ofString ">") 1209, val := Value.str (Str.ofString "&gt;") 1210 }, { hash := PyData.keyHash P (Str.ofString "\""), key := Value.str (Str.ofString "\"") 1211, val := Value.str (Str.ofString "&quot;") 1212 }, { hash := PyData.keyHash P (Str.ofString "\x0d"), key := Value.str (Str.ofString "\x0d") 1213, val := Value.str (Str.ofString "&#13;") 1214 }, { hash := PyData.keyHash P (Str.ofString "\n"), key := Value.str (Str.ofString "\n") 1215, val := Value.str (Str.ofString "&#10;") 1216 }, { hash := PyData.keyHash P (Str.ofString "\t"), key := Value.str (Str.ofString "\t") 1217, val := Value.str (Str.ofString "&#09;") 1218 }] 7 })) ::
  (nat_lit 771, ({ cls := Value.type "dict", data := Data.dict #[{ hash := PyData.keyHash P (Str.ofString "&"), key := Value.str (Str.ofString "&") 1226, val := Value.str (Str.ofString "&amp;") 1227 }, { hash := PyData.keyHash P (Str.ofString "<"), key := Value.str (Str.ofString "<") 1228, val := Value.str (Str.ofString "&lt;") 1229 }, { hash := PyData.keyHash P (Str.ofString "\""), key := Value.str (Str.ofString "\"") 1230, val := Value.str (Str.ofString "&quot;") 1231 }, { hash := PyData.keyHash P (Str.ofString "\t"), key := Value.str (Str.ofString "\t") 1232, val := Value.str (Str.ofString "&#x9;") 1233 }, { hash := PyData.keyHash P (Str.ofString "\n"), key := Value.str (Str.ofString "\n") 1234, val := Value.str (Str.ofString "&#xA;") 1235 }, { hash := PyData.keyHash P (Str.ofString "\x0d"), key := Value.str (Str.ofString "\x0d") 1236, val := Value.str (Str.ofString "&#xD;") 1237 }] 6 })) ::
  (nat_lit 772, ({ cls := Value.type "dict", data := Data.dict #[{ hash := PyData.keyHash P (Str.ofString "&"), key := Value.str (Str.ofString "&") 1244, val := Value.str (Str.ofString "&amp;") 1245 }, { hash := PyData.keyHash P (Str.ofString ">"), key := Value.str (Str.ofString ">") 1246, val := Value.str (Str.ofString "&gt;") 1247 }, { hash := PyData.keyHash P (Str.ofString "\""), key := Value.str (Str.ofString "\"") 1248, val := Value.str (Str.ofString "&quot;") 1249 }] 3 })) ::
  (nat_lit 773, ({ cls := Value.type "tuple", data := Data.seq #[Value.ref 770, Value.ref 771, Value.ref 772] })) ::
  (nat_lit 774, ({ cls := Value.type "dict", data := Data.dict #[{ hash := PyData.keyHash P (Str.ofString "&"), key := Value.str (Str.ofString "&") 1254, val := Value.str (Str.ofString "&amp;") 1255 }, { hash := PyData.keyHash P (Str.ofString "<"), key := Value.str (Str.ofString "<") 1256, val := Value.str (Str.ofString "&lt;") 1257 }, { hash := PyData.keyHash P (Str.ofString ">"), key := Value.str (Str.ofString ">") 1258, val := Value.str (Str.ofString "&gt;") 1259 }] 3 })) ::
  (nat_lit 775, ({ cls := Value.type "dict", data := Data.dict #[{ hash := PyData.keyHash P (Str.ofString "&"), key := Value.str (Str.ofString "&") 1263, val := Value.str (Str.ofString "&amp;") 1264 }, { hash := PyData.keyHash P (Str.ofString "<"), key := Value.str (Str.ofString "<") 1265, val := Value.str (Str.ofString "&lt;") 1266 }, { hash := PyData.keyHash P (Str.ofString ">"), key := Value.str (Str.ofString ">") 1267, val := Value.str (Str.ofString "&gt;") 1268 }, { hash := PyData.keyHash P (Str.ofString "\x0d"), key := Value.str (Str.ofString "\x0d") 1269, val := Value.str (Str.ofString "&#xD;") 1270 }] 4 })) ::
  (nat_lit 776, ({ cls := Value.type "tuple", data := Data.seq #[Value.ref 774, Value.ref 775] })) ::
  (nat_lit 780, ({ cls := Value.type "code", data := Data.fields #[Value.str (Str.ofString "_law_spelled") 1276, Value.str (Str.ofString "_law_spelled") 1277, Value.str (Str.ofString "/claim/cut.py") 1278, Value.int 800 0, Value.int 2 0, Value.int 0 0, Value.int 0 0, Value.int 3 0, Value.ref 777, Value.bool true, Value.int 273 0, Value.ref 778, Value.none, Value.none, Value.none, Value.ref 779, Value.int 1279 0, Value.int 800 0, Value.str (Str.ofString "/claim/cut.py") 1280] })) ::
  (nat_lit 781, f781) ::
  (nat_lit 787, ({ cls := Value.type "code", data := Data.fields #[Value.str (Str.ofString "_law_attribute") 1282, Value.str (Str.ofString "_law_attribute") 1283, Value.str (Str.ofString "/claim/cut.py") 1284, Value.int 802 0, Value.int 2 0, Value.int 0 0, Value.int 0 0, Value.int 3 0, Value.ref 782, Value.bool true, Value.int 273 0, Value.ref 783, Value.none, Value.ref 784, Value.ref 785, Value.ref 786, Value.int 1287 0, Value.int 802 0, Value.str (Str.ofString "/claim/cut.py") 1288] })) ::
  (nat_lit 788, f788) ::
  (nat_lit 794, ({ cls := Value.type "code", data := Data.fields #[Value.str (Str.ofString "_law_text") 1290, Value.str (Str.ofString "_law_text") 1291, Value.str (Str.ofString "/claim/cut.py") 1292, Value.int 808 0, Value.int 2 0, Value.int 0 0, Value.int 0 0, Value.int 3 0, Value.ref 789, Value.bool true, Value.int 273 0, Value.ref 790, Value.none, Value.ref 791, Value.ref 792, Value.ref 793, Value.int 1295 0, Value.int 808 0, Value.str (Str.ofString "/claim/cut.py") 1296] })) ::
  (nat_lit 795, f795) ::
  (nat_lit 801, ({ cls := Value.type "code", data := Data.fields #[Value.str (Str.ofString "_law_document") 1298, Value.str (Str.ofString "_law_document") 1299, Value.str (Str.ofString "/claim/cut.py") 1300, Value.int 812 0, Value.int 1 0, Value.int 0 0, Value.int 0 0, Value.int 3 0, Value.ref 796, Value.bool true, Value.int 273 0, Value.ref 797, Value.none, Value.ref 798, Value.ref 799, Value.ref 800, Value.int 1317 0, Value.int 812 0, Value.str (Str.ofString "/claim/cut.py") 1318] })) ::
  (nat_lit 802, f802) ::
  (nat_lit 808, ({ cls := Value.type "code", data := Data.fields #[Value.str (Str.ofString "_law_reading") 1320, Value.str (Str.ofString "_law_reading") 1321, Value.str (Str.ofString "/claim/cut.py") 1322, Value.int 852 0, Value.int 1 0, Value.int 0 0, Value.int 0 0, Value.int 3 0, Value.ref 803, Value.bool true, Value.int 273 0, Value.ref 804, Value.none, Value.ref 805, Value.ref 806, Value.ref 807, Value.int 1331 0, Value.int 852 0, Value.str (Str.ofString "/claim/cut.py") 1332] })) ::
  (nat_lit 809, f809) ::
  (nat_lit 815, ({ cls := Value.type "code", data := Data.fields #[Value.str (Str.ofString "_law_answer") 1334, Value.str (Str.ofString "_law_answer") 1335, Value.str (Str.ofString "/claim/cut.py") 1336, Value.int 880 0, Value.int 1 0, Value.int 0 0, Value.int 0 0, Value.int 3 0, Value.ref 810, Value.bool true, Value.int 273 0, Value.ref 811, Value.none, Value.ref 812, Value.ref 813, Value.ref 814, Value.int 1338 0, Value.int 880 0, Value.str (Str.ofString "/claim/cut.py") 1339] })) ::
  (nat_lit 816, f816) ::
  (nat_lit 822, ({ cls := Value.type "code", data := Data.fields #[Value.str (Str.ofString "law") 1341, Value.str (Str.ofString "law") 1342, Value.str (Str.ofString "/claim/cut.py") 1343, Value.int 885 0, Value.int 1 0, Value.int 0 0, Value.int 0 0, Value.int 3 0, Value.ref 817, Value.bool true, Value.int 273 0, Value.ref 818, Value.none, Value.ref 819, Value.ref 820, Value.ref 821, Value.int 1346 0, Value.int 885 0, Value.str (Str.ofString "/claim/cut.py") 1347] })) ::
  (nat_lit 823, f823) :: [] : List (Nat × Obj)))
  _ _ _ _ _ _ _ _ _ _ _ _ _ _ _ _ _ _ _ _ _ _
  (by conv => rhs; whnf) (by conv => rhs; whnf) (by conv => rhs; whnf) (by conv => rhs; whnf) (by conv => rhs; whnf) (by conv => rhs; whnf) (by conv => rhs; whnf) (by conv => rhs; whnf) (by conv => rhs; whnf) (by conv => rhs; whnf) (by conv => rhs; whnf) (by conv => rhs; whnf) (by conv => rhs; whnf) (by conv => rhs; whnf) (by conv => rhs; whnf) (by conv => rhs; whnf) (by conv => rhs; whnf) (by conv => rhs; whnf) (by conv => rhs; whnf) (by conv => rhs; whnf) (by conv => rhs; whnf) (by conv => rhs; whnf)
def hd_heap_39_as : List Addr := [nat_lit 2, nat_lit 3, nat_lit 52, nat_lit 53, nat_lit 59, nat_lit 60, nat_lit 66, nat_lit 67, nat_lit 73, nat_lit 74, nat_lit 80, nat_lit 81, nat_lit 94, nat_lit 95, nat_lit 121, nat_lit 122, nat_lit 124, nat_lit 125, nat_lit 126, nat_lit 127, nat_lit 128, nat_lit 151, nat_lit 152, nat_lit 382, nat_lit 392, nat_lit 398, nat_lit 399, nat_lit 405, nat_lit 406, nat_lit 412, nat_lit 413, nat_lit 435, nat_lit 443, nat_lit 451, nat_lit 459, nat_lit 467, nat_lit 568, nat_lit 574, nat_lit 575, nat_lit 628, nat_lit 629, nat_lit 681, nat_lit 687, nat_lit 688, nat_lit 694, nat_lit 695, nat_lit 696, nat_lit 724, nat_lit 725, nat_lit 731, nat_lit 732, nat_lit 763, nat_lit 764, nat_lit 765, nat_lit 766, nat_lit 769, nat_lit 770, nat_lit 771, nat_lit 772, nat_lit 773, nat_lit 774, nat_lit 775, nat_lit 776, nat_lit 780, nat_lit 781, nat_lit 787, nat_lit 788, nat_lit 794, nat_lit 795, nat_lit 801, nat_lit 802, nat_lit 808, nat_lit 809, nat_lit 815, nat_lit 816, nat_lit 822, nat_lit 823]

noncomputable def hd.view_39 : Program := { pw with main := { pw.main with body := [0, 1, 3, 4, 5, 6, 7, 8, 10, 11, 12, 13, 14, 15, 16, 17, 19, 20, 21, 22, 23, 24, 26, 28, 29, 30, 31, 32, 33, 34, 35, 36, 37].map topN } }
noncomputable abbrev loose0 : List Str := [Str.ofString "UnsupportedOperation", Str.ofString "IOBase", Str.ofString "BufferedIOBase", Str.ofString "TextIOBase", Str.ofString "BytesIO", Str.ofString "StringIO", Str.ofString "shlex", Str.ofString "_law_attributes", Str.ofString "_law_texts"]
noncomputable def Xt0 (s : Shared) : Bool := xlAt hd.view_39 [] s && recOk (RowW.records (OpenRow.toRowW PySem.Challenge.rw_mr0358_01.row)) s
noncomputable def kept0 (P : Params) (s : Shared) : Bool := staticsOk (importedModules pw.main.body) (H0 P) s.heap && namesBound pw s.heap && gensDone s && laidKept (H0 P) s.heap
noncomputable def getsT (T : SharedT) (a : Addr) : Option Obj := match Nat.blt a T.n with
  | true => match T.tree.get a with
    | some o => alive o
    | none => none
  | false => none
theorem getsT_is {T : SharedT} {a : Addr} {o : Obj} (h : getsT T a = some o) : T.abs.heap.get? a = some o := by
  unfold getsT at h
  split at h
  · rename_i hb
    split at h
    · rename_i o' g
      exact (abs_get (Nat.le_of_ble_eq_true hb) g).trans h
    · cases h
  · cases h
theorem gets_are {T : SharedT} : ∀ {as : List Addr} {K : Frag}, as.map (getsT T) = K.map (fun p => some p.2) → as.map T.abs.heap.get? = K.map fun p => some p.2
  | [], [], _ => rfl
  | [], _ :: _, h => by cases h
  | _ :: _, [], h => by cases h
  | a :: as, p :: K, h => by
    simp only [List.map_cons, List.cons.injEq] at h ⊢
    exact ⟨getsT_is h.1, gets_are h.2⟩
theorem runA0 : ∀ (w : World) (os : OsState), (PySem.W.Fast.tw10110043849684766642 PySem.W.Fast.tw14364793385576792824 pw (fw w false) 29 an0 1 5600 (Tb (fw w false).params os) (piecesOf bd0 env0 cE0 ps0 [topFrame ps0])).map (fun x => (x.1, x.2.2, kept0 (fw w false).params x.2.1.abs, hd_heap_39_as.map (getsT x.2.1), PySem.W.Fast.tw4187177175401517315 hd.view_39 loose0 (importedModules pw.main.body) Xt0 true x.2.1.abs))
    = some (.next, (cE0, ps1), true, ((hd.heap_39 (fw w false).params).map fun p => some p.2), openGood hd.view_39 loose0) := fun w os => by kernel_rfl
theorem runA1 : ∀ (w : World) (os : OsState), (PySem.W.Fast.tw10110043849684766642 PySem.W.Fast.tw14364793385576792824 pw (fw w true) 29 an0 1 5600 (Tb (fw w true).params os) (piecesOf bd0 env0 cE0 ps0 [topFrame ps0])).map (fun x => (x.1, x.2.2, kept0 (fw w true).params x.2.1.abs, hd_heap_39_as.map (getsT x.2.1), PySem.W.Fast.tw4187177175401517315 hd.view_39 loose0 (importedModules pw.main.body) Xt0 true x.2.1.abs))
    = some (.next, (cE0, ps1), true, ((hd.heap_39 (fw w true).params).map fun p => some p.2), openGood hd.view_39 loose0) := fun w os => by kernel_rfl
theorem join_runs {A C X Y Z : Type} {o : Option (A × SharedT × C)} {a : A} {c : C} {k : Shared → X} {v : SharedT → Y} {v' : Shared → Y} {g : Shared → Z} {x : X} {y : Y} {z : Z} {fin : Shared → Option Shared}
    (hA : o.map (fun r => (r.1, r.2.2, k r.2.1.abs, v r.2.1, g r.2.1.abs)) = some (a, c, x, y, z))
    (hf : ∀ T : SharedT, fin T.abs = some T.abs) (hv : ∀ T, v T = y → v' T.abs = y) :
    o.map (fun r => (r.1, r.2.2, (fin r.2.1.abs).map fun s => (k s, g s, v' s))) = some (a, c, some (x, z, y)) := by
  cases o with
  | none => cases hA
  | some r =>
    simp only [Option.map_some, Option.some.injEq, Prod.mk.injEq] at hA ⊢
    obtain ⟨h1, h2, h3, h4, h5⟩ := hA
    refine ⟨h1, h2, ?_⟩
    rw [hf]
    simp only [Option.map_some, h3, h5, hv _ h4]
noncomputable def sees0 (s : Shared) := openSeen hd.view_39 loose0 (importedModules pw.main.body) Xt0 true s
theorem runs0 (w : World) (os : OsState) : ∀ b, (segRunT treeTable pw (fw w b) 29 an0 1 5600 (Tb (fw w b).params os) (piecesOf bd0 env0 cE0 ps0 [topFrame ps0])).map (fun x => (x.1, x.2.2, (topRun treeTable pw (fw w b) 29 an0 2 x.2.1.abs ⟨doneF .next, cE0, ps1, [topFrame ps0]⟩).map
    fun s => (kept0 (fw w b).params s, sees0 s, hd_heap_39_as.map s.heap.get?))) = some (.next, (cE0, ps1), some (true, openGood hd.view_39 loose0, (hd.heap_39 (fw w b).params).map fun p => some p.2))
  | false => by
    have hA := runA0 w os
    rw [← PySem.W.Fast.te10110043849684766642, ← PySem.W.Fast.te14364793385576792824, ← PySem.W.Fast.te4187177175401517315] at hA
    exact join_runs (k := kept0 (fw w false).params) (v := fun T => hd_heap_39_as.map (getsT T)) (v' := fun s => hd_heap_39_as.map s.heap.get?) (g := sees0) (fin := fun s => topRun treeTable pw (fw w false) 29 an0 2 s ⟨doneF .next, cE0, ps1, [topFrame ps0]⟩) hA (fin0 _) (fun T => gets_are)
  | true => by
    have hA := runA1 w os
    rw [← PySem.W.Fast.te10110043849684766642, ← PySem.W.Fast.te14364793385576792824, ← PySem.W.Fast.te4187177175401517315] at hA
    exact join_runs (k := kept0 (fw w true).params) (v := fun T => hd_heap_39_as.map (getsT T)) (v' := fun s => hd_heap_39_as.map s.heap.get?) (g := sees0) (fin := fun s => topRun treeTable pw (fw w true) 29 an0 2 s ⟨doneF .next, cE0, ps1, [topFrame ps0]⟩) hA (fin0 _) (fun T => gets_are)
theorem whole0 (w : World) (os : OsState) : (topRun treeTable pw w 29 an0 (12 + (1 + (5600 + 2))) ⟨H0 w.params, ⟨[]⟩, {}, 273, os⟩ (topStub pw)).map (fun s => (kept0 w.params s, sees0 s, hd_heap_39_as.map s.heap.get?))
    = some (true, openGood hd.view_39 loose0, (hd.heap_39 w.params).map fun p => some p.2) := by
  have key : ∀ b, (topRun treeTable pw (fw w b) 29 an0 (12 + (1 + (5600 + 2))) ⟨H0 (fw w b).params, ⟨[]⟩, {}, 273, os⟩ (topStub pw)).map (fun s => (kept0 (fw w b).params s, sees0 s, hd_heap_39_as.map s.heap.get?))
      = some (true, openGood hd.view_39 loose0, (hd.heap_39 (fw w b).params).map fun p => some p.2) :=
    fun b => top_of_run rfl (pre0 (fw w b) os) (block0 (fw w b) os) (runs0 w os b)
  have e : fw w (w.params.followText "special-get-raises") = w := World.withFollow_self w _
  have h := key (w.params.followText "special-get-raises")
  rwa [e] at h
theorem as0 (P : Params) : hd_heap_39_as = (hd.heap_39 P).map (·.1) := by kernel_rfl
noncomputable abbrev hook0 : Hook := kHook hd.heap_39 hd_heap_39_as as0
theorem left0 : LeftO pw hd.view_39 loose0 Xt0 hook0.obs hook0.val 11128 := by
  refine left_whole (H₀ := H0) (gs₀ := ⟨[]⟩) (d₀ := {}) (k₀ := 273) (m₀ := 29) (ann := an0) (M := 12 + (1 + (5600 + 2))) open0 size0 ?_ ?_
  · exact whole0
  · decide
abbrev rw0 : OpenLaw := PySem.Challenge.rw_mr0358_01
def defR : Stmt → DefRec
  | .FunctionDef n a b _ _ _ sc _ _ ps => ⟨n, a, b, sc, ps⟩
  | _ => ⟨default, default, default, default, default⟩
theorem said1 : PySem.W.Fast.tw9446332074065402090 rw0 = true := by kernel_rfl
theorem said0 : rw0.wellSaid = true := (congrFun PySem.W.Fast.te9446332074065402090 rw0).trans said1
theorem def0 : defOf hd.view_39 rw0.row.name = some (defR (topN 37), []) := by kernel_rfl
theorem the0 : rw0.row.prog.theDef rw0.row.name = some ((defR (topN 37)).params, (defR (topN 37)).body, (defR (topN 37)).scope) := by kernel_rfl
theorem kw0 : kwWritten? (defR (topN 37)).params.kwonlyargs (defR (topN 37)).params.kw_defaults = some [] := by kernel_rfl
theorem ok0 : (chainsOk hd.view_39 && opensWell rw0.row.prog && (frees rw0.row.toRowW && rw0.row.within.isEmpty)) = true := by kernel_rfl
theorem hw0 : rw0.row.toRowW.promised := by w_witness2
theorem hd {d : DefRec} (e : d = defR (topN 37)) (walk : WalkO hd.view_39 loose0 (XL hd.view_39 []) hook0.says rw0.row.toRowW d [] fun f vs => PySem.call f vs) : PySem.Challenge.rw_mr0358_01.Holds := by
  subst e
  refine holds_law said0 fun said => ?_
  exact PySem.W.holds_open (q := hd.view_39) (loose := loose0) (Xt := Xt0) (XP := XL hd.view_39 []) (Yf := hook0.obs) (Ya := hook0.val) (YP := hook0.says) (N := 11128) left0 hook0.of hook0.keeps (fun s e => xl_of s (Bool.and_eq_true_iff.mp e).1) XL.keeps
    def0 the0 kw0 (fun s e => recFacts_of (Bool.and_eq_true_iff.mp e).2) rfl said ok0 ⟨rfl, rfl, rfl, rfl, rfl, by decide +kernel⟩ hw0 walk
theorem names0 : namesOk hd.view_39 (looseW hd.view_39 loose0) (namesW hd.view_39 loose0) = true := by kernel_rfl
theorem imp0 : importsNone hd.view_39 = true := by kernel_rfl
abbrev dq (n : Int) (xs : List Value) : Obj := { cls := .type "collections.deque", data := .fields (Value.none :: rawInt n :: xs).toArray }
theorem plainAttrs_dq : PlainAttrs "collections.deque" :=
  ⟨⟨"collections.deque.__getattribute__", by rw [typeLookup_type, builtinLookup_eq_fast]; kernel_rfl, by decide +kernel⟩, by rw [typeLookup_type, builtinLookup_eq_fast]; kernel_rfl⟩
theorem noBool_dq : typeLookup (.type "collections.deque") "__bool__" = pure none := by rw [typeLookup_type, builtinLookup_eq_fast]; kernel_rfl
theorem slot_dq_popleft : Slot "collections.deque" "popleft" "collections.deque.popleft" :=
  .of (owner := "collections.deque") (n := "popleft") (by rw [typeLookup_type, builtinLookup_eq_fast]; kernel_rfl) (by decide +kernel) (by decide +kernel) (by decide +kernel)
    (by first | exact .inl (by decide +kernel) | exact .inr (by decide +kernel)) (by rw [isSubtype_type]; kernel_rfl)
theorem slot_dq_appendleft : Slot "collections.deque" "appendleft" "collections.deque.appendleft" :=
  .of (owner := "collections.deque") (n := "appendleft") (by rw [typeLookup_type, builtinLookup_eq_fast]; kernel_rfl) (by decide +kernel) (by decide +kernel) (by decide +kernel)
    (by first | exact .inl (by decide +kernel) | exact .inr (by decide +kernel)) (by rw [isSubtype_type]; kernel_rfl)
theorem slot_dq_len : Slot "collections.deque" "__len__" "collections.deque.__len__" :=
  .of (owner := "collections.deque") (n := "__len__") (by rw [typeLookup_type, builtinLookup_eq_fast]; kernel_rfl) (by decide +kernel) (by decide +kernel) (by decide +kernel)
    (by first | exact .inl (by decide +kernel) | exact .inr (by decide +kernel)) (by rw [isSubtype_type]; kernel_rfl)
theorem type_dq_popleft : typeOf (.builtin "collections.deque.popleft") = pure (.type "method_descriptor") := by show builtinType _ = _; rw [builtinType_eq_fast]; kernel_rfl
theorem type_dq_appendleft : typeOf (.builtin "collections.deque.appendleft") = pure (.type "method_descriptor") := by show builtinType _ = _; rw [builtinType_eq_fast]; kernel_rfl
theorem entry_dq_popleft : entryFor table "collections.deque.popleft" = some Builtin.«collections.deque.popleft» := entryFor_of_tree (by kernel_rfl)
theorem entry_dq_appendleft : entryFor table "collections.deque.appendleft" = some Builtin.«collections.deque.appendleft» := entryFor_of_tree (by kernel_rfl)
theorem entry_dq_len : entryFor table "collections.deque.__len__" = some Builtin.«collections.deque.__len__» := entryFor_of_tree (by kernel_rfl)
theorem args_dq_popleft (a : Value) : argsOk "collections.deque.popleft" ⟨[a], []⟩ := by unfold argsOk; kernel_rfl
theorem args_dq_appendleft (a b : Value) : argsOk "collections.deque.appendleft" ⟨[a, b], []⟩ := by unfold argsOk; kernel_rfl
theorem args_dq_len (a : Value) : argsOk "collections.deque.__len__" ⟨[a], []⟩ := by unfold argsOk; kernel_rfl
section
variable {prog : Program} {w : World} {A : Around} {E : Value → Shared → Prop} {s : Shared}
theorem len_body_dq {a : Addr} {n : Int} {xs : List Value} {Q : Value → Shared → Prop} (ho : s.heap.get? a = some (dq n xs)) (hfit : xs.length < 1000)
    (h : Q (.int xs.length (s.toks + 1)) { s with toks := s.toks + 1 + 1 }) : wpAny (model prog w) A (Builtin.«len» ⟨[.ref a], []⟩) (fun fin s' => ∃ r, fin = .done (.ret r) ∧ Q r s') E s := by
  have hT : s.TypeIs (.ref a) "collections.deque" := ⟨_, ho, rfl⟩
  unfold Builtin.«len»
  refine wpAny_bind (m := oneArg "len" _) (wpAny_pure ?_)
  refine wpAny_bind (m := callSpecial? (.ref a) (Str.ofString "__len__")) (wpAny_callSpecial?_slot (name := Str.ofString "__len__") hT slot_dq_len
    (wpAny_call_entry slot_dq_len hT entry_dq_len ?_ (args_dq_len _)))
  · unfold Builtin.«collections.deque.__len__»
    refine wpAny_bind (m := slotArgs "__len__" 0 _) (wpAny_pure ?_)
    unfold Builtin.Deque.size
    refine wpAny_bind (wpAny_bind (wpAny_fieldsOf ho rfl ?_))
    refine wpAny_pure ?_
    unfold retInt
    refine (wpAny_bind (wpAny_mkInt (wpAny_pure ⟨_, rfl, ?_⟩)))
    have e : (((List.toArray (Value.none :: rawInt n :: xs)).size - 2 : Nat) : Int) = (xs.length : Int) := by simp
    refine wpAny_bind (wpAny_holding (wpAny_pure ?_))
    refine wpAny_bind (wpAny_letGo ?_)
    rw [e]
    show wpAny _ _ (if ((xs.length : Nat) : Int) < 0 then _ else _) _ _ _
    rw [if_neg (by omega)]
    show wpAny _ _ (if ((xs.length : Nat) : Int) ≥ 2 ^ 63 then _ else _) _ _ _
    rw [if_neg (by omega)]
    exact wpAny_bind (wpAny_mkInt (wpAny_pure ⟨_, rfl, h⟩))
theorem truthy_dq {a : Addr} {n : Int} {xs : List Value} {Q : Bool → Shared → Prop} (ho : s.heap.get? a = some (dq n xs)) (hfit : xs.length < 1000)
    (h : Q (!xs.isEmpty) { s with toks := s.toks + 1 + 1 }) : wpAny (model prog w) A (truthy (.ref a)) Q E s := by
  have hT : s.TypeIs (.ref a) "collections.deque" := ⟨_, ho, rfl⟩
  have hne : ((xs.length : Int) != 0) = !xs.isEmpty := by cases xs <;> simp; omega
  have key : wpAny (model prog w) A (runValue (.builtin "len" ⟨[.ref a], []⟩)) (fun r s' => r = .int xs.length (s.toks + 1) ∧ Q (!xs.isEmpty) s') E s := by
    refine wpAny_runValue (codeAny_builtin entry_len ?_)
    rw [Around.under_plainId plain_len _]
    exact wpAny_mono (len_body_dq (Q := fun r s' => r = .int xs.length (s.toks + 1) ∧ Q (!xs.isEmpty) s') ho hfit ⟨rfl, h⟩)
      (fun fin s' h' => by obtain ⟨r, rfl, hq⟩ := h'; exact hq) fun _ _ e => e
  unfold truthy
  first
    | refine wpAny_bind (wpAny_callSpecial?_none (name := Str.ofString "__bool__") hT noBool_dq ?_)
    | refine wpAny_bind (wpAny_pure (wpAny_bind (wpAny_callSpecial?_none (name := Str.ofString "__bool__") hT noBool_dq ?_)))
  first
    | refine wpAny_bind (wpAny_specialOf (name := Str.ofString "__len__") hT slot_dq_len.lookup ?_)
    | refine wpAny_bind (wpAny_pure (wpAny_bind (wpAny_specialOf (name := Str.ofString "__len__") hT slot_dq_len.lookup ?_)))
  first
    | exact wpAny_bind (wpAny_mono key (fun r s' h' => by obtain ⟨rfl, hq⟩ := h'; exact wpAny_pure (hne ▸ hq)) fun _ _ e => e)
    | exact wpAny_bind (wpAny_pure (wpAny_bind (wpAny_mono key (fun r s' h' => by obtain ⟨rfl, hq⟩ := h'; exact wpAny_pure (hne ▸ hq)) fun _ _ e => e)))
theorem popleft_at {a : Addr} {n : Int} {x : Value} {xs : List Value} {Q : Value → Shared → Prop} (ho : s.heap.get? a = some (dq n (x :: xs))) (hfit : xs.length < 1000)
    (h : ∀ h', Heap.SameBut a s.heap h' → h'.get? a = some (dq (n + 1) xs) → Q x { s with heap := h' }) :
    wpAny (model prog w) A (call (.builtin "collections.deque.popleft") [.ref a]) Q E s := by
  have hT : s.TypeIs (.ref a) "collections.deque" := ⟨_, ho, rfl⟩
  refine wpAny_call_entry slot_dq_popleft hT entry_dq_popleft ?_ (args_dq_popleft _)
  unfold Builtin.«collections.deque.popleft»
  refine wpAny_bind (m := selfOnly "deque.popleft" _) (wpAny_pure ?_)
  unfold Builtin.Deque.items
  refine wpAny_bind (wpAny_bind (wpAny_fieldsOf ho rfl (wpAny_pure ?_)))
  have e1 : ((Value.none :: rawInt n :: x :: xs).toArray.extract 2 (Value.none :: rawInt n :: x :: xs).toArray.size) = (x :: xs).toArray := by simp
  rw [e1]
  show wpAny _ _ (Builtin.Deque.change (.ref a) _ >>= fun _ => ret x) _ _ s
  unfold Builtin.Deque.change Builtin.Deque.state
  refine wpAny_bind (wpAny_bind (wpAny_bind (wpAny_field ho rfl (i := 1) (x := rawInt n) (by simp) (wpAny_pure ?_))))
  refine wpAny_updateFields ho rfl (wpAny_pure ⟨x, rfl, h _ (Heap.SameBut.update ..) ?_⟩) ?_
  · rw [Heap.get?_update_self _ ho rfl]
    simp [Obj.mapFields, dq, rawInt]
  · simp; rw [sizeLine_eq]; omega
theorem appendleft_at {a : Addr} {n : Int} {x : Value} {xs : List Value} {Q : Value → Shared → Prop} (ho : s.heap.get? a = some (dq n xs)) (hfit : xs.length < 1000)
    (h : ∀ h', Heap.SameBut a s.heap h' → h'.get? a = some (dq (n + 1) (x :: xs)) → Q .none { s with heap := h' }) :
    wpAny (model prog w) A (call (.builtin "collections.deque.appendleft") [.ref a, x]) Q E s := by
  have hT : s.TypeIs (.ref a) "collections.deque" := ⟨_, ho, rfl⟩
  refine wpAny_call_entry slot_dq_appendleft hT entry_dq_appendleft ?_ (args_dq_appendleft _ _)
  unfold Builtin.«collections.deque.appendleft»
  refine wpAny_bind (m := selfAndOne "deque.appendleft" _) (wpAny_pure ?_)
  show wpAny _ _ (Builtin.Deque.pushLeft (.ref a) x >>= fun _ => ret .none) _ _ s
  unfold Builtin.Deque.pushLeft
  refine wpAny_bind ?_
  unfold Builtin.Deque.change Builtin.Deque.state
  refine wpAny_bind (wpAny_bind (wpAny_bind (wpAny_field ho rfl (i := 1) (x := rawInt n) (by simp) (wpAny_pure ?_))))
  have hg : (s.heap.update a (Obj.mapFields fun vs => #[vs.getD 0 .none, rawInt (if true = true then n + 1 else n)] ++ (#[x] ++ vs.extract 2 vs.size))).get? a = some (dq (n + 1) (x :: xs)) := by
    rw [Heap.get?_update_self _ ho rfl]
    simp [Obj.mapFields, dq, rawInt]
  refine wpAny_updateFields ho rfl ?_ ?_
  · unfold Builtin.Deque.maxlen
    refine wpAny_bind (wpAny_bind (wpAny_field hg rfl (i := 0) (x := .none) (by simp) (wpAny_pure ?_)))
    exact wpAny_pure (wpAny_pure ⟨.none, rfl, h _ (Heap.SameBut.update ..) hg⟩)
  · simp; rw [sizeLine_eq]; omega
end
section
variable {prog : Program} {w : World} {A : Around} {E : Value → Shared → Prop} {s : Shared} {h₀ : Heap} {L : Addr} {m : Str → Option Value} {news news' : List (Addr × Obj)}
theorem popleft_K {D : Addr} {n : Int} {x : Value} {xs : List Value} {Q : Value → Shared → Prop} (F : Fr h₀ L s.heap m) (N : News h₀ L s.heap news) (U : Upd D (dq n (x :: xs)) (dq (n + 1) xs) news news')
    (hz : xs.length < 1000) (h : ∀ h', Fr h₀ L h' m → News h₀ L h' news' → Q x { s with heap := h' }) : wpAny (model prog w) A (call (.builtin "collections.deque.popleft") [.ref D]) Q E s := by
  obtain ⟨pre, post, rfl, rfl, a, b⟩ := U.split
  have z := N (D, dq n (x :: xs)) (List.mem_append.mpr (.inr (.head _)))
  exact popleft_at z.1 hz fun h' hs ho' => h h' (F.change hs z.2.1 z.2.2) (news_set N a b hs ho')
theorem appendleft_K {D : Addr} {n : Int} {x : Value} {xs : List Value} {Q : Value → Shared → Prop} (F : Fr h₀ L s.heap m) (N : News h₀ L s.heap news) (U : Upd D (dq n xs) (dq (n + 1) (x :: xs)) news news')
    (hz : xs.length < 1000) (h : ∀ h', Fr h₀ L h' m → News h₀ L h' news' → Q .none { s with heap := h' }) : wpAny (model prog w) A (call (.builtin "collections.deque.appendleft") [.ref D, x]) Q E s := by
  obtain ⟨pre, post, rfl, rfl, a, b⟩ := U.split
  have z := N (D, dq n xs) (List.mem_append.mpr (.inr (.head _)))
  exact appendleft_at z.1 hz fun h' hs ho' => h h' (F.change hs z.2.1 z.2.2) (news_set N a b hs ho')
theorem truthy_dqK {D : Addr} {n : Int} {xs : List Value} {Q : Bool → Shared → Prop} (N : News h₀ L s.heap news) (hm : (D, dq n xs) ∈ news) (hfit : xs.length < 1000)
    (h : Q (!xs.isEmpty) { s with toks := s.toks + 1 + 1 }) : wpAny (model prog w) A (truthy (.ref D)) Q E s := truthy_dq (N.get hm) hfit h
theorem method_dq {D : Addr} {n : Int} {xs : List Value} {name : Str} {id : String} {pl : Sem Bool} {Q : Value × List Value → Shared → Prop} (slot : Slot "collections.deque" name id) (hty : typeOf (.builtin id) = pure (.type "method_descriptor"))
    (N : News h₀ L s.heap news) (hm : (D, dq n xs) ∈ news) (h : Q (.builtin id, [.ref D]) s) : wpAny (model prog w) A (getMethod (.ref D) name pl) Q E s :=
  getMethod_builtin ⟨_, N.get hm, rfl⟩ plainAttrs_dq slot hty (fun a e => by cases e; exact ⟨_, N.get hm, rfl⟩) h
end
/-- a text by its codes -/
def S (l : List Nat) : Str := ⟨l.toArray⟩
theorem S_length (l : List Nat) : (S l).length = l.length := by simp [S, Str.length]
theorem S_append (a b : List Nat) : S a ++ S b = S (a ++ b) := by
  apply Str.ext'; simp [S, Str.cps_append]
theorem S_nil : S [] = Str.ofString "" := by decide +kernel

abbrev sioD (w : World) (k1 k2 k3 tn tb tp : Tok) (buf : Str) (pos : Int) : Obj := dictOf [⟨PyData.keyHash w.params (Str.ofString "_StringIO__newline"), .str (Str.ofString "_StringIO__newline") k1, .str (Str.ofString "\n") tn⟩, ⟨PyData.keyHash w.params (Str.ofString "_StringIO__buf"), .str (Str.ofString "_StringIO__buf") k2, .str buf tb⟩, ⟨PyData.keyHash w.params (Str.ofString "_StringIO__pos"), .str (Str.ofString "_StringIO__pos") k3, .int pos tp⟩] 3
structure LK where
  k1 : Tok
  k2 : Tok
  k3 : Tok
  k4 : Tok
  k5 : Tok
  k6 : Tok
  k7 : Tok
  k8 : Tok
  k9 : Tok
  k10 : Tok
  k11 : Tok
  k12 : Tok
  k13 : Tok
  k14 : Tok
  k15 : Tok
  k16 : Tok
  k17 : Tok
  k18 : Tok
  k19 : Tok
  te : Tok
  tesc : Tok
  teq : Tok
  tdb : Tok
  tpc : Tok
  j1 : Tok
  j2 : Tok
  j3 : Tok
  tn : Tok
  tb : Tok
  n2 : Int
abbrev lexD (w : World) (c : LK) (y pb fs : Addr) (tc tws : Tok) (wc : Str) (tw : Tok) (qs : Str) (tq : Tok) (st : Value) (ln : Int) (tl : Tok) (tok : Str) (tt : Tok) : Obj := dictOf [
  ⟨PyData.keyHash w.params (Str.ofString "instream"), .str (Str.ofString "instream") c.k1, .ref y⟩,
  ⟨PyData.keyHash w.params (Str.ofString "infile"), .str (Str.ofString "infile") c.k2, .none⟩,
  ⟨PyData.keyHash w.params (Str.ofString "posix"), .str (Str.ofString "posix") c.k3, .bool false⟩,
  ⟨PyData.keyHash w.params (Str.ofString "eof"), .str (Str.ofString "eof") c.k4, .str (Str.ofString "") c.te⟩,
  ⟨PyData.keyHash w.params (Str.ofString "commenters"), .str (Str.ofString "commenters") c.k5, .str (Str.ofString "") tc⟩,
  ⟨PyData.keyHash w.params (Str.ofString "wordchars"), .str (Str.ofString "wordchars") c.k6, .str wc tw⟩,
  ⟨PyData.keyHash w.params (Str.ofString "whitespace"), .str (Str.ofString "whitespace") c.k7, .str (Str.ofString "") tws⟩,
  ⟨PyData.keyHash w.params (Str.ofString "whitespace_split"), .str (Str.ofString "whitespace_split") c.k8, .bool false⟩,
  ⟨PyData.keyHash w.params (Str.ofString "quotes"), .str (Str.ofString "quotes") c.k9, .str qs tq⟩,
  ⟨PyData.keyHash w.params (Str.ofString "escape"), .str (Str.ofString "escape") c.k10, .str (Str.ofString "\\") c.tesc⟩,
  ⟨PyData.keyHash w.params (Str.ofString "escapedquotes"), .str (Str.ofString "escapedquotes") c.k11, .str (Str.ofString "\"") c.teq⟩,
  ⟨PyData.keyHash w.params (Str.ofString "state"), .str (Str.ofString "state") c.k12, st⟩,
  ⟨PyData.keyHash w.params (Str.ofString "pushback"), .str (Str.ofString "pushback") c.k13, .ref pb⟩,
  ⟨PyData.keyHash w.params (Str.ofString "lineno"), .str (Str.ofString "lineno") c.k14, .int ln tl⟩,
  ⟨PyData.keyHash w.params (Str.ofString "debug"), .str (Str.ofString "debug") c.k15, .int 0 c.tdb⟩,
  ⟨PyData.keyHash w.params (Str.ofString "token"), .str (Str.ofString "token") c.k16, .str tok tt⟩,
  ⟨PyData.keyHash w.params (Str.ofString "filestack"), .str (Str.ofString "filestack") c.k17, .ref fs⟩,
  ⟨PyData.keyHash w.params (Str.ofString "source"), .str (Str.ofString "source") c.k18, .none⟩,
  ⟨PyData.keyHash w.params (Str.ofString "_punctuation_chars"), .str (Str.ofString "_punctuation_chars") c.k19, .str (Str.ofString "") c.tpc⟩] 19
abbrev lexN (w : World) (c : LK) (x dx y dy pb fs : Addr) (buf : Str) (tc tws : Tok) (wc : Str) (tw : Tok) (qs : Str) (tq : Tok) (st : Value) (ln : Int) (tl : Tok) (tok : Str) (tt : Tok) (pos : Int) (tp : Tok) (n : Int) (xs : List Value) (rest : List (Addr × Obj)) : List (Addr × Obj) :=
  (dx, lexD w c y pb fs tc tws wc tw qs tq st ln tl tok tt) :: (dy, sioD w c.j1 c.j2 c.j3 c.tn c.tb tp buf pos) :: (pb, dq n xs) :: (x, instObj 764 dx) :: (y, instObj 629 dy) :: (fs, dq c.n2 []) :: rest
/-- the places apart -/
structure LexNe (x dx y dy pb fs : Nat) (rest : List (Addr × Obj)) : Prop where
  e1 : @Ne Nat dx dy
  e2 : @Ne Nat dx pb
  e3 : @Ne Nat dx x
  e4 : @Ne Nat dx y
  e5 : @Ne Nat dx fs
  e6 : @Ne Nat dy pb
  e7 : @Ne Nat dy x
  e8 : @Ne Nat dy y
  e9 : @Ne Nat dy fs
  e10 : @Ne Nat pb x
  e11 : @Ne Nat pb y
  e12 : @Ne Nat pb fs
  r1 : ∀ p ∈ rest, p.1 ≠ dx
  r2 : ∀ p ∈ rest, p.1 ≠ dy
  r3 : ∀ p ∈ rest, p.1 ≠ pb
theorem slice_one (all : List Nat) (p : Nat) (c : Nat) (r : List Nat) (h : all.drop p = c :: r) : Txt.slice (S all) (some (p : Int)) (some ((p + 1 : Nat) : Int)) = S [c] := by
  have hp : p + 1 ≤ all.length := by
    have := congrArg List.length h
    simp at this; omega
  show StrLaws.sliceText (S all) _ _ = _
  rw [StrLaws.sliceText_nat (S all) (Nat.le_succ p) (by rw [S_length]; exact hp)]
  show (⟨((all.toArray.toList.drop p).take (p + 1 - p)).toArray⟩ : Str) = S [c]
  simp only [List.toList_toArray, h]
  have : p + 1 - p = 1 := by omega
  rw [this]; rfl
local macro_rules | `(tactic| k_room) => `(tactic| ktr_room)
local macro_rules | `(tactic| k_units) => `(tactic| ktr_units)
local macro_rules | `(tactic| ktr_units) => `(tactic| (have hcL9 := cLine_is; (simp only [units_under_make, units_in1, units_deeper, Around.mark_units, units_caller] at *); (try dsimp only [ktrTop] at *); omega))
local macro_rules | `(tactic| k_all) => `(tactic| with_reducible assumption)
local macro_rules | `(tactic| k_ne) => `(tactic| first | with_reducible assumption | (refine Ne.symm ?_; with_reducible assumption))
local macro_rules | `(tactic| walk_at "exec If") => `(tactic| refine wpAny_If ?_)
local macro_rules | `(tactic| walk_at "exec If") => `(tactic| k_extra "my if")
local macro_rules | `(tactic| walk_at "ite") => `(tactic| first | with_reducible refine ite_tt ?_ | with_reducible refine ite_ff ?_ | (refine ite_pos (by with_reducible assumption) ?_) | (refine ite_neg (by with_reducible assumption) ?_) | (refine ite_isFalse (by with_reducible assumption) ?_) | (k_closed; k_dflt (first | refine ite_pos (by decide) ?_ | refine ite_neg (by decide) ?_)))
local macro_rules | `(tactic| walk_at "inplaceOp Add str str") => `(tactic| k_extra "my iadd")
local macro_rules | `(tactic| walk_at "exec While") => `(tactic| k_extra "my while")
local macro_rules | `(tactic| walk_at "call ref") => `(tactic| k_extra "my call")
local macro_rules | `(tactic| walk_at "truthy ref") => `(tactic| k_extra "my truthy ref")
local macro_rules | `(tactic| walk_at "truthy str") => `(tactic| k_extra "my truthy")
local macro_rules | `(tactic| walk_at "getMethod ref") => `(tactic| (k_here; (with_reducible show wpAny _ _ (getMethod (Value.ref _) (Str.ofString "popleft") _) _ _ _); refine' method_dq slot_dq_popleft type_dq_popleft ?k1 ?k2 ?_; (case k1 => k_asm); (case k2 => k_mem); k_whole))
local macro_rules | `(tactic| walk_at "getMethod ref") => `(tactic| (k_here; (with_reducible show wpAny _ _ (getMethod (Value.ref _) (Str.ofString "appendleft") _) _ _ _); refine' method_dq slot_dq_appendleft type_dq_appendleft ?k1 ?k2 ?_; (case k1 => k_asm); (case k2 => k_mem); k_whole))
local macro_rules | `(tactic| walk_at "call builtin:collections.deque.popleft") => `(tactic| (k_here; (refine' popleft_K ?k1 ?k2 ?k3 ?k4 ?_; (case k1 => k_asm); (case k2 => k_asm); (case k3 => k_upd); (case k4 => first | decide | simp); k_whole); intro h' F' N'; (try k_sweep)))
local macro_rules | `(tactic| walk_at "call builtin:collections.deque.appendleft") => `(tactic| (k_here; (refine' appendleft_K ?k1 ?k2 ?k3 ?k4 ?_; (case k1 => k_asm); (case k2 => k_asm); (case k3 => k_upd); (case k4 => first | decide | simp); k_whole); intro h' F' N'; (try k_sweep)))
local macro_rules | `(tactic| walk_at "WhlIf") => `(tactic| first | (refine WhlIf.yes (by with_reducible assumption) ?_) | (refine WhlIf.no (by with_reducible assumption) ?_))
local macro_rules | `(tactic| walk_at "call builtin:list.append") => `(tactic| k_extra "my append")
local macro_rules | `(tactic| walk_at "newList") => `(tactic| k_extra "my newList")
local macro_rules | `(tactic| walk_at "eval ListComp") => `(tactic| k_extra "my lc")
local macro_rules | `(tactic| walk_at "call builtin:dict.get") => `(tactic| k_extra "my get")
local macro_rules | `(tactic| walk_at "execs cons") => `(tactic| k_extra "my execs")
local macro_rules | `(tactic| walk_at "call builtin:len") => `(tactic| k_extra "my len")
local macro_rules | `(tactic| walk_at "call builtin:list.pop") => `(tactic| k_extra "my pop")
local macro_rules | `(tactic| walk_at "subscriptTail") => `(tactic| k_extra "my sub")
local macro_rules | `(tactic| walk_at "binaryOp Add str str") => `(tactic| k_extra "my add")
local macro_rules | `(tactic| walk_at "exec For") => `(tactic| k_extra "my for")
local macro_rules | `(tactic| walk_at "exec For Tuple Subscript cons nil") => `(tactic| k_extra "my for")
local macro_rules | `(tactic| walk_at "my news") => `(tactic| first | k_asm | exact cb_drop (by k_asm) (fun _ hp => List.Mem.tail _ hp) | exact cb_drop (by k_asm) (fun _ hp => List.Mem.tail _ (List.Mem.tail _ hp)))
local macro_rules | `(tactic| walk_at "my same") => `(tactic| (intro z h2 h3; (simp only [List.contains_cons, List.contains_nil, Bool.or_false, Bool.or_eq_false_iff, beq_eq_false_iff_ne, ne_eq] at h3); simp [kstB, h3]))
local macro_rules | `(tactic| walk_at "my enterC") => `(tactic| (refine' code_defC ?k1 ?k2 ?k3 ?k4 ?k5 ?kA ?kF ?kK ?k6 ?k7 ?k8 ?k9 ?kB ?kD ?_ ?c2 ?c3 ?c4; (case kA => exact rfl); (case kF => exact rfl); (case kK => first | exact rfl | assumption); (case k1 => k_asm); (case k2 => k_asm); (case k3 => k_asm); (case k4 => k_asm); (case k5 => k_asm); (case k6 => k_is); (case k7 => k_is); (case k8 => ktr_room); (case k9 => first | exact BindsTo.of_eq rfl | exact binds_K (by k_in) rfl (by k_is) rfl rfl rfl); (case kB => exact rfl); (case kD => decide +kernel); (case c2 => exact rfl); (case c3 => exact rfl); (case c4 => exact rfl); k_whole; intro g' L' h' tk' cells' FG' F' N' Y' B' X' T' l1; (try k_lt l1); k_cells Y'; (try simp only [List.cons_append, List.nil_append] at N'); (try dsimp only); (try k_lift B'); (try k_fold)))
local macro_rules | `(tactic| walk_at "my enter") => `(tactic| (refine' code_def ?k1 ?k2 ?k3 ?k4 ?k5 ?kA ?kF ?kK ?k6 ?k7 ?k8 ?k9 ?kB ?_ ?c2 ?c3 ?c4 ?c5; (case kA => exact rfl); (case kF => exact rfl); (case kK => assumption); (case k1 => k_asm); (case k2 => k_asm); (case k3 => k_asm); (case k4 => k_asm); (case k5 => k_asm); (case k6 => k_is); (case k7 => k_is); (case k8 => ktr_room); (case k9 => first | exact BindsTo.of_eq rfl | exact binds_K (by k_in) rfl (by k_is) rfl rfl rfl); (case c5 => decide); (case kB => exact locs rfl); (case c2 => exact rfl); (case c3 => exact rfl); (case c4 => exact rfl); k_whole; intro g' L' h' FG' F' N' B' X' T'; (try dsimp only); (try k_lift B'); (try k_fold)))
theorem read_nil {w : World} {loose : List Str} {mean : ExcName → Option Value} {mg mb : Str → Option Value}
    {dp un : Nat} {gd : Option (List Code)} {cn : Str} {cs : Scope} {a : Addr} {ccd : Value} {cl : List (Str × Addr)} {outer : List Env} {A₀ : Around} {base h₀ : Heap} {L : Addr} {m : Str → Option Value} {s : Shared} {Q E : Value → Shared → Prop}
    {c : LK} {y dy : Addr} {rest : List (Addr × Obj)} {tp t9 : Tok} {all : List Nat} {p : Nat}
    (B : Below A₀ base outer h₀) (F : Fr h₀ L s.heap m) (X : (hd.heap_39 w.params).In h₀) (T : Top hd.view_39 loose mean mg mb h₀) (hk : cs.kind = .function)
    (N : News h₀ L s.heap ((dy, sioD w c.j1 c.j2 c.j3 c.tn c.tb tp (S all) (p : Int)) :: (y, instObj 629 dy) :: rest))
    (hr : ∀ p ∈ rest, p.1 ≠ dy) (hy : @Ne Nat y dy) (hd : all.drop p = []) (hlen : all.length ≤ 100000)
    (hd1 : dp + 3 < recursionLimit) (hu : un + 30 < cLine)
    (ret : ∀ (t : Tok) (h' : Heap) (tk' : Nat), Fr h₀ L h' m → News h₀ L h' ((dy, sioD w c.j1 c.j2 c.j3 c.tn c.tb tp (S all) (p : Int)) :: (y, instObj 629 dy) :: rest) →
        Q (.str (Str.ofString "") t) { s with heap := h', toks := tk' }) :
    wpAny (model PySem.Challenge.rw_mr0358_01.row.prog w) (ktrTop dp un gd cn cs L a ccd cl outer) (call (.ref 575) [.ref y, .int 1 t9]) Q E s := by
  have hl : (S all).length = all.length := S_length all
  have hp : all.length ≤ p := by simpa using hd
  revert X; k_fill; intro X
  refine wpAny_call ?_
  k_dflt (walk_at "my enter")
  k_steps
  all_goals first
    | exact ret _ _ _ (by k_asm) (by k_asm)
theorem read_cons {w : World} {loose : List Str} {mean : ExcName → Option Value} {mg mb : Str → Option Value}
    {dp un : Nat} {gd : Option (List Code)} {cn : Str} {cs : Scope} {a : Addr} {ccd : Value} {cl : List (Str × Addr)} {outer : List Env} {A₀ : Around} {base h₀ : Heap} {L : Addr} {m : Str → Option Value} {s : Shared} {Q E : Value → Shared → Prop}
    {c : LK} {y dy : Addr} {rest : List (Addr × Obj)} {tp t9 : Tok} {all : List Nat} {p : Nat} {ch : Nat} {r : List Nat}
    (B : Below A₀ base outer h₀) (F : Fr h₀ L s.heap m) (X : (hd.heap_39 w.params).In h₀) (T : Top hd.view_39 loose mean mg mb h₀) (hk : cs.kind = .function)
    (N : News h₀ L s.heap ((dy, sioD w c.j1 c.j2 c.j3 c.tn c.tb tp (S all) (p : Int)) :: (y, instObj 629 dy) :: rest))
    (hr : ∀ p ∈ rest, p.1 ≠ dy) (hy : @Ne Nat y dy) (hd : all.drop p = ch :: r) (hlen : all.length ≤ 100000)
    (hd1 : dp + 3 < recursionLimit) (hu : un + 30 < cLine)
    (ret : ∀ (t tp' : Tok) (h' : Heap) (tk' : Nat), Fr h₀ L h' m → News h₀ L h' ((dy, sioD w c.j1 c.j2 c.j3 c.tn c.tb tp' (S all) ((p + 1 : Nat) : Int)) :: (y, instObj 629 dy) :: rest) →
        Q (.str (S [ch]) t) { s with heap := h', toks := tk' }) :
    wpAny (model PySem.Challenge.rw_mr0358_01.row.prog w) (ktrTop dp un gd cn cs L a ccd cl outer) (call (.ref 575) [.ref y, .int 1 t9]) Q E s := by
  have hl : (S all).length = all.length := S_length all
  have hp : p + 1 + r.length = all.length := by
    have := congrArg List.length hd
    simp at this; omega
  have hs := slice_one all p ch r hd
  have hc1 : ((p + 1 : Nat) : Int) = (p : Int) + 1 := rfl
  have hc2 : r.length = 0 → ((S all).length : Int) = (p : Int) + 1 := by omega
  revert X; k_fill; intro X
  refine wpAny_call ?_
  k_dflt (walk_at "my enter")
  k_steps
  all_goals (try rw [show ((S all).length : Int) = (p : Int) + 1 from by omega] at *)
  all_goals (rw [← hc1] at *; rw [hs]; exact ret _ _ _ _ (by k_asm) (by k_asm))
def Stopped (P : Prop) : Prop := P
theorem stopAt {P : Prop} (h : Stopped P) : P := h
theorem lexSio {h₀ h : Heap} {L : Addr} {w : World} {c : LK} {x dx y dy pb fs : Addr} {buf : Str} {tc tws tw tq tl tt tp : Tok} {wc qs : Str} {st : Value} {ln : Int} {tok : Str} {pos : Int} {n : Int} {xs : List Value} {rest : List (Addr × Obj)}
    (N : News h₀ L h (lexN w c x dx y dy pb fs buf tc tws wc tw qs tq st ln tl tok tt pos tp n xs rest)) :
    News h₀ L h ((dy, sioD w c.j1 c.j2 c.j3 c.tn c.tb tp buf pos) :: (y, instObj 629 dy) :: (dx, lexD w c y pb fs tc tws wc tw qs tq st ln tl tok tt) :: (pb, dq n xs) :: (x, instObj 764 dx) :: (fs, dq c.n2 []) :: rest) := by
  intro p hp
  apply N p
  simp only [lexN, List.mem_cons] at hp ⊢
  rcases hp with rfl | rfl | rfl | rfl | rfl | rfl | hp
  · exact .inr (.inl rfl)
  · exact .inr (.inr (.inr (.inr (.inl rfl))))
  · exact .inl rfl
  · exact .inr (.inr (.inl rfl))
  · exact .inr (.inr (.inr (.inl rfl)))
  · exact .inr (.inr (.inr (.inr (.inr (.inl rfl)))))
  · exact .inr (.inr (.inr (.inr (.inr (.inr hp)))))
theorem sioLex {h₀ h : Heap} {L : Addr} {w : World} {c : LK} {x dx y dy pb fs : Addr} {buf : Str} {tc tws tw tq tl tt tp : Tok} {wc qs : Str} {st : Value} {ln : Int} {tok : Str} {pos : Int} {n : Int} {xs : List Value} {rest : List (Addr × Obj)}
    (N : News h₀ L h ((dy, sioD w c.j1 c.j2 c.j3 c.tn c.tb tp buf pos) :: (y, instObj 629 dy) :: (dx, lexD w c y pb fs tc tws wc tw qs tq st ln tl tok tt) :: (pb, dq n xs) :: (x, instObj 764 dx) :: (fs, dq c.n2 []) :: rest)) :
    News h₀ L h (lexN w c x dx y dy pb fs buf tc tws wc tw qs tq st ln tl tok tt pos tp n xs rest) := by
  intro p hp
  apply N p
  simp only [lexN, List.mem_cons] at hp ⊢
  rcases hp with rfl | rfl | rfl | rfl | rfl | rfl | hp
  · exact .inr (.inr (.inl rfl))
  · exact .inl rfl
  · exact .inr (.inr (.inr (.inl rfl)))
  · exact .inr (.inr (.inr (.inr (.inl rfl))))
  · exact .inr (.inl rfl)
  · exact .inr (.inr (.inr (.inr (.inr (.inl rfl)))))
  · exact .inr (.inr (.inr (.inr (.inr (.inr hp)))))
theorem off_dy {x dx y dy pb fs : Nat} {rest : List (Addr × Obj)} (NE : LexNe x dx y dy pb fs rest) {o1 o2 o3 o4 : Obj} : ∀ p ∈ (dx, o1) :: (pb, o2) :: (x, o3) :: (fs, o4) :: rest, p.1 ≠ dy := by
  intro p hp
  simp only [List.mem_cons] at hp
  rcases hp with rfl | rfl | rfl | rfl | hp
  · exact NE.e1
  · exact fun e => NE.e6 e.symm
  · exact fun e => NE.e7 e.symm
  · exact fun e => NE.e9 e.symm
  · exact NE.r2 p hp
theorem lex_nil {w : World} {loose : List Str} {mean : ExcName → Option Value} {mg mb : Str → Option Value}
    {dp un : Nat} {gd : Option (List Code)} {cn : Str} {cs : Scope} {a : Addr} {ccd : Value} {cl : List (Str × Addr)} {outer : List Env} {A₀ : Around} {base h₀ : Heap} {L : Addr} {m : Str → Option Value} {s : Shared} {Q E : Value → Shared → Prop}
    {c : LK} {x dx y dy pb fs : Addr} {rest : List (Addr × Obj)} {all : List Nat} {p : Nat} {tc tws tw tq tl tt tp t9 : Tok} {wc qs : Str} {st : Value} {ln n : Int} {tok : Str} {xs : List Value}
    (B : Below A₀ base outer h₀) (F : Fr h₀ L s.heap m) (X : (hd.heap_39 w.params).In h₀) (T : Top hd.view_39 loose mean mg mb h₀) (hk : cs.kind = .function)
    (N : News h₀ L s.heap (lexN w c x dx y dy pb fs (S all) tc tws wc tw qs tq st ln tl tok tt (p : Int) tp n xs rest))
    (NE : LexNe x dx y dy pb fs rest) (hd : all.drop p = []) (hlen : all.length ≤ 100000)
    (hd1 : dp + 3 < recursionLimit) (hu : un + 30 < cLine)
    (ret : ∀ (t : Tok) (h' : Heap) (tk' : Nat), Fr h₀ L h' m → News h₀ L h' (lexN w c x dx y dy pb fs (S all) tc tws wc tw qs tq st ln tl tok tt (p : Int) tp n xs rest) →
        Q (.str (Str.ofString "") t) { s with heap := h', toks := tk' }) :
    wpAny (model PySem.Challenge.rw_mr0358_01.row.prog w) (ktrTop dp un gd cn cs L a ccd cl outer) (call (.ref 575) [.ref y, .int 1 t9]) Q E s :=
  read_nil B F X T hk (lexSio N) (off_dy NE) (fun e => NE.e8 e.symm) hd hlen hd1 hu fun t h' tk' F' N' => ret t h' tk' F' (sioLex N')
theorem lex_cons {w : World} {loose : List Str} {mean : ExcName → Option Value} {mg mb : Str → Option Value}
    {dp un : Nat} {gd : Option (List Code)} {cn : Str} {cs : Scope} {a : Addr} {ccd : Value} {cl : List (Str × Addr)} {outer : List Env} {A₀ : Around} {base h₀ : Heap} {L : Addr} {m : Str → Option Value} {s : Shared} {Q E : Value → Shared → Prop}
    {c : LK} {x dx y dy pb fs : Addr} {rest : List (Addr × Obj)} {all : List Nat} {p : Nat} {tc tws tw tq tl tt tp t9 : Tok} {wc qs : Str} {st : Value} {ln n : Int} {tok : Str} {xs : List Value} {ch : Nat} {r : List Nat}
    (B : Below A₀ base outer h₀) (F : Fr h₀ L s.heap m) (X : (hd.heap_39 w.params).In h₀) (T : Top hd.view_39 loose mean mg mb h₀) (hk : cs.kind = .function)
    (N : News h₀ L s.heap (lexN w c x dx y dy pb fs (S all) tc tws wc tw qs tq st ln tl tok tt (p : Int) tp n xs rest))
    (NE : LexNe x dx y dy pb fs rest) (hd : all.drop p = ch :: r) (hlen : all.length ≤ 100000)
    (hd1 : dp + 3 < recursionLimit) (hu : un + 30 < cLine)
    (ret : ∀ (t tp' : Tok) (h' : Heap) (tk' : Nat), Fr h₀ L h' m → News h₀ L h' (lexN w c x dx y dy pb fs (S all) tc tws wc tw qs tq st ln tl tok tt ((p + 1 : Nat) : Int) tp' n xs rest) →
        Q (.str (S [ch]) t) { s with heap := h', toks := tk' }) :
    wpAny (model PySem.Challenge.rw_mr0358_01.row.prog w) (ktrTop dp un gd cn cs L a ccd cl outer) (call (.ref 575) [.ref y, .int 1 t9]) Q E s :=
  read_cons B F X T hk (lexSio N) (off_dy NE) (fun e => NE.e8 e.symm) hd hlen hd1 hu fun t tp' h' tk' F' N' => ret t tp' h' tk' F' (sioLex N')
theorem truthy_ne {prog : Program} {w : World} {A : Around} {E : Value → Shared → Prop} {s : Shared} {t : Tok} {l : List Nat} {Q : Bool → Shared → Prop} (h1 : l ≠ []) (h2 : l.length ≤ 200000)
    (h : Q true { s with toks := s.toks + 1 + 1 }) : wpAny (model prog w) A (truthy (.str (S l) t)) Q E s := by
  refine P.truthy_str (by rw [S_length]; omega) ?_
  have : (((S l).length : Int) != 0) = true := by
    rw [S_length]
    cases l with
    | nil => exact absurd rfl h1
    | cons a b => simp; omega
  rw [this]; exact h
theorem iadd_S {prog : Program} {w : World} {A : Around} {E : Value → Shared → Prop} {s : Shared} {t u : Tok} {a b : List Nat} {Q : Value → Shared → Prop} (h1 : a.length + b.length ≤ 400000)
    (h : ∀ t' tk, Q (.str (S (a ++ b)) t') { s with toks := tk }) : wpAny (model prog w) A (inplaceOp .Add (.str (S a) t) (.str (S b) u)) Q E s := by
  refine iadd_str (fun t' tk => ?_) (by rw [S_length, S_length, sizeLine_eq]; omega)
  rw [S_append]; exact h t' tk
theorem occ_in {x : Str} {c : Nat} (h : x.cps.toList.contains c = true) : (Builtin.Str.occurrences x (S [c]) 0 x.length 1).isEmpty = false := by
  have := StrLaws.found_one x c
  have e : decide (c ∈ x.cps.toList) = true := by simpa using h
  rw [e] at this
  revert this
  show (!(Builtin.Str.occurrences x (S [c]) 0 x.length 1).isEmpty) = true → _
  generalize (Builtin.Str.occurrences x (S [c]) 0 x.length 1).isEmpty = b
  cases b <;> simp
theorem occ_out {x : Str} {c : Nat} (h : x.cps.toList.contains c = false) : (Builtin.Str.occurrences x (S [c]) 0 x.length 1).isEmpty = true := by
  have := StrLaws.found_one x c
  have e : decide (c ∈ x.cps.toList) = false := by simpa using h
  rw [e] at this
  revert this
  show (!(Builtin.Str.occurrences x (S [c]) 0 x.length 1).isEmpty) = false → _
  generalize (Builtin.Str.occurrences x (S [c]) 0 x.length 1).isEmpty = b
  cases b <;> simp
theorem occ_none (c : Nat) : (Builtin.Str.occurrences (Str.ofString "") (S [c]) 0 (Str.ofString "").length 1).isEmpty = true := occ_out rfl
theorem occ_esc_a : (Builtin.Str.occurrences (Str.ofString "\\") (Str.ofString "a") 0 (Str.ofString "\\").length 1).isEmpty = true := by decide +kernel
theorem beq_self (c : Nat) : (S [c] == S [c]) = true := by simp
theorem bne_S {c d : Nat} (h : c ≠ d) : (S [c] == S [d]) = false := by
  cases q : (S [c] == S [d]) with
  | false => rfl
  | true =>
    have : S [c] = S [d] := by simpa using q
    have := congrArg Str.cps this
    simp [S] at this
    exact absurd this h
theorem bne_qsp : (S [34] == Str.ofString " ") = false := by decide +kernel
theorem beq_nl {c : Nat} (h : c = 10) : (S [c] == Str.ofString "\n") = true := by subst h; decide +kernel
theorem bne_nl {c : Nat} (h : c ≠ 10) : (S [c] == Str.ofString "\n") = false := by
  cases q : (S [c] == Str.ofString "\n") with
  | false => rfl
  | true =>
    have : S [c] = Str.ofString "\n" := by simpa using q
    have e : Str.ofString "\n" = S [10] := by decide +kernel
    rw [e] at this
    have := congrArg Str.cps this
    simp [S] at this
    exact absurd this h
inductive Ph where
  | sp
  | wd
  | qt
structure Res where
  tok : List Nat
  st : Bool
  p : Nat
  ln : Int
  pk : Option Nat
def nl (c : Nat) (ln : Int) : Int := if c = 10 then ln + 1 else ln
/-- what read_token makes of the signs ahead -/
def rt (wc qs : List Nat) : Ph → List Nat → List Nat → Nat → Int → Option Res
  | .sp, _, [], p, ln => some ⟨[], false, p, ln, none⟩
  | .sp, _, c :: cs, p, ln => if wc.contains c then rt wc qs .wd [c] cs (p + 1) (nl c ln) else if c = 10 then none else if qs.contains c then (if c = 34 then rt wc qs .qt [c] cs (p + 1) ln else none) else some ⟨[c], true, p + 1, ln, none⟩
  | .wd, tok, [], p, ln => some ⟨tok, false, p, ln, none⟩
  | .wd, tok, c :: cs, p, ln => if wc.contains c then rt wc qs .wd (tok ++ [c]) cs (p + 1) (nl c ln) else if c = 10 then none else if qs.contains c then none else some ⟨tok, true, p + 1, ln, some c⟩
  | .qt, _, [], _, _ => none
  | .qt, tok, c :: cs, p, ln => if c = 34 then some ⟨tok ++ [c], true, p + 1, ln, none⟩ else rt wc qs .qt (tok ++ [c]) cs (p + 1) (nl c ln)
structure LSt where
  ph : Ph
  tok : List Nat
  p : Nat
  ln : Int
  ts : Tok
  tl : Tok
  tt : Tok
  tp : Tok
def stOf : Ph → Str
  | .sp => Str.ofString " "
  | .wd => Str.ofString "a"
  | .qt => S [34]
def LSt.Ok (z : LSt) : Prop := match z.ph with
  | .sp => z.tok = []
  | .wd => z.tok ≠ []
  | .qt => z.tok ≠ []
def stV (b : Bool) (t : Tok) : Value := match b with
  | true => .str (Str.ofString " ") t
  | false => .none
def pkN (n : Int) : Option Nat → Int
  | none => n
  | some _ => n + 1
def pkX (t : Tok) : Option Nat → List Value
  | none => []
  | some c => [.str (S [c]) t]
def Joint (s : Shared) (h₀ : Heap) (L : Addr) (m : Str → Option Value) (R : Tok → List (Addr × Obj)) (f : Flow) (s' : Shared) : Prop :=
  f = .next ∧ ∃ (tl : Tok) (h' : Heap) (tk' : Nat), s' = { s with heap := h', toks := tk' } ∧ Fr h₀ L h' m ∧ News h₀ L h' (R tl)
theorem join_if {M : Model} {A : Around} {t : Sem Flow} {Q : Flow → Shared → Prop} {E : Value → Shared → Prop} {s : Shared} {h₀ : Heap} {L : Addr} {m : Str → Option Value} {R : Int → Tok → List (Addr × Obj)} {ln : Int} {tl : Tok}
    (_ : Fr h₀ L s.heap m) (_ : News h₀ L s.heap (R ln tl)) (ln' : Int) (hw : wpAny M A t (Joint s h₀ L m (R ln')) E s)
    (hr : ∀ (tl : Tok) (h' : Heap) (tk' : Nat), Fr h₀ L h' m → News h₀ L h' (R ln' tl) → Q .next { s with heap := h', toks := tk' }) : wpAny M A t Q E s :=
  wpAny_mono hw (fun f s' ⟨hf, tl, h', tk', e, F, N⟩ => by subst hf; subst e; exact hr tl h' tk' F N) fun _ _ e => e
theorem readTok {w : World} {loose : List Str} {mean : ExcName → Option Value} {mg mb : Str → Option Value}
    {dp un : Nat} {gd : Option (List Code)} {cn : Str} {cs : Scope} {a : Addr} {ccd : Value} {cl : List (Str × Addr)} {outer : List Env} {A₀ : Around} {base h₀ : Heap} {L : Addr} {m : Str → Option Value} {s : Shared} {Q E : Value → Shared → Prop}
    {c : LK} {x dx y dy pb fs : Addr} {rest : List (Addr × Obj)} {all : List Nat} {p : Nat} {tc tws tw tq ts tl tt tp : Tok} {wc qs : Str} {ln n : Int} {R : Res}
    (B : Below A₀ base outer h₀) (F : Fr h₀ L s.heap m) (X : (hd.heap_39 w.params).In h₀) (T : Top hd.view_39 loose mean mg mb h₀) (hk : cs.kind = .function)
    (N : News h₀ L s.heap (lexN w c x dx y dy pb fs (S all) tc tws wc tw qs tq (.str (Str.ofString " ") ts) ln tl (Str.ofString "") tt (p : Int) tp n [] rest))
    (NE : LexNe x dx y dy pb fs rest) (hlen : all.length ≤ 100000) (hpl : p ≤ all.length) (hR : rt wc.cps.toList qs.cps.toList .sp [] (all.drop p) p ln = some R)
    (hqa : qs.cps.toList.contains 97 = false)
    (hd1 : dp + 6 < recursionLimit) (hu : un + 100 < cLine)
    (ret : ∀ (t ts' tl' tt' tp' tpk : Tok) (h' : Heap) (tk' : Nat), Fr h₀ L h' m → News h₀ L h' (lexN w c x dx y dy pb fs (S all) tc tws wc tw qs tq (stV R.st ts') R.ln tl' (Str.ofString "") tt' (R.p : Int) tp' (pkN n R.pk) (pkX tpk R.pk) rest) →
        Q (.str (S R.tok) t) { s with heap := h', toks := tk' }) :
    wpAny (model PySem.Challenge.rw_mr0358_01.row.prog w) (ktrTop dp un gd cn cs L a ccd cl outer) (call (.ref 732) [.ref x]) Q E s := by
  have NE' := NE
  obtain ⟨e1, e2, e3, e4, e5, e6, e7, e8, e9, e10, e11, e12, r1, r2, r3⟩ := NE'
  rw [← S_nil] at N
  k_with_none
  k_with "my while" => (refine stopAt ?_)
  revert X; k_fill; intro X
  refine wpAny_call ?_
  k_dflt (walk_at "my enter")
  k_steps
  unfold Stopped
  refine ksw_while (σ := LSt) (fun z => lexN w c x dx y dy pb fs (S all) tc tws wc tw qs tq (.str (stOf z.ph) z.ts) z.ln z.tl (S z.tok) z.tt (z.p : Int) z.tp n [] rest) (fun _ => []) (fun _ => True) [Str.ofString "nextchar", Str.ofString "quoted", Str.ofString "escapedstate", Str.ofString "result"] (fun z => rt wc.cps.toList qs.cps.toList z.ph z.tok (all.drop z.p) z.p z.ln = some R ∧ z.Ok ∧ z.tok.length ≤ z.p ∧ z.p ≤ all.length ∧ (z.ph = .qt → qs.cps.toList.contains 34 = true)) (fun z => all.length - z.p) ⟨.sp, [], p, ln, ts, tl, tt, tp⟩ (by k_asm) (by k_asm) trivial (fun _ h9 => nomatch h9) ⟨hR, rfl, Nat.zero_le _, hpl, fun h9 => nomatch h9⟩ ?_ (by first | passes_own | with_unfolding_all passes_own)
  clear hR N F
  rintro ⟨ph, tok, p, ln, ts, tl, tt, tp⟩ u h tk - ⟨hP, hok, htl, hpl, hqq⟩ F N
  dsimp only [LSt.Ok] at hP hok htl hpl hqq F N ⊢
  have hea := occ_esc_a
  rcases hdr : all.drop p with _ | ⟨ch, r⟩
  · rw [hdr] at hP
    k_with_none
    k_with "my call" => ((with_reducible show wpAny _ _ (call (Value.ref 575) _) _ _ _); k_dflt (refine' lex_nil ?k1 ?k2 ?k3 ?k4 ?k5 ?k6 NE hdr hlen ?k7 ?k8 ?_; (case k1 => k_asm); (case k2 => k_asm); (case k3 => k_asm); (case k4 => k_asm); (case k5 => first | exact rfl | assumption); (case k6 => k_asm); (case k7 => ktr_room); (case k8 => ktr_units); k_whole; intro t9 h9 tk9 F9 N9; (try dsimp only); (try k_sweep); (try k_fold)))
    k_with "my if" => ((with_reducible show wpAny _ _ (exec (Stmt.If (Expr.Compare (Expr.Attribute _ _ _) [CmpOp.Is] _ _) _ _ _) _) _ _ _); refine stopAt ?_)
    k_steps
    unfold Stopped
    k_with_none
    k_with "my truthy" => ((with_reducible show wpAny _ _ (truthy (Value.str (S _) _)) _ _ _); (refine' truthy_ne ?k1 ?k2 ?_; (case k1 => first | with_reducible assumption | exact List.cons_ne_nil _ _); (case k2 => first | omega | (simp; done))))
    cases ph with
    | qt => cases hP
    | sp =>
      dsimp only [stOf] at *
      subst hok
      cases hP
      k_steps
      exact ret _ 0 _ _ _ 0 _ _ (by k_asm) (by k_asm)
    | wd =>
      dsimp only [stOf] at *
      have hqa1 : (Builtin.Str.occurrences qs (Str.ofString "a") 0 qs.length 1).isEmpty = true := occ_out hqa
      cases hP
      k_steps
      exact ret _ 0 _ _ _ 0 _ _ (by k_asm) (by walk_at "my news")
  · rw [hdr] at hP
    have hp1 : p + 1 ≤ all.length := by
      have := congrArg List.length hdr
      simp at this; omega
    have hdr1 : all.drop (p + 1) = r := by rw [← List.drop_drop, hdr]; rfl
    have hw0 := occ_none ch
    k_with_none
    k_with "my call" => ((with_reducible show wpAny _ _ (call (Value.ref 575) _) _ _ _); k_dflt (refine' lex_cons ?k1 ?k2 ?k3 ?k4 ?k5 ?k6 NE hdr hlen ?k7 ?k8 ?_; (case k1 => k_asm); (case k2 => k_asm); (case k3 => k_asm); (case k4 => k_asm); (case k5 => first | exact rfl | assumption); (case k6 => k_asm); (case k7 => ktr_room); (case k8 => ktr_units); k_whole; intro t9 tp9 h9 tk9 F9 N9; (try dsimp only); (try k_sweep); (try k_fold)))
    k_with "my if" => ((with_reducible show wpAny _ _ (exec (Stmt.If (Expr.Compare (Expr.Name _ _) [CmpOp.Eq] [Expr.Constant _ _ _] _) _ _ _) _) _ _ _); refine stopAt ?_)
    k_steps
    unfold Stopped
    k_with_none
    rename (News _ _ _ _) => N7
    rename (Fr _ _ _ _) => F7
    refine join_if (R := fun ln tl => lexN w c x dx y dy pb fs (S all) tc tws wc tw qs tq (.str (stOf ph) ts) ln tl (S tok) tt ((p + 1 : Nat) : Int) tp9 n [] rest) F7 N7 (nl ch ln) ?_ ?_
    · by_cases h10 : ch = 10
      · have hn := beq_nl h10
        have hl : nl ch ln = ln + 1 := by unfold nl; rw [if_pos h10]
        k_steps
        exact ⟨rfl, _, _, _, rfl, by k_asm, by rw [hl]; k_asm⟩
      · have hn := bne_nl h10
        have hl : nl ch ln = ln := by unfold nl; rw [if_neg h10]
        k_steps
        exact ⟨rfl, _, _, _, rfl, by k_asm, by rw [hl]; k_asm⟩
    clear F7 N7
    intro tl h7 tk7 F7 N7
    dsimp only
    k_with "my if" => ((with_reducible show wpAny _ _ (exec (Stmt.If (Expr.Compare (Expr.Attribute _ _ _) [CmpOp.Is] _ _) _ _ _) _) _ _ _); refine stopAt ?_)
    k_steps
    unfold Stopped
    k_with_none
    k_with "my truthy" => ((with_reducible show wpAny _ _ (truthy (Value.str (S _) _)) _ _ _); (refine' truthy_ne ?k1 ?k2 ?_; (case k1 => first | with_reducible assumption | exact List.cons_ne_nil _ _); (case k2 => first | omega | (simp; done))))
    k_with "my iadd" => ((with_reducible show wpAny _ _ (inplaceOp Operator.Add (Value.str (S _) _) (Value.str (S _) _)) _ _ _); (refine' iadd_S ?k1 ?_; (case k1 => (simp only [List.length_cons, List.length_nil]; omega)); intro t8 tk8))
    cases ph with
    | qt =>
      dsimp only [stOf] at *
      have hq34 := occ_in (hqq rfl)
      have hqs := bne_qsp
      unfold rt at hP
      by_cases h34 : ch = 34
      · subst h34
        have hl : nl 34 ln = ln := by unfold nl; rw [if_neg (by decide)]
        rename (News _ _ _ _) => N8
        rw [hl] at N8
        have hb := beq_self 34
        rw [if_pos rfl] at hP
        cases hP
        k_steps
        exact ret _ _ _ _ _ 0 _ _ (by k_asm) (by walk_at "my news")
      · have hb := bne_S h34
        rw [if_neg h34] at hP
        k_steps
        refine ksw_end ⟨.qt, tok ++ [ch], p + 1, nl ch ln, _, _, _, _⟩ (by k_asm) (by k_asm) (fun _ hp => hp) trivial (fun _ h9 => nomatch h9) (by walk_at "my same") ⟨by rw [hdr1]; exact hP, by simp [LSt.Ok], by simp; omega, hp1, hqq⟩ (by dsimp only; omega)
    | sp =>
      dsimp only [stOf] at *
      subst hok
      unfold rt at hP
      cases hwc : wc.cps.toList.contains ch with
      | true =>
        have hw1 := occ_in hwc
        rw [hwc, if_pos rfl] at hP
        k_steps
        refine ksw_end ⟨.wd, [ch], p + 1, nl ch ln, _, _, _, _⟩ (by k_asm) (by k_asm) (fun _ hp => hp) trivial (fun _ h9 => nomatch h9) (by walk_at "my same") ⟨by rw [hdr1]; exact hP, List.cons_ne_nil _ _, by simp, hp1, fun h9 => nomatch h9⟩ (by dsimp only; omega)
      | false =>
        have hw1 := occ_out hwc
        rw [hwc, if_neg Bool.false_ne_true] at hP
        by_cases h10 : ch = 10
        · rw [if_pos h10] at hP; cases hP
        · have hl : nl ch ln = ln := by unfold nl; rw [if_neg h10]
          rename (News _ _ _ _) => N8
          rw [hl] at N8
          rw [if_neg h10] at hP
          cases hq : qs.cps.toList.contains ch with
          | true =>
            have hq1 := occ_in hq
            rw [hq, if_pos rfl] at hP
            by_cases h34 : ch = 34
            · rw [if_pos h34] at hP
              subst h34
              k_steps
              refine ksw_end ⟨.qt, [34], p + 1, ln, _, _, _, _⟩ (by k_asm) (by k_asm) (fun _ hp => hp) trivial (fun _ h9 => nomatch h9) (by walk_at "my same") ⟨by rw [hdr1]; exact hP, List.cons_ne_nil _ _, by simp, hp1, fun _ => hq⟩ (by dsimp only; omega)
            · rw [if_neg h34] at hP; cases hP
          | false =>
            have hq1 := occ_out hq
            rw [hq, if_neg Bool.false_ne_true] at hP
            cases hP
            k_steps
            exact ret _ _ _ _ _ 0 _ _ (by k_asm) (by k_asm)
    | wd =>
      dsimp only [stOf] at *
      have hqa1 : (Builtin.Str.occurrences qs (Str.ofString "a") 0 qs.length 1).isEmpty = true := occ_out hqa
      unfold rt at hP
      cases hwc : wc.cps.toList.contains ch with
      | true =>
        have hw1 := occ_in hwc
        rw [hwc, if_pos rfl] at hP
        k_steps
        refine ksw_end ⟨.wd, tok ++ [ch], p + 1, nl ch ln, _, _, _, _⟩ (by k_asm) (by k_asm) (fun _ hp => List.Mem.tail _ hp) trivial (fun _ h9 => nomatch h9) (by walk_at "my same") ⟨by rw [hdr1]; exact hP, by simp [LSt.Ok], by simp; omega, hp1, fun h9 => nomatch h9⟩ (by dsimp only; omega)
      | false =>
        have hw1 := occ_out hwc
        rw [hwc, if_neg Bool.false_ne_true] at hP
        by_cases h10 : ch = 10
        · rw [if_pos h10] at hP; cases hP
        · have hl : nl ch ln = ln := by unfold nl; rw [if_neg h10]
          rename (News _ _ _ _) => N8
          rw [hl] at N8
          rw [if_neg h10] at hP
          cases hq : qs.cps.toList.contains ch with
          | true => rw [hq, if_pos rfl] at hP; cases hP
          | false =>
            have hq1 := occ_out hq
            rw [hq, if_neg Bool.false_ne_true] at hP
            cases hP
            k_steps
            exact ret _ _ _ _ _ _ _ _ (by k_asm) (by walk_at "my news")
theorem bne_empty {l : List Nat} (h : l ≠ []) : (S l == Str.ofString "") = false := by
  cases q : (S l == Str.ofString "") with
  | false => rfl
  | true =>
    have : S l = Str.ofString "" := by simpa using q
    rw [← S_nil] at this
    have := congrArg Str.cps this
    simp [S] at this
    exact absurd this h
theorem truthy_dq0 {prog : Program} {w : World} {A : Around} {E : Value → Shared → Prop} {s : Shared} {h₀ : Heap} {L : Addr} {news : List (Addr × Obj)} {D : Addr} {n : Int} {Q : Bool → Shared → Prop} (N : News h₀ L s.heap news) (hm : (D, dq n []) ∈ news)
    (h : Q false { s with toks := s.toks + 1 + 1 }) : wpAny (model prog w) A (truthy (.ref D)) Q E s := truthy_dqK N hm (by decide) h
theorem truthy_dq1 {prog : Program} {w : World} {A : Around} {E : Value → Shared → Prop} {s : Shared} {h₀ : Heap} {L : Addr} {news : List (Addr × Obj)} {D : Addr} {n : Int} {v : Value} {Q : Bool → Shared → Prop} (N : News h₀ L s.heap news) (hm : (D, dq n [v]) ∈ news)
    (h : Q true { s with toks := s.toks + 1 + 1 }) : wpAny (model prog w) A (truthy (.ref D)) Q E s := truthy_dqK N hm (by show 1 < 1000; decide) h
theorem getPk {w : World} {loose : List Str} {mean : ExcName → Option Value} {mg mb : Str → Option Value}
    {dp un : Nat} {gd : Option (List Code)} {cn : Str} {cs : Scope} {a : Addr} {ccd : Value} {cl : List (Str × Addr)} {outer : List Env} {A₀ : Around} {base h₀ : Heap} {L : Addr} {m : Str → Option Value} {s : Shared} {Q E : Value → Shared → Prop}
    {c : LK} {x dx y dy pb fs : Addr} {rest : List (Addr × Obj)} {all : List Nat} {p : Nat} {tc tws tw tq tl tt tp tk : Tok} {wc qs : Str} {st : Value} {ln n : Int} {tok : Str} {ch : Nat}
    (B : Below A₀ base outer h₀) (F : Fr h₀ L s.heap m) (X : (hd.heap_39 w.params).In h₀) (T : Top hd.view_39 loose mean mg mb h₀) (hk : cs.kind = .function)
    (N : News h₀ L s.heap (lexN w c x dx y dy pb fs (S all) tc tws wc tw qs tq st ln tl tok tt (p : Int) tp n [.str (S [ch]) tk] rest))
    (NE : LexNe x dx y dy pb fs rest)
    (hd1 : dp + 8 < recursionLimit) (hu : un + 120 < cLine)
    (ret : ∀ (t : Tok) (h' : Heap) (tk' : Nat), Fr h₀ L h' m → News h₀ L h' (lexN w c x dx y dy pb fs (S all) tc tws wc tw qs tq st ln tl tok tt (p : Int) tp (n + 1) [] rest) →
        Q (.str (S [ch]) t) { s with heap := h', toks := tk' }) :
    wpAny (model PySem.Challenge.rw_mr0358_01.row.prog w) (ktrTop dp un gd cn cs L a ccd cl outer) (call (.ref 725) [.ref x]) Q E s := by
  have NE' := NE
  obtain ⟨e1, e2, e3, e4, e5, e6, e7, e8, e9, e10, e11, e12, r1, r2, r3⟩ := NE'
  k_with_none
  k_with "my truthy ref" => (first | (refine' truthy_dq0 ?k1 ?k2 ?_; (case k1 => k_asm); (case k2 => k_mem); k_whole) | (refine' truthy_dq1 ?k1 ?k2 ?_; (case k1 => k_asm); (case k2 => k_mem); k_whole))
  revert X; k_fill; intro X
  refine wpAny_call ?_
  k_dflt (walk_at "my enter")
  k_steps
  exact ret _ _ _ (by k_asm) (by k_asm)
/-- get_token on an empty pushback -/
theorem getRt {w : World} {loose : List Str} {mean : ExcName → Option Value} {mg mb : Str → Option Value}
    {dp un : Nat} {gd : Option (List Code)} {cn : Str} {cs : Scope} {a : Addr} {ccd : Value} {cl : List (Str × Addr)} {outer : List Env} {A₀ : Around} {base h₀ : Heap} {L : Addr} {m : Str → Option Value} {s : Shared} {Q E : Value → Shared → Prop}
    {c : LK} {x dx y dy pb fs : Addr} {rest : List (Addr × Obj)} {all : List Nat} {p : Nat} {tc tws tw tq ts tl tt tp : Tok} {wc qs : Str} {ln n : Int} {R : Res}
    (B : Below A₀ base outer h₀) (F : Fr h₀ L s.heap m) (X : (hd.heap_39 w.params).In h₀) (T : Top hd.view_39 loose mean mg mb h₀) (hk : cs.kind = .function)
    (N : News h₀ L s.heap (lexN w c x dx y dy pb fs (S all) tc tws wc tw qs tq (.str (Str.ofString " ") ts) ln tl (Str.ofString "") tt (p : Int) tp n [] rest))
    (NE : LexNe x dx y dy pb fs rest) (hlen : all.length ≤ 100000) (hpl : p ≤ all.length) (hR : rt wc.cps.toList qs.cps.toList .sp [] (all.drop p) p ln = some R) (hne : R.tok ≠ [])
    (hqa : qs.cps.toList.contains 97 = false)
    (hd1 : dp + 8 < recursionLimit) (hu : un + 120 < cLine)
    (ret : ∀ (t ts' tl' tt' tp' tpk : Tok) (h' : Heap) (tk' : Nat), Fr h₀ L h' m → News h₀ L h' (lexN w c x dx y dy pb fs (S all) tc tws wc tw qs tq (stV R.st ts') R.ln tl' (Str.ofString "") tt' (R.p : Int) tp' (pkN n R.pk) (pkX tpk R.pk) rest) →
        Q (.str (S R.tok) t) { s with heap := h', toks := tk' }) :
    wpAny (model PySem.Challenge.rw_mr0358_01.row.prog w) (ktrTop dp un gd cn cs L a ccd cl outer) (call (.ref 725) [.ref x]) Q E s := by
  have NE' := NE
  obtain ⟨e1, e2, e3, e4, e5, e6, e7, e8, e9, e10, e11, e12, r1, r2, r3⟩ := NE'
  have hb : (S R.tok == Str.ofString "") = false := bne_empty hne
  k_with_none
  k_with "my truthy ref" => (first | (refine' truthy_dq0 ?k1 ?k2 ?_; (case k1 => k_asm); (case k2 => k_mem); k_whole) | (refine' truthy_dq1 ?k1 ?k2 ?_; (case k1 => k_asm); (case k2 => k_mem); k_whole))
  k_with "my call" => ((with_reducible show wpAny _ _ (call (Value.ref 732) _) _ _ _); k_dflt (refine' readTok ?k1 ?k2 ?k3 ?k4 ?k5 ?k6 NE hlen hpl hR hqa ?k7 ?k8 ?_; (case k1 => k_asm); (case k2 => k_asm); (case k3 => k_asm); (case k4 => k_asm); (case k5 => first | exact rfl | assumption); (case k6 => k_asm); (case k7 => ktr_room); (case k8 => ktr_units); k_whole; intro t9 ts9 tl9 tt9 tp9 tpk9 h9 tk9 F9 N9; (try dsimp only); (try k_sweep); (try k_fold)))
  revert X; k_fill; intro X
  refine wpAny_call ?_
  k_dflt (walk_at "my enter")
  k_steps
  exact ret _ _ _ _ _ _ _ _ (by k_asm) (by k_asm)
/-- read_token when the end has been met -/
theorem readNone {w : World} {loose : List Str} {mean : ExcName → Option Value} {mg mb : Str → Option Value}
    {dp un : Nat} {gd : Option (List Code)} {cn : Str} {cs : Scope} {a : Addr} {ccd : Value} {cl : List (Str × Addr)} {outer : List Env} {A₀ : Around} {base h₀ : Heap} {L : Addr} {m : Str → Option Value} {s : Shared} {Q E : Value → Shared → Prop}
    {c : LK} {x dx y dy pb fs : Addr} {rest : List (Addr × Obj)} {all : List Nat} {p : Nat} {tc tws tw tq tl tt tp : Tok} {wc qs : Str} {ln n : Int} {tok : Str} {xs : List Value}
    (B : Below A₀ base outer h₀) (F : Fr h₀ L s.heap m) (X : (hd.heap_39 w.params).In h₀) (T : Top hd.view_39 loose mean mg mb h₀) (hk : cs.kind = .function)
    (N : News h₀ L s.heap (lexN w c x dx y dy pb fs (S all) tc tws wc tw qs tq .none ln tl tok tt (p : Int) tp n xs rest))
    (NE : LexNe x dx y dy pb fs rest) (hlen : all.length ≤ 100000) (hdr : all.drop p = [])
    (hd1 : dp + 6 < recursionLimit) (hu : un + 100 < cLine)
    (ret : ∀ (t tt' : Tok) (h' : Heap) (tk' : Nat), Fr h₀ L h' m → News h₀ L h' (lexN w c x dx y dy pb fs (S all) tc tws wc tw qs tq .none ln tl (Str.ofString "") tt' (p : Int) tp n xs rest) →
        Q (.str (Str.ofString "") t) { s with heap := h', toks := tk' }) :
    wpAny (model PySem.Challenge.rw_mr0358_01.row.prog w) (ktrTop dp un gd cn cs L a ccd cl outer) (call (.ref 732) [.ref x]) Q E s := by
  have NE' := NE
  obtain ⟨e1, e2, e3, e4, e5, e6, e7, e8, e9, e10, e11, e12, r1, r2, r3⟩ := NE'
  k_with_none
  k_with "my call" => ((with_reducible show wpAny _ _ (call (Value.ref 575) _) _ _ _); k_dflt (refine' lex_nil ?k1 ?k2 ?k3 ?k4 ?k5 ?k6 NE hdr hlen ?k7 ?k8 ?_; (case k1 => k_asm); (case k2 => k_asm); (case k3 => k_asm); (case k4 => k_asm); (case k5 => first | exact rfl | assumption); (case k6 => k_asm); (case k7 => ktr_room); (case k8 => ktr_units); k_whole; intro t9 h9 tk9 F9 N9; (try dsimp only); (try k_sweep); (try k_fold)))
  revert X; k_fill; intro X
  refine wpAny_call ?_
  k_dflt (walk_at "my enter")
  k_steps
  exact ret _ _ _ _ (by k_asm) (by k_asm)
theorem getEofB {w : World} {loose : List Str} {mean : ExcName → Option Value} {mg mb : Str → Option Value}
    {dp un : Nat} {gd : Option (List Code)} {cn : Str} {cs : Scope} {a : Addr} {ccd : Value} {cl : List (Str × Addr)} {outer : List Env} {A₀ : Around} {base h₀ : Heap} {L : Addr} {m : Str → Option Value} {s : Shared} {Q E : Value → Shared → Prop}
    {c : LK} {x dx y dy pb fs : Addr} {rest : List (Addr × Obj)} {all : List Nat} {p : Nat} {tc tws tw tq tl tt tp : Tok} {wc qs : Str} {ln n : Int} {tok : Str}
    (B : Below A₀ base outer h₀) (F : Fr h₀ L s.heap m) (X : (hd.heap_39 w.params).In h₀) (T : Top hd.view_39 loose mean mg mb h₀) (hk : cs.kind = .function)
    (N : News h₀ L s.heap (lexN w c x dx y dy pb fs (S all) tc tws wc tw qs tq .none ln tl tok tt (p : Int) tp n [] rest))
    (NE : LexNe x dx y dy pb fs rest) (hlen : all.length ≤ 100000) (hdr : all.drop p = [])
    (hd1 : dp + 8 < recursionLimit) (hu : un + 120 < cLine)
    (ret : ∀ (t tt' : Tok) (h' : Heap) (tk' : Nat), Fr h₀ L h' m → News h₀ L h' (lexN w c x dx y dy pb fs (S all) tc tws wc tw qs tq .none ln tl (Str.ofString "") tt' (p : Int) tp n [] rest) →
        Q (.str (Str.ofString "") t) { s with heap := h', toks := tk' }) :
    wpAny (model PySem.Challenge.rw_mr0358_01.row.prog w) (ktrTop dp un gd cn cs L a ccd cl outer) (call (.ref 725) [.ref x]) Q E s := by
  have NE' := NE
  obtain ⟨e1, e2, e3, e4, e5, e6, e7, e8, e9, e10, e11, e12, r1, r2, r3⟩ := NE'
  k_with_none
  k_with "my truthy ref" => (first | (refine' truthy_dq0 ?k1 ?k2 ?_; (case k1 => k_asm); (case k2 => k_mem); k_whole) | (refine' truthy_dq1 ?k1 ?k2 ?_; (case k1 => k_asm); (case k2 => k_mem); k_whole))
  k_with "my call" => ((with_reducible show wpAny _ _ (call (Value.ref 732) _) _ _ _); k_dflt (refine' readNone ?k1 ?k2 ?k3 ?k4 ?k5 ?k6 NE hlen hdr ?k7 ?k8 ?_; (case k1 => k_asm); (case k2 => k_asm); (case k3 => k_asm); (case k4 => k_asm); (case k5 => first | exact rfl | assumption); (case k6 => k_asm); (case k7 => ktr_room); (case k8 => ktr_units); k_whole; intro t9 tt9 h9 tk9 F9 N9; (try dsimp only); (try k_sweep); (try k_fold)))
  revert X; k_fill; intro X
  refine wpAny_call ?_
  k_dflt (walk_at "my enter")
  k_steps
  exact ret _ _ _ _ (by k_asm) (by k_asm)
theorem getEofA {w : World} {loose : List Str} {mean : ExcName → Option Value} {mg mb : Str → Option Value}
    {dp un : Nat} {gd : Option (List Code)} {cn : Str} {cs : Scope} {a : Addr} {ccd : Value} {cl : List (Str × Addr)} {outer : List Env} {A₀ : Around} {base h₀ : Heap} {L : Addr} {m : Str → Option Value} {s : Shared} {Q E : Value → Shared → Prop}
    {c : LK} {x dx y dy pb fs : Addr} {rest : List (Addr × Obj)} {all : List Nat} {p : Nat} {tc tws tw tq ts tl tt tp : Tok} {wc qs : Str} {ln n : Int}
    (B : Below A₀ base outer h₀) (F : Fr h₀ L s.heap m) (X : (hd.heap_39 w.params).In h₀) (T : Top hd.view_39 loose mean mg mb h₀) (hk : cs.kind = .function)
    (N : News h₀ L s.heap (lexN w c x dx y dy pb fs (S all) tc tws wc tw qs tq (.str (Str.ofString " ") ts) ln tl (Str.ofString "") tt (p : Int) tp n [] rest))
    (NE : LexNe x dx y dy pb fs rest) (hlen : all.length ≤ 100000) (hpl : p ≤ all.length) (hdr : all.drop p = []) (hqa : qs.cps.toList.contains 97 = false)
    (hd1 : dp + 8 < recursionLimit) (hu : un + 120 < cLine)
    (ret : ∀ (t tl' tt' tp' : Tok) (h' : Heap) (tk' : Nat), Fr h₀ L h' m → News h₀ L h' (lexN w c x dx y dy pb fs (S all) tc tws wc tw qs tq .none ln tl' (Str.ofString "") tt' (p : Int) tp' n [] rest) →
        Q (.str (Str.ofString "") t) { s with heap := h', toks := tk' }) :
    wpAny (model PySem.Challenge.rw_mr0358_01.row.prog w) (ktrTop dp un gd cn cs L a ccd cl outer) (call (.ref 725) [.ref x]) Q E s := by
  have NE' := NE
  obtain ⟨e1, e2, e3, e4, e5, e6, e7, e8, e9, e10, e11, e12, r1, r2, r3⟩ := NE'
  have hR : rt wc.cps.toList qs.cps.toList .sp [] (all.drop p) p ln = some ⟨[], false, p, ln, none⟩ := by rw [hdr]; rfl
  have hb : (S [] == Str.ofString "") = true := by rw [S_nil]; simp
  k_with_none
  k_with "my truthy ref" => (first | (refine' truthy_dq0 ?k1 ?k2 ?_; (case k1 => k_asm); (case k2 => k_mem); k_whole) | (refine' truthy_dq1 ?k1 ?k2 ?_; (case k1 => k_asm); (case k2 => k_mem); k_whole))
  k_with "my call" => ((with_reducible show wpAny _ _ (call (Value.ref 732) _) _ _ _); k_dflt (refine' readTok ?k1 ?k2 ?k3 ?k4 ?k5 ?k6 NE hlen hpl hR hqa ?k7 ?k8 ?_; (case k1 => k_asm); (case k2 => k_asm); (case k3 => k_asm); (case k4 => k_asm); (case k5 => first | exact rfl | assumption); (case k6 => k_asm); (case k7 => ktr_room); (case k8 => ktr_units); k_whole; intro t9 ts9 tl9 tt9 tp9 tpk9 h9 tk9 F9 N9; (try dsimp only [stV, pkN, pkX] at N9); (try dsimp only); (try k_sweep); (try k_fold)))
  revert X; k_fill; intro X
  refine wpAny_call ?_
  k_dflt (walk_at "my enter")
  k_steps
  exact ret _ _ _ _ _ _ (by k_asm) (by k_asm)
theorem mro_dq : mroOf (.type "collections.deque") = pure [.type "collections.deque", .type "object"] := by rw [mroOf_type]; kernel_rfl
theorem lookup_dq_new : typeLookup (.type "collections.deque") "__new__" = pure (some (.builtin "collections.deque.__new__")) := by rw [typeLookup_type, builtinLookup_eq_fast]; kernel_rfl
theorem slot_dq_init : Slot "collections.deque" "__init__" "collections.deque.__init__" :=
  .of (owner := "collections.deque") (n := "__init__") (by rw [typeLookup_type, builtinLookup_eq_fast]; kernel_rfl) (by decide +kernel) (by decide +kernel) (by decide +kernel)
    (by first | exact .inl (by decide +kernel) | exact .inr (by decide +kernel)) (by rw [isSubtype_type]; kernel_rfl)
theorem called_dq : TypeCalled "collections.deque" "collections.deque.__new__" "collections.deque.__init__" :=
  ⟨by decide +kernel, by decide +kernel, ⟨_, _, mro_dq⟩, madeBy_type mro_dq lookup_dq_new (by decide +kernel), by decide +kernel, by rw [isSubtype_type]; kernel_rfl, slot_dq_init⟩
theorem typeCall_dq : checkTypeCall "collections.deque" ⟨[], []⟩ = pure () := by kernel_rfl
theorem newCall_dq : checkBuiltinCall "collections.deque.__new__" ⟨[.type "collections.deque"], []⟩ = pure () := by kernel_rfl
theorem entry_dq_new : entryFor table "collections.deque.__new__" = some Builtin.«collections.deque.__new__» := entryFor_of_tree (by kernel_rfl)
theorem entry_dq_init : entryFor table "collections.deque.__init__" = some Builtin.«collections.deque.__init__» := entryFor_of_tree (by kernel_rfl)
theorem plain_dq_new : plainId "collections.deque.__new__" = true := by decide +kernel
theorem args_dq_init (a : Value) : argsOk "collections.deque.__init__" ⟨[a], []⟩ := by unfold argsOk; kernel_rfl
theorem run_dq_new : Builtin.«collections.deque.__new__» ⟨[.type "collections.deque"], []⟩ = (alloc (dq 0 []) >>= fun a => pure (.done (.ret (.ref a)))) := by kernel_rfl
theorem run_dq_init (a : Addr) : Builtin.«collections.deque.__init__» ⟨[.ref a], []⟩ = (setField (.ref a) 0 .none >>= fun _ => Builtin.Deque.clear (.ref a) >>= fun _ => ret .none) := by kernel_rfl
section
variable {prog : Program} {w : World} {A : Around} {E : Value → Shared → Prop} {s : Shared}
theorem code_dq_new {Q₁ : Value → Shared → Prop}
    (h : Q₁ (.ref s.heap.objs.size) { s with heap := s.heap.push (dq 0 []) }) :
    codeAny (model prog w) A (.call (.builtin "collections.deque.__new__") ⟨[.type "collections.deque"], []⟩) (wants Q₁ E) s := by
  refine codeAny_of_tree ?_
  show wpAny _ A.in1 (do checkBuiltinCall "collections.deque.__new__" ⟨[.type "collections.deque"], []⟩; again (.builtin "collections.deque.__new__" ⟨[.type "collections.deque"], []⟩)) _ _ s
  refine wpAny_bind (wpAny_of_eq newCall_dq (wpAny_pure ⟨plainId_quiet plain_dq_new _, codeAny_builtin entry_dq_new ?_⟩))
  rw [run_dq_new]
  refine wpAny_bind (wpAny_alloc (wpAny_pure ?_))
  exact h
theorem call_dq {Q : Value → Shared → Prop} (h : ∀ h', h'.objs.size = s.heap.objs.size + 1 → Heap.SameBut s.heap.objs.size (s.heap.push (dq 0 [])) h' → h'.get? s.heap.objs.size = some (dq 0 []) → Q (.ref s.heap.objs.size) { s with heap := h' }) :
    wpAny (model prog w) A (call (.type "collections.deque") []) Q E s := by
  refine callType_codes (Q₁ := fun v s₁ => v = .ref s.heap.objs.size ∧ s₁ = { s with heap := s.heap.push (dq 0 []) }) called_dq typeCall_dq entry_dq_init (code_dq_new ⟨rfl, rfl⟩) ?_
  rintro obj s₁ ⟨rfl, rfl⟩
  have ho : (s.heap.push (dq 0 [])).get? s.heap.objs.size = some (dq 0 []) := Heap.get?_push_size _ rfl
  refine ⟨⟨_, ho, rfl⟩, args_dq_init _, ?_⟩
  rw [run_dq_init]
  refine wpAny_bind (wpAny_setField ho rfl (by decide) ?_)
  have ho2 : ((s.heap.push (dq 0 [])).update s.heap.objs.size (Obj.mapFields (·.setIfInBounds 0 Value.none))).get? s.heap.objs.size = some (dq 0 []) := by
    rw [Heap.get?_update_self _ ho rfl]; rfl
  unfold Builtin.Deque.clear Builtin.Deque.items
  refine wpAny_bind (wpAny_bind (wpAny_bind (wpAny_fieldsOf ho2 rfl (wpAny_pure ?_))))
  refine wpAny_pure (wpAny_pure ?_)
  have hs : Heap.SameBut s.heap.objs.size (s.heap.push (dq 0 [])) ((s.heap.push (dq 0 [])).update s.heap.objs.size (Obj.mapFields (·.setIfInBounds 0 Value.none))) := Heap.SameBut.update ..
  exact ⟨rfl, h _ (by rw [hs.1, Heap.size_push]) hs ho2⟩
end
theorem call_dqK {prog : Program} {w : World} {A : Around} {E : Value → Shared → Prop} {s : Shared} {h₀ : Heap} {L : Addr} {m : Str → Option Value} {news : List (Addr × Obj)} {Q : Value → Shared → Prop} (F : Fr h₀ L s.heap m) (N : News h₀ L s.heap news)
    (h : ∀ d h', Fr h₀ L h' m → News h₀ L h' ((d, dq 0 []) :: news) → (∀ p ∈ news, p.1 < d) → Q (.ref d) { s with heap := h' }) : wpAny (model prog w) A (call (.type "collections.deque") []) Q E s := by
  refine call_dq fun h' hz hs ho => ?_
  have N1 := N.push F (dq 0 [])
  have z := N1 _ (.head _)
  refine h _ h' ((F.push (dq 0 [])).change hs z.2.1 z.2.2) ?_ (fun p hp => Heap.lt_size (N p hp).1)
  exact news_set (pre := []) N1 (fun _ hp => nomatch hp) (fun p hp => Nat.ne_of_lt (Heap.lt_size (N p hp).1)) hs ho
/- the class StringIO -/
section
variable {w : World} {A : Around} {h : Heap}
theorem made_sio {M : Model} {P : Params} (X : (hd.heap_39 P).In h) : Looks M h (Bind.madeBy (.ref 629)) none := .of_peek X (by kernel_rfl)
theorem here_sio {M : Model} {P : Params} (X : (hd.heap_39 P).In h) : Looks M h (Bind.madeHere "object.__new__" (.ref 629)) () := .of_peek X (by kernel_rfl)
theorem mro_sio {M : Model} {P : Params} (X : (hd.heap_39 P).In h) : Looks M h (mroOf (.ref 629)) [.ref 629, .ref 152, .ref 125, .type "object"] := .of_peek X (by kernel_rfl)
theorem type_sio {M : Model} {P : Params} (X : (hd.heap_39 P).In h) : Looks M h (isType (.ref 629)) true := .of_peek X (by kernel_rfl)
theorem call_sio {M : Model} {P : Params} (X : (hd.heap_39 P).In h) : Looks M h (specialOf (.ref 629) "__call__") (some (.builtin "type.__call__")) := .of_peek X (by kernel_rfl)
theorem self_sio {M : Model} {P : Params} (X : (hd.heap_39 P).In h) : Looks M h (isSubtype (.ref 629) (.ref 629)) true := .of_peek X (by kernel_rfl)
theorem typ_sio {M : Model} {P : Params} (X : (hd.heap_39 P).In h) : Looks M h (isInstance (.ref 629) (.type "type")) true := .of_peek X (by kernel_rfl)
theorem init_sio {M : Model} {P : Params} (X : (hd.heap_39 P).In h) : Looks M h (typeLookup (.ref 629) "__init__") (some (.ref 399)) := .of_peek X (by kernel_rfl)
end
theorem make_sio {w : World} {A : Around} {s : Shared} {v : Value} {R : Result → Shared → Prop} (X : (hd.heap_39 w.params).In s.heap)
    (hnew : wpAny (model PySem.Challenge.rw_mr0358_01.row.prog w) (A.under (.builtin "type.__call__" ⟨[.ref 629, v], []⟩)) (call (.ref 122) [.ref 629, v]) (fun obj s' => ∃ x dx, obj = .ref x ∧ s'.heap.get? x = some (instObj 629 dx) ∧ (hd.heap_39 w.params).In s'.heap ∧
      codeAny (model PySem.Challenge.rw_mr0358_01.row.prog w) (A.under (.builtin "type.__call__" ⟨[.ref 629, v], []⟩)) (.call (.ref 399) ⟨[.ref x, v], []⟩) (InitBack x R) s') (fun e s' => R (.error e) s') { s with toks := s.toks + 1 }) :
    codeAny (model PySem.Challenge.rw_mr0358_01.row.prog w) A (.call (.ref 629) ⟨[v], []⟩) R s := by
  obtain ⟨hh, g, d, t, os⟩ := s
  have made := made_sio (M := model PySem.Challenge.rw_mr0358_01.row.prog w) X
  have mro := mro_sio (M := model PySem.Challenge.rw_mr0358_01.row.prog w) X
  have typ := typ_sio (M := model PySem.Challenge.rw_mr0358_01.row.prog w) X
  have call := call_sio (M := model PySem.Challenge.rw_mr0358_01.row.prog w) X
  revert X; k_fill; intro X
  have hC : hh.get? 629 = some _ := X 629 _ (by k_is)
  refine codeAny_of_tree ?_
  show wpAny _ _ (callAny (.ref 629) _) _ _ _
  refine nd_load hC ?_
  show wpAny _ _ (callAny.viaDunder (.ref 629) _) _ _ _
  unfold callAny.viaDunder
  refine wpAny_bind (call.at ?_)
  dsimp only
  rw [tc_bind]
  refine wpAny_bind (wpAny_pure (wpAny_bind (wpAny_pure ?_)))
  refine wpAny_pure (a := Fin.again (.call (.builtin "type.__call__") ⟨.ref 629 :: [v], []⟩)) (And.intro rfl ?_)
  refine codeAny_call_builtin_at (Code.quiet_builtin _ (by decide +kernel)) entry_typeCall (check_slot tc_kind tc_split typ (tc_args _ _ _) ?_)
  unfold Builtin.«type.__call__»
  iterate 9 (first | simp only [List.isEmpty_cons, Bool.false_eq_true, if_false] | lk)
  refine cls_bind (K := hd.heap_39 w.params) (mc := .type "type") X (by k_is) (by k_is) (wpAny_call (sm_get (K := hd.heap_39 w.params) (s := ⟨hh, g, d, t + 1, os⟩) X (by k_is) (handed_on rfl ?_)))
  refine wpAny_bind (wpAny_holding (wpAny_mono hnew (fun obj s' hz => ?_) (fun _ _ z => z)))
  obtain ⟨x, dx, rfl, hx, X', hi⟩ := hz
  have t1 : Looks (model PySem.Challenge.rw_mr0358_01.row.prog w) s'.heap (typeOf (.ref x)) (.ref 629) := (Looks.ld hx).andThen .now
  have s1 := self_sio (M := model PySem.Challenge.rw_mr0358_01.row.prog w) X'
  have i1 := init_sio (M := model PySem.Challenge.rw_mr0358_01.row.prog w) X'
  have b1 : Looks (model PySem.Challenge.rw_mr0358_01.row.prog w) s'.heap (bindSpecial (.ref 399) (.ref x)) (.ref 399, [.ref x]) := bind_fn X' _ (by k_is)
  obtain ⟨hh, g, d, t, os⟩ := s'
  unfold isInstance callSpecial? specialOf
  repeat (first | with_reducible refine wpAny_call ?_ | lk)
  refine codeAny_mono hi fun r s' z => ?_
  rcases r with e | (v | _ | _ | _) <;> first | exact z | exact z.elim | skip
  obtain ⟨rfl, z⟩ := z
  exact wpAny_pure (wpAny_pure z)
theorem new_sio {w : World} {A : Around} {h : Heap} {g : Array GenState} {d : Drawn} {t : Nat} {os : OsState} {R : Result → Shared → Prop} (X : (hd.heap_39 w.params).In h)
    (hq : R (.ok (.ret (.ref (h.objs.size + 1)))) ⟨(h.push emptyDict).push (instObj 629 h.objs.size), g, d, t, os⟩) :
    codeAny (model PySem.Challenge.rw_mr0358_01.row.prog w) A (.call (.builtin "object.__new__") ⟨[.ref 629], []⟩) R ⟨h, g, d, t, os⟩ := by
  have here := here_sio (M := model PySem.Challenge.rw_mr0358_01.row.prog w) X
  have typ := type_sio (M := model PySem.Challenge.rw_mr0358_01.row.prog w) X
  have chk : Looks (model PySem.Challenge.rw_mr0358_01.row.prog w) h (checkBuiltinCall "object.__new__" ⟨[.ref 629], []⟩) () := .of_peek X (by kernel_rfl)
  revert X; k_fill; intro X
  have hC : h.get? 629 = some _ := X 629 _ (by k_is)
  have F := PySem.F.objNew
  refine codeAny_call_builtin_code (Code.quiet_builtin _ F.quiet) (chk.here ?_)
  refine codeAny_builtin F.entry ?_
  unfold Builtin.«object.__new__»
  refine wpAny_bind (typ.at ?_)
  refine wpAny_bind (here.at ?_)
  have fin : ∀ A', wpAny (model PySem.Challenge.rw_mr0358_01.row.prog w) A' (do
      let d ← if typeHasDict (.ref 629) then some <$> alloc { cls := .type "dict", data := .dict #[] } else pure none
      ret (← newObj (.ref 629) .plain d)) (fun fin s' => match fin with | .done f => R (.ok f) s' | .again c' => c'.quiet = true ∧ codeAny (model PySem.Challenge.rw_mr0358_01.row.prog w) A c' R s') (fun e s' => R (.error e) s') ⟨h, g, d, t, os⟩ := by
    intro A'
    show wpAny _ _ ((alloc emptyDict >>= fun x => pure (some x)) >>= _) _ _ _
    refine wpAny_bind (wpAny_bind (wpAny_alloc (wpAny_pure (wpAny_bind ?_))))
    show wpAny _ _ (newObjAsIs _ _ _) _ _ _
    unfold newObjAsIs classHasDel
    refine wpAny_bind (wpAny_alloc (wpAny_bind (wpAny_bind (wpAny_load (Heap.get?_push_of_some _ (Heap.get?_push_of_some _ hC)) (wpAny_pure ?_)))))
    refine wpAny_pure (wpAny_pure ?_)
    show R _ _
    rw [Heap.size_push]
    exact hq
  refine nd_load hC ?_
  exact fin _
theorem new_sioK {w : World} {A : Around} {E : Value → Shared → Prop} {s : Shared} {h₀ : Heap} {L : Addr} {m : Str → Option Value} {news : List (Addr × Obj)} {Q : Value → Shared → Prop} (F : Fr h₀ L s.heap m) (X₀ : (hd.heap_39 w.params).In h₀) (N : News h₀ L s.heap news)
    (h : ∀ x dx h', Fr h₀ L h' m → News h₀ L h' ((x, instObj 629 dx) :: (dx, dictOf [] 0) :: news) → (∀ p ∈ news, p.1 < dx) → dx < x → Q (.ref x) { s with heap := h' }) :
    wpAny (model PySem.Challenge.rw_mr0358_01.row.prog w) A (call (.builtin "object.__new__") [.ref 629]) Q E s := by
  obtain ⟨hh, g, d, t, os⟩ := s
  have N' := (N.push F emptyDict).push (F.push _) (instObj 629 hh.objs.size)
  rw [Heap.size_push] at N'
  exact wpAny_call (new_sio (X₀.keeps F.keep) (h _ hh.objs.size _ ((F.push _).push _) N' (fun p hp => Heap.lt_size (N p hp).1) (Nat.lt_succ_self _)))
theorem allLt_to {d : Nat} : ∀ {l : List (Addr × Obj)}, AllLt d l → ∀ p ∈ l, p.1 < d
  | [], _, _, hp => nomatch hp
  | q :: r, h, p, hp => by
    rcases List.mem_cons.mp hp with rfl | hp
    · exact h.1
    · exact allLt_to h.2 p hp
theorem drop_mid {h₀ h : Heap} {L : Addr} {a b c d : Addr × Obj} {rest : List (Addr × Obj)} (N : News h₀ L h (a :: b :: c :: d :: rest)) : News h₀ L h (a :: b :: rest) := by
  intro p hp
  refine N p ?_
  rcases List.mem_cons.mp hp with rfl | hp
  · exact .head _
  · rcases List.mem_cons.mp hp with rfl | hp
    · exact .tail _ (.head _)
    · exact .tail _ (.tail _ (.tail _ (.tail _ hp)))
theorem mkSio {w : World} {loose : List Str} {mean : ExcName → Option Value} {mg mb : Str → Option Value}
    {dp un : Nat} {gd : Option (List Code)} {cn : Str} {cs : Scope} {a : Addr} {ccd : Value} {cl : List (Str × Addr)} {outer : List Env} {A₀ : Around} {base h₀ : Heap} {L : Addr} {m : Str → Option Value} {s : Shared} {Q E : Value → Shared → Prop}
    {rest : List (Addr × Obj)} {all : List Nat} {tb : Tok}
    (B : Below A₀ base outer h₀) (F : Fr h₀ L s.heap m) (X : (hd.heap_39 w.params).In h₀) (T : Top hd.view_39 loose mean mg mb h₀) (hk : cs.kind = .function)
    (N : News h₀ L s.heap rest) (hlen : all.length ≤ 100000)
    (hd1 : dp + 6 < recursionLimit) (hu : un + 100 < cLine) 
    (ret : ∀ (y dy : Addr) (k1 k2 k3 tn tp : Tok) (h' : Heap) (tk' : Nat), Fr h₀ L h' m → News h₀ L h' ((y, instObj 629 dy) :: (dy, sioD w k1 k2 k3 tn tb tp (S all) 0) :: rest) → (∀ p ∈ rest, p.1 < dy) → dy < y → Q (.ref y) { s with heap := h', toks := tk' }) :
    wpAny (model PySem.Challenge.rw_mr0358_01.row.prog w) (ktrTop dp un gd cn cs L a ccd cl outer) (call (.ref 629) [.str (S all) tb]) Q E s := by
  k_with_none
  k_with "call builtin:object.__new__" => (k_dflt (refine' new_sioK ?k1 ?k2 ?k3 ?_; (case k1 => k_asm); (case k2 => k_asm); (case k3 => k_asm); k_whole; intro x' d' h' F' N' l1 l2; (try k_lt l1); (try k_lt2 l2); (try k_sweep)))
  revert X; k_fill; intro X
  refine wpAny_call (make_sio (X.keeps F.keep) ?_)
  refine wpAny_call ?_
  k_dflt (refine' kp_both ?k1 ?k2 ?k3 ?k4 ?k5 ?kA ?kF ?kK ?k6 ?k7 ?k8 ?kV ?kX ?kQ ?kM ?kN ?kD ?kR ?kP ?kS ?kT ?kB ?_ ?c2 ?c3 ?c4 ?c5; (case kA => exact rfl); (case kF => exact rfl); (case kK => first | exact rfl | assumption); (case k1 => k_asm); (case k2 => k_asm); (case k3 => k_asm); (case k4 => k_asm); (case k5 => k_asm); (case k6 => k_is); (case k7 => k_is); (case k8 => k_room); (case kV => kp_lit); (case kX => kp_lit); (case kQ => exact rfl); (case kM => exact rfl); (case kN => exact rfl); (case kD => kp_flats); (case kR => exact rfl); (case kP => exact rfl); (case kS => exact fun _ => rfl); (case kT => exact fun _ _ => rfl); (case kB => exact fun _ _ => locs rfl); (case c5 => decide); (case c2 => exact rfl); (case c3 => exact rfl); (case c4 => exact rfl); k_whole; intro C' D' o' g' L' h' tk' l1 l2 lo' hs' fs' FG' F' N' B' X' T'; (try k_lt l1); (try k_lt2 l2); (try dsimp only); (try k_lift B'); (try k_fold))
  k_steps
  · exact News.get (by k_asm) (.head _)
  k_dflt (walk_at "my enter")
  k_steps
  exact ret _ _ _ _ _ _ _ _ _ (by k_asm) (drop_mid (by k_asm)) (allLt_to l1.2.2) l2
inductive Deed where
  | text (t : List Nat)
  | ends (n : Nat)
  | begins (n : Nat) (ps : List (Nat × List Nat))
def pairR (p : Nat × List Nat) : List Nat := 32 :: p.1 :: 61 :: 34 :: (p.2 ++ [34])
def Deed.r : Deed → List Nat
  | .text t => t
  | .ends n => [60, 47, n, 62]
  | .begins n ps => 60 :: n :: (ps.flatMap pairR ++ [62])
def cnt : List Nat → Int
  | [] => 0
  | c :: r => (if c = 10 then 1 else 0) + cnt r
def psN : List (Nat × List Nat) → Int
  | [] => 0
  | p :: r => cnt p.2 + psN r
def Deed.nls : Deed → Int
  | .text t => cnt t
  | .ends _ => 0
  | .begins _ ps => psN ps
def nlsAll : List Deed → Int
  | [] => 0
  | d :: r => d.nls + nlsAll r
abbrev wsT : Str := Str.ofString "ampltgxD \"'&\n\t\r\\=/;#é"
abbrev wsG : Str := Str.ofString "abkl"
abbrev qsG : Str := Str.ofString "\""
def pairOk (p : Nat × List Nat) : Prop := (p.1 = 107 ∨ p.1 = 108) ∧ p.2.contains 34 = false
def Deed.Ok : Deed → Prop
  | .text t => t ≠ [] ∧ t.all (wsT.cps.toList.contains ·) = true
  | .ends n => n = 97 ∨ n = 98
  | .begins n ps => (n = 97 ∨ n = 98) ∧ ∀ p ∈ ps, pairOk p
def Deed.isText : Deed → Bool
  | .text _ => true
  | _ => false
/-- no two texts touch -/
def Alt : List Deed → Prop
  | [] => True
  | [_] => True
  | a :: b :: r => ¬ (a.isText = true ∧ b.isText = true) ∧ Alt (b :: r)
def pairD (p : Nat × List Nat) : Dat := .tuple [.str (S [p.1]), .str (S [61]), .str (S (34 :: (p.2 ++ [34])))]
def Deed.d : Deed → Dat
  | .text t => .tuple [.str (Str.ofString "text"), .str (S t)]
  | .ends n => .tuple [.str (Str.ofString "ends"), .str (S [n]), .str (S [62])]
  | .begins n ps => .tuple [.str (Str.ofString "begins"), .str (S [n]), .list (ps.map pairD), .str (S [62])]
theorem cnt_append (a b : List Nat) : cnt (a ++ b) = cnt a + cnt b := by
  induction a with
  | nil => simp [cnt]
  | cons c r ih => simp only [List.cons_append, cnt, ih]; omega
theorem nl_eq (c : Nat) (ln : Int) : nl c ln = ln + (if c = 10 then 1 else 0) := by unfold nl; split <;> omega
/-- a word of signs of its own, up to a sign that is none -/
theorem rt_wd (wc qs : List Nat) (d : Nat) (r : List Nat) (hd1 : wc.contains d = false) (hd2 : d ≠ 10) (hd3 : qs.contains d = false) : ∀ (t tok : List Nat) (p : Nat) (ln : Int), t.all (wc.contains ·) = true →
    rt wc qs .wd tok (t ++ d :: r) p ln = some ⟨tok ++ t, true, p + t.length + 1, ln + cnt t, some d⟩ := by
  intro t
  induction t with
  | nil => intro tok p ln _; unfold rt; simp only [List.nil_append, hd1, hd2, hd3, Bool.false_eq_true, if_false]; simp [cnt]
  | cons c t ih =>
    intro tok p ln h
    simp only [List.all_cons, Bool.and_eq_true] at h
    simp only [List.cons_append]
    unfold rt
    rw [if_pos h.1, ih _ _ _ h.2, nl_eq]
    simp only [List.append_assoc, List.singleton_append, List.length_cons, cnt]
    congr 2 <;> omega
theorem rt_wd_end (wc qs : List Nat) : ∀ (t tok : List Nat) (p : Nat) (ln : Int), t.all (wc.contains ·) = true →
    rt wc qs .wd tok t p ln = some ⟨tok ++ t, false, p + t.length, ln + cnt t, none⟩ := by
  intro t
  induction t with
  | nil => intro tok p ln _; unfold rt; simp [cnt]
  | cons c t ih =>
    intro tok p ln h
    simp only [List.all_cons, Bool.and_eq_true] at h
    unfold rt
    rw [if_pos h.1, ih _ _ _ h.2, nl_eq]
    simp only [List.append_assoc, List.singleton_append, List.length_cons, cnt]
    congr 2 <;> omega
theorem rt_word (wc qs : List Nat) (d : Nat) (r : List Nat) (hd1 : wc.contains d = false) (hd2 : d ≠ 10) (hd3 : qs.contains d = false) (t : List Nat) (p : Nat) (ln : Int) (h0 : t ≠ []) (h : t.all (wc.contains ·) = true) :
    rt wc qs .sp [] (t ++ d :: r) p ln = some ⟨t, true, p + t.length + 1, ln + cnt t, some d⟩ := by
  cases t with
  | nil => exact absurd rfl h0
  | cons c t =>
    simp only [List.all_cons, Bool.and_eq_true] at h
    simp only [List.cons_append]
    unfold rt
    rw [if_pos h.1, rt_wd wc qs d r hd1 hd2 hd3 _ _ _ _ h.2, nl_eq]
    simp only [List.singleton_append, List.length_cons, cnt]
    congr 2 <;> omega
theorem rt_word_end (wc qs : List Nat) (t : List Nat) (p : Nat) (ln : Int) (h0 : t ≠ []) (h : t.all (wc.contains ·) = true) :
    rt wc qs .sp [] t p ln = some ⟨t, false, p + t.length, ln + cnt t, none⟩ := by
  cases t with
  | nil => exact absurd rfl h0
  | cons c t =>
    simp only [List.all_cons, Bool.and_eq_true] at h
    unfold rt
    rw [if_pos h.1, rt_wd_end wc qs _ _ _ _ h.2, nl_eq]
    simp only [List.singleton_append, List.length_cons, cnt]
    congr 2 <;> omega
theorem rt_other (wc qs : List Nat) (d : Nat) (r : List Nat) (hd1 : wc.contains d = false) (hd2 : d ≠ 10) (hd3 : qs.contains d = false) (p : Nat) (ln : Int) :
    rt wc qs .sp [] (d :: r) p ln = some ⟨[d], true, p + 1, ln, none⟩ := by
  unfold rt
  simp only [hd1, hd2, hd3, Bool.false_eq_true, if_false]
theorem rt_qt (wc qs : List Nat) (r : List Nat) : ∀ (v tok : List Nat) (p : Nat) (ln : Int), v.contains 34 = false →
    rt wc qs .qt tok (v ++ 34 :: r) p ln = some ⟨tok ++ (v ++ [34]), true, p + v.length + 1, ln + cnt v, none⟩ := by
  intro v
  induction v with
  | nil => intro tok p ln _; unfold rt; simp [cnt]
  | cons c v ih =>
    intro tok p ln h
    have hc : c ≠ 34 := by
      intro e
      subst e
      simp at h
    have hv : v.contains 34 = false := by
      simp only [List.contains_cons, Bool.or_eq_false_iff] at h
      exact h.2
    simp only [List.cons_append]
    unfold rt
    rw [if_neg hc, ih _ _ _ hv, nl_eq]
    simp only [List.append_assoc, List.cons_append, List.nil_append, List.length_cons, cnt]
    congr 2 <;> omega
theorem rt_quote (wc qs : List Nat) (r v : List Nat) (p : Nat) (ln : Int) (h1 : wc.contains 34 = false) (h2 : qs.contains 34 = true) (h : v.contains 34 = false) :
    rt wc qs .sp [] (34 :: (v ++ 34 :: r)) p ln = some ⟨34 :: (v ++ [34]), true, p + v.length + 2, ln + cnt v, none⟩ := by
  unfold rt
  simp only [h1, h2, Bool.false_eq_true, if_false, if_true, Nat.reduceEqDiff]
  rw [rt_qt wc qs r v [34] (p + 1) ln h]
  simp only [List.cons_append, List.nil_append]
  congr 2 <;> omega
inductive RM where
  | A
  | B
  | C
def stR (m : RM) (t : Tok) : Value := match m with
  | .A => .str (Str.ofString " ") t
  | .B => .str (Str.ofString " ") t
  | .C => .none
def pbR (m : RM) (t : Tok) : List Value := match m with
  | .A => []
  | .B => [.str (S [60]) t]
  | .C => []
def ltp (m : RM) (p : Nat) : Nat := match m with
  | .B => p
  | _ => p + 1
theorem LexNe.push {x dx y dy pb fs : Nat} {R : List (Addr × Obj)} (h : LexNe x dx y dy pb fs R) {a : Nat} {o : Obj} (h1 : @Ne Nat a dx) (h2 : @Ne Nat a dy) (h3 : @Ne Nat a pb) : LexNe x dx y dy pb fs ((a, o) :: R) :=
  ⟨h.e1, h.e2, h.e3, h.e4, h.e5, h.e6, h.e7, h.e8, h.e9, h.e10, h.e11, h.e12,
    fun p hp => by rcases List.mem_cons.mp hp with rfl | hp; exact h1; exact h.r1 p hp,
    fun p hp => by rcases List.mem_cons.mp hp with rfl | hp; exact h2; exact h.r2 p hp,
    fun p hp => by rcases List.mem_cons.mp hp with rfl | hp; exact h3; exact h.r3 p hp⟩
theorem rotL {h₀ h : Heap} {L : Addr} {w : World} {c : LK} {x dx y dy pb fs : Addr} {buf : Str} {tc tws tw tq tl tt tp : Tok} {wc qs : Str} {st : Value} {ln : Int} {tok : Str} {pos : Int} {n : Int} {xs : List Value} {R : List (Addr × Obj)} {q : Addr × Obj}
    (N : News h₀ L h (q :: lexN w c x dx y dy pb fs buf tc tws wc tw qs tq st ln tl tok tt pos tp n xs R)) :
    News h₀ L h (lexN w c x dx y dy pb fs buf tc tws wc tw qs tq st ln tl tok tt pos tp n xs (q :: R)) := by
  intro p hp
  apply N p
  simp only [lexN, List.mem_cons] at hp ⊢
  rcases hp with h | h | h | h | h | h | h | h
  · exact .inr (.inl h)
  · exact .inr (.inr (.inl h))
  · exact .inr (.inr (.inr (.inl h)))
  · exact .inr (.inr (.inr (.inr (.inl h))))
  · exact .inr (.inr (.inr (.inr (.inr (.inl h)))))
  · exact .inr (.inr (.inr (.inr (.inr (.inr (.inl h))))))
  · exact .inl h
  · exact .inr (.inr (.inr (.inr (.inr (.inr (.inr h))))))
theorem dropL {h₀ h : Heap} {L : Addr} {w : World} {c : LK} {x dx y dy pb fs : Addr} {buf : Str} {tc tws tw tq tl tt tp : Tok} {wc qs : Str} {st : Value} {ln : Int} {tok : Str} {pos : Int} {n : Int} {xs : List Value} {R : List (Addr × Obj)} {q : Addr × Obj}
    (N : News h₀ L h (q :: lexN w c x dx y dy pb fs buf tc tws wc tw qs tq st ln tl tok tt pos tp n xs R)) : News h₀ L h (q :: R) := by
  intro p hp
  apply N p
  simp only [lexN, List.mem_cons] at hp ⊢
  rcases hp with h | h
  · exact .inl h
  · exact .inr (.inr (.inr (.inr (.inr (.inr (.inr h))))))
/-- a new thing goes behind the told list -/
theorem intoL {w : World} {c : LK} {x dx y dy pb fs : Addr} {buf : Str} {tc tws tw tq tl tt tp : Tok} {wc qs : Str} {st : Value} {ln : Int} {tok : Str} {pos : Int} {n : Int} {xs : List Value} {R : List (Addr × Obj)} {q b : Addr × Obj} :
    ∀ p ∈ lexN w c x dx y dy pb fs buf tc tws wc tw qs tq st ln tl tok tt pos tp n xs (b :: (q :: R)), p ∈ q :: lexN w c x dx y dy pb fs buf tc tws wc tw qs tq st ln tl tok tt pos tp n xs (b :: R) := by
  intro p hp
  simp only [lexN, List.mem_cons] at hp ⊢
  rcases hp with h | h | h | h | h | h | h | h | h
  · exact .inr (.inl h)
  · exact .inr (.inr (.inl h))
  · exact .inr (.inr (.inr (.inl h)))
  · exact .inr (.inr (.inr (.inr (.inl h))))
  · exact .inr (.inr (.inr (.inr (.inr (.inl h)))))
  · exact .inr (.inr (.inr (.inr (.inr (.inr (.inl h))))))
  · exact .inr (.inr (.inr (.inr (.inr (.inr (.inr (.inl h)))))))
  · exact .inl h
  · exact .inr (.inr (.inr (.inr (.inr (.inr (.inr (.inr h)))))))
theorem absN {P : Prop} {h₀ h : Heap} {L : Addr} {w : World} {c : LK} {x dx y dy pb fs : Addr} {buf : Str} {tc tws tw tq ts tl tt tp : Tok} {wc qs : Str} {ln : Int} {tok : Str} {pos : Int} {n : Int} {xs : List Value} {R : List (Addr × Obj)} {q : Addr × Obj}
    (N : News h₀ L h (q :: lexN w c x dx y dy pb fs buf tc tws wc tw qs tq (.str (Str.ofString " ") ts) ln tl tok tt pos tp n xs R))
    (k : ∀ tw tq ts tl tt tp n, News h₀ L h (lexN w c x dx y dy pb fs buf tc tws wc tw qs tq (.str (Str.ofString " ") ts) ln tl tok tt pos tp n xs (q :: R)) → P) : P := k _ _ _ _ _ _ _ (rotL N)
theorem subL {w : World} {c : LK} {x dx y dy pb fs : Addr} {buf : Str} {tc tws tw tq tl tt tp : Tok} {wc qs : Str} {st : Value} {ln : Int} {tok : Str} {pos : Int} {n : Int} {xs : List Value} {R R' : List (Addr × Obj)} (hs : ∀ p ∈ R', p ∈ R) :
    ∀ p ∈ lexN w c x dx y dy pb fs buf tc tws wc tw qs tq st ln tl tok tt pos tp n xs R', p ∈ lexN w c x dx y dy pb fs buf tc tws wc tw qs tq st ln tl tok tt pos tp n xs R := by
  intro p hp
  simp only [lexN, List.mem_cons] at hp ⊢
  rcases hp with h | h | h | h | h | h | h
  · exact .inl h
  · exact .inr (.inl h)
  · exact .inr (.inr (.inl h))
  · exact .inr (.inr (.inr (.inl h)))
  · exact .inr (.inr (.inr (.inr (.inl h))))
  · exact .inr (.inr (.inr (.inr (.inr (.inl h)))))
  · exact .inr (.inr (.inr (.inr (.inr (.inr (hs _ h))))))
theorem rotM {w : World} {c : LK} {x dx y dy pb fs : Addr} {buf : Str} {tc tws tw tq tl tt tp : Tok} {wc qs : Str} {st : Value} {ln : Int} {tok : Str} {pos : Int} {n : Int} {xs : List Value} {R : List (Addr × Obj)} {q : Addr × Obj} : ∀ p ∈ lexN w c x dx y dy pb fs buf tc tws wc tw qs tq st ln tl tok tt pos tp n xs (q :: R), p ∈ q :: lexN w c x dx y dy pb fs buf tc tws wc tw qs tq st ln tl tok tt pos tp n xs R := by
  intro p hp
  simp only [lexN, List.mem_cons] at hp ⊢
  rcases hp with h | h | h | h | h | h | h | h
  · exact .inr (.inl h)
  · exact .inr (.inr (.inl h))
  · exact .inr (.inr (.inr (.inl h)))
  · exact .inr (.inr (.inr (.inr (.inl h))))
  · exact .inr (.inr (.inr (.inr (.inr (.inl h)))))
  · exact .inr (.inr (.inr (.inr (.inr (.inr (.inl h))))))
  · exact .inl h
  · exact .inr (.inr (.inr (.inr (.inr (.inr (.inr h))))))
theorem intoL2 {w : World} {c : LK} {x dx y dy pb fs : Addr} {buf : Str} {tc tws tw tq tl tt tp : Tok} {wc qs : Str} {st : Value} {ln : Int} {tok : Str} {pos : Int} {n : Int} {xs : List Value} {A B R : List (Addr × Obj)} {q l b : Addr × Obj} :
    ∀ p ∈ lexN w c x dx y dy pb fs buf tc tws wc tw qs tq st ln tl tok tt pos tp n xs (b :: ((q :: l :: (A ++ B)) ++ R)), p ∈ q :: lexN w c x dx y dy pb fs buf tc tws wc tw qs tq st ln tl tok tt pos tp n xs (l :: b :: (A ++ (B ++ R))) := by
  intro p hp
  refine rotM p (subL (fun e he => ?_) p hp)
  simp only [List.cons_append, List.mem_cons, List.mem_append] at he ⊢
  rcases he with h | h | h | (h | h) | h
  · exact .inr (.inr (.inl h))
  · exact .inl h
  · exact .inr (.inl h)
  · exact .inr (.inr (.inr (.inl h)))
  · exact .inr (.inr (.inr (.inr (.inl h))))
  · exact .inr (.inr (.inr (.inr (.inr h))))
theorem intoL4 {w : World} {c : LK} {x dx y dy pb fs : Addr} {buf : Str} {tc tws tw tq tl tt tp : Tok} {wc qs : Str} {st : Value} {ln : Int} {tok : Str} {pos : Int} {n : Int} {xs : List Value} {R : List (Addr × Obj)} {q b1 b2 : Addr × Obj} :
    ∀ p ∈ lexN w c x dx y dy pb fs buf tc tws wc tw qs tq st ln tl tok tt pos tp n xs (b1 :: b2 :: (q :: R)), p ∈ lexN w c x dx y dy pb fs buf tc tws wc tw qs tq st ln tl tok tt pos tp n xs (q :: b1 :: b2 :: R) := by
  refine subL (fun e he => ?_)
  simp only [List.mem_cons] at he ⊢
  rcases he with h | h | h | h
  · exact .inr (.inl h)
  · exact .inr (.inr (.inl h))
  · exact .inl h
  · exact .inr (.inr (.inr h))
/-- swap behind the lexer -/
theorem swapL {h₀ h : Heap} {L : Addr} {w : World} {c : LK} {x dx y dy pb fs : Addr} {buf : Str} {tc tws tw tq tl tt tp : Tok} {wc qs : Str} {st : Value} {ln : Int} {tok : Str} {pos : Int} {n : Int} {xs : List Value} {R R' : List (Addr × Obj)} (hs : ∀ p ∈ R', p ∈ R)
    (N : News h₀ L h (lexN w c x dx y dy pb fs buf tc tws wc tw qs tq st ln tl tok tt pos tp n xs R)) :
    News h₀ L h (lexN w c x dx y dy pb fs buf tc tws wc tw qs tq st ln tl tok tt pos tp n xs R') := by
  intro p hp
  apply N p
  simp only [lexN, List.mem_cons] at hp ⊢
  rcases hp with h | h | h | h | h | h | h
  · exact .inl h
  · exact .inr (.inl h)
  · exact .inr (.inr (.inl h))
  · exact .inr (.inr (.inr (.inl h)))
  · exact .inr (.inr (.inr (.inr (.inl h))))
  · exact .inr (.inr (.inr (.inr (.inr (.inl h)))))
  · exact .inr (.inr (.inr (.inr (.inr (.inr (hs _ h))))))
theorem LexNe.sub {x dx y dy pb fs : Nat} {R R' : List (Addr × Obj)} (h : LexNe x dx y dy pb fs R) (hs : ∀ p ∈ R', p ∈ R) : LexNe x dx y dy pb fs R' :=
  ⟨h.e1, h.e2, h.e3, h.e4, h.e5, h.e6, h.e7, h.e8, h.e9, h.e10, h.e11, h.e12, fun p hp => h.r1 p (hs p hp), fun p hp => h.r2 p (hs p hp), fun p hp => h.r3 p (hs p hp)⟩
theorem noA_T : (Str.ofString "").cps.toList.contains 97 = false := by decide +kernel
theorem noA_G : (Str.ofString "\"").cps.toList.contains 97 = false := by decide +kernel
theorem firstEof {w : World} {loose : List Str} {mean : ExcName → Option Value} {mg mb : Str → Option Value}
    {dp un : Nat} {gd : Option (List Code)} {cn : Str} {cs : Scope} {a : Addr} {ccd : Value} {cl : List (Str × Addr)} {outer : List Env} {A₀ : Around} {base h₀ : Heap} {L : Addr} {m : Str → Option Value} {s : Shared} {Q E : Value → Shared → Prop}
    {c : LK} {x dx y dy pb fs : Addr} {R : List (Addr × Obj)} {all : List Nat} {p : Nat} {tc tws tw tq ts tl tt tp tk : Tok} {wc : Str} {ln n : Int} {md : RM}
    (B : Below A₀ base outer h₀) (F : Fr h₀ L s.heap m) (X : (hd.heap_39 w.params).In h₀) (T : Top hd.view_39 loose mean mg mb h₀) (hk : cs.kind = .function)
    (N : News h₀ L s.heap (lexN w c x dx y dy pb fs (S all) tc tws wc tw (Str.ofString "") tq (stR md ts) ln tl (Str.ofString "") tt (p : Int) tp n (pbR md tk) R))
    (NE : LexNe x dx y dy pb fs R) (hlen : all.length ≤ 100000) (hpl : p ≤ all.length) (hdr : all.drop p = []) (hm : md ≠ .B)
    (hd1 : dp + 8 < recursionLimit) (hu : un + 120 < cLine)
    (ret : ∀ (t tl' tt' tp' : Tok) (h' : Heap) (tk' : Nat), Fr h₀ L h' m → News h₀ L h' (lexN w c x dx y dy pb fs (S all) tc tws wc tw (Str.ofString "") tq .none ln tl' (Str.ofString "") tt' (p : Int) tp' n [] R) →
        Q (.str (Str.ofString "") t) { s with heap := h', toks := tk' }) :
    wpAny (model PySem.Challenge.rw_mr0358_01.row.prog w) (ktrTop dp un gd cn cs L a ccd cl outer) (call (.ref 725) [.ref x]) Q E s := by
  cases md with
  | A => exact getEofA B F X T hk N NE hlen hpl hdr noA_T hd1 hu ret
  | B => exact absurd rfl hm
  | C => exact getEofB B F X T hk N NE hlen hdr hd1 hu fun t tt' h' tk' F' N' => ret t _ tt' _ h' tk' F' N'
theorem firstLt {w : World} {loose : List Str} {mean : ExcName → Option Value} {mg mb : Str → Option Value}
    {dp un : Nat} {gd : Option (List Code)} {cn : Str} {cs : Scope} {a : Addr} {ccd : Value} {cl : List (Str × Addr)} {outer : List Env} {A₀ : Around} {base h₀ : Heap} {L : Addr} {m : Str → Option Value} {s : Shared} {Q E : Value → Shared → Prop}
    {c : LK} {x dx y dy pb fs : Addr} {R : List (Addr × Obj)} {all : List Nat} {p : Nat} {tc tws tw tq ts tl tt tp tk : Tok} {ln n : Int} {md : RM} {r : List Nat}
    (B : Below A₀ base outer h₀) (F : Fr h₀ L s.heap m) (X : (hd.heap_39 w.params).In h₀) (T : Top hd.view_39 loose mean mg mb h₀) (hk : cs.kind = .function)
    (N : News h₀ L s.heap (lexN w c x dx y dy pb fs (S all) tc tws (Str.ofString "ampltgxD \"'&\n\t\r\\=/;#é") tw (Str.ofString "") tq (stR md ts) ln tl (Str.ofString "") tt (p : Int) tp n (pbR md tk) R))
    (NE : LexNe x dx y dy pb fs R) (hlen : all.length ≤ 100000) (hpl : p ≤ all.length) (hA : md = .A → all.drop p = 60 :: r) (hm : md ≠ .C)
    (hd1 : dp + 8 < recursionLimit) (hu : un + 120 < cLine)
    (ret : ∀ (t ts' tl' tt' tp' : Tok) (n' : Int) (h' : Heap) (tk' : Nat), Fr h₀ L h' m → News h₀ L h' (lexN w c x dx y dy pb fs (S all) tc tws (Str.ofString "ampltgxD \"'&\n\t\r\\=/;#é") tw (Str.ofString "") tq (.str (Str.ofString " ") ts') ln tl' (Str.ofString "") tt' ((ltp md p : Nat) : Int) tp' n' [] R) →
        Q (.str (S [60]) t) { s with heap := h', toks := tk' }) :
    wpAny (model PySem.Challenge.rw_mr0358_01.row.prog w) (ktrTop dp un gd cn cs L a ccd cl outer) (call (.ref 725) [.ref x]) Q E s := by
  cases md with
  | A =>
    have hR : rt (Str.ofString "ampltgxD \"'&\n\t\r\\=/;#é").cps.toList (Str.ofString "").cps.toList .sp [] (all.drop p) p ln = some ⟨[60], true, p + 1, ln, none⟩ := by
      rw [hA rfl]
      exact rt_other _ _ _ _ (by decide +kernel) (by decide) (by decide +kernel) _ _
    exact getRt B F X T hk N NE hlen hpl hR (List.cons_ne_nil _ _) noA_T hd1 hu fun t ts' tl' tt' tp' tpk h' tk' F' N' => ret t _ tl' tt' tp' _ h' tk' F' N'
  | B => exact getPk B F X T hk N NE hd1 hu fun t h' tk' F' N' => ret t _ _ _ _ _ h' tk' F' N'
  | C => exact absurd rfl hm
def fnB (s : Stmt) : List Stmt := match s with
  | .FunctionDef _ _ b _ _ _ _ _ _ _ => b
  | _ => []
def fnS (s : Stmt) : Scope := match s with
  | .FunctionDef _ _ _ _ _ _ sc _ _ _ => sc
  | _ => default
def rdWhile : Stmt := (fnB (PySem.Challenge.pw_mr0358_01.main.body.getD 35 default)).getD 4 default
def rdScope : Scope := fnS (PySem.Challenge.pw_mr0358_01.main.body.getD 35 default)
structure RSt where
  pre : List Deed
  rest : List Deed
  md : RM
  p : Nat
  ln : Int
  n : Int
  vs : List Value
  nn : Nat
  tx : List (Addr × Obj)
  wc : Str
  qs : Str
  tw : Tok
  tq : Tok
  ts : Tok
  tl : Tok
  tt : Tok
  tp : Tok
  tk : Tok
def render (ds : List Deed) : List Nat := ds.flatMap Deed.r
def tailP (ps : List (Nat × List Nat)) (r : List Nat) : List Nat := ps.flatMap pairR ++ 62 :: r
def sgn : List (Nat × List Nat) → Nat
  | [] => 62
  | _ :: _ => 32
theorem tailP_cons (ps : List (Nat × List Nat)) (r : List Nat) : ∃ t, tailP ps r = sgn ps :: t := by cases ps <;> exact ⟨_, rfl⟩
theorem sgn_two (ps : List (Nat × List Nat)) : sgn ps = 62 ∨ sgn ps = 32 := by cases ps <;> first | exact .inl rfl | exact .inr rfl
theorem sgn_wc (ps : List (Nat × List Nat)) : (Str.ofString "abkl").cps.toList.contains (sgn ps) = false := by rcases sgn_two ps with e | e <;> rw [e] <;> decide +kernel
theorem sgn_qs (ps : List (Nat × List Nat)) : (Str.ofString "\"").cps.toList.contains (sgn ps) = false := by rcases sgn_two ps with e | e <;> rw [e] <;> decide +kernel
theorem sgn_nl (ps : List (Nat × List Nat)) : sgn ps ≠ 10 := by rcases sgn_two ps with e | e <;> rw [e] <;> decide
structure PSt where
  done : List (Nat × List Nat)
  todo : List (Nat × List Nat)
  p : Nat
  ln : Int
  n : Int
  vs : List Value
  nn : Nat
  tx : List (Addr × Obj)
  ts : Tok
  tl : Tok
  tt : Tok
  tp : Tok
  tsg : Tok
structure PInv (all : List Nat) (ps : List (Nat × List Nat)) (r : List Nat) (ln : Int) (z : PSt) : Prop where
  hps : ps = z.done ++ z.todo
  hdr : sgn z.todo :: all.drop z.p = tailP z.todo r
  hln : z.ln + psN z.todo = ln + psN ps
  hpl : z.p ≤ all.length
structure RInv (all : List Nat) (ds : List Deed) (z : RSt) : Prop where
  hds : ds = z.pre ++ z.rest
  hpl : z.p ≤ all.length
  hA : z.md = .A → all.drop z.p = render z.rest
  hB : z.md = .B → 60 :: all.drop z.p = render z.rest ∧ z.rest ≠ [] ∧ ∀ t r, z.rest ≠ .text t :: r
  hC : z.md = .C → z.rest = [] ∧ all.drop z.p = []
  hln : z.ln + nlsAll z.rest = 1 + nlsAll ds
  halt : Alt z.rest
  hok : ∀ d ∈ z.rest, d.Ok
/-- the places apart: the told list and the rest -/
structure Sep (x dx y dy pb fs lt : Nat) (R : List (Addr × Obj)) : Prop where
  ne : LexNe x dx y dy pb fs R
  f1 : @Ne Nat lt dx
  f2 : @Ne Nat lt dy
  f3 : @Ne Nat lt pb
  f4 : @Ne Nat lt x
  f5 : @Ne Nat lt y
  f6 : @Ne Nat lt fs
  q4 : ∀ p ∈ R, p.1 ≠ lt
theorem Sep.cons {x dx y dy pb fs lt : Nat} {R : List (Addr × Obj)} (h : Sep x dx y dy pb fs lt R) {a : Nat} {o : Obj} (h1 : @Ne Nat a dx) (h2 : @Ne Nat a dy) (h3 : @Ne Nat a pb) (h4 : @Ne Nat a lt) : Sep x dx y dy pb fs lt ((a, o) :: R) :=
  ⟨h.ne.push h1 h2 h3, h.f1, h.f2, h.f3, h.f4, h.f5, h.f6, fun p hp => by rcases List.mem_cons.mp hp with rfl | hp; exact h4; exact h.q4 p hp⟩
theorem Sep.mid {x dx y dy pb fs lt : Nat} {b : Addr × Obj} {R : List (Addr × Obj)} (h : Sep x dx y dy pb fs lt (b :: R)) {a : Nat} {o : Obj} (h1 : @Ne Nat a dx) (h2 : @Ne Nat a dy) (h3 : @Ne Nat a pb) (h4 : @Ne Nat a lt) : Sep x dx y dy pb fs lt (b :: (a, o) :: R) := by
  have h' := h.cons (o := o) h1 h2 h3 h4
  have hs : ∀ p ∈ b :: (a, o) :: R, p ∈ (a, o) :: b :: R := fun p hp => by
    simp only [List.mem_cons] at hp ⊢
    rcases hp with h | h | h
    · exact .inr (.inl h)
    · exact .inl h
    · exact .inr (.inr h)
  exact ⟨h'.ne.sub hs, h.f1, h.f2, h.f3, h.f4, h.f5, h.f6, fun p hp => h'.q4 p (hs p hp)⟩
theorem dat_snoc {tx : List (Addr × Obj)} {q : Addr × Obj} {vs : List Value} {v : Value} {pre : List Deed} {d : Deed} (h : DatAll tx vs (pre.map Deed.d)) (h1 : DatIn (q :: tx) v d.d) : DatAll (q :: tx) (vs ++ [v]) ((pre ++ [d]).map Deed.d) := by
  rw [List.map_append]
  exact DatAll.append (h.mono fun _ hp => .tail _ hp) (DatAll.one h1)
theorem name_ok {n : Nat} (h : n = 97 ∨ n = 98) : [n].all ((Str.ofString "abkl").cps.toList.contains ·) = true := by rcases h with rfl | rfl <;> decide +kernel
theorem cnt_name {n : Nat} (h : n = 97 ∨ n = 98) : cnt [n] = 0 := by rcases h with rfl | rfl <;> rfl
theorem key_ok {n : Nat} (h : n = 107 ∨ n = 108) : [n].all ((Str.ofString "abkl").cps.toList.contains ·) = true := by rcases h with rfl | rfl <;> decide +kernel
theorem cnt_key {n : Nat} (h : n = 107 ∨ n = 108) : cnt [n] = 0 := by rcases h with rfl | rfl <;> rfl
theorem Alt.tail {a : Deed} {r : List Deed} (h : Alt (a :: r)) : Alt r := by
  cases r with
  | nil => trivial
  | cons b r => exact h.2
theorem bne_lt {t : List Nat} (h : t ≠ [] ∧ t.all (wsT.cps.toList.contains ·) = true) : (S t != Str.ofString "<") = true := by
  cases q : (S t == Str.ofString "<") with
  | false => unfold bne; rw [q]; rfl
  | true =>
    have e1 : S t = Str.ofString "<" := by simpa using q
    have e2 : Str.ofString "<" = S [60] := by decide +kernel
    rw [e2] at e1
    have e3 : t = [60] := by
      have := congrArg Str.cps e1
      simpa [S] using this
    rw [e3] at h
    exact absurd h.2 (by decide +kernel)
set_option maxHeartbeats 16000000 in
theorem loopR {w : World} {loose : List Str} {mean : ExcName → Option Value} {mg mb : Str → Option Value}
    {dp un : Nat} {gd : Option (List Code)} {cl : List (Str × Addr)} {outer : List Env} {A₀ : Around} {base h₀ : Heap} {L : Addr} {m₁ : Str → Option Value} {s : Shared} {Q : Flow → Shared → Prop} {E : Value → Shared → Prop}
    {c : LK} {x dx y dy pb fs lt : Addr} {rest : List (Addr × Obj)} {all : List Nat} {ds : List Deed} {tc tws : Tok} {z₀ : RSt}
    (B : Below A₀ base outer h₀) (F : Fr h₀ L s.heap (fun y => if y = Str.ofString "told" then some (.ref lt) else if y = Str.ofString "lexer" then some (.ref x) else m₁ y)) (X : (hd.heap_39 w.params).In h₀) (T : Top hd.view_39 loose mean mg mb h₀)
    (N : News h₀ L s.heap (lexN w c x dx y dy pb fs (S all) tc tws z₀.wc z₀.tw z₀.qs z₀.tq (stR z₀.md z₀.ts) z₀.ln z₀.tl (Str.ofString "") z₀.tt (z₀.p : Int) z₀.tp z₀.n (pbR z₀.md z₀.tk) ((lt, listOf z₀.vs.toArray z₀.nn) :: (z₀.tx ++ rest))))
    (hsep : Sep x dx y dy pb fs lt (z₀.tx ++ rest)) (hdat : DatAll z₀.tx z₀.vs (z₀.pre.map Deed.d)) (hinv : RInv all ds z₀) (hvs : z₀.vs.length ≤ 1000)
    (hlen : all.length ≤ 100000) (hdl : ds.length ≤ 1000) (hpsl : ∀ n ps, Deed.begins n ps ∈ ds → ps.length ≤ 1000) (hd1 : dp + 20 < recursionLimit) (hu : un + 300 < cLine)
    (hE : PassesOwn (model PySem.Challenge.rw_mr0358_01.row.prog w) (ktrTop dp un gd (Str.ofString "_law_reading") rdScope L 809 (.ref 808) [] outer) (envOf (Str.ofString "_law_reading") rdScope L 809 (.ref 808)) E)
    (ret : ∀ (r : Addr) (vs : List Value) (nn : Nat) (tx : List (Addr × Obj)) (tln : Tok) (m' : Str → Option Value) (h' : Heap) (tk' : Nat), Fr h₀ L h' m' → News h₀ L h' ((r, { cls := .type "tuple", data := .seq [.ref lt, .int (1 + nlsAll ds) tln].toArray }) :: (lt, listOf vs.toArray nn) :: (tx ++ rest)) →
      DatAll tx vs (ds.map Deed.d) → Q (.ret (.ref r)) { s with heap := h', toks := tk' }) :
    wpAny (model PySem.Challenge.rw_mr0358_01.row.prog w) (ktrTop dp un gd (Str.ofString "_law_reading") rdScope L 809 (.ref 808) [] outer) (exec rdWhile (envOf (Str.ofString "_law_reading") rdScope L 809 (.ref 808))) Q E s := by
  have hk : rdScope.kind = .function := rfl
  revert X; k_fill; intro X
  refine ksw_while (σ := RSt) (fun z => lexN w c x dx y dy pb fs (S all) tc tws z.wc z.tw z.qs z.tq (stR z.md z.ts) z.ln z.tl (Str.ofString "") z.tt (z.p : Int) z.tp z.n (pbR z.md z.tk) ((lt, listOf z.vs.toArray z.nn) :: (z.tx ++ rest)))
    (fun _ => []) (fun z => Sep x dx y dy pb fs lt (z.tx ++ rest) ∧ DatAll z.tx z.vs (z.pre.map Deed.d) ∧ z.vs.length + z.rest.length ≤ 2000) [Str.ofString "word", Str.ofString "name", Str.ofString "sign", Str.ofString "pairs", Str.ofString "key"]
    (RInv all ds) (fun z => z.rest.length) z₀ F N ⟨hsep, hdat, by have := congrArg List.length hinv.hds; simp at this; omega⟩ (fun _ h9 => nomatch h9) hinv ?_ hE
  clear hinv hdat hsep hvs N F
  rintro ⟨pre, rst, md, p, ln, n, vs, nn, tx, wc, qs, tw, tq, ts, tl, tt, tp, tk⟩ u h tkk ⟨hsep, hdat, hvl⟩ hinv F N
  have hsep' := hsep
  obtain ⟨NE0, f1, f2, f3, f4, f5, f6, q4⟩ := hsep
  have NE := NE0.push (o := listOf vs.toArray nn) f1 f2 f3
  obtain ⟨e1, e2, e3, e4, e5, e6, e7, e8, e9, e10, e11, e12, q1, q2, q3⟩ := id NE0
  obtain ⟨hds, hpl, hA, hB, hC, hln, halt, hok⟩ := hinv
  dsimp only at hdat hds hpl hA hB hC hln halt hok F N hvl ⊢
  k_with_none
  k_with "my append" => ((with_reducible show wpAny _ _ (call (Value.builtin _) [Value.ref _, _]) _ _ _); k_dflt (refine' append_K ?k1 ?k2 ?k3 ?_ ?z; (case k1 => k_asm); (case k2 => k_asm); (case k3 => k_upd); (case z => (rw [sizeLine_eq]; omega)); k_whole); intro h' F' N'; (try k_sweep))
  cases rst with
  | nil =>
    have hdr : all.drop p = [] := by
      cases md with
      | A => rw [hA rfl]; rfl
      | B => exact absurd rfl (hB rfl).2.1
      | C => exact (hC rfl).2
    have hm : md ≠ .B := fun e => (hB e).2.1 rfl
    k_with "my call" => ((with_reducible show wpAny _ _ (call (Value.ref 725) _) _ _ _); k_dflt (refine' firstEof ?k1 ?k2 ?k3 ?k4 ?k5 ?k6 NE hlen hpl hdr hm ?k7 ?k8 ?_; (case k1 => k_asm); (case k2 => k_asm); (case k3 => k_asm); (case k4 => k_asm); (case k5 => first | exact rfl | assumption); (case k6 => k_asm); (case k7 => ktr_room); (case k8 => ktr_units); k_whole; intro t9 tl9 tt9 tp9 h9 tk9 F9 N9; (try dsimp only); (try k_sweep); (try k_fold)))
    k_steps
    have e : ln = 1 + nlsAll ds := by simpa [nlsAll] using hln
    subst e
    refine ret _ vs nn tx _ _ _ _ (by k_asm) (dropL (by k_asm)) ?_
    rw [hds, List.append_nil]
    exact hdat
  | cons d r =>
    have hsz : vs.toArray.size ≤ 3000 := by simp only [List.length_cons, List.size_toArray] at hvl ⊢; omega
    have hokr : ∀ e ∈ r, Deed.Ok e := fun e he => hok e (.tail _ he)
    have hokd : Deed.Ok d := hok d (.head _)
    have haltr : Alt r := Alt.tail halt
    cases d with
    | text t =>
      have hmA : md = .A := by
        cases md with
        | A => rfl
        | B => exact absurd rfl ((hB rfl).2.2 t r)
        | C => exact nomatch (hC rfl).1
      subst hmA
      have hdr := hA rfl
      dsimp only [stR, pbR] at N
      cases r with
      | nil =>
        have hR : rt (Str.ofString "ampltgxD \"'&\n\t\r\\=/;#é").cps.toList (Str.ofString "").cps.toList .sp [] (all.drop p) p ln = some ⟨t, false, p + t.length, ln + cnt t, none⟩ := by
          rw [hdr]
          show rt _ _ _ _ (t ++ []) _ _ = _
          rw [List.append_nil]
          exact rt_word_end _ _ _ _ _ hokd.1 hokd.2
        have hb := bne_empty hokd.1
        have hlt := bne_lt hokd
        have hpt : p + t.length ≤ all.length := by
          have := congrArg List.length hdr
          simp [render, Deed.r] at this; omega
        have hdr2 : all.drop (p + t.length) = [] := by
          rw [← List.drop_drop, hdr]
          show (t ++ []).drop t.length = []
          simp
        k_with "my call" => ((with_reducible show wpAny _ _ (call (Value.ref 725) _) _ _ _); k_dflt (refine' getRt ?k1 ?k2 ?k3 ?k4 ?k5 ?k6 ?kNE hlen ?kp ?kR ?kne ?kq ?k7 ?k8 ?_; (case k1 => k_asm); (case k2 => k_asm); (case k3 => k_asm); (case k4 => k_asm); (case k5 => first | exact rfl | assumption); (case k6 => first | k_asm | exact rotL (by k_asm)); (case kNE => first | with_reducible assumption | exact LexNe.push (by with_reducible assumption) (by k_ne) (by k_ne) (by k_ne)); (case kR => with_reducible assumption); (case kp => omega); (case kne => first | exact List.cons_ne_nil _ _ | exact hokd.1); (case kq => first | exact noA_T | exact noA_G); (case k7 => ktr_room); (case k8 => ktr_units); k_whole; intro t9 ts9 tl9 tt9 tp9 tpk9 h9 tk9 F9 N9; (try dsimp only [stV, pkN, pkX] at N9); (try dsimp only); (try k_sweep); (try k_fold)))
        k_steps
        all_goals (try simp only [List.push_toArray] at *)
        refine ksw_end ⟨pre ++ [.text t], [], .C, p + t.length, ln + cnt t, _, vs ++ [.ref _], nn + 1, (_, _) :: tx, _, _, _, _, 0, _, _, _, 0⟩ (by k_asm) (by k_asm) intoL
          ⟨Sep.cons hsep' (by omega) (by omega) (by omega) (by omega), dat_snoc hdat (DatIn.tuple (n := 0) (.head _) (.cons (.str _ _) (.cons (.str _ _) .nil))), by simp at hvl ⊢; omega⟩ (fun _ h9 => nomatch h9) (by walk_at "my same")
          ⟨by simp [hds], hpt, (fun h9 => nomatch h9), (fun h9 => nomatch h9), fun _ => ⟨rfl, hdr2⟩, by simp [nlsAll, Deed.nls] at hln ⊢; omega, trivial, fun _ h9 => nomatch h9⟩ (by simp)
      | cons d2 r =>
        have hr2 : ∃ r2, render (d2 :: r) = 60 :: r2 := by
          cases d2 with
          | text t2 => exact absurd ⟨rfl, rfl⟩ halt.1
          | ends n2 => exact ⟨_, rfl⟩
          | begins n2 ps2 => exact ⟨_, rfl⟩
        obtain ⟨r2, hr2⟩ := hr2
        have hdr3 : all.drop p = t ++ 60 :: r2 := by rw [hdr, ← hr2]; rfl
        have hR : rt (Str.ofString "ampltgxD \"'&\n\t\r\\=/;#é").cps.toList (Str.ofString "").cps.toList .sp [] (all.drop p) p ln = some ⟨t, true, p + t.length + 1, ln + cnt t, some 60⟩ := by
          rw [hdr3]
          exact rt_word _ _ _ _ (by decide +kernel) (by decide) (by decide +kernel) _ _ _ hokd.1 hokd.2
        have hlt := bne_lt hokd
        have hb := bne_empty hokd.1
        have hpt : p + t.length + 1 ≤ all.length := by
          have := congrArg List.length hdr3
          simp at this; omega
        have hdr2 : 60 :: all.drop (p + t.length + 1) = render (d2 :: r) := by
          rw [hr2, Nat.add_assoc, ← List.drop_drop, hdr3]
          show 60 :: (t ++ 60 :: r2).drop (t.length + 1) = _
          rw [← List.drop_drop, List.drop_left]
          rfl
        k_with "my call" => ((with_reducible show wpAny _ _ (call (Value.ref 725) _) _ _ _); k_dflt (refine' getRt ?k1 ?k2 ?k3 ?k4 ?k5 ?k6 ?kNE hlen ?kp ?kR ?kne ?kq ?k7 ?k8 ?_; (case k1 => k_asm); (case k2 => k_asm); (case k3 => k_asm); (case k4 => k_asm); (case k5 => first | exact rfl | assumption); (case k6 => first | k_asm | exact rotL (by k_asm)); (case kNE => first | with_reducible assumption | exact LexNe.push (by with_reducible assumption) (by k_ne) (by k_ne) (by k_ne)); (case kR => with_reducible assumption); (case kp => omega); (case kne => first | exact List.cons_ne_nil _ _ | exact hokd.1); (case kq => first | exact noA_T | exact noA_G); (case k7 => ktr_room); (case k8 => ktr_units); k_whole; intro t9 ts9 tl9 tt9 tp9 tpk9 h9 tk9 F9 N9; (try dsimp only [stV, pkN, pkX] at N9); (try dsimp only); (try k_sweep); (try k_fold)))
        k_steps
        all_goals (try simp only [List.push_toArray] at *)
        refine ksw_end ⟨pre ++ [.text t], d2 :: r, .B, p + t.length + 1, ln + cnt t, _, vs ++ [.ref _], nn + 1, (_, _) :: tx, _, _, _, _, _, _, _, _, _⟩ (by k_asm) (by k_asm) intoL
          ⟨Sep.cons hsep' (by omega) (by omega) (by omega) (by omega), dat_snoc hdat (DatIn.tuple (n := 0) (.head _) (.cons (.str _ _) (.cons (.str _ _) .nil))), by simp at hvl ⊢; omega⟩ (fun _ h9 => nomatch h9) (by walk_at "my same")
          ⟨by simp [hds], hpt, (fun h9 => nomatch h9), fun _ => ⟨hdr2, List.cons_ne_nil _ _, fun t3 r3 e => by cases e; exact halt.1 ⟨rfl, rfl⟩⟩, (fun h9 => nomatch h9), by simp [nlsAll, Deed.nls] at hln ⊢; omega, haltr, hokr⟩ (by simp)
    | ends e =>
      have hmC : md ≠ .C := fun h9 => nomatch (hC h9).1
      have hAm : md = .A → all.drop p = 60 :: (47 :: e :: 62 :: render r) := fun h9 => hA h9
      have hdrp : all.drop (ltp md p) = 47 :: e :: 62 :: render r := by
        cases md with
        | A => show all.drop (p + 1) = _; rw [← List.drop_drop, hA rfl]; rfl
        | B => exact List.tail_eq_of_cons_eq (hB rfl).1
        | C => exact absurd rfl hmC
      have hlp : ltp md p + 3 ≤ all.length := by
        have := congrArg List.length hdrp
        simp at this; omega
      have hR1 : rt (Str.ofString "abkl").cps.toList (Str.ofString "\"").cps.toList .sp [] (all.drop (ltp md p)) (ltp md p) ln = some ⟨[47], true, ltp md p + 1, ln, none⟩ := by
        rw [hdrp]
        exact rt_other _ _ _ _ (by decide +kernel) (by decide) (by decide +kernel) _ _
      have hdr2 : all.drop (ltp md p + 1) = e :: 62 :: render r := by rw [← List.drop_drop, hdrp]; rfl
      have hR2 : rt (Str.ofString "abkl").cps.toList (Str.ofString "\"").cps.toList .sp [] (all.drop (ltp md p + 1)) (ltp md p + 1) ln = some ⟨[e], true, ltp md p + 3, ln, some 62⟩ := by
        rw [hdr2]
        have := rt_word (Str.ofString "abkl").cps.toList (Str.ofString "\"").cps.toList 62 (render r) (by decide +kernel) (by decide) (by decide +kernel) [e] (ltp md p + 1) ln (List.cons_ne_nil _ _) (name_ok hokd)
        simp only [List.cons_append, List.nil_append, List.length_cons, List.length_nil, cnt_name hokd, Int.add_zero] at this
        exact this
      have hdr3 : all.drop (ltp md p + 3) = render r := by rw [← List.drop_drop, hdrp]; rfl
      have g1 : (S [60] != Str.ofString "<") = false := by decide +kernel
      have g2 : (S [60] == Str.ofString "") = false := by decide +kernel
      have g3 : (S [47] == Str.ofString "/") = true := by decide +kernel
      k_with "my call" => ((with_reducible show wpAny _ _ (call (Value.ref 725) _) _ _ _); k_dflt (refine' getPk ?k1 ?k2 ?k3 ?k4 ?k5 ?k6 ?kNE ?k7 ?k8 ?_; (case k1 => k_asm); (case k2 => k_asm); (case k3 => k_asm); (case k4 => k_asm); (case k5 => first | exact rfl | assumption); (case k6 => first | k_asm | exact rotL (by k_asm)); (case kNE => first | with_reducible assumption | exact LexNe.push (by with_reducible assumption) (by k_ne) (by k_ne) (by k_ne)); (case k7 => ktr_room); (case k8 => ktr_units); k_whole; intro t9 h9 tk9 F9 N9; (try dsimp only); (try k_sweep); (try k_fold)))
      k_with "my call" => ((with_reducible show wpAny _ _ (call (Value.ref 725) _) _ _ _); k_dflt (refine' getRt ?k1 ?k2 ?k3 ?k4 ?k5 ?k6 ?kNE hlen ?kp ?kR ?kne ?kq ?k7 ?k8 ?_; (case k1 => k_asm); (case k2 => k_asm); (case k3 => k_asm); (case k4 => k_asm); (case k5 => first | exact rfl | assumption); (case k6 => first | k_asm | exact rotL (by k_asm)); (case kNE => first | with_reducible assumption | exact LexNe.push (by with_reducible assumption) (by k_ne) (by k_ne) (by k_ne)); (case kR => with_reducible assumption); (case kp => omega); (case kne => exact List.cons_ne_nil _ _); (case kq => first | exact noA_T | exact noA_G); (case k7 => ktr_room); (case k8 => ktr_units); k_whole; intro t9 ts9 tl9 tt9 tp9 tpk9 h9 tk9 F9 N9; (try dsimp only [stV, pkN, pkX] at N9); (try dsimp only); (try k_sweep); (try k_fold)))
      k_with "my call" => ((with_reducible show wpAny _ _ (call (Value.ref 725) _) _ _ _); k_dflt (refine' firstLt ?k1 ?k2 ?k3 ?k4 ?k5 ?k6 NE hlen hpl hAm hmC ?k7 ?k8 ?_; (case k1 => k_asm); (case k2 => k_asm); (case k3 => k_asm); (case k4 => k_asm); (case k5 => first | exact rfl | assumption); (case k6 => k_asm); (case k7 => ktr_room); (case k8 => ktr_units); k_whole; intro t9 ts9 tl9 tt9 tp9 n9 h9 tk9 F9 N9; (try dsimp only); (try k_sweep); (try k_fold)))
      k_steps
      all_goals (try simp only [List.push_toArray] at *)
      refine ksw_end ⟨pre ++ [.ends e], r, .A, ltp md p + 3, ln, _, vs ++ [.ref _], nn + 1, (_, _) :: tx, _, _, _, _, _, _, _, _, 0⟩ (by k_asm) (by k_asm) intoL
        ⟨Sep.cons hsep' (by omega) (by omega) (by omega) (by omega), dat_snoc hdat (DatIn.tuple (n := 0) (.head _) (.cons (.str _ _) (.cons (.str _ _) (.cons (.str _ _) .nil)))), by simp at hvl ⊢; omega⟩ (fun _ h9 => nomatch h9) (by walk_at "my same")
        ⟨by simp [hds], hlp, fun _ => hdr3, (fun h9 => nomatch h9), (fun h9 => nomatch h9), by simp [nlsAll, Deed.nls] at hln ⊢; omega, haltr, hokr⟩ (by simp)
    | begins e ps =>
      have hmC : md ≠ .C := fun h9 => nomatch (hC h9).1
      have hAm : md = .A → all.drop p = 60 :: (e :: tailP ps (render r)) := fun h9 => by rw [hA h9]; simp [render, Deed.r, tailP]
      have hdrp : all.drop (ltp md p) = e :: tailP ps (render r) := by
        cases md with
        | A => show all.drop (p + 1) = _; rw [← List.drop_drop, hAm rfl]; rfl
        | B =>
          have := (hB rfl).1
          simp only [render, List.flatMap_cons, Deed.r, List.cons_append, List.append_assoc, List.cons.injEq, true_and, List.nil_append] at this
          exact this
        | C => exact absurd rfl hmC
      obtain ⟨tl0, htl0⟩ := tailP_cons ps (render r)
      have hlp : ltp md p + 2 ≤ all.length := by
        have := congrArg List.length hdrp
        rw [htl0] at this
        simp at this; omega
      have hR1 : rt (Str.ofString "abkl").cps.toList (Str.ofString "\"").cps.toList .sp [] (all.drop (ltp md p)) (ltp md p) ln = some ⟨[e], true, ltp md p + 2, ln, some (sgn ps)⟩ := by
        rw [hdrp, htl0]
        have := rt_word (Str.ofString "abkl").cps.toList (Str.ofString "\"").cps.toList (sgn ps) tl0 (sgn_wc ps) (sgn_nl ps) (sgn_qs ps) [e] (ltp md p) ln (List.cons_ne_nil _ _) (name_ok hokd.1)
        simp only [List.cons_append, List.nil_append, List.length_cons, List.length_nil, cnt_name hokd.1, Int.add_zero] at this
        exact this
      have hdr2 : sgn ps :: all.drop (ltp md p + 2) = tailP ps (render r) := by rw [← List.drop_drop, hdrp, htl0]; rfl
      have g1 : (S [60] != Str.ofString "<") = false := by decide +kernel
      have g2 : (S [60] == Str.ofString "") = false := by decide +kernel
      have hokl : ps.length ≤ 1000 := hpsl _ _ (by rw [hds]; exact List.mem_append_right _ (.head _))
      have g3 : (S [e] == Str.ofString "/") = false := by rcases hokd.1 with rfl | rfl <;> decide +kernel
      k_with "my call" => ((with_reducible show wpAny _ _ (call (Value.ref 725) _) _ _ _); k_dflt (refine' getPk ?k1 ?k2 ?k3 ?k4 ?k5 ?k6 ?kNE ?k7 ?k8 ?_; (case k1 => k_asm); (case k2 => k_asm); (case k3 => k_asm); (case k4 => k_asm); (case k5 => first | exact rfl | assumption); (case k6 => first | k_asm | exact rotL (by k_asm)); (case kNE => first | with_reducible assumption | exact LexNe.push (by with_reducible assumption) (by k_ne) (by k_ne) (by k_ne)); (case k7 => ktr_room); (case k8 => ktr_units); k_whole; intro t9 h9 tk9 F9 N9; (try dsimp only); (try k_sweep); (try k_fold)))
      k_with "my call" => ((with_reducible show wpAny _ _ (call (Value.ref 725) _) _ _ _); k_dflt (refine' getRt ?k1 ?k2 ?k3 ?k4 ?k5 ?k6 ?kNE hlen ?kp ?kR ?kne ?kq ?k7 ?k8 ?_; (case k1 => k_asm); (case k2 => k_asm); (case k3 => k_asm); (case k4 => k_asm); (case k5 => first | exact rfl | assumption); (case k6 => first | k_asm | exact rotL (by k_asm)); (case kNE => first | with_reducible assumption | exact LexNe.push (by with_reducible assumption) (by k_ne) (by k_ne) (by k_ne)); (case kR => with_reducible assumption); (case kp => omega); (case kne => exact List.cons_ne_nil _ _); (case kq => first | exact noA_T | exact noA_G); (case k7 => ktr_room); (case k8 => ktr_units); k_whole; intro t9 ts9 tl9 tt9 tp9 tpk9 h9 tk9 F9 N9; (try dsimp only [stV, pkN, pkX] at N9); (try dsimp only); (try k_sweep); (try k_fold)))
      k_with "my call" => ((with_reducible show wpAny _ _ (call (Value.ref 725) _) _ _ _); k_dflt (refine' firstLt ?k1 ?k2 ?k3 ?k4 ?k5 ?k6 NE hlen hpl hAm hmC ?k7 ?k8 ?_; (case k1 => k_asm); (case k2 => k_asm); (case k3 => k_asm); (case k4 => k_asm); (case k5 => first | exact rfl | assumption); (case k6 => k_asm); (case k7 => ktr_room); (case k8 => ktr_units); k_whole; intro t9 ts9 tl9 tt9 tp9 n9 h9 tk9 F9 N9; (try dsimp only); (try k_sweep); (try k_fold)))
      k_with "my newList" => (k_dflt (refine' newList_K ?k1 ?k2 ?_; (case k1 => k_asm); (case k2 => k_asm); k_whole); intro lp h' F' N' l1; (try k_lt l1); (try k_sweep))
      k_with "my while" => (refine stopAt ?_)
      k_steps
      unfold Stopped
      refine absN (by k_asm) ?_
      intro tw2 tq2 ts2 tl2 tt2 tp2 n2 N3
      refine ksw_while (σ := PSt) (fun z => lexN w c x dx y dy pb fs (S all) tc tws (Str.ofString "abkl") tw2 (Str.ofString "\"") tq2 (.str (Str.ofString " ") z.ts) z.ln z.tl (Str.ofString "") z.tt (z.p : Int) z.tp z.n [] ((lp, listOf z.vs.toArray z.nn) :: (lt, listOf vs.toArray nn) :: (z.tx ++ (tx ++ rest))))
        (fun z => [(Str.ofString "sign", .str (S [sgn z.todo]) z.tsg)]) (fun z => Sep x dx y dy pb fs lp ((lt, listOf vs.toArray nn) :: (z.tx ++ (tx ++ rest))) ∧ Sep x dx y dy pb fs lt (z.tx ++ (tx ++ rest)) ∧ DatAll z.tx z.vs (z.done.map pairD) ∧ z.vs.length = z.done.length) [Str.ofString "key", Str.ofString "sign"]
        (PInv all ps (render r) ln) (fun z => z.todo.length) ⟨[], ps, ltp md p + 2, ln, n2, [], 0, [], ts2, tl2, tt2, tp2, t9⟩ (by k_asm) N3 ⟨?sp, hsep', .nil, rfl⟩ ?nm ⟨rfl, hdr2, rfl, hlp⟩ ?_ (by first | exact hE | assumption | passes_own)
      case sp => exact ⟨LexNe.push NE0 f1 f2 f3, by omega, by omega, by omega, by omega, by omega, by omega, fun q hq => by rcases List.mem_cons.mp hq with rfl | hq; exact (by omega : @Ne Nat lt lp); exact Nat.ne_of_lt (allLt_to (by simp only [List.nil_append, l1]) q hq)⟩
      case nm => intro q hq; cases hq with | head => rfl | tail _ h => cases h
      have hlq := hlp
      clear N3 hlp
      rintro ⟨done, todo, pp, ln2, n, vs2, nn2, tx2, ts, tl, tt, tp, tsg⟩ u h tkk ⟨hsep2, hsep3, hdat2, hvl2⟩ hinv2 F N
      have hsep2' := hsep2
      obtain ⟨NE2, g4, g5, g6, g7, g8, g9, q5⟩ := hsep2
      have NE3 := NE2.push (o := listOf vs2.toArray nn2) g4 g5 g6
      have NE4 := hsep3.ne
      have q9 := hsep3.q4
      obtain ⟨-, -, -, -, -, -, -, -, -, -, -, -, q6, q7, q8⟩ := id NE4
      have g10 : @Ne Nat lt lp := q5 _ (.head _)
      have q10 : ∀ p ∈ tx2 ++ (tx ++ rest), p.1 ≠ lp := fun p hp => q5 p (.tail _ hp)
      obtain ⟨hps, hdr, hln2, hpl2⟩ := hinv2
      dsimp only at hdat2 hps hdr hln2 hpl2 F N hvl2 ⊢
      have hpsl : ps.length ≤ 1000 := hokl
      have hvz : vs2.toArray.size ≤ 3000 := by
        have := congrArg List.length hps
        simp only [List.length_append, List.size_toArray] at this ⊢; omega
      clear hR1
      cases todo with
      | nil =>
        dsimp only [sgn] at F
        have g11 : (S [62] == Str.ofString " ") = false := by decide +kernel
        k_steps
        all_goals (try simp only [List.push_toArray] at *)
        have hdn : done = ps := by rw [hps, List.append_nil]
        subst hdn
        have hdE : all.drop pp = render r := List.tail_eq_of_cons_eq hdr
        refine ksw_end ⟨pre ++ [.begins e done], r, .A, pp, ln2, _, vs ++ [.ref _], nn + 1, (_, _) :: (lp, listOf vs2.toArray nn2) :: (tx2 ++ tx), _, _, _, _, _, _, _, _, 0⟩ (by k_asm) (by k_asm) intoL2
          ⟨Sep.cons (Sep.cons (by show Sep x dx y dy pb fs lt ((tx2 ++ tx) ++ rest); rw [List.append_assoc]; exact hsep3) g4 g5 g6 g10.symm) (by omega) (by omega) (by omega) (by omega),
            (by
              rw [List.map_append]
              exact DatAll.append (hdat.mono (fun _ hp => .tail _ (.tail _ (List.mem_append_right _ hp)))) (DatAll.one (DatIn.tuple (n := 0) (.head _) (.cons (.str _ _) (.cons (.str _ _) (.cons (DatIn.list (n := nn2) (.tail _ (.head _)) (hdat2.mono (fun _ hp => .tail _ (.tail _ (List.mem_append_left _ hp))))) (.cons (.str _ _) .nil))))))),
            by simp at hvl ⊢; omega⟩ (fun _ h9 => nomatch h9) (by walk_at "my same")
          ⟨by simp [hds], hpl2, fun _ => hdE, (fun h9 => nomatch h9), (fun h9 => nomatch h9), by simp [nlsAll, Deed.nls, psN] at hln hln2 ⊢; omega, haltr, hokr⟩ (by simp)
      | cons kv todo =>
        obtain ⟨k, v⟩ := kv
        dsimp only [sgn] at F
        have g11 : (S [32] == Str.ofString " ") = true := by decide +kernel
        have hkv : pairOk (k, v) := hokd.2 _ (by rw [hps]; simp)
        obtain ⟨tl1, htl1⟩ := tailP_cons todo (render r)
        have hdk : all.drop pp = k :: 61 :: 34 :: (v ++ 34 :: tailP todo (render r)) := by
          have : sgn ((k, v) :: todo) :: all.drop pp = 32 :: (k :: 61 :: 34 :: (v ++ 34 :: tailP todo (render r))) := by rw [hdr]; simp [tailP, pairR]
          exact List.tail_eq_of_cons_eq this
        have hlk : pp + 2 + v.length + 2 + 1 ≤ all.length := by
          have := congrArg List.length hdk
          rw [htl1] at this
          simp at this; omega
        have hR1 : rt (Str.ofString "abkl").cps.toList (Str.ofString "\"").cps.toList .sp [] (all.drop pp) pp ln2 = some ⟨[k], true, pp + 2, ln2, some 61⟩ := by
          rw [hdk]
          have := rt_word (Str.ofString "abkl").cps.toList (Str.ofString "\"").cps.toList 61 (34 :: (v ++ 34 :: tailP todo (render r))) (by decide +kernel) (by decide) (by decide +kernel) [k] pp ln2 (List.cons_ne_nil _ _) (key_ok hkv.1)
          simp only [List.cons_append, List.nil_append, List.length_cons, List.length_nil, cnt_key hkv.1, Int.add_zero] at this
          exact this
        have hd2 : all.drop (pp + 2) = 34 :: (v ++ 34 :: tailP todo (render r)) := by rw [← List.drop_drop, hdk]; rfl
        have hR2 : rt (Str.ofString "abkl").cps.toList (Str.ofString "\"").cps.toList .sp [] (all.drop (pp + 2)) (pp + 2) ln2 = some ⟨34 :: (v ++ [34]), true, pp + 2 + v.length + 2, ln2 + cnt v, none⟩ := by
          rw [hd2]
          exact rt_quote _ _ _ _ _ _ (by decide +kernel) (by decide +kernel) hkv.2
        have hd3 : all.drop (pp + 2 + v.length + 2) = tailP todo (render r) := by
          rw [Nat.add_assoc (pp + 2), ← List.drop_drop, hd2]
          show (34 :: (v ++ 34 :: tailP todo (render r))).drop (v.length + 1 + 1) = _
          rw [List.drop_succ_cons, ← List.drop_drop, List.drop_left]
          rfl
        have hR3 : rt (Str.ofString "abkl").cps.toList (Str.ofString "\"").cps.toList .sp [] (all.drop (pp + 2 + v.length + 2)) (pp + 2 + v.length + 2) (ln2 + cnt v) = some ⟨[sgn todo], true, pp + 2 + v.length + 2 + 1, ln2 + cnt v, none⟩ := by
          rw [hd3, htl1]
          exact rt_other _ _ _ _ (sgn_wc _) (sgn_nl _) (sgn_qs _) _ _
        have hd4 : sgn todo :: all.drop (pp + 2 + v.length + 2 + 1) = tailP todo (render r) := by rw [← List.drop_drop, hd3, htl1]; rfl
        k_with "my call" => ((with_reducible show wpAny _ _ (call (Value.ref 725) _) _ _ _); k_dflt (refine' getPk ?k1 ?k2 ?k3 ?k4 ?k5 ?k6 ?kNE ?k7 ?k8 ?_; (case k1 => k_asm); (case k2 => k_asm); (case k3 => k_asm); (case k4 => k_asm); (case k5 => first | exact rfl | assumption); (case k6 => first | k_asm | exact rotL (by k_asm)); (case kNE => first | with_reducible assumption | exact LexNe.push (by with_reducible assumption) (by k_ne) (by k_ne) (by k_ne) | exact LexNe.push (LexNe.push (by with_reducible assumption) (by k_ne) (by k_ne) (by k_ne)) (by k_ne) (by k_ne) (by k_ne)); (case k7 => ktr_room); (case k8 => ktr_units); k_whole; intro t9 h9 tk9 F9 N9; (try dsimp only); (try k_sweep); (try k_fold)))
        k_with "my call" => ((with_reducible show wpAny _ _ (call (Value.ref 725) _) _ _ _); k_dflt (refine' getRt ?k1 ?k2 ?k3 ?k4 ?k5 ?k6 ?kNE hlen ?kp ?kR ?kne ?kq ?k7 ?k8 ?_; (case k1 => k_asm); (case k2 => k_asm); (case k3 => k_asm); (case k4 => k_asm); (case k5 => first | exact rfl | assumption); (case k6 => first | k_asm | exact rotL (by k_asm)); (case kNE => first | with_reducible assumption | exact LexNe.push (by with_reducible assumption) (by k_ne) (by k_ne) (by k_ne) | exact LexNe.push (LexNe.push (by with_reducible assumption) (by k_ne) (by k_ne) (by k_ne)) (by k_ne) (by k_ne) (by k_ne)); (case kR => with_reducible assumption); (case kp => omega); (case kne => exact List.cons_ne_nil _ _); (case kq => first | exact noA_T | exact noA_G); (case k7 => ktr_room); (case k8 => ktr_units); k_whole; intro t9 ts9 tl9 tt9 tp9 tpk9 h9 tk9 F9 N9; (try dsimp only [stV, pkN, pkX] at N9); (try dsimp only); (try k_sweep); (try k_fold)))
        k_steps
        all_goals (try simp only [List.push_toArray] at *)
        refine ksw_end ⟨done ++ [(k, v)], todo, pp + 2 + v.length + 2 + 1, ln2 + cnt v, _, vs2 ++ [.ref _], nn2 + 1, (_, _) :: tx2, _, _, _, _, _⟩ (by k_asm) (by k_asm) intoL4
          ⟨Sep.mid hsep2' (by omega) (by omega) (by omega) (by omega), Sep.cons hsep3 (by omega) (by omega) (by omega) (by omega),
            (by
              rw [List.map_append]
              exact DatAll.append (hdat2.mono (fun _ hp => .tail _ hp)) (DatAll.one (DatIn.tuple (n := 0) (.head _) (.cons (.str _ _) (.cons (.str _ _) (.cons (.str _ _) .nil)))))),
            by simp [hvl2]⟩ (by intro q hq; cases hq with | head => rfl | tail _ h => cases h) (by walk_at "my same")
          ⟨by simp [hps], hd4, by simp [psN] at hln2 ⊢; omega, hlk⟩ (by simp)
theorem initN {h₀ h : Heap} {L : Addr} {w : World} {c : LK} {x dx y dy pb fs lt : Addr} {buf : Str} {tc tws tw tq tl tt tp : Tok} {wc qs : Str} {st : Value} {ln : Int} {tok : Str} {pos : Int} {o1 : Obj} {R : List (Addr × Obj)} {P : Prop}
    (N : News h₀ L h ((lt, o1) :: (fs, dq c.n2 []) :: (pb, dq 0 []) :: (y, instObj 629 dy) :: (dy, sioD w c.j1 c.j2 c.j3 c.tn c.tb tp buf pos) :: (x, instObj 764 dx) :: (dx, lexD w c y pb fs tc tws wc tw qs tq st ln tl tok tt) :: R))
    : News h₀ L h (lexN w c x dx y dy pb fs buf tc tws wc tw qs tq st ln tl tok tt pos tp 0 [] ((lt, o1) :: R)) := by
  intro p hp
  apply N p
  simp only [lexN, List.mem_cons] at hp ⊢
  rcases hp with h | h | h | h | h | h | h | h
  · exact .inr (.inr (.inr (.inr (.inr (.inr (.inl h))))))
  · exact .inr (.inr (.inr (.inr (.inl h))))
  · exact .inr (.inr (.inl h))
  · exact .inr (.inr (.inr (.inr (.inr (.inl h)))))
  · exact .inr (.inr (.inr (.inl h)))
  · exact .inr (.inl h)
  · exact .inl h
  · exact .inr (.inr (.inr (.inr (.inr (.inr (.inr h))))))
theorem reading {w : World} {loose : List Str} {mean : ExcName → Option Value} {mg mb : Str → Option Value}
    {dp un : Nat} {gd : Option (List Code)} {cn : Str} {cs : Scope} {a : Addr} {ccd : Value} {cl : List (Str × Addr)} {outer : List Env} {A₀ : Around} {base h₀ : Heap} {L : Addr} {m : Str → Option Value} {s : Shared} {Q E : Value → Shared → Prop}
    {rest : List (Addr × Obj)} {all : List Nat} {ds : List Deed} {tb : Tok}
    (B : Below A₀ base outer h₀) (F : Fr h₀ L s.heap m) (X : (hd.heap_39 w.params).In h₀) (T : Top hd.view_39 loose mean mg mb h₀) (hk : cs.kind = .function)
    (N : News h₀ L s.heap rest) (hlen : all.length ≤ 100000) (hall : all = render ds) (hok : ∀ d ∈ ds, d.Ok) (halt : Alt ds) (hdl : ds.length ≤ 1000) (hpsl : ∀ n ps, Deed.begins n ps ∈ ds → ps.length ≤ 1000)
    (hd1 : dp + 22 < recursionLimit) (hu : un + 310 < cLine)
    (ret : ∀ (r lt : Addr) (vs : List Value) (nn : Nat) (tx : List (Addr × Obj)) (tln : Tok) (h' : Heap) (tk' : Nat), Fr h₀ L h' m → News h₀ L h' ((r, { cls := .type "tuple", data := .seq [.ref lt, .int (1 + nlsAll ds) tln].toArray }) :: (lt, listOf vs.toArray nn) :: (tx ++ rest)) →
      DatAll tx vs (ds.map Deed.d) → Q (.ref r) { s with heap := h', toks := tk' }) :
    wpAny (model PySem.Challenge.rw_mr0358_01.row.prog w) (ktrTop dp un gd cn cs L a ccd cl outer) (call (.ref 809) [.str (S all) tb]) Q E s := by
  k_with_none
  k_with "my while" => (refine stopAt ?_)
  k_with "my newList" => (k_dflt (refine' newList_K ?k1 ?k2 ?_; (case k1 => k_asm); (case k2 => k_asm); k_whole); intro lt h' F' N' l1; (try k_lt l1); (try k_sweep))
  k_with "my call" => ((with_reducible show wpAny _ _ (call (Value.ref 629) _) _ _ _); k_dflt (refine' mkSio ?k1 ?k2 ?k3 ?k4 ?k5 ?k6 hlen ?k7 ?k8 ?_; (case k1 => k_asm); (case k2 => k_asm); (case k3 => k_asm); (case k4 => k_asm); (case k5 => first | exact rfl | assumption); (case k6 => k_asm); (case k7 => ktr_room); (case k8 => ktr_units); k_whole; intro y9 dy9 j1 j2 j3 tn9 tp9 h9 tk9 F9 N9 l1 l2; (try k_lt l1); (try k_lt2 l2); (try dsimp only); (try k_sweep); (try k_fold)))
  k_with "call type:collections.deque" => (k_dflt (refine' call_dqK ?k1 ?k2 ?_; (case k1 => k_asm); (case k2 => k_asm); k_whole; intro d' h' F' N' l1; (try k_lt l1); (try k_sweep)))
  revert X; k_fill; intro X
  refine wpAny_call ?_
  k_dflt (walk_at "my enter")
  k_steps
  unfold Stopped
  have NN := initN (P := True) (c := ⟨_, _, _, _, _, _, _, _, _, _, _, _, _, _, _, _, _, _, _, _, _, _, _, _, _, _, _, _, _, _⟩) (by k_asm)
  rename (∀ p ∈ rest, p.1 < _) => hr
  k_dflt (refine' loopR (cl := []) (ds := ds) (z₀ := ⟨[], ds, .A, 0, 1, 0, [], 0, [], _, _, _, _, _, _, _, _, 0⟩) ?k1 ?k2 ?k3 ?k4 NN ?ks .nil ?ki ?kv hlen hdl hpsl ?k7 ?k8 ?kE ?_; (case k1 => k_asm); (case k2 => k_asm); (case k3 => k_asm); (case k4 => k_asm); (case k7 => ktr_room); (case k8 => ktr_units); (case kE => first | passes_own | with_unfolding_all passes_own); (case kv => exact Nat.zero_le _))
  case ks =>
    refine ⟨⟨by omega, by omega, by omega, by omega, by omega, by omega, by omega, by omega, by omega, by omega, by omega, by omega, ?_, ?_, ?_⟩, by omega, by omega, by omega, by omega, by omega, by omega, ?_⟩
    all_goals (intro q hq; have h9 := ltN (hr q hq); refine neN ?_; omega)
  case ki => exact ⟨rfl, Nat.zero_le _, fun _ => hall, (fun h9 => nomatch h9), (fun h9 => nomatch h9), rfl, halt, hok⟩
  intro r9 vs9 nn9 tx9 tln9 m9 h9 tk9 F9 N9 hD9
  dsimp only
  k_steps
  exact ret _ _ _ _ _ _ _ _ (by k_asm) (by k_asm) hD9
theorem S1_iff (c k : Nat) : (S [c] = (⟨#[k]⟩ : Str)) ↔ c = k := by
  constructor
  · intro h
    have := congrArg Str.cps h
    simpa [S] using this
  · rintro rfl; rfl
def esc0 (c : Nat) : List Nat := if c = 38 then [38, 97, 109, 112, 59] else if c = 60 then [38, 108, 116, 59] else if c = 62 then [38, 103, 116, 59] else if c = 34 then [38, 113, 117, 111, 116, 59] else if c = 13 then [38, 35, 49, 51, 59] else if c = 10 then [38, 35, 49, 48, 59] else if c = 9 then [38, 35, 48, 57, 59] else [c]
def esc1 (c : Nat) : List Nat := if c = 38 then [38, 97, 109, 112, 59] else if c = 60 then [38, 108, 116, 59] else if c = 34 then [38, 113, 117, 111, 116, 59] else if c = 9 then [38, 35, 120, 57, 59] else if c = 10 then [38, 35, 120, 65, 59] else if c = 13 then [38, 35, 120, 68, 59] else [c]
def esc2 (c : Nat) : List Nat := if c = 38 then [38, 97, 109, 112, 59] else if c = 62 then [38, 103, 116, 59] else if c = 34 then [38, 113, 117, 111, 116, 59] else [c]
def esc3 (c : Nat) : List Nat := if c = 38 then [38, 97, 109, 112, 59] else if c = 60 then [38, 108, 116, 59] else if c = 62 then [38, 103, 116, 59] else [c]
def esc4 (c : Nat) : List Nat := if c = 38 then [38, 97, 109, 112, 59] else if c = 60 then [38, 108, 116, 59] else if c = 62 then [38, 103, 116, 59] else if c = 13 then [38, 35, 120, 68, 59] else [c]
def esc (k c : Nat) : List Nat := match k with | 0 => esc0 c | 1 => esc1 c | 2 => esc2 c | 3 => esc3 c | _ => esc4 c
theorem get0 {w : World} {loose : List Str} {mean : ExcName → Option Value} {mg mb : Str → Option Value}
    {dp un : Nat} {gd : Option (List Code)} {cn : Str} {cs : Scope} {a : Addr} {ccd : Value} {cl : List (Str × Addr)} {outer : List Env} {A₀ : Around} {base h₀ : Heap} {L : Addr} {m : Str → Option Value} {s : Shared} {Q E : Value → Shared → Prop}
    {rest : List (Addr × Obj)} {c : Nat} {u v : Tok}
    (B : Below A₀ base outer h₀) (F : Fr h₀ L s.heap m) (X : (hd.heap_39 w.params).In h₀) (T : Top hd.view_39 loose mean mg mb h₀) (hk : cs.kind = .function)
    (N : News h₀ L s.heap rest)
    (ret : ∀ (t : Tok) (tk' : Nat), Q (.str (S (esc0 c)) t) { s with toks := tk' }) :
    wpAny (model PySem.Challenge.rw_mr0358_01.row.prog w) (ktrTop dp un gd cn cs L a ccd cl outer) (call (.builtin "dict.get") [.ref 770, .str (S [c]) u, .str (S [c]) v]) Q E s := by
  k_with_none
  revert X; k_fill; intro X
  k_steps
  all_goals (simp only [S1_iff] at *; (have e9 := ret); simp only [esc0, *, if_true, if_false] at e9; exact e9 _ _)
theorem get1 {w : World} {loose : List Str} {mean : ExcName → Option Value} {mg mb : Str → Option Value}
    {dp un : Nat} {gd : Option (List Code)} {cn : Str} {cs : Scope} {a : Addr} {ccd : Value} {cl : List (Str × Addr)} {outer : List Env} {A₀ : Around} {base h₀ : Heap} {L : Addr} {m : Str → Option Value} {s : Shared} {Q E : Value → Shared → Prop}
    {rest : List (Addr × Obj)} {c : Nat} {u v : Tok}
    (B : Below A₀ base outer h₀) (F : Fr h₀ L s.heap m) (X : (hd.heap_39 w.params).In h₀) (T : Top hd.view_39 loose mean mg mb h₀) (hk : cs.kind = .function)
    (N : News h₀ L s.heap rest)
    (ret : ∀ (t : Tok) (tk' : Nat), Q (.str (S (esc1 c)) t) { s with toks := tk' }) :
    wpAny (model PySem.Challenge.rw_mr0358_01.row.prog w) (ktrTop dp un gd cn cs L a ccd cl outer) (call (.builtin "dict.get") [.ref 771, .str (S [c]) u, .str (S [c]) v]) Q E s := by
  k_with_none
  revert X; k_fill; intro X
  k_steps
  all_goals (simp only [S1_iff] at *; (have e9 := ret); simp only [esc1, *, if_true, if_false] at e9; exact e9 _ _)
theorem get2 {w : World} {loose : List Str} {mean : ExcName → Option Value} {mg mb : Str → Option Value}
    {dp un : Nat} {gd : Option (List Code)} {cn : Str} {cs : Scope} {a : Addr} {ccd : Value} {cl : List (Str × Addr)} {outer : List Env} {A₀ : Around} {base h₀ : Heap} {L : Addr} {m : Str → Option Value} {s : Shared} {Q E : Value → Shared → Prop}
    {rest : List (Addr × Obj)} {c : Nat} {u v : Tok}
    (B : Below A₀ base outer h₀) (F : Fr h₀ L s.heap m) (X : (hd.heap_39 w.params).In h₀) (T : Top hd.view_39 loose mean mg mb h₀) (hk : cs.kind = .function)
    (N : News h₀ L s.heap rest)
    (ret : ∀ (t : Tok) (tk' : Nat), Q (.str (S (esc2 c)) t) { s with toks := tk' }) :
    wpAny (model PySem.Challenge.rw_mr0358_01.row.prog w) (ktrTop dp un gd cn cs L a ccd cl outer) (call (.builtin "dict.get") [.ref 772, .str (S [c]) u, .str (S [c]) v]) Q E s := by
  k_with_none
  revert X; k_fill; intro X
  k_steps
  all_goals (simp only [S1_iff] at *; (have e9 := ret); simp only [esc2, *, if_true, if_false] at e9; exact e9 _ _)
theorem get3 {w : World} {loose : List Str} {mean : ExcName → Option Value} {mg mb : Str → Option Value}
    {dp un : Nat} {gd : Option (List Code)} {cn : Str} {cs : Scope} {a : Addr} {ccd : Value} {cl : List (Str × Addr)} {outer : List Env} {A₀ : Around} {base h₀ : Heap} {L : Addr} {m : Str → Option Value} {s : Shared} {Q E : Value → Shared → Prop}
    {rest : List (Addr × Obj)} {c : Nat} {u v : Tok}
    (B : Below A₀ base outer h₀) (F : Fr h₀ L s.heap m) (X : (hd.heap_39 w.params).In h₀) (T : Top hd.view_39 loose mean mg mb h₀) (hk : cs.kind = .function)
    (N : News h₀ L s.heap rest)
    (ret : ∀ (t : Tok) (tk' : Nat), Q (.str (S (esc3 c)) t) { s with toks := tk' }) :
    wpAny (model PySem.Challenge.rw_mr0358_01.row.prog w) (ktrTop dp un gd cn cs L a ccd cl outer) (call (.builtin "dict.get") [.ref 774, .str (S [c]) u, .str (S [c]) v]) Q E s := by
  k_with_none
  revert X; k_fill; intro X
  k_steps
  all_goals (simp only [S1_iff] at *; (have e9 := ret); simp only [esc3, *, if_true, if_false] at e9; exact e9 _ _)
theorem get4 {w : World} {loose : List Str} {mean : ExcName → Option Value} {mg mb : Str → Option Value}
    {dp un : Nat} {gd : Option (List Code)} {cn : Str} {cs : Scope} {a : Addr} {ccd : Value} {cl : List (Str × Addr)} {outer : List Env} {A₀ : Around} {base h₀ : Heap} {L : Addr} {m : Str → Option Value} {s : Shared} {Q E : Value → Shared → Prop}
    {rest : List (Addr × Obj)} {c : Nat} {u v : Tok}
    (B : Below A₀ base outer h₀) (F : Fr h₀ L s.heap m) (X : (hd.heap_39 w.params).In h₀) (T : Top hd.view_39 loose mean mg mb h₀) (hk : cs.kind = .function)
    (N : News h₀ L s.heap rest)
    (ret : ∀ (t : Tok) (tk' : Nat), Q (.str (S (esc4 c)) t) { s with toks := tk' }) :
    wpAny (model PySem.Challenge.rw_mr0358_01.row.prog w) (ktrTop dp un gd cn cs L a ccd cl outer) (call (.builtin "dict.get") [.ref 775, .str (S [c]) u, .str (S [c]) v]) Q E s := by
  k_with_none
  revert X; k_fill; intro X
  k_steps
  all_goals (simp only [S1_iff] at *; (have e9 := ret); simp only [esc4, *, if_true, if_false] at e9; exact e9 _ _)
open LCg in
theorem ListComp_S {prog : Program} {w : World} {A : Around} {E : Value → Shared → Prop} {s : Shared} {h₀ : Heap} {L : Addr} {m : Str → Option Value} {env : Env} {elt iter : PySem.Expr} {x : Str} {px : Pos} {scope : Scope} {cl : List (Str × Addr)} {pos : Pos} {Q : Value → Shared → Prop}
    (_F₀ : Fr h₀ L s.heap m) (hclos : closureFor scope env = pure cl) (hcell : ∀ y ∈ scope.names, y.2 ≠ .cell) (hkind : scope.kind = .function)
    (hnames : ∀ y ∈ scope.names, y.2 = .local → scope.names.lookup y.1 = some .local) (hx : scope.names.lookup x = some .local)
    (h : wpAny (model prog w) A (eval iter env) (fun xv s₁ => ∃ y t news, xv = .str y t ∧ A.handled = none ∧ Fr h₀ L s₁.heap m ∧ News h₀ L s₁.heap news ∧ y.length ≤ sizeLine ∧
      ∀ s₂ : Shared, (∃ h, s₂ = { s₁ with heap := h }) → CompRest prog w A h₀ L m env elt x scope cl s₂ (fun _ => True) (SignAt y) (FinE h₀ L m s₂ Q) y.cps.size 0 [] news) E s)
    (hs : ∀ x, foldedSetIterable iter env x = pure x := by intro _; rfl) :
    wpAny (model prog w) A (eval (.ListComp elt [⟨.Name x px, iter, [], 0⟩] scope pos) env) Q E s := by
  rw [eval_ListComp]
  refine wpAny_comprehension_free (use := none) rfl hs hclos hkind hnames (wpAny_mono h (fun xv s₁ h₁ => ?_) fun _ _ e => e)
  obtain ⟨y, t, news, rfl, hh, F, N, hsz, R⟩ := h₁
  have key : ∀ ty : String, (∀ I, Walks prog w A I [I] [I] y.cps.size (SignAt y) (fun i h => h.IsStrIter I ty y t i)) → ∀ (o : Obj), (s₁.heap.push o).IsStrIter s₁.heap.objs.size ty y t 0 →
      wpAny (model prog w) A (newList []) (fun acc s₃ => wpAny (model prog w) A (newFunctionEnv scope env.globals cl [] env.qual none .none (some env)) (fun cenv s₄ =>
        codeAny (model prog w) A (.compStart (.ListComp elt [⟨.Name x px, iter, [], 0⟩] scope pos) 0 (.ref s₁.heap.objs.size) acc { cenv with scope := relabel scope env }) (compPost (model prog w) A E none Q acc cenv.locals) s₄) E s₃) E { s₁ with heap := s₁.heap.push o } := by
    intro ty W o hst
    refine block_U (s₂ := { s₁ with heap := s₁.heap.push o }) (S := fun _ => True) (W s₁.heap.objs.size) hsz (fun i h st => by obtain ⟨o, e, _⟩ := st; exact ⟨o, e⟩)
      (fun i h h' o nw st e e' _ _ _ => by obtain ⟨o', q, r⟩ := st; rw [e] at q; cases q; exact ⟨o, e', r⟩) hcell hkind hx hst
      (fun b hb => by rw [List.mem_singleton.mp hb]; show s₁.heap.objs.size < (s₁.heap.push _).objs.size; rw [Heap.size_push]; exact Nat.lt_succ_self _)
      (F.keeps fun _ _ e => Heap.get?_push_of_some _ e) (N.grown fun _ _ e => Heap.get?_push_of_some _ e) (Nat.ne_of_lt F.ns.lt) (next_is_new F) (fun p hp => Nat.ne_of_lt (Heap.lt_size (N p hp).1)) trivial (R _ ⟨_, rfl⟩) ?_
    intro D C h tk m' ys news' F' N' o1 hn hC₀ hD₀ hCL hDL hCD offC fin
    refine ⟨m', hn, fun h'' hs'' => fin D h'' tk (F'.change hs'' hCL hC₀) (fun p hp => ?_) o1⟩
    refine ⟨hs''.extBut _ _ ?_ (N' p hp).1, (N' p hp).2⟩
    rcases List.mem_cons.mp hp with rfl | hp
    · exact Ne.symm hCD
    · exact offC p hp
  cases ha : y.cps.all (· < 128)
  · exact wpAny_pyIter_wide ha (key _ (fun I => Walks.strWide hh I y t) _ ⟨_, Heap.get?_push_size _ rfl, rfl, rfl⟩)
  · exact wpAny_pyIter_ascii ha (key _ (fun I => Walks.strAscii hh I y t) _ ⟨_, Heap.get?_push_size _ rfl, rfl, rfl⟩)
theorem join2 (a b : List Nat) : Txt.join (Str.ofString "") [S a, S b] = S (a ++ b) := by
  show Builtin.Str.glued (Str.ofString "") [S a, S b] = _
  rw [StrLaws.glued_eq_join]
  show S a ++ Str.ofString "" ++ S b = _
  rw [← S_nil, S_append, S_append, List.append_nil]
theorem esc0_len (c : Nat) : (esc0 c).length ≤ 6 := by
  unfold esc0
  repeat (first | (split; simp) | simp)
theorem spelled0 {w : World} {loose : List Str} {mean : ExcName → Option Value} {mg mb : Str → Option Value}
    {dp un : Nat} {gd : Option (List Code)} {cn : Str} {cs : Scope} {a : Addr} {ccd : Value} {cl : List (Str × Addr)} {outer : List Env} {A₀ : Around} {base h₀ : Heap} {L : Addr} {m : Str → Option Value} {s : Shared} {Q E : Value → Shared → Prop}
    {rest : List (Addr × Obj)} {p q : Nat} {tb : Tok}
    (B : Below A₀ base outer h₀) (F : Fr h₀ L s.heap m) (X : (hd.heap_39 w.params).In h₀) (T : Top hd.view_39 loose mean mg mb h₀) (hk : cs.kind = .function)
    (N : News h₀ L s.heap rest)
    (hd1 : dp + 3 < recursionLimit) (hu : un + 100 < cLine)
    (ret : ∀ (t : Tok) (h' : Heap) (tk' : Nat), Fr h₀ L h' m → News h₀ L h' rest → Q (.str (S (esc0 p ++ esc0 q)) t) { s with heap := h', toks := tk' }) :
    wpAny (model PySem.Challenge.rw_mr0358_01.row.prog w) (ktrTop dp un gd cn cs L a ccd cl outer) (call (.ref 781) [.ref 770, .str (S [p, q]) tb]) Q E s := by
  k_with_none
  k_with "my lc" => (refine stopAt ?_)
  k_with "my get" => (k_dflt (refine' get0 ?k1 ?k2 ?k3 ?k4 ?k5 ?k6 ?_; (case k1 => k_asm); (case k2 => k_asm); (case k3 => k_asm); (case k4 => k_asm); (case k5 => first | exact rfl | assumption); (case k6 => k_asm); k_whole; intro t9 tk9; (try dsimp only); (try k_fold)))
  revert X; k_fill; intro X
  refine wpAny_call ?_
  k_dflt (walk_at "my enterC")
  k_steps
  unfold Stopped
  k_dflt (refine ListComp_S (by k_asm) (by with_unfolding_all rfl) (by decide) (by rfl) (by decide) (by rfl) ?_)
  k_steps
  · k_asm
  · k_asm
  rename (∃ _, _ = _) => hs9
  obtain ⟨hh9, rfl⟩ := hs9
  refine (show LCg.CompRest _ _ _ _ _ _ _ _ _ _ _ _ _ _ _ 2 0 [] _ from ?_)
  refine LCg.CompRest.succ ?_
  intro v I oI C oC D m2 h2 tk2 E2 hv hC hx F2 N2 off ne
  obtain ⟨c, u, hc, rfl⟩ := hv
  have e : p = c := by simpa [S] using hc
  subst e
  change m2 _ = some (.str (S [p]) u) at hx
  k_steps
  refine LCg.CompEnd.intro (by k_asm) (by k_asm) _ (fun _ hp => hp) off trivial ?_
  clear hc hx hC off ne N2 F2
  refine LCg.CompRest.succ ?_
  intro v I oI C oC D m2 h2 tk2 E2 hv hC hx F2 N2 off ne
  obtain ⟨c, u, hc, rfl⟩ := hv
  have e : q = c := by simpa [S] using hc
  subst e
  change m2 _ = some (.str (S [q]) u) at hx
  k_steps
  refine LCg.CompEnd.intro (by k_asm) (by k_asm) _ (fun _ hp => hp) off trivial ?_
  refine LCg.CompRest.zero ?_
  unfold LCg.FinE
  intro D5 h5 tk5 F5 N5 o5
  try dsimp only
  k_steps
  refine join_list (ys := [S (esc0 p), S (esc0 q)]) (News.isList (by k_asm) (.head _)) (by repeat constructor) ?_ ?_
  · have h1 := esc0_len p
    have h2 := esc0_len q
    have h3 : (Str.ofString "").length = 0 := by decide +kernel
    simp only [List.map_cons, List.map_nil, List.sum_cons, List.sum_nil, S_length, h3, List.length_cons, List.length_nil]
    omega
  intro t6 k6
  rw [join2]
  k_steps
  exact ret _ _ _ (by k_asm) (cb_drop (by k_asm) (fun _ hp => .tail _ (.tail _ hp)))
theorem esc1_len (c : Nat) : (esc1 c).length ≤ 6 := by
  unfold esc1
  repeat (first | (split; simp) | simp)
theorem spelled1 {w : World} {loose : List Str} {mean : ExcName → Option Value} {mg mb : Str → Option Value}
    {dp un : Nat} {gd : Option (List Code)} {cn : Str} {cs : Scope} {a : Addr} {ccd : Value} {cl : List (Str × Addr)} {outer : List Env} {A₀ : Around} {base h₀ : Heap} {L : Addr} {m : Str → Option Value} {s : Shared} {Q E : Value → Shared → Prop}
    {rest : List (Addr × Obj)} {p q : Nat} {tb : Tok}
    (B : Below A₀ base outer h₀) (F : Fr h₀ L s.heap m) (X : (hd.heap_39 w.params).In h₀) (T : Top hd.view_39 loose mean mg mb h₀) (hk : cs.kind = .function)
    (N : News h₀ L s.heap rest)
    (hd1 : dp + 3 < recursionLimit) (hu : un + 100 < cLine)
    (ret : ∀ (t : Tok) (h' : Heap) (tk' : Nat), Fr h₀ L h' m → News h₀ L h' rest → Q (.str (S (esc1 p ++ esc1 q)) t) { s with heap := h', toks := tk' }) :
    wpAny (model PySem.Challenge.rw_mr0358_01.row.prog w) (ktrTop dp un gd cn cs L a ccd cl outer) (call (.ref 781) [.ref 771, .str (S [p, q]) tb]) Q E s := by
  k_with_none
  k_with "my lc" => (refine stopAt ?_)
  k_with "my get" => (k_dflt (refine' get1 ?k1 ?k2 ?k3 ?k4 ?k5 ?k6 ?_; (case k1 => k_asm); (case k2 => k_asm); (case k3 => k_asm); (case k4 => k_asm); (case k5 => first | exact rfl | assumption); (case k6 => k_asm); k_whole; intro t9 tk9; (try dsimp only); (try k_fold)))
  revert X; k_fill; intro X
  refine wpAny_call ?_
  k_dflt (walk_at "my enterC")
  k_steps
  unfold Stopped
  k_dflt (refine ListComp_S (by k_asm) (by with_unfolding_all rfl) (by decide) (by rfl) (by decide) (by rfl) ?_)
  k_steps
  · k_asm
  · k_asm
  rename (∃ _, _ = _) => hs9
  obtain ⟨hh9, rfl⟩ := hs9
  refine (show LCg.CompRest _ _ _ _ _ _ _ _ _ _ _ _ _ _ _ 2 0 [] _ from ?_)
  refine LCg.CompRest.succ ?_
  intro v I oI C oC D m2 h2 tk2 E2 hv hC hx F2 N2 off ne
  obtain ⟨c, u, hc, rfl⟩ := hv
  have e : p = c := by simpa [S] using hc
  subst e
  change m2 _ = some (.str (S [p]) u) at hx
  k_steps
  refine LCg.CompEnd.intro (by k_asm) (by k_asm) _ (fun _ hp => hp) off trivial ?_
  clear hc hx hC off ne N2 F2
  refine LCg.CompRest.succ ?_
  intro v I oI C oC D m2 h2 tk2 E2 hv hC hx F2 N2 off ne
  obtain ⟨c, u, hc, rfl⟩ := hv
  have e : q = c := by simpa [S] using hc
  subst e
  change m2 _ = some (.str (S [q]) u) at hx
  k_steps
  refine LCg.CompEnd.intro (by k_asm) (by k_asm) _ (fun _ hp => hp) off trivial ?_
  refine LCg.CompRest.zero ?_
  unfold LCg.FinE
  intro D5 h5 tk5 F5 N5 o5
  try dsimp only
  k_steps
  refine join_list (ys := [S (esc1 p), S (esc1 q)]) (News.isList (by k_asm) (.head _)) (by repeat constructor) ?_ ?_
  · have h1 := esc1_len p
    have h2 := esc1_len q
    have h3 : (Str.ofString "").length = 0 := by decide +kernel
    simp only [List.map_cons, List.map_nil, List.sum_cons, List.sum_nil, S_length, h3, List.length_cons, List.length_nil]
    omega
  intro t6 k6
  rw [join2]
  k_steps
  exact ret _ _ _ (by k_asm) (cb_drop (by k_asm) (fun _ hp => .tail _ (.tail _ hp)))
theorem esc2_len (c : Nat) : (esc2 c).length ≤ 6 := by
  unfold esc2
  repeat (first | (split; simp) | simp)
theorem spelled2 {w : World} {loose : List Str} {mean : ExcName → Option Value} {mg mb : Str → Option Value}
    {dp un : Nat} {gd : Option (List Code)} {cn : Str} {cs : Scope} {a : Addr} {ccd : Value} {cl : List (Str × Addr)} {outer : List Env} {A₀ : Around} {base h₀ : Heap} {L : Addr} {m : Str → Option Value} {s : Shared} {Q E : Value → Shared → Prop}
    {rest : List (Addr × Obj)} {p q : Nat} {tb : Tok}
    (B : Below A₀ base outer h₀) (F : Fr h₀ L s.heap m) (X : (hd.heap_39 w.params).In h₀) (T : Top hd.view_39 loose mean mg mb h₀) (hk : cs.kind = .function)
    (N : News h₀ L s.heap rest)
    (hd1 : dp + 3 < recursionLimit) (hu : un + 100 < cLine)
    (ret : ∀ (t : Tok) (h' : Heap) (tk' : Nat), Fr h₀ L h' m → News h₀ L h' rest → Q (.str (S (esc2 p ++ esc2 q)) t) { s with heap := h', toks := tk' }) :
    wpAny (model PySem.Challenge.rw_mr0358_01.row.prog w) (ktrTop dp un gd cn cs L a ccd cl outer) (call (.ref 781) [.ref 772, .str (S [p, q]) tb]) Q E s := by
  k_with_none
  k_with "my lc" => (refine stopAt ?_)
  k_with "my get" => (k_dflt (refine' get2 ?k1 ?k2 ?k3 ?k4 ?k5 ?k6 ?_; (case k1 => k_asm); (case k2 => k_asm); (case k3 => k_asm); (case k4 => k_asm); (case k5 => first | exact rfl | assumption); (case k6 => k_asm); k_whole; intro t9 tk9; (try dsimp only); (try k_fold)))
  revert X; k_fill; intro X
  refine wpAny_call ?_
  k_dflt (walk_at "my enterC")
  k_steps
  unfold Stopped
  k_dflt (refine ListComp_S (by k_asm) (by with_unfolding_all rfl) (by decide) (by rfl) (by decide) (by rfl) ?_)
  k_steps
  · k_asm
  · k_asm
  rename (∃ _, _ = _) => hs9
  obtain ⟨hh9, rfl⟩ := hs9
  refine (show LCg.CompRest _ _ _ _ _ _ _ _ _ _ _ _ _ _ _ 2 0 [] _ from ?_)
  refine LCg.CompRest.succ ?_
  intro v I oI C oC D m2 h2 tk2 E2 hv hC hx F2 N2 off ne
  obtain ⟨c, u, hc, rfl⟩ := hv
  have e : p = c := by simpa [S] using hc
  subst e
  change m2 _ = some (.str (S [p]) u) at hx
  k_steps
  refine LCg.CompEnd.intro (by k_asm) (by k_asm) _ (fun _ hp => hp) off trivial ?_
  clear hc hx hC off ne N2 F2
  refine LCg.CompRest.succ ?_
  intro v I oI C oC D m2 h2 tk2 E2 hv hC hx F2 N2 off ne
  obtain ⟨c, u, hc, rfl⟩ := hv
  have e : q = c := by simpa [S] using hc
  subst e
  change m2 _ = some (.str (S [q]) u) at hx
  k_steps
  refine LCg.CompEnd.intro (by k_asm) (by k_asm) _ (fun _ hp => hp) off trivial ?_
  refine LCg.CompRest.zero ?_
  unfold LCg.FinE
  intro D5 h5 tk5 F5 N5 o5
  try dsimp only
  k_steps
  refine join_list (ys := [S (esc2 p), S (esc2 q)]) (News.isList (by k_asm) (.head _)) (by repeat constructor) ?_ ?_
  · have h1 := esc2_len p
    have h2 := esc2_len q
    have h3 : (Str.ofString "").length = 0 := by decide +kernel
    simp only [List.map_cons, List.map_nil, List.sum_cons, List.sum_nil, S_length, h3, List.length_cons, List.length_nil]
    omega
  intro t6 k6
  rw [join2]
  k_steps
  exact ret _ _ _ (by k_asm) (cb_drop (by k_asm) (fun _ hp => .tail _ (.tail _ hp)))
theorem esc3_len (c : Nat) : (esc3 c).length ≤ 6 := by
  unfold esc3
  repeat (first | (split; simp) | simp)
theorem spelled3 {w : World} {loose : List Str} {mean : ExcName → Option Value} {mg mb : Str → Option Value}
    {dp un : Nat} {gd : Option (List Code)} {cn : Str} {cs : Scope} {a : Addr} {ccd : Value} {cl : List (Str × Addr)} {outer : List Env} {A₀ : Around} {base h₀ : Heap} {L : Addr} {m : Str → Option Value} {s : Shared} {Q E : Value → Shared → Prop}
    {rest : List (Addr × Obj)} {p q : Nat} {tb : Tok}
    (B : Below A₀ base outer h₀) (F : Fr h₀ L s.heap m) (X : (hd.heap_39 w.params).In h₀) (T : Top hd.view_39 loose mean mg mb h₀) (hk : cs.kind = .function)
    (N : News h₀ L s.heap rest)
    (hd1 : dp + 3 < recursionLimit) (hu : un + 100 < cLine)
    (ret : ∀ (t : Tok) (h' : Heap) (tk' : Nat), Fr h₀ L h' m → News h₀ L h' rest → Q (.str (S (esc3 p ++ esc3 q)) t) { s with heap := h', toks := tk' }) :
    wpAny (model PySem.Challenge.rw_mr0358_01.row.prog w) (ktrTop dp un gd cn cs L a ccd cl outer) (call (.ref 781) [.ref 774, .str (S [p, q]) tb]) Q E s := by
  k_with_none
  k_with "my lc" => (refine stopAt ?_)
  k_with "my get" => (k_dflt (refine' get3 ?k1 ?k2 ?k3 ?k4 ?k5 ?k6 ?_; (case k1 => k_asm); (case k2 => k_asm); (case k3 => k_asm); (case k4 => k_asm); (case k5 => first | exact rfl | assumption); (case k6 => k_asm); k_whole; intro t9 tk9; (try dsimp only); (try k_fold)))
  revert X; k_fill; intro X
  refine wpAny_call ?_
  k_dflt (walk_at "my enterC")
  k_steps
  unfold Stopped
  k_dflt (refine ListComp_S (by k_asm) (by with_unfolding_all rfl) (by decide) (by rfl) (by decide) (by rfl) ?_)
  k_steps
  · k_asm
  · k_asm
  rename (∃ _, _ = _) => hs9
  obtain ⟨hh9, rfl⟩ := hs9
  refine (show LCg.CompRest _ _ _ _ _ _ _ _ _ _ _ _ _ _ _ 2 0 [] _ from ?_)
  refine LCg.CompRest.succ ?_
  intro v I oI C oC D m2 h2 tk2 E2 hv hC hx F2 N2 off ne
  obtain ⟨c, u, hc, rfl⟩ := hv
  have e : p = c := by simpa [S] using hc
  subst e
  change m2 _ = some (.str (S [p]) u) at hx
  k_steps
  refine LCg.CompEnd.intro (by k_asm) (by k_asm) _ (fun _ hp => hp) off trivial ?_
  clear hc hx hC off ne N2 F2
  refine LCg.CompRest.succ ?_
  intro v I oI C oC D m2 h2 tk2 E2 hv hC hx F2 N2 off ne
  obtain ⟨c, u, hc, rfl⟩ := hv
  have e : q = c := by simpa [S] using hc
  subst e
  change m2 _ = some (.str (S [q]) u) at hx
  k_steps
  refine LCg.CompEnd.intro (by k_asm) (by k_asm) _ (fun _ hp => hp) off trivial ?_
  refine LCg.CompRest.zero ?_
  unfold LCg.FinE
  intro D5 h5 tk5 F5 N5 o5
  try dsimp only
  k_steps
  refine join_list (ys := [S (esc3 p), S (esc3 q)]) (News.isList (by k_asm) (.head _)) (by repeat constructor) ?_ ?_
  · have h1 := esc3_len p
    have h2 := esc3_len q
    have h3 : (Str.ofString "").length = 0 := by decide +kernel
    simp only [List.map_cons, List.map_nil, List.sum_cons, List.sum_nil, S_length, h3, List.length_cons, List.length_nil]
    omega
  intro t6 k6
  rw [join2]
  k_steps
  exact ret _ _ _ (by k_asm) (cb_drop (by k_asm) (fun _ hp => .tail _ (.tail _ hp)))
theorem esc4_len (c : Nat) : (esc4 c).length ≤ 6 := by
  unfold esc4
  repeat (first | (split; simp) | simp)
theorem spelled4 {w : World} {loose : List Str} {mean : ExcName → Option Value} {mg mb : Str → Option Value}
    {dp un : Nat} {gd : Option (List Code)} {cn : Str} {cs : Scope} {a : Addr} {ccd : Value} {cl : List (Str × Addr)} {outer : List Env} {A₀ : Around} {base h₀ : Heap} {L : Addr} {m : Str → Option Value} {s : Shared} {Q E : Value → Shared → Prop}
    {rest : List (Addr × Obj)} {p q : Nat} {tb : Tok}
    (B : Below A₀ base outer h₀) (F : Fr h₀ L s.heap m) (X : (hd.heap_39 w.params).In h₀) (T : Top hd.view_39 loose mean mg mb h₀) (hk : cs.kind = .function)
    (N : News h₀ L s.heap rest)
    (hd1 : dp + 3 < recursionLimit) (hu : un + 100 < cLine)
    (ret : ∀ (t : Tok) (h' : Heap) (tk' : Nat), Fr h₀ L h' m → News h₀ L h' rest → Q (.str (S (esc4 p ++ esc4 q)) t) { s with heap := h', toks := tk' }) :
    wpAny (model PySem.Challenge.rw_mr0358_01.row.prog w) (ktrTop dp un gd cn cs L a ccd cl outer) (call (.ref 781) [.ref 775, .str (S [p, q]) tb]) Q E s := by
  k_with_none
  k_with "my lc" => (refine stopAt ?_)
  k_with "my get" => (k_dflt (refine' get4 ?k1 ?k2 ?k3 ?k4 ?k5 ?k6 ?_; (case k1 => k_asm); (case k2 => k_asm); (case k3 => k_asm); (case k4 => k_asm); (case k5 => first | exact rfl | assumption); (case k6 => k_asm); k_whole; intro t9 tk9; (try dsimp only); (try k_fold)))
  revert X; k_fill; intro X
  refine wpAny_call ?_
  k_dflt (walk_at "my enterC")
  k_steps
  unfold Stopped
  k_dflt (refine ListComp_S (by k_asm) (by with_unfolding_all rfl) (by decide) (by rfl) (by decide) (by rfl) ?_)
  k_steps
  · k_asm
  · k_asm
  rename (∃ _, _ = _) => hs9
  obtain ⟨hh9, rfl⟩ := hs9
  refine (show LCg.CompRest _ _ _ _ _ _ _ _ _ _ _ _ _ _ _ 2 0 [] _ from ?_)
  refine LCg.CompRest.succ ?_
  intro v I oI C oC D m2 h2 tk2 E2 hv hC hx F2 N2 off ne
  obtain ⟨c, u, hc, rfl⟩ := hv
  have e : p = c := by simpa [S] using hc
  subst e
  change m2 _ = some (.str (S [p]) u) at hx
  k_steps
  refine LCg.CompEnd.intro (by k_asm) (by k_asm) _ (fun _ hp => hp) off trivial ?_
  clear hc hx hC off ne N2 F2
  refine LCg.CompRest.succ ?_
  intro v I oI C oC D m2 h2 tk2 E2 hv hC hx F2 N2 off ne
  obtain ⟨c, u, hc, rfl⟩ := hv
  have e : q = c := by simpa [S] using hc
  subst e
  change m2 _ = some (.str (S [q]) u) at hx
  k_steps
  refine LCg.CompEnd.intro (by k_asm) (by k_asm) _ (fun _ hp => hp) off trivial ?_
  refine LCg.CompRest.zero ?_
  unfold LCg.FinE
  intro D5 h5 tk5 F5 N5 o5
  try dsimp only
  k_steps
  refine join_list (ys := [S (esc4 p), S (esc4 q)]) (News.isList (by k_asm) (.head _)) (by repeat constructor) ?_ ?_
  · have h1 := esc4_len p
    have h2 := esc4_len q
    have h3 : (Str.ofString "").length = 0 := by decide +kernel
    simp only [List.map_cons, List.map_nil, List.sum_cons, List.sum_nil, S_length, h3, List.length_cons, List.length_nil]
    omega
  intro t6 k6
  rw [join2]
  k_steps
  exact ret _ _ _ (by k_asm) (cb_drop (by k_asm) (fun _ hp => .tail _ (.tail _ hp)))
def escScope : Scope := fnS (PySem.Challenge.pw_mr0358_01.main.body.getD 5 default)
example : escScope = fnS (PySem.Challenge.pw_mr0358_01.main.body.getD 4 default) := rfl
example : escScope = fnS (PySem.Challenge.pw_mr0358_01.main.body.getD 6 default) := rfl
example : escScope = fnS (PySem.Challenge.pw_mr0358_01.main.body.getD 7 default) := rfl
example : escScope = fnS (PySem.Challenge.pw_mr0358_01.main.body.getD 8 default) := rfl
theorem fr_same {h₀ h : Heap} {L : Addr} {m m' : Str → Option Value} (F : Fr h₀ L h m) (e : ∀ y, m y = m' y) : Fr h₀ L h m' := by
  have : m = m' := funext e
  rw [← this]; exact F
theorem replace_absent {x y z : Str} (h : (Builtin.Str.occurrences x y 0 x.length 1).isEmpty = true) : Txt.replace x y z = x := by
  have e : (Builtin.Str.occurrences x y 0 x.length (x.length + 1)).isEmpty = true := by
    have hn : ∀ i ∈ Builtin.Str.occurrences x y 0 x.length (x.length + 1), False := by
      intro i hi
      obtain ⟨h1, h2⟩ := StrLaws.occ_spec x y 0 x.length (x.length + 1) i hi
      have := (StrLaws.found_iff x y).mpr ⟨i, h1, h2⟩
      rw [h] at this
      exact Bool.noConfusion this
    cases hq : Builtin.Str.occurrences x y 0 x.length (x.length + 1) with
    | nil => rfl
    | cons i r => exact (hn i (by rw [hq]; exact List.mem_cons_self)).elim
  unfold Txt.replace
  rw [e]
  rfl
theorem escIf {w : World} {A : Around} {h₀ : Heap} {L : Addr} {m : Str → Option Value} {news : List (Addr × Obj)} {s : Shared} {Q : Flow → Shared → Prop} {E : Value → Shared → Prop} {x cst rpl : Str} {t : Tok} {nm : Str} {fa : Addr} {cdv : Value} {k1 k2 k3 : Nat} {p1 p2 p3 p4 p5 p6 p7 p8 p9 p10 p11 : Pos}
    (X : (hd.heap_39 w.params).In h₀) (F : Fr h₀ L s.heap m) (N : News h₀ L s.heap news) (hm : m (Str.ofString "text") = some (.str x t)) (hx : x.length ≤ 1000) (hr : rpl.length ≤ 10) (hyz : (cst == rpl) = false) (hpl : (p6.endLine == p9.line) = true)
    (h : ∀ t' h' tk', Fr h₀ L h' (fun y => if y = Str.ofString "text" then some (.str (Txt.replace x cst rpl) t') else m y) → News h₀ L h' news → Q .next { s with heap := h', toks := tk' }) :
    wpAny (model PySem.Challenge.rw_mr0358_01.row.prog w) A (exec (Stmt.If (Expr.Compare (Expr.Constant (Const.str cst) k1 p1) [CmpOp.In] [Expr.Name (Str.ofString "text") p2] p3) [Stmt.Assign [Expr.Name (Str.ofString "text") p4] (Expr.Call (Expr.Attribute (Expr.Name (Str.ofString "text") p5) (Str.ofString "replace") p6) [Expr.Constant (Const.str cst) k2 p7, Expr.Constant (Const.str rpl) k3 p8] [] p9) p10] [] p11) (envOf nm escScope L fa cdv)) Q E s := by
  have F' : Fr h₀ L s.heap (fun y => if y = Str.ofString "text" then some (.str x t) else m y) := by
    have e : (fun y => if y = Str.ofString "text" then some (.str x t) else m y) = m := by
      funext y
      by_cases hy : y = Str.ofString "text"
      · rw [if_pos hy, hy, hm]
      · rw [if_neg hy]
    rw [e]; exact F
  clear F
  k_with_none
  revert X; k_fill; intro X
  k_with "my execs" => (refine stopAt ?_)
  k_steps
  · rename ((Builtin.Str.occurrences _ _ _ _ _).isEmpty = true) => ho
    rw [replace_absent ho] at h
    exact h _ _ _ (by k_asm) (by k_asm)
  unfold Stopped
  have hk0 : 1 ≤ s.toks + 1 := by omega
  generalize s.toks + 1 = tk0 at hk0 ⊢
  k_with_none
  k_steps
  refine MethodCall_ (pl := do return (← importBound (Expr.Name (Str.ofString "text") p5) (envOf nm escScope L fa cdv)).getD true) ?_ (he := ?he)
  case he =>
    show (do
      let ov ← attributeBase (Expr.Name (Str.ofString "text") p5) (Str.ofString "replace") (envOf nm escScope L fa cdv) (eval (Expr.Name (Str.ofString "text") p5) (envOf nm escScope L fa cdv))
      standAt p6.atName
      methodCall (Expr.Name (Str.ofString "text") p5) (Str.ofString "replace") p6 p9 (envOf nm escScope L fa cdv) ov 2 (backTo p9 (starEach [Expr.Constant (Const.str cst) k2 p7, Expr.Constant (Const.str rpl) k3 p8] (envOf nm escScope L fa cdv))) []) = _
    unfold methodCall methodCallPos
    rw [hpl]
    rfl
  k_steps
  refine SC.replace (show (tk0 : Nat) ≠ 0 by omega) (show (tk0 + 1 : Nat) ≠ 0 by omega) (show (tk0 : Nat) ≠ tk0 + 1 by omega) hyz ?_ ?_
  · have := Nat.mul_le_mul (Nat.add_le_add_right hx 1) hr
    omega
  · intro t7 k7
    k_steps
    refine h t7 _ _ ?_ (by k_asm)
    rename (Fr _ _ _ _) => F9
    exact fr_same F9 (fun y => by by_cases hy : y = Str.ofString "text" <;> simp [hy])
def sg : List Nat := [97, 32, 34, 39, 60, 62, 38, 10, 9, 13, 92, 61, 47, 59, 35, 233]
def rep (c : Nat) (r : List Nat) (l : List Nat) : List Nat := l.flatMap (fun k => if k = c then r else [k])
theorem rep_free (c : Nat) (r : List Nat) : ∀ l : List Nat, c ∉ l → rep c r l = l
  | [], _ => rfl
  | k :: t, h => by
    have h1 : ¬ k = c := fun e => h (e ▸ List.mem_cons_self ..)
    have h2 : c ∉ t := fun m => h (List.mem_cons_of_mem _ m)
    have e := rep_free c r t h2
    unfold rep at e ⊢
    rw [List.flatMap_cons, if_neg h1, e]; rfl
theorem rep_append (c : Nat) (r a b : List Nat) : rep c r (a ++ b) = rep c r a ++ rep c r b := by
  unfold rep; rw [List.flatMap_append]
theorem rep_one (c : Nat) (r : List Nat) : rep c r [c] = r := by simp [rep]
theorem rep_join (c : Nat) (r : List Nat) : ∀ parts : List Str, (∀ p ∈ parts, c ∉ p.cps.toList) → rep c r (Str.join ⟨#[c]⟩ parts).cps.toList = (Str.join (S r) parts).cps.toList
  | [], _ => rfl
  | [p], h => rep_free c r _ (h p (List.mem_singleton.mpr rfl))
  | p :: q :: t, h => by
    have ih := rep_join c r (q :: t) fun a ha => h a (List.mem_cons_of_mem _ ha)
    show rep c r (p ++ ⟨#[c]⟩ ++ Str.join ⟨#[c]⟩ (q :: t)).cps.toList = (p ++ S r ++ Str.join (S r) (q :: t)).cps.toList
    simp only [Str.cps_append, Array.toList_append]
    rw [rep_append, rep_append, ih, rep_free c r _ (h p (List.mem_cons_self ..))]
    show p.cps.toList ++ rep c r [c] ++ _ = _
    rw [rep_one]; simp [S]
theorem replace_S (l : List Nat) (c : Nat) (r : List Nat) : Txt.replace (S l) (S [c]) (S r) = S (rep c r l) := by
  have h : (Txt.replace (S l) (S [c]) (S r)).cps.toList = rep c r l := by
    show (Txt.replace (S l) ⟨#[c]⟩ (S r)).cps.toList = _
    rw [StrLaws.replace_one, ← rep_join c r _ (StrLaws.split_free (S l) c), StrLaws.join_split]
    simp [S]
  apply Str.ext'
  rw [← Array.toList_inj, h]; simp [S]
theorem oc0 : Str.ofString "&" = S [38] := by decide +kernel
theorem oc1 : Str.ofString "<" = S [60] := by decide +kernel
theorem oc2 : Str.ofString ">" = S [62] := by decide +kernel
theorem oc3 : Str.ofString "\"" = S [34] := by decide +kernel
theorem oc4 : Str.ofString "\r" = S [13] := by decide +kernel
theorem oc5 : Str.ofString "\n" = S [10] := by decide +kernel
theorem oc6 : Str.ofString "\t" = S [9] := by decide +kernel
theorem or0 : Str.ofString "&amp;" = S [38, 97, 109, 112, 59] := by decide +kernel
theorem or1 : Str.ofString "&lt;" = S [38, 108, 116, 59] := by decide +kernel
theorem or2 : Str.ofString "&gt;" = S [38, 103, 116, 59] := by decide +kernel
theorem or3 : Str.ofString "&quot;" = S [38, 113, 117, 111, 116, 59] := by decide +kernel
theorem or4 : Str.ofString "&#13;" = S [38, 35, 49, 51, 59] := by decide +kernel
theorem or5 : Str.ofString "&#10;" = S [38, 35, 49, 48, 59] := by decide +kernel
theorem or6 : Str.ofString "&#09;" = S [38, 35, 48, 57, 59] := by decide +kernel
theorem or7 : Str.ofString "&#x9;" = S [38, 35, 120, 57, 59] := by decide +kernel
theorem or8 : Str.ofString "&#xA;" = S [38, 35, 120, 65, 59] := by decide +kernel
theorem or9 : Str.ofString "&#xD;" = S [38, 35, 120, 68, 59] := by decide +kernel
theorem len0_0 : ∀ p ∈ sg, ∀ q ∈ sg, Str.length (Txt.replace (S [p, q]) (Str.ofString "&") (Str.ofString "&amp;")) ≤ 1000 := by
  intro p hp q hq
  simp only [oc0, oc1, oc2, oc3, oc4, oc5, oc6, or0, or1, or2, or3, or4, or5, or6, or7, or8, or9, replace_S, S_length]
  revert p q
  decide +kernel
theorem len0_1 : ∀ p ∈ sg, ∀ q ∈ sg, Str.length (Txt.replace (Txt.replace (S [p, q]) (Str.ofString "&") (Str.ofString "&amp;")) (Str.ofString "<") (Str.ofString "&lt;")) ≤ 1000 := by
  intro p hp q hq
  simp only [oc0, oc1, oc2, oc3, oc4, oc5, oc6, or0, or1, or2, or3, or4, or5, or6, or7, or8, or9, replace_S, S_length]
  revert p q
  decide +kernel
theorem len0_2 : ∀ p ∈ sg, ∀ q ∈ sg, Str.length (Txt.replace (Txt.replace (Txt.replace (S [p, q]) (Str.ofString "&") (Str.ofString "&amp;")) (Str.ofString "<") (Str.ofString "&lt;")) (Str.ofString ">") (Str.ofString "&gt;")) ≤ 1000 := by
  intro p hp q hq
  simp only [oc0, oc1, oc2, oc3, oc4, oc5, oc6, or0, or1, or2, or3, or4, or5, or6, or7, or8, or9, replace_S, S_length]
  revert p q
  decide +kernel
theorem len0_3 : ∀ p ∈ sg, ∀ q ∈ sg, Str.length (Txt.replace (Txt.replace (Txt.replace (Txt.replace (S [p, q]) (Str.ofString "&") (Str.ofString "&amp;")) (Str.ofString "<") (Str.ofString "&lt;")) (Str.ofString ">") (Str.ofString "&gt;")) (Str.ofString "\"") (Str.ofString "&quot;")) ≤ 1000 := by
  intro p hp q hq
  simp only [oc0, oc1, oc2, oc3, oc4, oc5, oc6, or0, or1, or2, or3, or4, or5, or6, or7, or8, or9, replace_S, S_length]
  revert p q
  decide +kernel
theorem len0_4 : ∀ p ∈ sg, ∀ q ∈ sg, Str.length (Txt.replace (Txt.replace (Txt.replace (Txt.replace (Txt.replace (S [p, q]) (Str.ofString "&") (Str.ofString "&amp;")) (Str.ofString "<") (Str.ofString "&lt;")) (Str.ofString ">") (Str.ofString "&gt;")) (Str.ofString "\"") (Str.ofString "&quot;")) (Str.ofString "\r") (Str.ofString "&#13;")) ≤ 1000 := by
  intro p hp q hq
  simp only [oc0, oc1, oc2, oc3, oc4, oc5, oc6, or0, or1, or2, or3, or4, or5, or6, or7, or8, or9, replace_S, S_length]
  revert p q
  decide +kernel
theorem len0_5 : ∀ p ∈ sg, ∀ q ∈ sg, Str.length (Txt.replace (Txt.replace (Txt.replace (Txt.replace (Txt.replace (Txt.replace (S [p, q]) (Str.ofString "&") (Str.ofString "&amp;")) (Str.ofString "<") (Str.ofString "&lt;")) (Str.ofString ">") (Str.ofString "&gt;")) (Str.ofString "\"") (Str.ofString "&quot;")) (Str.ofString "\r") (Str.ofString "&#13;")) (Str.ofString "\n") (Str.ofString "&#10;")) ≤ 1000 := by
  intro p hp q hq
  simp only [oc0, oc1, oc2, oc3, oc4, oc5, oc6, or0, or1, or2, or3, or4, or5, or6, or7, or8, or9, replace_S, S_length]
  revert p q
  decide +kernel
theorem len0_6 : ∀ p ∈ sg, ∀ q ∈ sg, Str.length (Txt.replace (Txt.replace (Txt.replace (Txt.replace (Txt.replace (Txt.replace (Txt.replace (S [p, q]) (Str.ofString "&") (Str.ofString "&amp;")) (Str.ofString "<") (Str.ofString "&lt;")) (Str.ofString ">") (Str.ofString "&gt;")) (Str.ofString "\"") (Str.ofString "&quot;")) (Str.ofString "\r") (Str.ofString "&#13;")) (Str.ofString "\n") (Str.ofString "&#10;")) (Str.ofString "\t") (Str.ofString "&#09;")) ≤ 1000 := by
  intro p hp q hq
  simp only [oc0, oc1, oc2, oc3, oc4, oc5, oc6, or0, or1, or2, or3, or4, or5, or6, or7, or8, or9, replace_S, S_length]
  revert p q
  decide +kernel
theorem chain0 : ∀ p ∈ sg, ∀ q ∈ sg, (Txt.replace (Txt.replace (Txt.replace (Txt.replace (Txt.replace (Txt.replace (Txt.replace (S [p, q]) (Str.ofString "&") (Str.ofString "&amp;")) (Str.ofString "<") (Str.ofString "&lt;")) (Str.ofString ">") (Str.ofString "&gt;")) (Str.ofString "\"") (Str.ofString "&quot;")) (Str.ofString "\r") (Str.ofString "&#13;")) (Str.ofString "\n") (Str.ofString "&#10;")) (Str.ofString "\t") (Str.ofString "&#09;")) = S (esc0 p ++ esc0 q) := by
  intro p hp q hq
  simp only [oc0, oc1, oc2, oc3, oc4, oc5, oc6, or0, or1, or2, or3, or4, or5, or6, or7, or8, or9, replace_S]
  refine congrArg S ?_
  revert p q
  decide +kernel
theorem escape0 {w : World} {loose : List Str} {mean : ExcName → Option Value} {mg mb : Str → Option Value}
    {dp un : Nat} {gd : Option (List Code)} {cn : Str} {cs : Scope} {a : Addr} {ccd : Value} {cl : List (Str × Addr)} {outer : List Env} {A₀ : Around} {base h₀ : Heap} {L : Addr} {m : Str → Option Value} {s : Shared} {Q E : Value → Shared → Prop}
    {rest : List (Addr × Obj)} {p q : Nat} {tb : Tok}
    (B : Below A₀ base outer h₀) (F : Fr h₀ L s.heap m) (X : (hd.heap_39 w.params).In h₀) (T : Top hd.view_39 loose mean mg mb h₀) (hk : cs.kind = .function)
    (N : News h₀ L s.heap rest) (hp : p ∈ sg) (hq : q ∈ sg)
    (hd1 : dp + 3 < recursionLimit) (hu : un + 100 < cLine)
    (ret : ∀ (t : Tok) (h' : Heap) (tk' : Nat), Fr h₀ L h' m → News h₀ L h' rest → Q (.str (S (esc0 p ++ esc0 q)) t) { s with heap := h', toks := tk' }) :
    wpAny (model PySem.Challenge.rw_mr0358_01.row.prog w) (ktrTop dp un gd cn cs L a ccd cl outer) (call (.ref 60) [.str (S [p, q]) tb]) Q E s := by
  k_with_none
  have hl0 : (S [p, q]).length ≤ 1000 := by rw [S_length]; exact (by decide : 2 ≤ 1000)
  k_with "my if" => (k_dflt (refine' escIf ?k1 ?k2 ?k3 ?k4 ?k5 ?k6 ?k7 ?k8 ?_; (case k1 => k_asm); (case k2 => k_asm); (case k3 => k_asm); (case k4 => exact rfl); (case k5 => with_reducible (first | exact hl0 | exact len0_0 p hp q hq | exact len0_1 p hp q hq | exact len0_2 p hp q hq | exact len0_3 p hp q hq | exact len0_4 p hp q hq | exact len0_5 p hp q hq | exact len0_6 p hp q hq)); (case k6 => decide +kernel); (case k7 => decide +kernel); (case k8 => exact rfl); k_whole; intro t9 h9 tk9 F9 N9; (try k_sweep); (try dsimp only); (try k_fold)))
  revert X; k_fill; intro X
  refine wpAny_call ?_
  k_dflt (walk_at "my enter")
  k_steps
  rw [chain0 p hp q hq]
  exact ret _ _ _ (by k_asm) (by k_asm)
theorem len1_0 : ∀ p ∈ sg, ∀ q ∈ sg, Str.length (Txt.replace (S [p, q]) (Str.ofString "&") (Str.ofString "&amp;")) ≤ 1000 := by
  intro p hp q hq
  simp only [oc0, oc1, oc2, oc3, oc4, oc5, oc6, or0, or1, or2, or3, or4, or5, or6, or7, or8, or9, replace_S, S_length]
  revert p q
  decide +kernel
theorem len1_1 : ∀ p ∈ sg, ∀ q ∈ sg, Str.length (Txt.replace (Txt.replace (S [p, q]) (Str.ofString "&") (Str.ofString "&amp;")) (Str.ofString "<") (Str.ofString "&lt;")) ≤ 1000 := by
  intro p hp q hq
  simp only [oc0, oc1, oc2, oc3, oc4, oc5, oc6, or0, or1, or2, or3, or4, or5, or6, or7, or8, or9, replace_S, S_length]
  revert p q
  decide +kernel
theorem len1_2 : ∀ p ∈ sg, ∀ q ∈ sg, Str.length (Txt.replace (Txt.replace (Txt.replace (S [p, q]) (Str.ofString "&") (Str.ofString "&amp;")) (Str.ofString "<") (Str.ofString "&lt;")) (Str.ofString "\"") (Str.ofString "&quot;")) ≤ 1000 := by
  intro p hp q hq
  simp only [oc0, oc1, oc2, oc3, oc4, oc5, oc6, or0, or1, or2, or3, or4, or5, or6, or7, or8, or9, replace_S, S_length]
  revert p q
  decide +kernel
theorem len1_3 : ∀ p ∈ sg, ∀ q ∈ sg, Str.length (Txt.replace (Txt.replace (Txt.replace (Txt.replace (S [p, q]) (Str.ofString "&") (Str.ofString "&amp;")) (Str.ofString "<") (Str.ofString "&lt;")) (Str.ofString "\"") (Str.ofString "&quot;")) (Str.ofString "\t") (Str.ofString "&#x9;")) ≤ 1000 := by
  intro p hp q hq
  simp only [oc0, oc1, oc2, oc3, oc4, oc5, oc6, or0, or1, or2, or3, or4, or5, or6, or7, or8, or9, replace_S, S_length]
  revert p q
  decide +kernel
theorem len1_4 : ∀ p ∈ sg, ∀ q ∈ sg, Str.length (Txt.replace (Txt.replace (Txt.replace (Txt.replace (Txt.replace (S [p, q]) (Str.ofString "&") (Str.ofString "&amp;")) (Str.ofString "<") (Str.ofString "&lt;")) (Str.ofString "\"") (Str.ofString "&quot;")) (Str.ofString "\t") (Str.ofString "&#x9;")) (Str.ofString "\n") (Str.ofString "&#xA;")) ≤ 1000 := by
  intro p hp q hq
  simp only [oc0, oc1, oc2, oc3, oc4, oc5, oc6, or0, or1, or2, or3, or4, or5, or6, or7, or8, or9, replace_S, S_length]
  revert p q
  decide +kernel
theorem len1_5 : ∀ p ∈ sg, ∀ q ∈ sg, Str.length (Txt.replace (Txt.replace (Txt.replace (Txt.replace (Txt.replace (Txt.replace (S [p, q]) (Str.ofString "&") (Str.ofString "&amp;")) (Str.ofString "<") (Str.ofString "&lt;")) (Str.ofString "\"") (Str.ofString "&quot;")) (Str.ofString "\t") (Str.ofString "&#x9;")) (Str.ofString "\n") (Str.ofString "&#xA;")) (Str.ofString "\r") (Str.ofString "&#xD;")) ≤ 1000 := by
  intro p hp q hq
  simp only [oc0, oc1, oc2, oc3, oc4, oc5, oc6, or0, or1, or2, or3, or4, or5, or6, or7, or8, or9, replace_S, S_length]
  revert p q
  decide +kernel
theorem chain1 : ∀ p ∈ sg, ∀ q ∈ sg, (Txt.replace (Txt.replace (Txt.replace (Txt.replace (Txt.replace (Txt.replace (S [p, q]) (Str.ofString "&") (Str.ofString "&amp;")) (Str.ofString "<") (Str.ofString "&lt;")) (Str.ofString "\"") (Str.ofString "&quot;")) (Str.ofString "\t") (Str.ofString "&#x9;")) (Str.ofString "\n") (Str.ofString "&#xA;")) (Str.ofString "\r") (Str.ofString "&#xD;")) = S (esc1 p ++ esc1 q) := by
  intro p hp q hq
  simp only [oc0, oc1, oc2, oc3, oc4, oc5, oc6, or0, or1, or2, or3, or4, or5, or6, or7, or8, or9, replace_S]
  refine congrArg S ?_
  revert p q
  decide +kernel
theorem escape1 {w : World} {loose : List Str} {mean : ExcName → Option Value} {mg mb : Str → Option Value}
    {dp un : Nat} {gd : Option (List Code)} {cn : Str} {cs : Scope} {a : Addr} {ccd : Value} {cl : List (Str × Addr)} {outer : List Env} {A₀ : Around} {base h₀ : Heap} {L : Addr} {m : Str → Option Value} {s : Shared} {Q E : Value → Shared → Prop}
    {rest : List (Addr × Obj)} {p q : Nat} {tb : Tok}
    (B : Below A₀ base outer h₀) (F : Fr h₀ L s.heap m) (X : (hd.heap_39 w.params).In h₀) (T : Top hd.view_39 loose mean mg mb h₀) (hk : cs.kind = .function)
    (N : News h₀ L s.heap rest) (hp : p ∈ sg) (hq : q ∈ sg)
    (hd1 : dp + 3 < recursionLimit) (hu : un + 100 < cLine)
    (ret : ∀ (t : Tok) (h' : Heap) (tk' : Nat), Fr h₀ L h' m → News h₀ L h' rest → Q (.str (S (esc1 p ++ esc1 q)) t) { s with heap := h', toks := tk' }) :
    wpAny (model PySem.Challenge.rw_mr0358_01.row.prog w) (ktrTop dp un gd cn cs L a ccd cl outer) (call (.ref 81) [.str (S [p, q]) tb]) Q E s := by
  k_with_none
  have hl0 : (S [p, q]).length ≤ 1000 := by rw [S_length]; exact (by decide : 2 ≤ 1000)
  k_with "my if" => (k_dflt (refine' escIf ?k1 ?k2 ?k3 ?k4 ?k5 ?k6 ?k7 ?k8 ?_; (case k1 => k_asm); (case k2 => k_asm); (case k3 => k_asm); (case k4 => exact rfl); (case k5 => with_reducible (first | exact hl0 | exact len1_0 p hp q hq | exact len1_1 p hp q hq | exact len1_2 p hp q hq | exact len1_3 p hp q hq | exact len1_4 p hp q hq | exact len1_5 p hp q hq)); (case k6 => decide +kernel); (case k7 => decide +kernel); (case k8 => exact rfl); k_whole; intro t9 h9 tk9 F9 N9; (try k_sweep); (try dsimp only); (try k_fold)))
  revert X; k_fill; intro X
  refine wpAny_call ?_
  k_dflt (walk_at "my enter")
  k_steps
  rw [chain1 p hp q hq]
  exact ret _ _ _ (by k_asm) (by k_asm)
theorem len2_0 : ∀ p ∈ sg, ∀ q ∈ sg, Str.length (Txt.replace (S [p, q]) (Str.ofString "&") (Str.ofString "&amp;")) ≤ 1000 := by
  intro p hp q hq
  simp only [oc0, oc1, oc2, oc3, oc4, oc5, oc6, or0, or1, or2, or3, or4, or5, or6, or7, or8, or9, replace_S, S_length]
  revert p q
  decide +kernel
theorem len2_1 : ∀ p ∈ sg, ∀ q ∈ sg, Str.length (Txt.replace (Txt.replace (S [p, q]) (Str.ofString "&") (Str.ofString "&amp;")) (Str.ofString ">") (Str.ofString "&gt;")) ≤ 1000 := by
  intro p hp q hq
  simp only [oc0, oc1, oc2, oc3, oc4, oc5, oc6, or0, or1, or2, or3, or4, or5, or6, or7, or8, or9, replace_S, S_length]
  revert p q
  decide +kernel
theorem len2_2 : ∀ p ∈ sg, ∀ q ∈ sg, Str.length (Txt.replace (Txt.replace (Txt.replace (S [p, q]) (Str.ofString "&") (Str.ofString "&amp;")) (Str.ofString ">") (Str.ofString "&gt;")) (Str.ofString "\"") (Str.ofString "&quot;")) ≤ 1000 := by
  intro p hp q hq
  simp only [oc0, oc1, oc2, oc3, oc4, oc5, oc6, or0, or1, or2, or3, or4, or5, or6, or7, or8, or9, replace_S, S_length]
  revert p q
  decide +kernel
theorem chain2 : ∀ p ∈ sg, ∀ q ∈ sg, (Txt.replace (Txt.replace (Txt.replace (S [p, q]) (Str.ofString "&") (Str.ofString "&amp;")) (Str.ofString ">") (Str.ofString "&gt;")) (Str.ofString "\"") (Str.ofString "&quot;")) = S (esc2 p ++ esc2 q) := by
  intro p hp q hq
  simp only [oc0, oc1, oc2, oc3, oc4, oc5, oc6, or0, or1, or2, or3, or4, or5, or6, or7, or8, or9, replace_S]
  refine congrArg S ?_
  revert p q
  decide +kernel
theorem escape2 {w : World} {loose : List Str} {mean : ExcName → Option Value} {mg mb : Str → Option Value}
    {dp un : Nat} {gd : Option (List Code)} {cn : Str} {cs : Scope} {a : Addr} {ccd : Value} {cl : List (Str × Addr)} {outer : List Env} {A₀ : Around} {base h₀ : Heap} {L : Addr} {m : Str → Option Value} {s : Shared} {Q E : Value → Shared → Prop}
    {rest : List (Addr × Obj)} {p q : Nat} {tb : Tok}
    (B : Below A₀ base outer h₀) (F : Fr h₀ L s.heap m) (X : (hd.heap_39 w.params).In h₀) (T : Top hd.view_39 loose mean mg mb h₀) (hk : cs.kind = .function)
    (N : News h₀ L s.heap rest) (hp : p ∈ sg) (hq : q ∈ sg)
    (hd1 : dp + 3 < recursionLimit) (hu : un + 100 < cLine)
    (ret : ∀ (t : Tok) (h' : Heap) (tk' : Nat), Fr h₀ L h' m → News h₀ L h' rest → Q (.str (S (esc2 p ++ esc2 q)) t) { s with heap := h', toks := tk' }) :
    wpAny (model PySem.Challenge.rw_mr0358_01.row.prog w) (ktrTop dp un gd cn cs L a ccd cl outer) (call (.ref 67) [.str (S [p, q]) tb]) Q E s := by
  k_with_none
  have hl0 : (S [p, q]).length ≤ 1000 := by rw [S_length]; exact (by decide : 2 ≤ 1000)
  k_with "my if" => (k_dflt (refine' escIf ?k1 ?k2 ?k3 ?k4 ?k5 ?k6 ?k7 ?k8 ?_; (case k1 => k_asm); (case k2 => k_asm); (case k3 => k_asm); (case k4 => exact rfl); (case k5 => with_reducible (first | exact hl0 | exact len2_0 p hp q hq | exact len2_1 p hp q hq | exact len2_2 p hp q hq)); (case k6 => decide +kernel); (case k7 => decide +kernel); (case k8 => exact rfl); k_whole; intro t9 h9 tk9 F9 N9; (try k_sweep); (try dsimp only); (try k_fold)))
  revert X; k_fill; intro X
  refine wpAny_call ?_
  k_dflt (walk_at "my enter")
  k_steps
  rw [chain2 p hp q hq]
  exact ret _ _ _ (by k_asm) (by k_asm)
theorem len3_0 : ∀ p ∈ sg, ∀ q ∈ sg, Str.length (Txt.replace (S [p, q]) (Str.ofString "&") (Str.ofString "&amp;")) ≤ 1000 := by
  intro p hp q hq
  simp only [oc0, oc1, oc2, oc3, oc4, oc5, oc6, or0, or1, or2, or3, or4, or5, or6, or7, or8, or9, replace_S, S_length]
  revert p q
  decide +kernel
theorem len3_1 : ∀ p ∈ sg, ∀ q ∈ sg, Str.length (Txt.replace (Txt.replace (S [p, q]) (Str.ofString "&") (Str.ofString "&amp;")) (Str.ofString "<") (Str.ofString "&lt;")) ≤ 1000 := by
  intro p hp q hq
  simp only [oc0, oc1, oc2, oc3, oc4, oc5, oc6, or0, or1, or2, or3, or4, or5, or6, or7, or8, or9, replace_S, S_length]
  revert p q
  decide +kernel
theorem len3_2 : ∀ p ∈ sg, ∀ q ∈ sg, Str.length (Txt.replace (Txt.replace (Txt.replace (S [p, q]) (Str.ofString "&") (Str.ofString "&amp;")) (Str.ofString "<") (Str.ofString "&lt;")) (Str.ofString ">") (Str.ofString "&gt;")) ≤ 1000 := by
  intro p hp q hq
  simp only [oc0, oc1, oc2, oc3, oc4, oc5, oc6, or0, or1, or2, or3, or4, or5, or6, or7, or8, or9, replace_S, S_length]
  revert p q
  decide +kernel
theorem chain3 : ∀ p ∈ sg, ∀ q ∈ sg, (Txt.replace (Txt.replace (Txt.replace (S [p, q]) (Str.ofString "&") (Str.ofString "&amp;")) (Str.ofString "<") (Str.ofString "&lt;")) (Str.ofString ">") (Str.ofString "&gt;")) = S (esc3 p ++ esc3 q) := by
  intro p hp q hq
  simp only [oc0, oc1, oc2, oc3, oc4, oc5, oc6, or0, or1, or2, or3, or4, or5, or6, or7, or8, or9, replace_S]
  refine congrArg S ?_
  revert p q
  decide +kernel
theorem escape3 {w : World} {loose : List Str} {mean : ExcName → Option Value} {mg mb : Str → Option Value}
    {dp un : Nat} {gd : Option (List Code)} {cn : Str} {cs : Scope} {a : Addr} {ccd : Value} {cl : List (Str × Addr)} {outer : List Env} {A₀ : Around} {base h₀ : Heap} {L : Addr} {m : Str → Option Value} {s : Shared} {Q E : Value → Shared → Prop}
    {rest : List (Addr × Obj)} {p q : Nat} {tb : Tok}
    (B : Below A₀ base outer h₀) (F : Fr h₀ L s.heap m) (X : (hd.heap_39 w.params).In h₀) (T : Top hd.view_39 loose mean mg mb h₀) (hk : cs.kind = .function)
    (N : News h₀ L s.heap rest) (hp : p ∈ sg) (hq : q ∈ sg)
    (hd1 : dp + 3 < recursionLimit) (hu : un + 100 < cLine)
    (ret : ∀ (t : Tok) (h' : Heap) (tk' : Nat), Fr h₀ L h' m → News h₀ L h' rest → Q (.str (S (esc3 p ++ esc3 q)) t) { s with heap := h', toks := tk' }) :
    wpAny (model PySem.Challenge.rw_mr0358_01.row.prog w) (ktrTop dp un gd cn cs L a ccd cl outer) (call (.ref 53) [.str (S [p, q]) tb]) Q E s := by
  k_with_none
  have hl0 : (S [p, q]).length ≤ 1000 := by rw [S_length]; exact (by decide : 2 ≤ 1000)
  k_with "my if" => (k_dflt (refine' escIf ?k1 ?k2 ?k3 ?k4 ?k5 ?k6 ?k7 ?k8 ?_; (case k1 => k_asm); (case k2 => k_asm); (case k3 => k_asm); (case k4 => exact rfl); (case k5 => with_reducible (first | exact hl0 | exact len3_0 p hp q hq | exact len3_1 p hp q hq | exact len3_2 p hp q hq)); (case k6 => decide +kernel); (case k7 => decide +kernel); (case k8 => exact rfl); k_whole; intro t9 h9 tk9 F9 N9; (try k_sweep); (try dsimp only); (try k_fold)))
  revert X; k_fill; intro X
  refine wpAny_call ?_
  k_dflt (walk_at "my enter")
  k_steps
  rw [chain3 p hp q hq]
  exact ret _ _ _ (by k_asm) (by k_asm)
theorem len4_0 : ∀ p ∈ sg, ∀ q ∈ sg, Str.length (Txt.replace (S [p, q]) (Str.ofString "&") (Str.ofString "&amp;")) ≤ 1000 := by
  intro p hp q hq
  simp only [oc0, oc1, oc2, oc3, oc4, oc5, oc6, or0, or1, or2, or3, or4, or5, or6, or7, or8, or9, replace_S, S_length]
  revert p q
  decide +kernel
theorem len4_1 : ∀ p ∈ sg, ∀ q ∈ sg, Str.length (Txt.replace (Txt.replace (S [p, q]) (Str.ofString "&") (Str.ofString "&amp;")) (Str.ofString "<") (Str.ofString "&lt;")) ≤ 1000 := by
  intro p hp q hq
  simp only [oc0, oc1, oc2, oc3, oc4, oc5, oc6, or0, or1, or2, or3, or4, or5, or6, or7, or8, or9, replace_S, S_length]
  revert p q
  decide +kernel
theorem len4_2 : ∀ p ∈ sg, ∀ q ∈ sg, Str.length (Txt.replace (Txt.replace (Txt.replace (S [p, q]) (Str.ofString "&") (Str.ofString "&amp;")) (Str.ofString "<") (Str.ofString "&lt;")) (Str.ofString ">") (Str.ofString "&gt;")) ≤ 1000 := by
  intro p hp q hq
  simp only [oc0, oc1, oc2, oc3, oc4, oc5, oc6, or0, or1, or2, or3, or4, or5, or6, or7, or8, or9, replace_S, S_length]
  revert p q
  decide +kernel
theorem len4_3 : ∀ p ∈ sg, ∀ q ∈ sg, Str.length (Txt.replace (Txt.replace (Txt.replace (Txt.replace (S [p, q]) (Str.ofString "&") (Str.ofString "&amp;")) (Str.ofString "<") (Str.ofString "&lt;")) (Str.ofString ">") (Str.ofString "&gt;")) (Str.ofString "\r") (Str.ofString "&#xD;")) ≤ 1000 := by
  intro p hp q hq
  simp only [oc0, oc1, oc2, oc3, oc4, oc5, oc6, or0, or1, or2, or3, or4, or5, or6, or7, or8, or9, replace_S, S_length]
  revert p q
  decide +kernel
theorem chain4 : ∀ p ∈ sg, ∀ q ∈ sg, (Txt.replace (Txt.replace (Txt.replace (Txt.replace (S [p, q]) (Str.ofString "&") (Str.ofString "&amp;")) (Str.ofString "<") (Str.ofString "&lt;")) (Str.ofString ">") (Str.ofString "&gt;")) (Str.ofString "\r") (Str.ofString "&#xD;")) = S (esc4 p ++ esc4 q) := by
  intro p hp q hq
  simp only [oc0, oc1, oc2, oc3, oc4, oc5, oc6, or0, or1, or2, or3, or4, or5, or6, or7, or8, or9, replace_S]
  refine congrArg S ?_
  revert p q
  decide +kernel
theorem escape4 {w : World} {loose : List Str} {mean : ExcName → Option Value} {mg mb : Str → Option Value}
    {dp un : Nat} {gd : Option (List Code)} {cn : Str} {cs : Scope} {a : Addr} {ccd : Value} {cl : List (Str × Addr)} {outer : List Env} {A₀ : Around} {base h₀ : Heap} {L : Addr} {m : Str → Option Value} {s : Shared} {Q E : Value → Shared → Prop}
    {rest : List (Addr × Obj)} {p q : Nat} {tb : Tok}
    (B : Below A₀ base outer h₀) (F : Fr h₀ L s.heap m) (X : (hd.heap_39 w.params).In h₀) (T : Top hd.view_39 loose mean mg mb h₀) (hk : cs.kind = .function)
    (N : News h₀ L s.heap rest) (hp : p ∈ sg) (hq : q ∈ sg)
    (hd1 : dp + 3 < recursionLimit) (hu : un + 100 < cLine)
    (ret : ∀ (t : Tok) (h' : Heap) (tk' : Nat), Fr h₀ L h' m → News h₀ L h' rest → Q (.str (S (esc4 p ++ esc4 q)) t) { s with heap := h', toks := tk' }) :
    wpAny (model PySem.Challenge.rw_mr0358_01.row.prog w) (ktrTop dp un gd cn cs L a ccd cl outer) (call (.ref 74) [.str (S [p, q]) tb]) Q E s := by
  k_with_none
  have hl0 : (S [p, q]).length ≤ 1000 := by rw [S_length]; exact (by decide : 2 ≤ 1000)
  k_with "my if" => (k_dflt (refine' escIf ?k1 ?k2 ?k3 ?k4 ?k5 ?k6 ?k7 ?k8 ?_; (case k1 => k_asm); (case k2 => k_asm); (case k3 => k_asm); (case k4 => exact rfl); (case k5 => with_reducible (first | exact hl0 | exact len4_0 p hp q hq | exact len4_1 p hp q hq | exact len4_2 p hp q hq | exact len4_3 p hp q hq)); (case k6 => decide +kernel); (case k7 => decide +kernel); (case k8 => exact rfl); k_whole; intro t9 h9 tk9 F9 N9; (try k_sweep); (try dsimp only); (try k_fold)))
  revert X; k_fill; intro X
  refine wpAny_call ?_
  k_dflt (walk_at "my enter")
  k_steps
  rw [chain4 p hp q hq]
  exact ret _ _ _ (by k_asm) (by k_asm)
theorem attribute0 {w : World} {loose : List Str} {mean : ExcName → Option Value} {mg mb : Str → Option Value}
    {dp un : Nat} {gd : Option (List Code)} {cn : Str} {cs : Scope} {a : Addr} {ccd : Value} {cl : List (Str × Addr)} {outer : List Env} {A₀ : Around} {base h₀ : Heap} {L : Addr} {m : Str → Option Value} {s : Shared} {Q E : Value → Shared → Prop}
    {rest : List (Addr × Obj)} {p q : Nat} {tb tw : Tok}
    (B : Below A₀ base outer h₀) (F : Fr h₀ L s.heap m) (X : (hd.heap_39 w.params).In h₀) (T : Top hd.view_39 loose mean mg mb h₀) (hk : cs.kind = .function)
    (N : News h₀ L s.heap rest) (hp : p ∈ sg) (hq : q ∈ sg)
    (hd1 : dp + 6 < recursionLimit) (hu : un + 200 < cLine)
    (ret : ∀ (t : Tok) (h' : Heap) (tk' : Nat), Fr h₀ L h' m → News h₀ L h' rest → Q (.str (S (esc0 p ++ esc0 q)) t) { s with heap := h', toks := tk' }) :
    wpAny (model PySem.Challenge.rw_mr0358_01.row.prog w) (ktrTop dp un gd cn cs L a ccd cl outer) (call (.ref 788) [.int 0 tw, .str (S [p, q]) tb]) Q E s := by
  k_with_none
  k_with "my call" => (k_dflt (refine' escape0 ?k1 ?k2 ?k3 ?k4 ?k5 ?k6 hp hq ?k7 ?k8 ?_; (case k1 => k_asm); (case k2 => k_asm); (case k3 => k_asm); (case k4 => k_asm); (case k5 => first | exact rfl | assumption); (case k6 => k_asm); (case k7 => ktr_room); (case k8 => ktr_units); k_whole; intro t9 h9 tk9 F9 N9; (try dsimp only); (try k_sweep); (try k_fold)))
  revert X; k_fill; intro X
  refine wpAny_call ?_
  k_dflt (walk_at "my enter")
  k_steps
  exact ret _ _ _ (by k_asm) (by k_asm)
theorem attribute1 {w : World} {loose : List Str} {mean : ExcName → Option Value} {mg mb : Str → Option Value}
    {dp un : Nat} {gd : Option (List Code)} {cn : Str} {cs : Scope} {a : Addr} {ccd : Value} {cl : List (Str × Addr)} {outer : List Env} {A₀ : Around} {base h₀ : Heap} {L : Addr} {m : Str → Option Value} {s : Shared} {Q E : Value → Shared → Prop}
    {rest : List (Addr × Obj)} {p q : Nat} {tb tw : Tok}
    (B : Below A₀ base outer h₀) (F : Fr h₀ L s.heap m) (X : (hd.heap_39 w.params).In h₀) (T : Top hd.view_39 loose mean mg mb h₀) (hk : cs.kind = .function)
    (N : News h₀ L s.heap rest) (hp : p ∈ sg) (hq : q ∈ sg)
    (hd1 : dp + 6 < recursionLimit) (hu : un + 200 < cLine)
    (ret : ∀ (t : Tok) (h' : Heap) (tk' : Nat), Fr h₀ L h' m → News h₀ L h' rest → Q (.str (S (esc1 p ++ esc1 q)) t) { s with heap := h', toks := tk' }) :
    wpAny (model PySem.Challenge.rw_mr0358_01.row.prog w) (ktrTop dp un gd cn cs L a ccd cl outer) (call (.ref 788) [.int 1 tw, .str (S [p, q]) tb]) Q E s := by
  k_with_none
  k_with "my call" => (k_dflt (refine' escape1 ?k1 ?k2 ?k3 ?k4 ?k5 ?k6 hp hq ?k7 ?k8 ?_; (case k1 => k_asm); (case k2 => k_asm); (case k3 => k_asm); (case k4 => k_asm); (case k5 => first | exact rfl | assumption); (case k6 => k_asm); (case k7 => ktr_room); (case k8 => ktr_units); k_whole; intro t9 h9 tk9 F9 N9; (try dsimp only); (try k_sweep); (try k_fold)))
  revert X; k_fill; intro X
  refine wpAny_call ?_
  k_dflt (walk_at "my enter")
  k_steps
  exact ret _ _ _ (by k_asm) (by k_asm)
theorem attribute2 {w : World} {loose : List Str} {mean : ExcName → Option Value} {mg mb : Str → Option Value}
    {dp un : Nat} {gd : Option (List Code)} {cn : Str} {cs : Scope} {a : Addr} {ccd : Value} {cl : List (Str × Addr)} {outer : List Env} {A₀ : Around} {base h₀ : Heap} {L : Addr} {m : Str → Option Value} {s : Shared} {Q E : Value → Shared → Prop}
    {rest : List (Addr × Obj)} {p q : Nat} {tb tw : Tok}
    (B : Below A₀ base outer h₀) (F : Fr h₀ L s.heap m) (X : (hd.heap_39 w.params).In h₀) (T : Top hd.view_39 loose mean mg mb h₀) (hk : cs.kind = .function)
    (N : News h₀ L s.heap rest) (hp : p ∈ sg) (hq : q ∈ sg)
    (hd1 : dp + 6 < recursionLimit) (hu : un + 200 < cLine)
    (ret : ∀ (t : Tok) (h' : Heap) (tk' : Nat), Fr h₀ L h' m → News h₀ L h' rest → Q (.str (S (esc2 p ++ esc2 q)) t) { s with heap := h', toks := tk' }) :
    wpAny (model PySem.Challenge.rw_mr0358_01.row.prog w) (ktrTop dp un gd cn cs L a ccd cl outer) (call (.ref 788) [.int 2 tw, .str (S [p, q]) tb]) Q E s := by
  k_with_none
  k_with "my call" => (k_dflt (refine' escape2 ?k1 ?k2 ?k3 ?k4 ?k5 ?k6 hp hq ?k7 ?k8 ?_; (case k1 => k_asm); (case k2 => k_asm); (case k3 => k_asm); (case k4 => k_asm); (case k5 => first | exact rfl | assumption); (case k6 => k_asm); (case k7 => ktr_room); (case k8 => ktr_units); k_whole; intro t9 h9 tk9 F9 N9; (try dsimp only); (try k_sweep); (try k_fold)))
  revert X; k_fill; intro X
  refine wpAny_call ?_
  k_dflt (walk_at "my enter")
  k_steps
  exact ret _ _ _ (by k_asm) (by k_asm)
theorem text0 {w : World} {loose : List Str} {mean : ExcName → Option Value} {mg mb : Str → Option Value}
    {dp un : Nat} {gd : Option (List Code)} {cn : Str} {cs : Scope} {a : Addr} {ccd : Value} {cl : List (Str × Addr)} {outer : List Env} {A₀ : Around} {base h₀ : Heap} {L : Addr} {m : Str → Option Value} {s : Shared} {Q E : Value → Shared → Prop}
    {rest : List (Addr × Obj)} {p q : Nat} {tb tw : Tok}
    (B : Below A₀ base outer h₀) (F : Fr h₀ L s.heap m) (X : (hd.heap_39 w.params).In h₀) (T : Top hd.view_39 loose mean mg mb h₀) (hk : cs.kind = .function)
    (N : News h₀ L s.heap rest) (hp : p ∈ sg) (hq : q ∈ sg)
    (hd1 : dp + 6 < recursionLimit) (hu : un + 200 < cLine)
    (ret : ∀ (t : Tok) (h' : Heap) (tk' : Nat), Fr h₀ L h' m → News h₀ L h' rest → Q (.str (S (esc3 p ++ esc3 q)) t) { s with heap := h', toks := tk' }) :
    wpAny (model PySem.Challenge.rw_mr0358_01.row.prog w) (ktrTop dp un gd cn cs L a ccd cl outer) (call (.ref 795) [.int 0 tw, .str (S [p, q]) tb]) Q E s := by
  k_with_none
  k_with "my call" => (k_dflt (refine' escape3 ?k1 ?k2 ?k3 ?k4 ?k5 ?k6 hp hq ?k7 ?k8 ?_; (case k1 => k_asm); (case k2 => k_asm); (case k3 => k_asm); (case k4 => k_asm); (case k5 => first | exact rfl | assumption); (case k6 => k_asm); (case k7 => ktr_room); (case k8 => ktr_units); k_whole; intro t9 h9 tk9 F9 N9; (try dsimp only); (try k_sweep); (try k_fold)))
  revert X; k_fill; intro X
  refine wpAny_call ?_
  k_dflt (walk_at "my enter")
  k_steps
  exact ret _ _ _ (by k_asm) (by k_asm)
theorem text1 {w : World} {loose : List Str} {mean : ExcName → Option Value} {mg mb : Str → Option Value}
    {dp un : Nat} {gd : Option (List Code)} {cn : Str} {cs : Scope} {a : Addr} {ccd : Value} {cl : List (Str × Addr)} {outer : List Env} {A₀ : Around} {base h₀ : Heap} {L : Addr} {m : Str → Option Value} {s : Shared} {Q E : Value → Shared → Prop}
    {rest : List (Addr × Obj)} {p q : Nat} {tb tw : Tok}
    (B : Below A₀ base outer h₀) (F : Fr h₀ L s.heap m) (X : (hd.heap_39 w.params).In h₀) (T : Top hd.view_39 loose mean mg mb h₀) (hk : cs.kind = .function)
    (N : News h₀ L s.heap rest) (hp : p ∈ sg) (hq : q ∈ sg)
    (hd1 : dp + 6 < recursionLimit) (hu : un + 200 < cLine)
    (ret : ∀ (t : Tok) (h' : Heap) (tk' : Nat), Fr h₀ L h' m → News h₀ L h' rest → Q (.str (S (esc4 p ++ esc4 q)) t) { s with heap := h', toks := tk' }) :
    wpAny (model PySem.Challenge.rw_mr0358_01.row.prog w) (ktrTop dp un gd cn cs L a ccd cl outer) (call (.ref 795) [.int 1 tw, .str (S [p, q]) tb]) Q E s := by
  k_with_none
  k_with "my call" => (k_dflt (refine' escape4 ?k1 ?k2 ?k3 ?k4 ?k5 ?k6 hp hq ?k7 ?k8 ?_; (case k1 => k_asm); (case k2 => k_asm); (case k3 => k_asm); (case k4 => k_asm); (case k5 => first | exact rfl | assumption); (case k6 => k_asm); (case k7 => ktr_room); (case k8 => ktr_units); k_whole; intro t9 h9 tk9 F9 N9; (try dsimp only); (try k_sweep); (try k_fold)))
  revert X; k_fill; intro X
  refine wpAny_call ?_
  k_dflt (walk_at "my enter")
  k_steps
  exact ret _ _ _ (by k_asm) (by k_asm)
def escA (k : Int) : Nat → List Nat := if k = 0 then esc0 else if k = 1 then esc1 else esc2
def escT (k : Int) : Nat → List Nat := if k = 0 then esc3 else esc4
def tabA (k : Int) : Addr := if k = 0 then 770 else if k = 1 then 771 else 772
def tabT (k : Int) : Addr := if k = 0 then 774 else 775
def SigA (k : Int) : Prop := k = 0 ∨ k = 1 ∨ k = 2
def SigT (k : Int) : Prop := k = 0 ∨ k = 1
theorem attributeU {w : World} {loose : List Str} {mean : ExcName → Option Value} {mg mb : Str → Option Value}
    {dp un : Nat} {gd : Option (List Code)} {cn : Str} {cs : Scope} {a : Addr} {ccd : Value} {cl : List (Str × Addr)} {outer : List Env} {A₀ : Around} {base h₀ : Heap} {L : Addr} {m : Str → Option Value} {s : Shared} {Q E : Value → Shared → Prop}
    {rest : List (Addr × Obj)} {p q : Nat} {tb tw : Tok} {k : Int}
    (B : Below A₀ base outer h₀) (F : Fr h₀ L s.heap m) (X : (hd.heap_39 w.params).In h₀) (T : Top hd.view_39 loose mean mg mb h₀) (hk : cs.kind = .function)
    (N : News h₀ L s.heap rest) (hp : p ∈ sg) (hq : q ∈ sg) (hs : SigA k)
    (hd1 : dp + 6 < recursionLimit) (hu : un + 200 < cLine)
    (ret : ∀ (t : Tok) (h' : Heap) (tk' : Nat), Fr h₀ L h' m → News h₀ L h' rest → Q (.str (S (escA k p ++ escA k q)) t) { s with heap := h', toks := tk' }) :
    wpAny (model PySem.Challenge.rw_mr0358_01.row.prog w) (ktrTop dp un gd cn cs L a ccd cl outer) (call (.ref 788) [.int k tw, .str (S [p, q]) tb]) Q E s := by
  rcases hs with rfl | rfl | rfl
  · exact attribute0 B F X T hk N hp hq hd1 hu ret
  · exact attribute1 B F X T hk N hp hq hd1 hu ret
  · exact attribute2 B F X T hk N hp hq hd1 hu ret
theorem textU {w : World} {loose : List Str} {mean : ExcName → Option Value} {mg mb : Str → Option Value}
    {dp un : Nat} {gd : Option (List Code)} {cn : Str} {cs : Scope} {a : Addr} {ccd : Value} {cl : List (Str × Addr)} {outer : List Env} {A₀ : Around} {base h₀ : Heap} {L : Addr} {m : Str → Option Value} {s : Shared} {Q E : Value → Shared → Prop}
    {rest : List (Addr × Obj)} {p q : Nat} {tb tw : Tok} {k : Int}
    (B : Below A₀ base outer h₀) (F : Fr h₀ L s.heap m) (X : (hd.heap_39 w.params).In h₀) (T : Top hd.view_39 loose mean mg mb h₀) (hk : cs.kind = .function)
    (N : News h₀ L s.heap rest) (hp : p ∈ sg) (hq : q ∈ sg) (hs : SigT k)
    (hd1 : dp + 6 < recursionLimit) (hu : un + 200 < cLine)
    (ret : ∀ (t : Tok) (h' : Heap) (tk' : Nat), Fr h₀ L h' m → News h₀ L h' rest → Q (.str (S (escT k p ++ escT k q)) t) { s with heap := h', toks := tk' }) :
    wpAny (model PySem.Challenge.rw_mr0358_01.row.prog w) (ktrTop dp un gd cn cs L a ccd cl outer) (call (.ref 795) [.int k tw, .str (S [p, q]) tb]) Q E s := by
  rcases hs with rfl | rfl
  · exact text0 B F X T hk N hp hq hd1 hu ret
  · exact text1 B F X T hk N hp hq hd1 hu ret
theorem spelledA {w : World} {loose : List Str} {mean : ExcName → Option Value} {mg mb : Str → Option Value}
    {dp un : Nat} {gd : Option (List Code)} {cn : Str} {cs : Scope} {a : Addr} {ccd : Value} {cl : List (Str × Addr)} {outer : List Env} {A₀ : Around} {base h₀ : Heap} {L : Addr} {m : Str → Option Value} {s : Shared} {Q E : Value → Shared → Prop}
    {rest : List (Addr × Obj)} {p q : Nat} {tb : Tok} {k : Int}
    (B : Below A₀ base outer h₀) (F : Fr h₀ L s.heap m) (X : (hd.heap_39 w.params).In h₀) (T : Top hd.view_39 loose mean mg mb h₀) (hk : cs.kind = .function)
    (N : News h₀ L s.heap rest) (hs : SigA k)
    (hd1 : dp + 3 < recursionLimit) (hu : un + 100 < cLine)
    (ret : ∀ (t : Tok) (h' : Heap) (tk' : Nat), Fr h₀ L h' m → News h₀ L h' rest → Q (.str (S (escA k p ++ escA k q)) t) { s with heap := h', toks := tk' }) :
    wpAny (model PySem.Challenge.rw_mr0358_01.row.prog w) (ktrTop dp un gd cn cs L a ccd cl outer) (call (.ref 781) [.ref (tabA k), .str (S [p, q]) tb]) Q E s := by
  rcases hs with rfl | rfl | rfl
  · exact spelled0 B F X T hk N hd1 hu ret
  · exact spelled1 B F X T hk N hd1 hu ret
  · exact spelled2 B F X T hk N hd1 hu ret
theorem spelledT {w : World} {loose : List Str} {mean : ExcName → Option Value} {mg mb : Str → Option Value}
    {dp un : Nat} {gd : Option (List Code)} {cn : Str} {cs : Scope} {a : Addr} {ccd : Value} {cl : List (Str × Addr)} {outer : List Env} {A₀ : Around} {base h₀ : Heap} {L : Addr} {m : Str → Option Value} {s : Shared} {Q E : Value → Shared → Prop}
    {rest : List (Addr × Obj)} {p q : Nat} {tb : Tok} {k : Int}
    (B : Below A₀ base outer h₀) (F : Fr h₀ L s.heap m) (X : (hd.heap_39 w.params).In h₀) (T : Top hd.view_39 loose mean mg mb h₀) (hk : cs.kind = .function)
    (N : News h₀ L s.heap rest) (hs : SigT k)
    (hd1 : dp + 3 < recursionLimit) (hu : un + 100 < cLine)
    (ret : ∀ (t : Tok) (h' : Heap) (tk' : Nat), Fr h₀ L h' m → News h₀ L h' rest → Q (.str (S (escT k p ++ escT k q)) t) { s with heap := h', toks := tk' }) :
    wpAny (model PySem.Challenge.rw_mr0358_01.row.prog w) (ktrTop dp un gd cn cs L a ccd cl outer) (call (.ref 781) [.ref (tabT k), .str (S [p, q]) tb]) Q E s := by
  rcases hs with rfl | rfl
  · exact spelled3 B F X T hk N hd1 hu ret
  · exact spelled4 B F X T hk N hd1 hu ret
def FnS {σ : Type} (Led : σ → List (Addr × Obj)) (ps : σ → List (Str × Value)) (Facts : σ → Prop) (x : Str) (stored : List Str) (m₀ : Str → Option Value) (P : List Int → σ → Prop) (pre : List Int) (m : Str → Option Value) (nx : List (Addr × Obj)) : Prop :=
  ∃ c : σ, nx = Led c ∧ Facts c ∧ (∀ p ∈ ps c, m p.1 = some p.2) ∧ (∀ z, z ≠ x → (∀ p ∈ ps c, z ≠ p.1) → stored.contains z = false → m z = m₀ z) ∧ P pre c
theorem fn_end {σ : Type} {h₀ : Heap} {L : Addr} {s : Shared} {Led : σ → List (Addr × Obj)} {ps : σ → List (Str × Value)} {Facts : σ → Prop} {x : Str} {stored : List Str} {m₀ m' : Str → Option Value} {P : List Int → σ → Prop} {pre : List Int} {Q : Flow → Shared → Prop} {h h' : Heap} {tk tk' : Nat} {own news' : List (Addr × Obj)} (c' : σ)
    (F : Fr h₀ L h' m') (N : News h₀ L h' news') (hn : ∀ p ∈ Led c', p ∈ news') (ho : ∀ p ∈ own, p ∈ news') (ha : OwnOff own ((Led c').map (·.1))) (hf : Facts c') (hk : ∀ p ∈ ps c', m' p.1 = some p.2) (hr : ∀ z, z ≠ x → (∀ p ∈ ps c', z ≠ p.1) → stored.contains z = false → m' z = m₀ z) (hp : P pre c') :
    InvPostG h₀ L (FnS Led ps Facts x stored m₀ P pre) own { s with heap := h, toks := tk } Q .next { s with heap := h', toks := tk' } :=
  InvEndG.intro F N ⟨c', rfl, hf, hk, hr, hp⟩ ha hn ho
theorem forNums {σ : Type} {prog : Program} {w : World} {A : Around} {E : Value → Shared → Prop} {s : Shared} {env : Env} {h₀ : Heap} {x : Str} {body : List Stmt} {Q : Flow → Shared → Prop}
    {l : Addr} {vs : List Value} {ns : List Int} {nn : Nat} {m₀ : Str → Option Value} (Led : σ → List (Addr × Obj)) (ps : σ → List (Str × Value)) (Facts : σ → Prop) (stored : List Str) (P : List Int → σ → Prop) (c₀ : σ)
    (hh : A.handled = none) (hl : ∀ c, (l, listOf vs.toArray nn) ∈ Led c) (hi : IntsAre vs ns) (F : Fr h₀ env.locals s.heap m₀) (N : News h₀ env.locals s.heap (Led c₀)) (hf : Facts c₀) (hk : ∀ p ∈ ps c₀, m₀ p.1 = some p.2) (hp : P [] c₀)
    (turn : ∀ (c : σ) pre post n t (u : Str → Option Value) h tk own, ns = pre ++ n :: post → OwnOff own ((Led c).map (·.1)) → Facts c → P pre c →
      Fr h₀ env.locals h (fun y => if y = x then some (.int n t) else kstB (fun z => if stored.contains z then u z else m₀ z) (ps c) y) → News h₀ env.locals h (Led c ++ own) →
      wpAny (model prog w) A (execs body env) (InvPostG h₀ env.locals (FnS Led ps Facts x stored m₀ P (pre ++ [n])) own { s with heap := h, toks := tk } Q) E { s with heap := h, toks := tk })
    (done : ∀ (c : σ) (u : Str → Option Value) h tk, Facts c → P ns c → Fr h₀ env.locals h (fun y => if y = x then u y else kstB (fun z => if stored.contains z then u z else m₀ z) (ps c) y) → News h₀ env.locals h (Led c) → Q .next { s with heap := h, toks := tk }) :
    wpAny (model prog w) A (pyIter (.ref l)) (fun it s₂ => LoopAtV prog w A h₀ env x body Q E it s₂) E s := by
  have hlen : vs.length = ns.length := hi.length
  refine kdl_iter (news := Led c₀) (fun i m nx => FnS Led ps Facts x stored m₀ P (ns.take i) m nx) hh (hl c₀) F N ⟨c₀, rfl, hf, hk, fun _ _ _ _ => rfl, by simpa using hp⟩ ?_ ?_
  · rintro i v m₁ nx h tk own hv hoff _ ⟨c, rfl, hf', h1, h2, hp'⟩ F₁ N₁
    have hi' : i < ns.length := by rw [← hlen]; exact (List.getElem?_eq_some_iff.mp hv).1
    obtain ⟨t, hx⟩ := hi.get i (ns[i]'hi') (List.getElem?_eq_getElem hi')
    have ev : v = .int (ns[i]'hi') t := by rw [hx] at hv; exact (Option.some.inj hv).symm
    subst ev
    have hs : ns.take (i + 1) = ns.take i ++ [ns[i]'hi'] := by rw [List.take_add_one, List.getElem?_eq_getElem hi'] <;> rfl
    have e : ns = ns.take i ++ (ns[i]'hi') :: ns.drop (i + 1) := by
      have h9 := List.take_append_drop (i + 1) ns
      rw [hs, List.append_assoc] at h9
      exact h9.symm
    refine wpAny_mono (turn c _ _ _ t m₁ h tk own e hoff hf' hp' (kst_fr h1 h2 F₁) N₁) (fun f s₂ p => ?_) fun _ _ x => x
    have up : InvEndG h₀ env.locals (FnS Led ps Facts x stored m₀ P (ns.take i ++ [ns[i]'hi'])) own { s with heap := h, toks := tk } s₂ →
        InvEndG h₀ env.locals (fun m' nx => (l, listOf vs.toArray nn) ∈ nx ∧ FnS Led ps Facts x stored m₀ P (ns.take (i + 1)) m' nx) own { s with heap := h, toks := tk } s₂ := by
      rintro ⟨h', tk', m', news', nx', e', F', N', hn', ho', ha, hS⟩
      refine ⟨h', tk', m', news', nx', e', F', N', hn', ho', ha, ?_, by rw [hs]; exact hS⟩
      obtain ⟨c', rfl, _⟩ := hS
      exact hl c'
    cases f with
    | ret v => exact p
    | brk => exact p
    | next => exact up p
    | cont => exact up p
  · rintro m₁ nx h tk ⟨c, rfl, hf', h1, h2, hp'⟩ F₁ N₁
    rw [hlen, List.take_length] at hp'
    exact done c m₁ h tk hf' hp' (kst_frOut h1 h2 F₁) N₁
def docFor : Stmt := (fnB (PySem.Challenge.pw_mr0358_01.main.body.getD 34 default)).getD 4 default
def forB (s : Stmt) : List Stmt := match s with
  | .For _ _ b _ _ => b
  | _ => []
def ifT (s : Stmt) : List Stmt := match s with
  | .If _ b _ _ => b
  | _ => []
def ifE (s : Stmt) : List Stmt := match s with
  | .If _ _ b _ => b
  | _ => []
def docBody : List Stmt := forB docFor
def docIf : Stmt := docBody.getD 5 default
def docA : List Stmt := ifT docIf
def docIf2 : Stmt := (ifE docIf).getD 0 default
def docB : List Stmt := ifT docIf2
def docC : List Stmt := ifE docIf2
def docScope : Scope := fnS (PySem.Challenge.pw_mr0358_01.main.body.getD 34 default)
section
variable {prog : Program} {w : World} {A : Around} {E : Value → Shared → Prop} {s : Shared} {h₀ : Heap} {L D : Addr} {m : Str → Option Value} {news news' : List (Addr × Obj)} {n : Nat}
theorem popK {p : List Value} {y : Value} {Q : Value → Shared → Prop} (F : Fr h₀ L s.heap m) (N : News h₀ L s.heap news) (U : Upd D (listOf (p ++ [y]).toArray n) (listOf p.toArray (n + 1)) news news')
    (hz : p.length ≤ 1000) (h : ∀ h', Fr h₀ L h' m → News h₀ L h' news' → Q y { s with heap := h' }) : wpAny (model prog w) A (call (.builtin "list.pop") [.ref D]) Q E s :=
  kl_pop F N (kpa_last y p) U (by rw [sizeLine_eq]; simp; omega) h
theorem lenK {vs : List Value} {Q : Value → Shared → Prop} (N : News h₀ L s.heap news) (hm : (D, listOf vs.toArray n) ∈ news) (hz : vs.length ≤ 1000)
    (h : Q (.int vs.length (s.toks + 1)) { s with toks := s.toks + 1 + 1 }) : wpAny (model prog w) A (call (.builtin "len") [.ref D]) Q E s :=
  kun_lenL (N.isList hm) (by simp) (by omega) h
theorem truthyK {vs : List Value} {Q : Bool → Shared → Prop} (N : News h₀ L s.heap news) (hm : (D, listOf vs.toArray n) ∈ news) (hz : vs.length ≤ 1000)
    (h : Q (!vs.isEmpty) { s with toks := s.toks + 1 + 1 }) : wpAny (model prog w) A (truthy (.ref D)) Q E s :=
  kgr_truthy N hm rfl rfl (by omega) h
theorem truthyT {vs : List Value} {x : Value} {Q : Bool → Shared → Prop} (N : News h₀ L s.heap news) (hm : (D, listOf (vs ++ [x]).toArray n) ∈ news) (hz : vs.length ≤ 900)
    (h : Q true { s with toks := s.toks + 1 + 1 }) : wpAny (model prog w) A (truthy (.ref D)) Q E s :=
  kgr_truthy N hm rfl rfl (by simp; omega) ((show (!(vs ++ [x]).isEmpty) = true by simp) ▸ h)
theorem truthyF {Q : Bool → Shared → Prop} (N : News h₀ L s.heap news) (hm : (D, listOf ([] : List Value).toArray n) ∈ news)
    (h : Q false { s with toks := s.toks + 1 + 1 }) : wpAny (model prog w) A (truthy (.ref D)) Q E s :=
  kgr_truthy (vs := []) N hm rfl rfl (by decide) h
end
theorem cnt_is : ∀ l : List Nat, PyProof.Rows.cnt 10 l = cnt l
  | [] => rfl
  | c :: r => by rw [PyProof.Rows.cnt_cons, cnt_is r]; rfl
theorem count_S (l : List Nat) : Txt.count (S l) (Str.ofString "\n") = cnt l := by
  have e : Str.ofString "\n" = ⟨#[10]⟩ := by decide +kernel
  rw [e, count_is]
  show PyProof.Rows.cnt 10 (S l).cps.toList = _
  rw [cnt_is]; simp [S]
theorem attributeV {w : World} {loose : List Str} {mean : ExcName → Option Value} {mg mb : Str → Option Value}
    {dp un : Nat} {gd : Option (List Code)} {cn : Str} {cs : Scope} {a : Addr} {ccd : Value} {cl : List (Str × Addr)} {outer : List Env} {A₀ : Around} {base h₀ : Heap} {L : Addr} {m : Str → Option Value} {s : Shared} {Q E : Value → Shared → Prop}
    {rest : List (Addr × Obj)} {p q : Nat} {tb tw : Tok} {k : Int} {v : Str}
    (B : Below A₀ base outer h₀) (F : Fr h₀ L s.heap m) (X : (hd.heap_39 w.params).In h₀) (T : Top hd.view_39 loose mean mg mb h₀) (hk : cs.kind = .function)
    (N : News h₀ L s.heap rest) (hv : v = S [p, q]) (hp : p ∈ sg) (hq : q ∈ sg) (hs : SigA k)
    (hd1 : dp + 6 < recursionLimit) (hu : un + 200 < cLine)
    (ret : ∀ (t : Tok) (h' : Heap) (tk' : Nat), Fr h₀ L h' m → News h₀ L h' rest → Q (.str (S (escA k p ++ escA k q)) t) { s with heap := h', toks := tk' }) :
    wpAny (model PySem.Challenge.rw_mr0358_01.row.prog w) (ktrTop dp un gd cn cs L a ccd cl outer) (call (.ref 788) [.int k tw, .str v tb]) Q E s := by
  subst hv
  exact attributeU B F X T hk N hp hq hs (by omega) (by omega) ret
theorem textV {w : World} {loose : List Str} {mean : ExcName → Option Value} {mg mb : Str → Option Value}
    {dp un : Nat} {gd : Option (List Code)} {cn : Str} {cs : Scope} {a : Addr} {ccd : Value} {cl : List (Str × Addr)} {outer : List Env} {A₀ : Around} {base h₀ : Heap} {L : Addr} {m : Str → Option Value} {s : Shared} {Q E : Value → Shared → Prop}
    {rest : List (Addr × Obj)} {p q : Nat} {tb tw : Tok} {k : Int} {v : Str}
    (B : Below A₀ base outer h₀) (F : Fr h₀ L s.heap m) (X : (hd.heap_39 w.params).In h₀) (T : Top hd.view_39 loose mean mg mb h₀) (hk : cs.kind = .function)
    (N : News h₀ L s.heap rest) (hv : v = S [p, q]) (hp : p ∈ sg) (hq : q ∈ sg) (hs : SigT k)
    (hd1 : dp + 6 < recursionLimit) (hu : un + 200 < cLine)
    (ret : ∀ (t : Tok) (h' : Heap) (tk' : Nat), Fr h₀ L h' m → News h₀ L h' rest → Q (.str (S (escT k p ++ escT k q)) t) { s with heap := h', toks := tk' }) :
    wpAny (model PySem.Challenge.rw_mr0358_01.row.prog w) (ktrTop dp un gd cn cs L a ccd cl outer) (call (.ref 795) [.int k tw, .str v tb]) Q E s := by
  subst hv
  exact textU B F X T hk N hp hq hs (by omega) (by omega) ret
theorem spelledAV {w : World} {loose : List Str} {mean : ExcName → Option Value} {mg mb : Str → Option Value}
    {dp un : Nat} {gd : Option (List Code)} {cn : Str} {cs : Scope} {a : Addr} {ccd : Value} {cl : List (Str × Addr)} {outer : List Env} {A₀ : Around} {base h₀ : Heap} {L : Addr} {m : Str → Option Value} {s : Shared} {Q E : Value → Shared → Prop}
    {rest : List (Addr × Obj)} {p q : Nat} {tb : Tok} {k : Int} {v : Str}
    (B : Below A₀ base outer h₀) (F : Fr h₀ L s.heap m) (X : (hd.heap_39 w.params).In h₀) (T : Top hd.view_39 loose mean mg mb h₀) (hk : cs.kind = .function)
    (N : News h₀ L s.heap rest) (hv : v = S [p, q]) (hp : p ∈ sg) (hq : q ∈ sg) (hs : SigA k)
    (hd1 : dp + 6 < recursionLimit) (hu : un + 200 < cLine)
    (ret : ∀ (t : Tok) (h' : Heap) (tk' : Nat), Fr h₀ L h' m → News h₀ L h' rest → Q (.str (S (escA k p ++ escA k q)) t) { s with heap := h', toks := tk' }) :
    wpAny (model PySem.Challenge.rw_mr0358_01.row.prog w) (ktrTop dp un gd cn cs L a ccd cl outer) (call (.ref 781) [.ref (tabA k), .str v tb]) Q E s := by
  subst hv
  exact spelledA B F X T hk N hs (by omega) (by omega) ret
theorem spelledTV {w : World} {loose : List Str} {mean : ExcName → Option Value} {mg mb : Str → Option Value}
    {dp un : Nat} {gd : Option (List Code)} {cn : Str} {cs : Scope} {a : Addr} {ccd : Value} {cl : List (Str × Addr)} {outer : List Env} {A₀ : Around} {base h₀ : Heap} {L : Addr} {m : Str → Option Value} {s : Shared} {Q E : Value → Shared → Prop}
    {rest : List (Addr × Obj)} {p q : Nat} {tb : Tok} {k : Int} {v : Str}
    (B : Below A₀ base outer h₀) (F : Fr h₀ L s.heap m) (X : (hd.heap_39 w.params).In h₀) (T : Top hd.view_39 loose mean mg mb h₀) (hk : cs.kind = .function)
    (N : News h₀ L s.heap rest) (hv : v = S [p, q]) (hp : p ∈ sg) (hq : q ∈ sg) (hs : SigT k)
    (hd1 : dp + 6 < recursionLimit) (hu : un + 200 < cLine)
    (ret : ∀ (t : Tok) (h' : Heap) (tk' : Nat), Fr h₀ L h' m → News h₀ L h' rest → Q (.str (S (escT k p ++ escT k q)) t) { s with heap := h', toks := tk' }) :
    wpAny (model PySem.Challenge.rw_mr0358_01.row.prog w) (ktrTop dp un gd cn cs L a ccd cl outer) (call (.ref 781) [.ref (tabT k), .str v tb]) Q E s := by
  subst hv
  exact spelledT B F X T hk N hs (by omega) (by omega) ret
theorem escT_len (k : Int) (c : Nat) : (escT k c).length ≤ 6 := by
  unfold escT; split
  · exact esc3_len c
  · exact esc4_len c
theorem escA_len (k : Int) (c : Nat) : (escA k c).length ≤ 6 := by
  unfold escA; split
  · exact esc0_len c
  · split
    · exact esc1_len c
    · exact esc2_len c
abbrev docF (kd wy : Int) (p q : Nat) (wr : List Nat) (ln : Int) (lt nm : Addr) (t1 t2 t3 t4 t5 t6 : Tok) (m₁ : Str → Option Value) : Str → Option Value :=
  fun y => if y = Str.ofString "way" then some (.int wy t1) else if y = Str.ofString "second" then some (.str (S [q]) t2) else if y = Str.ofString "first" then some (.str (S [p]) t3) else if y = Str.ofString "kind" then some (.int kd t4) else if y = Str.ofString "writing" then some (.str (S wr) t5) else if y = Str.ofString "line" then some (.int ln t6) else if y = Str.ofString "told" then some (.ref lt) else if y = Str.ofString "names" then some (.ref nm) else m₁ y
theorem subT {w : World} {loose : List Str} {mean : ExcName → Option Value} {mg mb : Str → Option Value}
    {dp un : Nat} {gd : Option (List Code)} {cn : Str} {cs : Scope} {a : Addr} {ccd : Value} {cl : List (Str × Addr)} {outer : List Env} {A₀ : Around} {base h₀ : Heap} {L : Addr} {m : Str → Option Value} {s : Shared} {Q E : Value → Shared → Prop}
    {rest : List (Addr × Obj)} {t : Tok} {k : Int} {ve se : Expr}
    (B : Below A₀ base outer h₀) (F : Fr h₀ L s.heap m) (X : (hd.heap_39 w.params).In h₀) (T : Top hd.view_39 loose mean mg mb h₀) (hk : cs.kind = .function)
    (N : News h₀ L s.heap rest) (hs : SigT k)
    (h1 : subscripted se false (.ref 776) (.int k t) = operate [.ref 776, .int k t] (getItem (.ref 776) (.int k t))) (h2 : ∀ r, letTemporaryGo ve (.ref 776) r = pure ())
    (ret : Q (.ref (tabT k)) s) :
    wpAny (model PySem.Challenge.rw_mr0358_01.row.prog w) (ktrTop dp un gd cn cs L a ccd cl outer) (subscriptTail ve se (.ref 776) (.int k t)) Q E s := by
  k_with_none
  revert X; k_fill; intro X
  rcases hs with rfl | rfl
  · refine item_tupleL (l := [.ref 774, .ref 775]) (kun_topT (by k_asm) (by k_asm) (by k_is)) (by decide) (by decide) (j := 0) rfl rfl ret h1 h2
  · refine item_tupleL (l := [.ref 774, .ref 775]) (kun_topT (by k_asm) (by k_asm) (by k_is)) (by decide) (by decide) (j := 1) rfl rfl ret h1 h2
theorem subA {w : World} {loose : List Str} {mean : ExcName → Option Value} {mg mb : Str → Option Value}
    {dp un : Nat} {gd : Option (List Code)} {cn : Str} {cs : Scope} {a : Addr} {ccd : Value} {cl : List (Str × Addr)} {outer : List Env} {A₀ : Around} {base h₀ : Heap} {L : Addr} {m : Str → Option Value} {s : Shared} {Q E : Value → Shared → Prop}
    {rest : List (Addr × Obj)} {t : Tok} {k : Int} {ve se : Expr}
    (B : Below A₀ base outer h₀) (F : Fr h₀ L s.heap m) (X : (hd.heap_39 w.params).In h₀) (T : Top hd.view_39 loose mean mg mb h₀) (hk : cs.kind = .function)
    (N : News h₀ L s.heap rest) (hs : SigA k)
    (h1 : subscripted se false (.ref 773) (.int k t) = operate [.ref 773, .int k t] (getItem (.ref 773) (.int k t))) (h2 : ∀ r, letTemporaryGo ve (.ref 773) r = pure ())
    (ret : Q (.ref (tabA k)) s) :
    wpAny (model PySem.Challenge.rw_mr0358_01.row.prog w) (ktrTop dp un gd cn cs L a ccd cl outer) (subscriptTail ve se (.ref 773) (.int k t)) Q E s := by
  k_with_none
  revert X; k_fill; intro X
  rcases hs with rfl | rfl | rfl
  · refine item_tupleL (l := [.ref 770, .ref 771, .ref 772]) (kun_topT (by k_asm) (by k_asm) (by k_is)) (by decide) (by decide) (j := 0) rfl rfl ret h1 h2
  · refine item_tupleL (l := [.ref 770, .ref 771, .ref 772]) (kun_topT (by k_asm) (by k_asm) (by k_is)) (by decide) (by decide) (j := 1) rfl rfl ret h1 h2
  · refine item_tupleL (l := [.ref 770, .ref 771, .ref 772]) (kun_topT (by k_asm) (by k_asm) (by k_is)) (by decide) (by decide) (j := 2) rfl rfl ret h1 h2
theorem lastK {prog : Program} {w : World} {A : Around} {E : Value → Shared → Prop} {s : Shared} {h₀ : Heap} {L D : Addr} {news : List (Addr × Obj)} {n : Nat} {vs : List Value} {x : Value} {ve se : Expr} {u : Tok} {Q : Value → Shared → Prop}
    (N : News h₀ L s.heap news) (hm : (D, listOf (vs ++ [x]).toArray n) ∈ news)
    (h1 : subscripted se false (.ref D) (.int (-1) u) = operate [.ref D, .int (-1) u] (getItem (.ref D) (.int (-1) u))) (h2 : ∀ r, letTemporaryGo ve (.ref D) r = pure ())
    (h : Q x s) : wpAny (model prog w) A (subscriptTail ve se (.ref D) (.int (-1) u)) Q E s := by
  have hl := N.isList hm
  refine subscriptTail_builtin hl.typeIs slot_list_getitem.lookup (wpAny_getItem_list_neg hl (by decide) (by simp; omega) (by decide) (x := x) ?_ h) h1 h2
  have e : (-1 + (((vs ++ [x]).toArray.size : Nat) : Int)).toNat = vs.length := by simp; omega
  rw [e]
  simp
theorem tupK {prog : Program} {w : World} {A : Around} {E : Value → Shared → Prop} {s : Shared} {h₀ : Heap} {L D : Addr} {news : List (Addr × Obj)} {n : Nat} {vs : List Value} {x : Value} {ve se : Expr} {u : Tok} {k : Int} {Q : Value → Shared → Prop}
    (N : News h₀ L s.heap news) (hm : (D, ({ cls := .type "tuple", data := .seq vs.toArray n } : Obj)) ∈ news)
    (h0 : 0 ≤ k) (h3 : k < 100) (hx : vs[k.toNat]? = some x)
    (h1 : subscripted se false (.ref D) (.int k u) = operate [.ref D, .int k u] (getItem (.ref D) (.int k u))) (h2 : ∀ r, letTemporaryGo ve (.ref D) r = pure ())
    (h : Q x s) : wpAny (model prog w) A (subscriptTail ve se (.ref D) (.int k u)) Q E s := by
  have hl : k.toNat < vs.length := (List.getElem?_eq_some_iff.mp hx).1
  exact item_tupleL (N.isTup hm) (by omega) (by omega) (seqIndex_of h0 (by omega)) hx h h1 h2
theorem add_E {prog : Program} {w : World} {A : Around} {E : Value → Shared → Prop} {s : Shared} {t u : Tok} {x y : Str} {a b : List Nat} {Q : Value → Shared → Prop} (hx : x = S a) (hy : y = S b) (h1 : a.length + b.length ≤ 400000)
    (h : ∀ t' tk, Q (.str (S (a ++ b)) t') { s with toks := tk }) : wpAny (model prog w) A (binaryOp .Add (.str x t) (.str y u)) Q E s := by
  subst hx hy
  refine add_str (fun t' tk => ?_) (by rw [S_length, S_length, sizeLine_eq]; omega)
  rw [S_append]; exact h t' tk
theorem iadd_E {prog : Program} {w : World} {A : Around} {E : Value → Shared → Prop} {s : Shared} {t u : Tok} {x y : Str} {a b : List Nat} {Q : Value → Shared → Prop} (hx : x = S a) (hy : y = S b) (h1 : a.length + b.length ≤ 400000)
    (h : ∀ t' tk, Q (.str (S (a ++ b)) t') { s with toks := tk }) : wpAny (model prog w) A (inplaceOp .Add (.str x t) (.str y u)) Q E s := by
  subst hx hy
  exact iadd_S h1 h
theorem c_lt : Str.ofString "<" = S [60] := by decide +kernel
theorem c_lts : Str.ofString "</" = S [60, 47] := by decide +kernel
theorem c_gt : Str.ofString ">" = S [62] := by decide +kernel
theorem c_sp : Str.ofString " " = S [32] := by decide +kernel
theorem c_eq : Str.ofString "=\"" = S [61, 34] := by decide +kernel
theorem c_q : Str.ofString "\"" = S [34] := by decide +kernel
theorem c_k : Str.ofString "k" = S [107] := by decide +kernel
theorem c_l : Str.ofString "l" = S [108] := by decide +kernel
def touched : List Str := ["writing", "line", "kind", "rest", "first", "second", "way", "name", "pairs", "key", "value", "spelled", "n"].map Str.ofString
theorem textM {w : World} {loose : List Str} {mean : ExcName → Option Value} {mg mb : Str → Option Value}
    {dp un : Nat} {gd : Option (List Code)} {outer : List Env} {A₀ : Around} {base h₀ : Heap} {L : Addr} {m₁ : Str → Option Value} {s : Shared} {Q : Flow → Shared → Prop} {E : Value → Shared → Prop}
    {lt nm : Addr} {vs : List Value} {ev : Nat} {R : List (Addr × Obj)} {kd wy ln : Int} {p q : Nat} {wr : List Nat} {t1 t2 t3 t4 t5 t6 : Tok} {r : Addr} {nt : Nat} {tx : List Nat} {t7 t8 : Tok}
    (B : Below A₀ base outer h₀) (F : Fr h₀ L s.heap (docF kd wy p q wr ln lt nm t1 t2 t3 t4 t5 t6 m₁)) (X : (hd.heap_39 w.params).In h₀) (T : Top hd.view_39 loose mean mg mb h₀)
    (N : News h₀ L s.heap ((lt, listOf (vs ++ [Value.ref r]).toArray ev) :: (r, ({ cls := .type "tuple", data := .seq [.str (Str.ofString "text") t7, .str (S tx) t8].toArray nt } : Obj)) :: R))
    (hp : p ∈ sg) (hq : q ∈ sg) (hs : SigT (wy.fmod 2)) (hwl : wr.length ≤ 90000) (hvs : vs.length ≤ 100) (q1 : ∀ p ∈ R, p.1 ≠ lt) (f2 : @Ne Nat lt r) (htx : tx.length ≤ 200000)
    (hd1 : dp + 12 < recursionLimit) (hu : un + 250 < cLine)
    (ret : ∀ (m' : Str → Option Value) (h' : Heap) (tk' : Nat) (t5' t6' t7' t8' : Tok) (r' : Addr), AllLt r' R → @Ne Nat r' lt → m' (Str.ofString "writing") = some (.str (S (wr ++ (escT (wy.fmod 2) p ++ escT (wy.fmod 2) q))) t5') → m' (Str.ofString "line") = some (.int (ln + cnt (escT (wy.fmod 2) p ++ escT (wy.fmod 2) q)) t6') →
      (∀ z, touched.contains z = false → m' z = docF kd wy p q wr ln lt nm t1 t2 t3 t4 t5 t6 m₁ z) → Fr h₀ L h' m' → News h₀ L h' ((r', ({ cls := .type "tuple", data := .seq [.str (Str.ofString "text") t7', .str (S (tx ++ (escT (wy.fmod 2) p ++ escT (wy.fmod 2) q))) t8'].toArray } : Obj)) :: (lt, listOf (vs ++ [Value.ref r']).toArray (ev + 1 + 1)) :: (r, ({ cls := .type "tuple", data := .seq [.str (Str.ofString "text") t7, .str (S tx) t8].toArray nt } : Obj)) :: R) → Q .next { s with heap := h', toks := tk' }) :
    wpAny (model PySem.Challenge.rw_mr0358_01.row.prog w) (ktrTop dp un gd (Str.ofString "_law_document") docScope L 802 (.ref 801) [] outer) (execs docC (envOf (Str.ofString "_law_document") docScope L 802 (.ref 801))) Q E s := by
  have hk : docScope.kind = .function := rfl
  have hl1 := escT_len (wy.fmod 2) p
  have hl2 := escT_len (wy.fmod 2) q
  have ec := count_S (escT (wy.fmod 2) p ++ escT (wy.fmod 2) q)
  k_with_none
  k_with "my append" => ((with_reducible show wpAny _ _ (call (Value.builtin _) [Value.ref _, _]) _ _ _); k_dflt (refine' append_K ?k1 ?k2 ?k3 ?_ ?z; (case k1 => k_asm); (case k2 => k_asm); (case k3 => k_upd); (case z => (rw [sizeLine_eq]; simp only [List.size_toArray, List.length_append, List.length_cons, List.length_nil]; omega)); k_whole); intro h' F' N'; (try k_sweep))
  k_with "my iadd" => (refine' iadd_E ?kx ?ky ?k1 ?_; (case kx => first | with_reducible rfl | with_reducible assumption); (case ky => first | with_reducible rfl | with_reducible assumption); (case k1 => (simp only [List.length_append, List.length_cons, List.length_nil]; omega)); intro t8 tk8)
  k_with "my add" => (refine' add_E ?kx ?ky ?k1 ?_; (case kx => first | with_reducible rfl | with_reducible assumption); (case ky => first | with_reducible rfl | with_reducible assumption); (case k1 => (simp only [List.length_append, List.length_cons, List.length_nil]; omega)); intro t8 tk8)
  k_with "my call" => ((with_reducible show wpAny _ _ (call (Value.ref 795) _) _ _ _); k_dflt (refine' textV ?k1 ?k2 ?k3 ?k4 ?k5 ?k6 rfl hp hq hs ?k7 ?k8 ?_; (case k1 => k_asm); (case k2 => k_asm); (case k3 => k_asm); (case k4 => k_asm); (case k5 => first | exact rfl | assumption); (case k6 => k_asm); (case k7 => ktr_room); (case k8 => ktr_units); k_whole; intro t9 h9 tk9 F9 N9; (try dsimp only); (try k_sweep); (try k_fold)))
  k_with "my call" => ((with_reducible show wpAny _ _ (call (Value.ref 781) _) _ _ _); k_dflt (refine' spelledTV ?k1 ?k2 ?k3 ?k4 ?k5 ?k6 rfl hp hq hs ?k7 ?k8 ?_; (case k1 => k_asm); (case k2 => k_asm); (case k3 => k_asm); (case k4 => k_asm); (case k5 => first | exact rfl | assumption); (case k6 => k_asm); (case k7 => ktr_room); (case k8 => ktr_units); k_whole; intro t9 h9 tk9 F9 N9; (try dsimp only); (try k_sweep); (try k_fold)))
  k_with "my sub" => ((with_reducible show wpAny _ _ (subscriptTail _ _ (Value.ref lt) _) _ _ _); k_dflt (refine' lastK ?k1 ?k2 ?k6 ?k7 ?_; (case k1 => k_asm); (case k2 => k_mem); (case k6 => with_unfolding_all rfl); (case k7 => (intro _; with_unfolding_all rfl)); k_whole))
  k_with "my sub" => ((with_reducible show wpAny _ _ (subscriptTail _ _ (Value.ref 776) _) _ _ _); k_dflt (refine' subT ?k1 ?k2 ?k3 ?k4 ?k5 ?k6 hs ?k9 ?k10 ?_; (case k1 => k_asm); (case k2 => k_asm); (case k3 => k_asm); (case k4 => k_asm); (case k5 => first | exact rfl | assumption); (case k6 => k_asm); (case k9 => with_unfolding_all rfl); (case k10 => (intro _; with_unfolding_all rfl)); k_whole))
  k_with "my sub" => ((with_reducible show wpAny _ _ (subscriptTail _ _ (Value.ref r) _) _ _ _); k_dflt (refine' tupK ?k1 ?k2 ?k3 ?k4 ?k5 ?k6 ?k7 ?_; (case k1 => k_asm); (case k2 => k_mem); (case k3 => decide); (case k4 => decide); (case k5 => exact rfl); (case k6 => with_unfolding_all rfl); (case k7 => (intro _; with_unfolding_all rfl)); k_whole))
  k_with "my truthy ref" => (k_dflt (refine' truthyT ?k1 ?k2 ?k3 ?_; (case k1 => k_asm); (case k2 => k_mem); (case k3 => omega); k_whole))
  k_with "my pop" => (k_dflt (refine' popK ?k1 ?k2 ?k3 ?k4 ?_; (case k1 => k_asm); (case k2 => k_asm); (case k3 => k_upd); (case k4 => omega); k_whole); intro h' F' N'; (try k_sweep))
  revert X; k_fill; intro X
  k_steps
  all_goals (try simp only [List.push_toArray] at *)
  rename (Fr _ _ _ _) => F9
  simp only [ec] at F9
  rename (_ ∧ _) => l9
  refine' ret _ _ _ _ _ _ _ _ ?ka ?kb ?kc ?kd ?ke F9 ?kn
  case kn => k_asm
  case ka => exact l9.2.2
  case kb => omega
  case kc => exact rfl
  case kd => exact rfl
  case ke =>
    intro z hz
    simp only [touched, List.map_cons, List.map_nil, List.contains_cons, List.contains_nil, Bool.or_false, Bool.or_eq_false_iff, beq_eq_false_iff_ne, ne_eq] at hz
    simp [hz]
theorem textN {w : World} {loose : List Str} {mean : ExcName → Option Value} {mg mb : Str → Option Value}
    {dp un : Nat} {gd : Option (List Code)} {outer : List Env} {A₀ : Around} {base h₀ : Heap} {L : Addr} {m₁ : Str → Option Value} {s : Shared} {Q : Flow → Shared → Prop} {E : Value → Shared → Prop}
    {lt nm : Addr} {vs : List Value} {ev : Nat} {R : List (Addr × Obj)} {kd wy ln : Int} {p q : Nat} {wr : List Nat} {t1 t2 t3 t4 t5 t6 : Tok} {r : Addr} {nt : Nat} {x7 : Str} {t7 : Tok} {vr : List Value}
    (B : Below A₀ base outer h₀) (F : Fr h₀ L s.heap (docF kd wy p q wr ln lt nm t1 t2 t3 t4 t5 t6 m₁)) (X : (hd.heap_39 w.params).In h₀) (T : Top hd.view_39 loose mean mg mb h₀)
    (N : News h₀ L s.heap ((lt, listOf (vs ++ [Value.ref r]).toArray ev) :: (r, ({ cls := .type "tuple", data := .seq (.str x7 t7 :: vr).toArray nt } : Obj)) :: R))
    (hp : p ∈ sg) (hq : q ∈ sg) (hs : SigT (wy.fmod 2)) (hwl : wr.length ≤ 90000) (hvs : vs.length ≤ 100) (q1 : ∀ p ∈ R, p.1 ≠ lt) (f2 : @Ne Nat lt r) (hx7 : (x7 == Str.ofString "text") = false)
    (hd1 : dp + 12 < recursionLimit) (hu : un + 250 < cLine)
    (ret : ∀ (m' : Str → Option Value) (h' : Heap) (tk' : Nat) (t5' t6' t7' t8' : Tok) (r' : Addr), AllLt r' R → @Ne Nat r' lt → m' (Str.ofString "writing") = some (.str (S (wr ++ (escT (wy.fmod 2) p ++ escT (wy.fmod 2) q))) t5') → m' (Str.ofString "line") = some (.int (ln + cnt (escT (wy.fmod 2) p ++ escT (wy.fmod 2) q)) t6') →
      (∀ z, touched.contains z = false → m' z = docF kd wy p q wr ln lt nm t1 t2 t3 t4 t5 t6 m₁ z) → Fr h₀ L h' m' → News h₀ L h' ((r', ({ cls := .type "tuple", data := .seq [.str (Str.ofString "text") t7', .str (S ((escT (wy.fmod 2) p ++ escT (wy.fmod 2) q))) t8'].toArray } : Obj)) :: (lt, listOf (vs ++ [Value.ref r] ++ [Value.ref r']).toArray (ev + 1)) :: (r, ({ cls := .type "tuple", data := .seq (.str x7 t7 :: vr).toArray nt } : Obj)) :: R) → Q .next { s with heap := h', toks := tk' }) :
    wpAny (model PySem.Challenge.rw_mr0358_01.row.prog w) (ktrTop dp un gd (Str.ofString "_law_document") docScope L 802 (.ref 801) [] outer) (execs docC (envOf (Str.ofString "_law_document") docScope L 802 (.ref 801))) Q E s := by
  have hk : docScope.kind = .function := rfl
  have hl1 := escT_len (wy.fmod 2) p
  have hl2 := escT_len (wy.fmod 2) q
  have ec := count_S (escT (wy.fmod 2) p ++ escT (wy.fmod 2) q)
  k_with_none
  k_with "my append" => ((with_reducible show wpAny _ _ (call (Value.builtin _) [Value.ref _, _]) _ _ _); k_dflt (refine' append_K ?k1 ?k2 ?k3 ?_ ?z; (case k1 => k_asm); (case k2 => k_asm); (case k3 => k_upd); (case z => (rw [sizeLine_eq]; simp only [List.size_toArray, List.length_append, List.length_cons, List.length_nil]; omega)); k_whole); intro h' F' N'; (try k_sweep))
  k_with "my iadd" => (refine' iadd_E ?kx ?ky ?k1 ?_; (case kx => first | with_reducible rfl | with_reducible assumption); (case ky => first | with_reducible rfl | with_reducible assumption); (case k1 => (simp only [List.length_append, List.length_cons, List.length_nil]; omega)); intro t8 tk8)
  k_with "my add" => (refine' add_E ?kx ?ky ?k1 ?_; (case kx => first | with_reducible rfl | with_reducible assumption); (case ky => first | with_reducible rfl | with_reducible assumption); (case k1 => (simp only [List.length_append, List.length_cons, List.length_nil]; omega)); intro t8 tk8)
  k_with "my call" => ((with_reducible show wpAny _ _ (call (Value.ref 795) _) _ _ _); k_dflt (refine' textV ?k1 ?k2 ?k3 ?k4 ?k5 ?k6 rfl hp hq hs ?k7 ?k8 ?_; (case k1 => k_asm); (case k2 => k_asm); (case k3 => k_asm); (case k4 => k_asm); (case k5 => first | exact rfl | assumption); (case k6 => k_asm); (case k7 => ktr_room); (case k8 => ktr_units); k_whole; intro t9 h9 tk9 F9 N9; (try dsimp only); (try k_sweep); (try k_fold)))
  k_with "my call" => ((with_reducible show wpAny _ _ (call (Value.ref 781) _) _ _ _); k_dflt (refine' spelledTV ?k1 ?k2 ?k3 ?k4 ?k5 ?k6 rfl hp hq hs ?k7 ?k8 ?_; (case k1 => k_asm); (case k2 => k_asm); (case k3 => k_asm); (case k4 => k_asm); (case k5 => first | exact rfl | assumption); (case k6 => k_asm); (case k7 => ktr_room); (case k8 => ktr_units); k_whole; intro t9 h9 tk9 F9 N9; (try dsimp only); (try k_sweep); (try k_fold)))
  k_with "my sub" => ((with_reducible show wpAny _ _ (subscriptTail _ _ (Value.ref lt) _) _ _ _); k_dflt (refine' lastK ?k1 ?k2 ?k6 ?k7 ?_; (case k1 => k_asm); (case k2 => k_mem); (case k6 => with_unfolding_all rfl); (case k7 => (intro _; with_unfolding_all rfl)); k_whole))
  k_with "my sub" => ((with_reducible show wpAny _ _ (subscriptTail _ _ (Value.ref 776) _) _ _ _); k_dflt (refine' subT ?k1 ?k2 ?k3 ?k4 ?k5 ?k6 hs ?k9 ?k10 ?_; (case k1 => k_asm); (case k2 => k_asm); (case k3 => k_asm); (case k4 => k_asm); (case k5 => first | exact rfl | assumption); (case k6 => k_asm); (case k9 => with_unfolding_all rfl); (case k10 => (intro _; with_unfolding_all rfl)); k_whole))
  k_with "my sub" => ((with_reducible show wpAny _ _ (subscriptTail _ _ (Value.ref r) _) _ _ _); k_dflt (refine' tupK ?k1 ?k2 ?k3 ?k4 ?k5 ?k6 ?k7 ?_; (case k1 => k_asm); (case k2 => k_mem); (case k3 => decide); (case k4 => decide); (case k5 => exact rfl); (case k6 => with_unfolding_all rfl); (case k7 => (intro _; with_unfolding_all rfl)); k_whole))
  k_with "my truthy ref" => (k_dflt (refine' truthyT ?k1 ?k2 ?k3 ?_; (case k1 => k_asm); (case k2 => k_mem); (case k3 => omega); k_whole))
  revert X; k_fill; intro X
  k_steps
  all_goals (try simp only [List.push_toArray] at *)
  rename (Fr _ _ _ _) => F9
  simp only [ec] at F9
  rename (_ ∧ _) => l9
  refine' ret _ _ _ _ _ _ _ _ ?ka ?kb ?kc ?kd ?ke F9 ?kn
  case kn => k_asm
  case ka => exact l9.2.2
  case kb => omega
  case kc => exact rfl
  case kd => exact rfl
  case ke =>
    intro z hz
    simp only [touched, List.map_cons, List.map_nil, List.contains_cons, List.contains_nil, Bool.or_false, Bool.or_eq_false_iff, beq_eq_false_iff_ne, ne_eq] at hz
    simp [hz]
theorem textZ {w : World} {loose : List Str} {mean : ExcName → Option Value} {mg mb : Str → Option Value}
    {dp un : Nat} {gd : Option (List Code)} {outer : List Env} {A₀ : Around} {base h₀ : Heap} {L : Addr} {m₁ : Str → Option Value} {s : Shared} {Q : Flow → Shared → Prop} {E : Value → Shared → Prop}
    {lt nm : Addr} {vs : List Value} {ev : Nat} {R : List (Addr × Obj)} {kd wy ln : Int} {p q : Nat} {wr : List Nat} {t1 t2 t3 t4 t5 t6 : Tok} 
    (B : Below A₀ base outer h₀) (F : Fr h₀ L s.heap (docF kd wy p q wr ln lt nm t1 t2 t3 t4 t5 t6 m₁)) (X : (hd.heap_39 w.params).In h₀) (T : Top hd.view_39 loose mean mg mb h₀)
    (N : News h₀ L s.heap ((lt, listOf ([] : List Value).toArray ev) :: R))
    (hp : p ∈ sg) (hq : q ∈ sg) (hs : SigT (wy.fmod 2)) (hwl : wr.length ≤ 90000) (hvs : vs.length ≤ 100) (q1 : ∀ p ∈ R, p.1 ≠ lt) 
    (hd1 : dp + 12 < recursionLimit) (hu : un + 250 < cLine)
    (ret : ∀ (m' : Str → Option Value) (h' : Heap) (tk' : Nat) (t5' t6' t7' t8' : Tok) (r' : Addr), AllLt r' R → @Ne Nat r' lt → m' (Str.ofString "writing") = some (.str (S (wr ++ (escT (wy.fmod 2) p ++ escT (wy.fmod 2) q))) t5') → m' (Str.ofString "line") = some (.int (ln + cnt (escT (wy.fmod 2) p ++ escT (wy.fmod 2) q)) t6') →
      (∀ z, touched.contains z = false → m' z = docF kd wy p q wr ln lt nm t1 t2 t3 t4 t5 t6 m₁ z) → Fr h₀ L h' m' → News h₀ L h' ((r', ({ cls := .type "tuple", data := .seq [.str (Str.ofString "text") t7', .str (S ((escT (wy.fmod 2) p ++ escT (wy.fmod 2) q))) t8'].toArray } : Obj)) :: (lt, listOf [Value.ref r'].toArray (ev + 1)) :: R) → Q .next { s with heap := h', toks := tk' }) :
    wpAny (model PySem.Challenge.rw_mr0358_01.row.prog w) (ktrTop dp un gd (Str.ofString "_law_document") docScope L 802 (.ref 801) [] outer) (execs docC (envOf (Str.ofString "_law_document") docScope L 802 (.ref 801))) Q E s := by
  have hk : docScope.kind = .function := rfl
  have hl1 := escT_len (wy.fmod 2) p
  have hl2 := escT_len (wy.fmod 2) q
  have ec := count_S (escT (wy.fmod 2) p ++ escT (wy.fmod 2) q)
  k_with_none
  k_with "my append" => ((with_reducible show wpAny _ _ (call (Value.builtin _) [Value.ref _, _]) _ _ _); k_dflt (refine' append_K ?k1 ?k2 ?k3 ?_ ?z; (case k1 => k_asm); (case k2 => k_asm); (case k3 => k_upd); (case z => (rw [sizeLine_eq]; simp only [List.size_toArray, List.length_append, List.length_cons, List.length_nil]; omega)); k_whole); intro h' F' N'; (try k_sweep))
  k_with "my iadd" => (refine' iadd_E ?kx ?ky ?k1 ?_; (case kx => first | with_reducible rfl | with_reducible assumption); (case ky => first | with_reducible rfl | with_reducible assumption); (case k1 => (simp only [List.length_append, List.length_cons, List.length_nil]; omega)); intro t8 tk8)
  k_with "my add" => (refine' add_E ?kx ?ky ?k1 ?_; (case kx => first | with_reducible rfl | with_reducible assumption); (case ky => first | with_reducible rfl | with_reducible assumption); (case k1 => (simp only [List.length_append, List.length_cons, List.length_nil]; omega)); intro t8 tk8)
  k_with "my call" => ((with_reducible show wpAny _ _ (call (Value.ref 795) _) _ _ _); k_dflt (refine' textV ?k1 ?k2 ?k3 ?k4 ?k5 ?k6 rfl hp hq hs ?k7 ?k8 ?_; (case k1 => k_asm); (case k2 => k_asm); (case k3 => k_asm); (case k4 => k_asm); (case k5 => first | exact rfl | assumption); (case k6 => k_asm); (case k7 => ktr_room); (case k8 => ktr_units); k_whole; intro t9 h9 tk9 F9 N9; (try dsimp only); (try k_sweep); (try k_fold)))
  k_with "my call" => ((with_reducible show wpAny _ _ (call (Value.ref 781) _) _ _ _); k_dflt (refine' spelledTV ?k1 ?k2 ?k3 ?k4 ?k5 ?k6 rfl hp hq hs ?k7 ?k8 ?_; (case k1 => k_asm); (case k2 => k_asm); (case k3 => k_asm); (case k4 => k_asm); (case k5 => first | exact rfl | assumption); (case k6 => k_asm); (case k7 => ktr_room); (case k8 => ktr_units); k_whole; intro t9 h9 tk9 F9 N9; (try dsimp only); (try k_sweep); (try k_fold)))
  k_with "my sub" => ((with_reducible show wpAny _ _ (subscriptTail _ _ (Value.ref lt) _) _ _ _); k_dflt (refine' lastK ?k1 ?k2 ?k6 ?k7 ?_; (case k1 => k_asm); (case k2 => k_mem); (case k6 => with_unfolding_all rfl); (case k7 => (intro _; with_unfolding_all rfl)); k_whole))
  k_with "my sub" => ((with_reducible show wpAny _ _ (subscriptTail _ _ (Value.ref 776) _) _ _ _); k_dflt (refine' subT ?k1 ?k2 ?k3 ?k4 ?k5 ?k6 hs ?k9 ?k10 ?_; (case k1 => k_asm); (case k2 => k_asm); (case k3 => k_asm); (case k4 => k_asm); (case k5 => first | exact rfl | assumption); (case k6 => k_asm); (case k9 => with_unfolding_all rfl); (case k10 => (intro _; with_unfolding_all rfl)); k_whole))
  k_with "my truthy ref" => (k_dflt (refine' truthyF ?k1 ?k2 ?_; (case k1 => k_asm); (case k2 => k_mem); k_whole))
  revert X; k_fill; intro X
  k_steps
  all_goals (try simp only [List.push_toArray] at *)
  rename (Fr _ _ _ _) => F9
  simp only [ec] at F9
  rename (_ ∧ _) => l9
  refine' ret _ _ _ _ _ _ _ _ ?ka ?kb ?kc ?kd ?ke F9 ?kn
  case kn => k_asm
  case ka => exact l9.2
  case kb => omega
  case kc => exact rfl
  case kd => exact rfl
  case ke =>
    intro z hz
    simp only [touched, List.map_cons, List.map_nil, List.contains_cons, List.contains_nil, Bool.or_false, Bool.or_eq_false_iff, beq_eq_false_iff_ne, ne_eq] at hz
    simp [hz]
theorem endsB {w : World} {loose : List Str} {mean : ExcName → Option Value} {mg mb : Str → Option Value}
    {dp un : Nat} {gd : Option (List Code)} {outer : List Env} {A₀ : Around} {base h₀ : Heap} {L : Addr} {m₁ : Str → Option Value} {s : Shared} {Q : Flow → Shared → Prop} {E : Value → Shared → Prop}
    {lt nm : Addr} {vs nvs : List Value} {ev en : Nat} {R : List (Addr × Obj)} {kd wy ln : Int} {p q : Nat} {wr : List Nat} {t1 t2 t3 t4 t5 t6 : Tok} {c : Nat} {tn : Tok}
    (B : Below A₀ base outer h₀) (F : Fr h₀ L s.heap (docF kd wy p q wr ln lt nm t1 t2 t3 t4 t5 t6 m₁)) (X : (hd.heap_39 w.params).In h₀) (T : Top hd.view_39 loose mean mg mb h₀)
    (N : News h₀ L s.heap ((lt, listOf vs.toArray ev) :: (nm, listOf (nvs ++ [Value.str (S [c]) tn]).toArray en) :: R))
    (hwl : wr.length ≤ 90000) (hvs : vs.length ≤ 100) (hns : nvs.length ≤ 100) (f1 : @Ne Nat lt nm) (q1 : ∀ p ∈ R, p.1 ≠ lt) (q2 : ∀ p ∈ R, p.1 ≠ nm)
    (hd1 : dp + 12 < recursionLimit) (hu : un + 250 < cLine)
    (ret : ∀ (m' : Str → Option Value) (h' : Heap) (tk' : Nat) (t5' t7' t8' t9' : Tok) (r' : Addr), AllLt r' R → @Ne Nat r' lt → @Ne Nat r' nm → m' (Str.ofString "writing") = some (.str (S (wr ++ [60, 47, c, 62])) t5') → m' (Str.ofString "line") = some (.int ln t6) →
      (∀ z, touched.contains z = false → m' z = docF kd wy p q wr ln lt nm t1 t2 t3 t4 t5 t6 m₁ z) → Fr h₀ L h' m' → News h₀ L h' ((r', ({ cls := .type "tuple", data := .seq [.str (Str.ofString "ends") t7', .str (S [c]) t8', .str (Str.ofString ">") t9'].toArray } : Obj)) :: (lt, listOf (vs ++ [Value.ref r']).toArray (ev + 1)) :: (nm, listOf nvs.toArray (en + 1)) :: R) → Q .next { s with heap := h', toks := tk' }) :
    wpAny (model PySem.Challenge.rw_mr0358_01.row.prog w) (ktrTop dp un gd (Str.ofString "_law_document") docScope L 802 (.ref 801) [] outer) (execs docB (envOf (Str.ofString "_law_document") docScope L 802 (.ref 801))) Q E s := by
  have hk : docScope.kind = .function := rfl
  have g1 := c_lts
  have g2 := c_gt
  k_with_none
  k_with "my append" => ((with_reducible show wpAny _ _ (call (Value.builtin _) [Value.ref _, _]) _ _ _); k_dflt (refine' append_K ?k1 ?k2 ?k3 ?_ ?z; (case k1 => k_asm); (case k2 => k_asm); (case k3 => k_upd); (case z => (rw [sizeLine_eq]; simp only [List.size_toArray, List.length_append, List.length_cons, List.length_nil]; omega)); k_whole); intro h' F' N'; (try k_sweep))
  k_with "my iadd" => (refine' iadd_E ?kx ?ky ?k1 ?_; (case kx => first | with_reducible rfl | with_reducible assumption); (case ky => first | with_reducible rfl | with_reducible assumption); (case k1 => (simp only [List.length_append, List.length_cons, List.length_nil]; omega)); intro t8 tk8)
  k_with "my add" => (refine' add_E ?kx ?ky ?k1 ?_; (case kx => first | with_reducible rfl | with_reducible assumption); (case ky => first | with_reducible rfl | with_reducible assumption); (case k1 => (simp only [List.length_append, List.length_cons, List.length_nil]; omega)); intro t8 tk8)
  k_with "my pop" => (k_dflt (refine' popK ?k1 ?k2 ?k3 ?k4 ?_; (case k1 => k_asm); (case k2 => k_asm); (case k3 => k_upd); (case k4 => omega); k_whole); intro h' F' N'; (try k_sweep))
  revert X; k_fill; intro X
  k_steps
  all_goals (try simp only [List.push_toArray] at *)
  rename (Fr _ _ _ _) => F9
  rename (_ < _ ∧ _) => l9
  refine' ret _ _ _ _ _ _ _ _ ?ka ?kb ?kb2 ?kc ?kd ?ke F9 ?kn
  case kn => k_asm
  case ka => exact l9.2.2
  case kb => omega
  case kb2 => omega
  case kc => exact rfl
  case kd => exact rfl
  case ke =>
    intro z hz
    simp only [touched, List.map_cons, List.map_nil, List.contains_cons, List.contains_nil, Bool.or_false, Bool.or_eq_false_iff, beq_eq_false_iff_ne, ne_eq] at hz
    simp [hz]
section
variable {prog : Program} {w : World} {A : Around} {E : Value → Shared → Prop} {s : Shared} {env : Env} {h₀ : Heap} {target : Expr} {body : List Stmt} {Q : Flow → Shared → Prop}
abbrev tupO (vs : List Value) (n : Nat) : Obj := { cls := .type "tuple", data := .seq vs.toArray n }
theorem tupIter {l : Addr} {vs : List Value} {nn : Nat} {m₀ : Str → Option Value} {news : List (Addr × Obj)} (J : Nat → (Str → Option Value) → List (Addr × Obj) → Prop)
    (hh : A.handled = none) (hl : (l, tupO vs nn) ∈ news) (F : Fr h₀ env.locals s.heap m₀) (N : News h₀ env.locals s.heap news) (hj : J 0 m₀ news)
    (turn : ∀ i v m₁ news₁ h tk own, vs[i]? = some v → OwnOff own (news₁.map (·.1)) → (l, tupO vs nn) ∈ news₁ → J i m₁ news₁ → Fr h₀ env.locals h m₁ → News h₀ env.locals h (news₁ ++ own) →
      wpAny (model prog w) A (assign target env v) (fun _ s₃ => wpAny (model prog w) A (execs body env) (InvPostG h₀ env.locals (fun m' nx => (l, tupO vs nn) ∈ nx ∧ J (i + 1) m' nx) own { s with heap := h, toks := tk } Q) E s₃) E { s with heap := h, toks := tk })
    (done : ∀ m₁ news₁ h tk, J vs.length m₁ news₁ → Fr h₀ env.locals h m₁ → News h₀ env.locals h news₁ → Q .next { s with heap := h, toks := tk }) :
    wpAny (model prog w) A (pyIter (.ref l)) (fun it s₂ => TurnsAt prog w A h₀ env target body Q E it s₂) E s := by
  have hol : s.heap.get? l = some (tupO vs nn) := (N _ hl).1
  have hls : s.heap.IsTuple l vs.toArray := ⟨_, hol, rfl, nn, rfl⟩
  have hne : l ≠ s.heap.objs.size := Nat.ne_of_lt (Heap.lt_size hol)
  refine wpAny_pyIter_tuple hls ?_
  have W0 := Walks.tuple (prog := prog) (w := w) hh s.heap.objs.size l hne vs.toArray
  have hlen : vs.toArray.size = vs.length := by simp
  rw [hlen] at W0
  have W := KTurns.ofWalks (target := target) W0 fun i v s Q E st q => letGo_tupleiter st.1 q
  refine ⟨_, _, _, vs.length, _, _, _, m₀, news, (fun i m nx => (l, tupO vs nn) ∈ nx ∧ J i m nx), rfl, W, ?_, ?_, ?_, ⟨⟨_, Heap.get?_push_size _ rfl, rfl, rfl⟩, hls.at fun o e => Heap.get?_push_of_some _ e⟩, F.push _, (fun p hp => ⟨Heap.get?_push_of_some _ (N p hp).1, (N p hp).2⟩), ⟨hl, hj⟩, ?_, ?_⟩
  · intro hm
    rcases List.mem_cons.mp hm with e | hm
    · exact absurd F.ns.lt (e ▸ Nat.lt_irrefl _)
    · exact (N _ hl).2.1 ((List.mem_singleton.mp hm).symm)
  · intro b hb
    rw [List.mem_singleton.mp hb]
    exact next_is_new F
  · intro p hp hI
    exact absurd (Heap.lt_size (N p hp).1) ((List.mem_singleton.mp hI) ▸ Nat.lt_irrefl _)
  · rintro i v m₁ news₁ hh' tk' own hin hP ⟨hl₁, hJ⟩ hoff hown hget hfp hst F₁ N₁
    have hP' : vs[i]? = some v := by simpa using hP
    have hI0 : h₀.get? s.heap.objs.size = none := next_is_new F
    obtain ⟨⟨oI, hoI, _⟩, _⟩ := id hst
    have hIown : (s.heap.objs.size, oI) ∈ own.filter fun p => decide (p.1 = s.heap.objs.size) := List.mem_filter.mpr ⟨hfp _ (List.mem_cons.mpr (.inl rfl)) hI0 _ hoI, by simp⟩
    have hsep : OwnOff (own.filter fun p => decide (p.1 = s.heap.objs.size)) (news₁.map (·.1)) := by
      intro p hp b hb e
      obtain ⟨q, hq, rfl⟩ := List.mem_map.mp hb
      have h1 : p.1 = s.heap.objs.size := by simpa using (List.mem_filter.mp hp).2
      exact hoff q hq (List.mem_singleton.mpr (e ▸ h1))
    have N₂ : News h₀ env.locals hh' (news₁ ++ own.filter fun p => decide (p.1 = s.heap.objs.size)) := fun p hp => N₁ p ((List.mem_append.mp hp).elim (fun h => List.mem_append.mpr (.inr h)) fun h => List.mem_append.mpr (.inl ((List.mem_filter.mp h).1)))
    have hlo : hh'.get? l = some (tupO vs nn) := (N₁ _ (List.mem_append.mpr (.inr hl₁))).1
    refine wpAny_mono (turn i v m₁ news₁ hh' tk' _ hP' hsep hl₁ hJ F₁ N₂) (fun _ s₃ p3 => wpAny_mono p3 (fun f s₂ p => ?_) fun _ _ e => e) fun _ _ e => e
    have fin : InvEndG h₀ env.locals (fun m' nx => (l, tupO vs nn) ∈ nx ∧ J (i + 1) m' nx) (own.filter fun p => decide (p.1 = s.heap.objs.size)) { s with heap := hh', toks := tk' } s₂ →
        LoopStepU h₀ env.locals [s.heap.objs.size] own (fun m nx => (l, tupO vs nn) ∈ nx ∧ J (i + 1) m nx) { s with heap := hh', toks := tk' } .next s₂ := by
      rintro ⟨h', tk, m', news', nx, e, F', N', hn, ho, ha, hm⟩
      refine ⟨rfl, h', tk, m', nx, e, F', fun p hp => ?_, fun p hp hq => ?_, hm⟩
      · rcases List.mem_append.mp hp with h | h
        · by_cases hI : p.1 = s.heap.objs.size
          · exact N' p (ho p (List.mem_filter.mpr ⟨h, by simpa using hI⟩))
          · have h1 : p.1 = l := by
              rcases List.mem_cons.mp (hown p h) with h2 | h2
              · exact absurd h2 hI
              · exact List.mem_singleton.mp h2
            have h2 : hh'.get? p.1 = some p.2 := hget p h
            rw [h1, hlo] at h2
            have h3 : p = (l, tupO vs nn) := Prod.ext h1 (Option.some.inj h2).symm
            rw [h3]
            exact N' _ (hn _ hm.1)
        · exact N' p (hn p h)
      · exact ha _ hIown p.1 (List.mem_map.mpr ⟨p, hp, rfl⟩) (List.mem_singleton.mp hq).symm
    cases f with
    | ret v => exact p
    | brk => exact p
    | next => exact fin p
    | cont => exact fin p
  · rintro h' tk m' news' F' N' _ ⟨_, hJ⟩
    exact done m' news' h' tk hJ F' N'
end
def FtS {σ : Type} (Led : σ → List (Addr × Obj)) (ps : σ → List (Str × Value)) (Facts : σ → Prop) (stored : List Str) (m₀ : Str → Option Value) (P : Nat → σ → Prop) (i : Nat) (m : Str → Option Value) (nx : List (Addr × Obj)) : Prop :=
  ∃ c : σ, nx = Led c ∧ Facts c ∧ (∀ p ∈ ps c, m p.1 = some p.2) ∧ (∀ z, (∀ p ∈ ps c, z ≠ p.1) → stored.contains z = false → m z = m₀ z) ∧ P i c
theorem ft_end {σ : Type} {h₀ : Heap} {L : Addr} {s : Shared} {Led : σ → List (Addr × Obj)} {ps : σ → List (Str × Value)} {Facts : σ → Prop} {stored : List Str} {m₀ m' : Str → Option Value} {P : Nat → σ → Prop} {i : Nat} {Q : Flow → Shared → Prop} {h h' : Heap} {tk tk' : Nat} {own news' : List (Addr × Obj)} {l : Addr} {o : Obj} (c' : σ)
    (F : Fr h₀ L h' m') (N : News h₀ L h' news') (hn : ∀ p ∈ Led c', p ∈ news') (ho : ∀ p ∈ own, p ∈ news') (ha : OwnOff own ((Led c').map (·.1))) (hl : (l, o) ∈ Led c') (hf : Facts c') (hk : ∀ p ∈ ps c', m' p.1 = some p.2) (hr : ∀ z, (∀ p ∈ ps c', z ≠ p.1) → stored.contains z = false → m' z = m₀ z) (hp : P i c') :
    InvPostG h₀ L (fun m' nx => (l, o) ∈ nx ∧ FtS Led ps Facts stored m₀ P i m' nx) own { s with heap := h, toks := tk } Q .next { s with heap := h', toks := tk' } :=
  InvEndG.intro F N ⟨hl, c', rfl, hf, hk, hr, hp⟩ ha hn ho
theorem forTup {σ : Type} {prog : Program} {w : World} {A : Around} {E : Value → Shared → Prop} {s : Shared} {env : Env} {h₀ : Heap} {target : Expr} {body : List Stmt} {Q : Flow → Shared → Prop}
    {l : Addr} {vs : List Value} {nn : Nat} {m₀ : Str → Option Value} (Led : σ → List (Addr × Obj)) (ps : σ → List (Str × Value)) (Facts : σ → Prop) (stored : List Str) (P : Nat → σ → Prop) (c₀ : σ)
    (hh : A.handled = none) (hl : ∀ c, (l, tupO vs nn) ∈ Led c) (F : Fr h₀ env.locals s.heap m₀) (N : News h₀ env.locals s.heap (Led c₀)) (hf : Facts c₀) (hk : ∀ p ∈ ps c₀, m₀ p.1 = some p.2) (hp : P 0 c₀)
    (turn : ∀ (c : σ) i v (u : Str → Option Value) h tk own, vs[i]? = some v → OwnOff own ((Led c).map (·.1)) → Facts c → P i c →
      Fr h₀ env.locals h (kstB (fun z => if stored.contains z then u z else m₀ z) (ps c)) → News h₀ env.locals h (Led c ++ own) →
      wpAny (model prog w) A (assign target env v) (fun _ s₃ => wpAny (model prog w) A (execs body env) (InvPostG h₀ env.locals (fun m' nx => (l, tupO vs nn) ∈ nx ∧ FtS Led ps Facts stored m₀ P (i + 1) m' nx) own { s with heap := h, toks := tk } Q) E s₃) E { s with heap := h, toks := tk })
    (done : ∀ (c : σ) (u : Str → Option Value) h tk, Facts c → P vs.length c → Fr h₀ env.locals h (kstB (fun z => if stored.contains z then u z else m₀ z) (ps c)) → News h₀ env.locals h (Led c) → Q .next { s with heap := h, toks := tk }) :
    wpAny (model prog w) A (pyIter (.ref l)) (fun it s₂ => TurnsAt prog w A h₀ env target body Q E it s₂) E s := by
  refine tupIter (news := Led c₀) (fun i m nx => FtS Led ps Facts stored m₀ P i m nx) hh (hl c₀) F N ⟨c₀, rfl, hf, hk, fun _ _ _ => rfl, hp⟩ ?_ ?_
  · rintro i v m₁ nx h tk own hv hoff _ ⟨c, rfl, hf', h1, h2, hp'⟩ F₁ N₁
    exact turn c i v m₁ h tk own hv hoff hf' hp' (ksw_fr h1 h2 F₁) N₁
  · rintro m₁ nx h tk ⟨c, rfl, hf', h1, h2, hp'⟩ F₁ N₁
    exact done c m₁ h tk hf' hp' (ksw_fr h1 h2 F₁) N₁
section
variable {prog : Program} {w : World} {A : Around} {E : Value → Shared → Prop} {s : Shared} {h₀ : Heap} {L : Addr} {m : Str → Option Value} {news : List (Addr × Obj)}
theorem sliceApplied_upto {sl : Addr} {k : Nat} {u : Tok} {Q : Int × Int × Nat → Shared → Prop} (hs : s.heap.IsSliceOf sl .none (.int k u) .none) (hk : k ≤ 2) (h : Q ((0 : Int), 1, k) s) :
    wpAny (model prog w) A (Builtin.Slice.sliceApplied (.ref sl) (pure (2 : Int))) Q E s := by
  obtain ⟨os, hos, hcs, hds⟩ := id hs
  unfold Builtin.Slice.sliceApplied Builtin.Slice.sliceFields
  refine wpAny_bind (wpAny_bind (wpAny_field hos hds (x := .none) rfl (wpAny_bind (wpAny_field hos hds (x := .int k u) rfl (wpAny_bind (wpAny_field hos hds (x := .none) rfl (wpAny_pure ?_)))))))
  refine wpAny_bind (slicePart_none ?_)
  show wpAny _ _ (if ((1 : Int) == 0) = true then _ else _) _ _ s
  rw [if_neg (by decide)]
  refine wpAny_bind (slicePart_none (wpAny_bind (slicePart_int (wpAny_bind (wpAny_pure ?_)))))
  show wpAny _ _ (match Builtin.Slice.sliceAdjust none (some (k : Int)) 1 (2 : Int) with | (lo, hi) => pure (lo, (1 : Int), Builtin.Slice.slicePlaces lo hi 1)) _ _ s
  have e : Builtin.Slice.sliceAdjust none (some (k : Int)) 1 (2 : Int) = (0, (k : Int)) := by
    have : k = 0 ∨ k = 1 ∨ k = 2 := by omega
    rcases this with rfl | rfl | rfl <;> rfl
  rw [e]
  have e2 : Builtin.Slice.slicePlaces (0 : Int) (k : Int) 1 = k := by
    have : k = 0 ∨ k = 1 ∨ k = 2 := by omega
    rcases this with rfl | rfl | rfl <;> rfl
  show wpAny _ _ (pure ((0 : Int), (1 : Int), Builtin.Slice.slicePlaces (0 : Int) (k : Int) 1)) _ _ s
  rw [e2]
  exact wpAny_pure h
theorem getItem_upto {t sl : Addr} {x y : Value} {k : Nat} {u : Tok} {Q : Value → Shared → Prop} (ht : IsTup s.heap t #[x, y]) (hs : s.heap.IsSliceOf sl .none (.int k u) .none) (hk : k ≤ 2)
    (h : k < 2 → Q (.ref s.heap.objs.size) { s with heap := s.heap.push { cls := .type "tuple", data := .seq ([x, y].take k).toArray } }) (h2 : k = 2 → Q (.ref t) s) :
    wpAny (model prog w) A (getItem (.ref t) (.ref sl)) Q E s := by
  have hdrop : sizeOk (.seq ([x, y].take k).toArray) := by
    show ([x, y].take k).toArray.size ≤ sizeLine
    rw [List.size_toArray, List.length_take, sizeLine_eq]
    omega
  obtain ⟨os, hos, hcs, hds⟩ := id hs
  have hTs : s.TypeIs (.ref sl) "slice" := ⟨os, hos, hcs⟩
  unfold getItem
  try with_reducible refine wpAny_holding ?_
  first | refine wpAny_bind (wpAny_pure ?_) | skip
  refine wpAny_bind (wpAny_sequenceKey ht.typeIs (by decide) ?_)
  refine wpAny_bind (wpAny_callSpecial?_slot (name := Str.ofString "__getitem__") ht.typeIs slot_tuple_getitem
    (wpAny_call_entry slot_tuple_getitem ht.typeIs entry_tuple_getitem ?_ (args_tuple_getitem _ _)))
  show wpAny _ _ (Builtin.Tuple.tupleItemsOf (.ref t) >>= _) _ _ s
  refine wpAny_bind (tupleItemsOf_ ht ?_)
  refine wpAny_bind (wpAny_typeOf hTs ?_)
  rw [if_pos (by decide)]
  refine wpAny_bind (sliceApplied_upto hs hk ?_)
  show wpAny _ _ (if ((0 : Int) == 0 && (1 : Int) == 1 && k == 2) = true then _ else _) _ _ s
  have : k = 0 ∨ k = 1 ∨ k = 2 := by omega
  rcases this with rfl | rfl | rfl
  · rw [if_neg (by decide)]
    replace h := h (by decide)
    first
      | exact wpAny_bind (m := Builtin.Tuple.tupleExact _) (wpAny_newObj_type (wpAny_pure ⟨_, rfl, wpAny_pure h⟩) hdrop)
      | exact wpAny_bind (m := Builtin.Tuple.tupleExact _) (wpAny_newObj_type (wpAny_bind (wpAny_pure (wpAny_pure ⟨_, rfl, wpAny_pure h⟩))) hdrop)
      | exact wpAny_bind (wpAny_bind (m := Builtin.Tuple.tupleExact _) (wpAny_newObj_type (wpAny_pure (wpAny_pure ⟨_, rfl, wpAny_pure h⟩)) hdrop))
      | exact wpAny_bind (wpAny_bind (m := Builtin.Tuple.tupleExact _) (wpAny_newObj_type (wpAny_pure ⟨_, rfl, wpAny_pure h⟩) hdrop))
  · rw [if_neg (by decide)]
    replace h := h (by decide)
    first
      | exact wpAny_bind (m := Builtin.Tuple.tupleExact _) (wpAny_newObj_type (wpAny_pure ⟨_, rfl, wpAny_pure h⟩) hdrop)
      | exact wpAny_bind (m := Builtin.Tuple.tupleExact _) (wpAny_newObj_type (wpAny_bind (wpAny_pure (wpAny_pure ⟨_, rfl, wpAny_pure h⟩))) hdrop)
      | exact wpAny_bind (wpAny_bind (m := Builtin.Tuple.tupleExact _) (wpAny_newObj_type (wpAny_pure (wpAny_pure ⟨_, rfl, wpAny_pure h⟩)) hdrop))
      | exact wpAny_bind (wpAny_bind (m := Builtin.Tuple.tupleExact _) (wpAny_newObj_type (wpAny_pure ⟨_, rfl, wpAny_pure h⟩) hdrop))
  · rw [if_pos (by decide)]
    replace h2 := h2 rfl
    refine wpAny_bind (m := Builtin.Tuple.tupleIsExact _) ?_
    unfold Builtin.Tuple.tupleIsExact
    refine wpAny_bind (wpAny_typeOf ht.typeIs (wpAny_pure ?_))
    rw [if_pos (by decide)]
    first
      | exact wpAny_bind (wpAny_pure (wpAny_pure ⟨_, rfl, wpAny_pure h2⟩))
      | exact wpAny_bind (wpAny_pure (wpAny_bind (wpAny_pure ⟨_, rfl, wpAny_pure h2⟩)))
      | exact wpAny_bind (wpAny_rule (wpAny_pure ⟨_, rfl, wpAny_pure h2⟩))
theorem slice2K {t : Addr} {x y : Value} {kz : Int} (k : Nat) {n : Nat} {u : Tok} {ve se : Expr} {Q : Value → Shared → Prop} (F : Fr h₀ L s.heap m) (N : News h₀ L s.heap news) (hm : (t, tupO [x, y] n) ∈ news) (hk : k ≤ 2) (hkz : kz = (k : Int))
    (hs : subscripted se false (.ref t) (.ref s.heap.objs.size) = operate [.ref s.heap.objs.size, .ref t] (getItem (.ref t) (.ref s.heap.objs.size)))
    (h : ∀ D nn h', Fr h₀ L h' m → News h₀ L h' ((D, tupO ([x, y].take k) nn) :: news) → @LE.le Nat _ t D → Q (.ref D) { s with heap := h' }) :
    wpAny (model prog w) A (subscriptTail ve se (.ref t) (.ref s.heap.objs.size)) Q E { s with heap := s.heap.push { cls := .type "slice", data := .fields #[.none, .int kz u, .none] } } := by
  subst hkz
  refine kba_turn (value' := PySem.Expr.Name (PySem.Str.ofString "_") ⟨0, 0, 0, 0⟩) (fun _ => rfl) ?_
  have ht : IsTup s.heap t #[x, y] := N.isTup hm
  have ht' : IsTup (s.heap.push { cls := .type "slice", data := .fields #[.none, .int k u, .none] }) t #[x, y] := ht.keeps fun _ _ e => Heap.get?_push_of_some _ e
  have N0 : News h₀ L (s.heap.push { cls := .type "slice", data := .fields #[.none, .int k u, .none] }) news := N.grown fun _ _ e => Heap.get?_push_of_some _ e
  refine subscriptTail_ops (s := { s with heap := s.heap.push { cls := .type "slice", data := .fields #[.none, .int k u, .none] } }) ht'.typeIs slot_tuple_getitem.lookup
    (getItem_upto ht' (Heap.IsSliceOf.new ..) hk ?_ ?_) hs (fun _ => rfl)
  · intro hlt
    have N1 := News.push (F.push { cls := .type "slice", data := .fields #[.none, .int k u, .none] }) N0 { cls := .type "tuple", data := .seq ([x, y].take k).toArray }
    rw [Heap.size_push] at N1
    show Q (.ref (s.heap.push _).objs.size) _
    rw [Heap.size_push]
    exact h _ 0 _ ((F.push _).push _) N1 (Nat.le_of_lt (Nat.lt_succ_of_lt (Heap.lt_size (N _ hm).1)))
  · rintro rfl
    refine h t n _ (F.push _) ?_ (Nat.le_refl _)
    intro p hp
    rcases List.mem_cons.mp hp with rfl | hp
    · exact N0 _ hm
    · exact N0 _ hp
end
def docForP : Stmt := docA.getD 3 default
def forT (s : Stmt) : Expr := match s with
  | .For t _ _ _ _ => t
  | _ => default
abbrev pairG (wy : Int) (w0 : List Nat) (ln : Int) (lp : Addr) (t1 t5 t6 : Tok) (m₁ : Str → Option Value) : Str → Option Value :=
  fun y => if y = Str.ofString "writing" then some (.str (S w0) t5) else if y = Str.ofString "line" then some (.int ln t6) else if y = Str.ofString "pairs" then some (.ref lp) else if y = Str.ofString "way" then some (.int wy t1) else m₁ y
def touchedP : List Str := ["writing", "line", "key", "value", "spelled"].map Str.ofString
theorem pairTurn {w : World} {loose : List Str} {mean : ExcName → Option Value} {mg mb : Str → Option Value}
    {dp un : Nat} {gd : Option (List Code)} {outer : List Env} {A₀ : Around} {base h₀ : Heap} {L : Addr} {m₁ : Str → Option Value} {s : Shared} {Q : Flow → Shared → Prop} {E : Value → Shared → Prop}
    {lp ti : Addr} {pvs : List Value} {ep nt : Nat} {R : List (Addr × Obj)} {wy ln : Int} {p q c : Nat} {w0 : List Nat} {t1 t2 t3 t5 t6 : Tok} {kx : Str}
    (B : Below A₀ base outer h₀) (F : Fr h₀ L s.heap (pairG wy w0 ln lp t1 t5 t6 m₁)) (X : (hd.heap_39 w.params).In h₀) (T : Top hd.view_39 loose mean mg mb h₀)
    (N : News h₀ L s.heap ((lp, listOf pvs.toArray ep) :: (ti, tupO [.str kx t2, .str (S [p, q]) t3] nt) :: R))
    (hp : p ∈ sg) (hq : q ∈ sg) (hs : SigA (wy.fmod 3)) (hkx : kx = S [c])
    (hwl : w0.length ≤ 90000) (hvs : pvs.length ≤ 100) (f1 : @Ne Nat lp ti) (q1 : ∀ p ∈ R, p.1 ≠ lp)
    (hd1 : dp + 12 < recursionLimit) (hu : un + 250 < cLine)
    (ret : ∀ (m' : Str → Option Value) (h' : Heap) (tk' : Nat) (t5' t6' t7' t8' t9' : Tok) (r' : Addr), AllLt r' R → @Ne Nat r' lp → m' (Str.ofString "writing") = some (.str (S (w0 ++ pairR (c, escA (wy.fmod 3) p ++ escA (wy.fmod 3) q))) t5') → m' (Str.ofString "line") = some (.int (ln + cnt (escA (wy.fmod 3) p ++ escA (wy.fmod 3) q)) t6') →
      (∀ z, touchedP.contains z = false → m' z = pairG wy w0 ln lp t1 t5 t6 m₁ z) → Fr h₀ L h' m' → News h₀ L h' ((r', tupO [.str (S [c]) t7', .str (Str.ofString "=") t8', .str (S (34 :: ((escA (wy.fmod 3) p ++ escA (wy.fmod 3) q) ++ [34]))) t9'] 0) :: (lp, listOf (pvs ++ [Value.ref r']).toArray (ep + 1)) :: (ti, tupO [.str kx t2, .str (S [p, q]) t3] nt) :: R) → Q .next { s with heap := h', toks := tk' }) :
    wpAny (model PySem.Challenge.rw_mr0358_01.row.prog w) (ktrTop dp un gd (Str.ofString "_law_document") docScope L 802 (.ref 801) [] outer) (assign (forT docForP) (envOf (Str.ofString "_law_document") docScope L 802 (.ref 801)) (.ref ti)) (fun _ s₃ => wpAny (model PySem.Challenge.rw_mr0358_01.row.prog w) (ktrTop dp un gd (Str.ofString "_law_document") docScope L 802 (.ref 801) [] outer) (execs (forB docForP) (envOf (Str.ofString "_law_document") docScope L 802 (.ref 801))) Q E s₃) E s := by
  subst hkx
  have hk : docScope.kind = .function := rfl
  have hl1 := escA_len (wy.fmod 3) p
  have hl2 := escA_len (wy.fmod 3) q
  have ec := count_S (escA (wy.fmod 3) p ++ escA (wy.fmod 3) q)
  have g2 := c_gt
  have g3 := c_sp
  have g4 := c_eq
  have g5 := c_q
  k_with_none
  k_with "my append" => ((with_reducible show wpAny _ _ (call (Value.builtin _) [Value.ref _, _]) _ _ _); k_dflt (refine' append_K ?k1 ?k2 ?k3 ?_ ?z; (case k1 => k_asm); (case k2 => k_asm); (case k3 => k_upd); (case z => (rw [sizeLine_eq]; simp only [List.size_toArray, List.length_append, List.length_cons, List.length_nil]; omega)); k_whole); intro h' F' N'; (try k_sweep))
  k_with "my iadd" => (refine' iadd_E ?kx ?ky ?k1 ?_; (case kx => first | with_reducible rfl | with_reducible assumption); (case ky => first | with_reducible rfl | with_reducible assumption); (case k1 => (simp only [List.length_append, List.length_cons, List.length_nil]; omega)); intro t8 tk8)
  k_with "my add" => (refine' add_E ?kx ?ky ?k1 ?_; (case kx => first | with_reducible rfl | with_reducible assumption); (case ky => first | with_reducible rfl | with_reducible assumption); (case k1 => (simp only [List.length_append, List.length_cons, List.length_nil]; omega)); intro t8 tk8)
  k_with "my newList" => (k_dflt (refine' newList_K ?k1 ?k2 ?_; (case k1 => k_asm); (case k2 => k_asm); k_whole); intro lp h' F' N' l1; (try k_lt l1); (try k_sweep))
  k_with "my call" => ((with_reducible show wpAny _ _ (call (Value.ref 788) _) _ _ _); k_dflt (refine' attributeV ?k1 ?k2 ?k3 ?k4 ?k5 ?k6 rfl ?kp ?kq hs ?k7 ?k8 ?_; (case k1 => k_asm); (case k2 => k_asm); (case k3 => k_asm); (case k4 => k_asm); (case k5 => first | exact rfl | assumption); (case k6 => k_asm); (case kp => with_reducible assumption); (case kq => with_reducible assumption); (case k7 => ktr_room); (case k8 => ktr_units); k_whole; intro t9 h9 tk9 F9 N9; (try dsimp only); (try k_sweep); (try k_fold)))
  k_with "my call" => ((with_reducible show wpAny _ _ (call (Value.ref 781) _) _ _ _); k_dflt (refine' spelledAV ?k1 ?k2 ?k3 ?k4 ?k5 ?k6 rfl ?kp ?kq hs ?k7 ?k8 ?_; (case k1 => k_asm); (case k2 => k_asm); (case k3 => k_asm); (case k4 => k_asm); (case k5 => first | exact rfl | assumption); (case k6 => k_asm); (case kp => with_reducible assumption); (case kq => with_reducible assumption); (case k7 => ktr_room); (case k8 => ktr_units); k_whole; intro t9 h9 tk9 F9 N9; (try dsimp only); (try k_sweep); (try k_fold)))
  k_with "my sub" => ((with_reducible show wpAny _ _ (subscriptTail _ _ (Value.ref 773) _) _ _ _); k_dflt (refine' subA ?k1 ?k2 ?k3 ?k4 ?k5 ?k6 hs ?k9 ?k10 ?_; (case k1 => k_asm); (case k2 => k_asm); (case k3 => k_asm); (case k4 => k_asm); (case k5 => first | exact rfl | assumption); (case k6 => k_asm); (case k9 => with_unfolding_all rfl); (case k10 => (intro _; with_unfolding_all rfl)); k_whole))
  revert X; k_fill; intro X
  show wpAny _ _ (assign (Expr.Tuple [Expr.Name _ _, Expr.Name _ _] _ _) _ _) _ _ _
  k_steps
  all_goals (try simp only [List.push_toArray] at *)
  rename (Fr _ _ _ _) => F9
  simp only [ec] at F9
  rename (_ < _ ∧ _) => l9
  refine' ret _ _ _ _ _ _ _ _ _ ?ka ?kb ?kc ?kd ?ke F9 ?kn
  case kn => k_asm
  case ka => exact l9.2.2
  case kb => omega
  case kc => exact rfl
  case kd => exact rfl
  case ke =>
    intro z hz
    simp only [touchedP, List.map_cons, List.map_nil, List.contains_cons, List.contains_nil, Bool.or_false, Bool.or_eq_false_iff, beq_eq_false_iff_ne, ne_eq] at hz
    simp [hz]
structure PrSt where
  dn : List (Nat × List Nat)
  pvs : List Value
  ep : Nat
  tx : List (Addr × Obj)
  t5 : Tok
  t6 : Tok
def twoP (k : Int) (p q : Nat) : List (Nat × List Nat) := [(107, escA k p ++ escA k q), (108, escA k q ++ escA k p)]
theorem psN_append (a b : List (Nat × List Nat)) : psN (a ++ b) = psN a + psN b := by
  induction a with
  | nil => simp [psN]
  | cons x r ih => simp only [List.cons_append, psN, ih]; omega
theorem pairR_len (k : Int) (c p q : Nat) : (pairR (c, escA k p ++ escA k q)).length ≤ 20 := by
  have h1 := escA_len k p
  have h2 := escA_len k q
  simp only [pairR, List.length_cons, List.length_append, List.length_nil]; omega
theorem pairs_len (k : Int) (p q i : Nat) : (((twoP k p q).take i).flatMap pairR).length ≤ 40 := by
  have h1 := pairR_len k 107 p q
  have h2 := pairR_len k 108 q p
  rcases i with _ | _ | i
  · simp [twoP]
  · simp only [twoP, List.take_succ_cons, List.take_zero, List.flatMap_cons, List.flatMap_nil, List.length_append, List.length_nil]; omega
  · simp only [twoP, List.take_succ_cons, List.take_nil, List.flatMap_cons, List.flatMap_nil, List.length_append, List.length_nil]; omega
abbrev pairF (lp : Addr) (w0 : List Nat) (t5 : Tok) (nv : Str) (tn : Tok) (m₁ : Str → Option Value) : Str → Option Value :=
  fun y => if y = Str.ofString "pairs" then some (.ref lp) else if y = Str.ofString "writing" then some (.str (S w0) t5) else if y = Str.ofString "name" then some (.str nv tn) else m₁ y
def storedP : List Str := ["key", "value", "spelled"].map Str.ofString
theorem pair_frame {kd wy ln ln' : Int} {lp lt nm : Addr} {w0 w1 wr : List Nat} {p q : Nat} {t1 t2 t3 t4 t5 t6 t7 t8 t9 tn : Tok} {nv : Str} {m₁ u : Str → Option Value} (y : Str) :
    kstB (fun z => if storedP.contains z then u z else pairF lp w0 t7 nv tn (docF kd wy p q wr ln lt nm t1 t2 t3 t4 t5 t6 m₁) z) [(Str.ofString "writing", .str (S w1) t8), (Str.ofString "line", .int ln' t9)] y =
      pairG wy w1 ln' lp t1 t8 t9 (kstB (fun z => if storedP.contains z then u z else pairF lp w0 t7 nv tn (docF kd wy p q wr ln lt nm t1 t2 t3 t4 t5 t6 m₁) z) [(Str.ofString "writing", .str (S w1) t8), (Str.ofString "line", .int ln' t9)]) y := by
  unfold pairG
  by_cases h1 : y = Str.ofString "writing"
  · subst h1; rfl
  · rw [if_neg h1]
    by_cases h2 : y = Str.ofString "line"
    · subst h2; rfl
    · rw [if_neg h2]
      by_cases h3 : y = Str.ofString "pairs"
      · subst h3; rfl
      · rw [if_neg h3]
        by_cases h4 : y = Str.ofString "way"
        · subst h4; rfl
        · rw [if_neg h4]
theorem c_eq1 : Str.ofString "=" = S [61] := by decide +kernel
theorem pairLoop {w : World} {loose : List Str} {mean : ExcName → Option Value} {mg mb : Str → Option Value}
    {dp un : Nat} {gd : Option (List Code)} {outer : List Env} {A₀ : Around} {base h₀ : Heap} {L : Addr} {m₁ : Str → Option Value} {s : Shared} {Q : Flow → Shared → Prop} {E : Value → Shared → Prop}
    {lp lt nm D T1 T2 : Addr} {nn k : Nat} {R : List (Addr × Obj)} {kd wy ln : Int} {p q : Nat} {w0 wr : List Nat} {t1 t2 t3 t4 t5 t6 t7 tn a1 a2 b1 b2 : Tok} {nv : Str}
    (B : Below A₀ base outer h₀) (F : Fr h₀ L s.heap (pairF lp w0 t7 nv tn (docF kd wy p q wr ln lt nm t1 t2 t3 t4 t5 t6 m₁))) (X : (hd.heap_39 w.params).In h₀) (T : Top hd.view_39 loose mean mg mb h₀)
    (N : News h₀ L s.heap ((lp, listOf ([] : List Value).toArray 0) :: (D, tupO ([Value.ref T1, Value.ref T2].take k) nn) :: (T2, tupO [.str (Str.ofString "l") a1, .str (S [q, p]) a2] 0) :: (T1, tupO [.str (Str.ofString "k") b1, .str (S [p, q]) b2] 0) :: R))
    (hp : p ∈ sg) (hq : q ∈ sg) (hs : SigA (wy.fmod 3)) (hk2 : k ≤ 2)
    (hwl : w0.length ≤ 80000) (hDl : D ≠ lp) (f1 : @LT.lt Nat _ lp T1) (f2 : @LT.lt Nat _ lp T2) (q1 : ∀ p ∈ R, p.1 ≠ lp)
    (hd1 : dp + 12 < recursionLimit) (hu : un + 250 < cLine)
    (ret : ∀ (pvs : List Value) (ep : Nat) (tx : List (Addr × Obj)) (t5' t6' : Tok) (u : Str → Option Value) (h' : Heap) (tk' : Nat), DatAll tx pvs (((twoP (wy.fmod 3) p q).take k).map pairD) → pvs.length ≤ 2 → (∀ e ∈ tx, e.1 ≠ lp) → (∀ e ∈ tx, ∀ f ∈ R, f.1 < e.1) →
      Fr h₀ L h' (kstB (fun z => if storedP.contains z then u z else (pairF lp w0 t7 nv tn (docF kd wy p q wr ln lt nm t1 t2 t3 t4 t5 t6 m₁)) z) [(Str.ofString "writing", .str (S (w0 ++ ((twoP (wy.fmod 3) p q).take k).flatMap pairR)) t5'), (Str.ofString "line", .int (ln + psN ((twoP (wy.fmod 3) p q).take k)) t6')]) →
      News h₀ L h' ((lp, listOf pvs.toArray ep) :: (tx ++ R)) → Q .next { s with heap := h', toks := tk' }) :
    wpAny (model PySem.Challenge.rw_mr0358_01.row.prog w) (ktrTop dp un gd (Str.ofString "_law_document") docScope L 802 (.ref 801) [] outer) (pyIter (.ref D)) (fun it s₂ => TurnsAt PySem.Challenge.rw_mr0358_01.row.prog w (ktrTop dp un gd (Str.ofString "_law_document") docScope L 802 (.ref 801) [] outer) h₀ (envOf (Str.ofString "_law_document") docScope L 802 (.ref 801)) (forT docForP) (forB docForP) Q E it s₂) E s := by
  refine forTup (env := (envOf (Str.ofString "_law_document") docScope L 802 (.ref 801))) (σ := PrSt) (fun z => (lp, listOf z.pvs.toArray z.ep) :: (D, tupO ([Value.ref T1, Value.ref T2].take k) nn) :: (T2, tupO [.str (Str.ofString "l") a1, .str (S [q, p]) a2] 0) :: (T1, tupO [.str (Str.ofString "k") b1, .str (S [p, q]) b2] 0) :: (z.tx ++ R)) (fun z => [(Str.ofString "writing", .str (S (w0 ++ z.dn.flatMap pairR)) z.t5), (Str.ofString "line", .int (ln + psN z.dn) z.t6)])
    (fun z => DatAll z.tx z.pvs (z.dn.map pairD) ∧ z.pvs.length = z.dn.length ∧ z.dn.length ≤ 2 ∧ (∀ e ∈ z.tx, e.1 ≠ lp) ∧ (∀ e ∈ z.tx, ∀ f ∈ R, f.1 < e.1)) storedP (fun i z => z.dn = (twoP (wy.fmod 3) p q).take i) ⟨[], [], 0, [], t7, t6⟩
    rfl (fun _ => .tail _ (.head _)) F N ⟨.nil, rfl, Nat.zero_le _, (fun _ h9 => nomatch h9), (fun _ h9 => nomatch h9)⟩ ?_ rfl ?_ ?_
  · intro e he
    rcases List.mem_cons.mp he with h9 | h9
    · rw [h9]; simp; rfl
    · rcases List.mem_cons.mp h9 with h9 | h9
      · rw [h9]; simp [psN]; rfl
      · exact nomatch h9
  · rintro ⟨dn, pvs, ep, tx, z5, z6⟩ i v u h tk own hv hoff ⟨hdat, hpl, hdl, htl, htR⟩ hdn F N
    dsimp only at hdat hpl hdl htl htR hdn F N hoff
    have hlw : (dn.flatMap pairR).length ≤ 40 := by rw [hdn]; exact pairs_len _ _ _ _
    have hR9 : ∀ e ∈ tx ++ R, e.1 ≠ lp := by
      intro e he
      rcases List.mem_append.mp he with h9 | h9
      · exact htl e h9
      · exact q1 e h9
    have hi : i < k := by
      have := (List.getElem?_eq_some_iff.mp hv).1
      simp at this; omega
    have hv2 : [Value.ref T1, Value.ref T2][i]? = some v := by
      rw [List.getElem?_take_of_lt hi] at hv; exact hv
    have hi2 : i = 0 ∨ i = 1 := by omega
    rcases hi2 with rfl | rfl
    · have ev : Value.ref T1 = v := by simpa using hv2
      subst ev
      refine pairTurn (c := 107) (ti := T1) (pvs := pvs) (ep := ep) (nt := 0) (t2 := b1) (t3 := b2) (R := (D, tupO ([Value.ref T1, Value.ref T2].take k) nn) :: (T2, tupO [.str (Str.ofString "l") a1, .str (S [q, p]) a2] 0) :: (T1, tupO [.str (Str.ofString "k") b1, .str (S [p, q]) b2] 0) :: ((tx ++ R) ++ own)) B (fr_same F pair_frame) X T ?_ hp hq hs c_k (by rw [List.length_append]; omega) (by omega) (by omega) ?_ hd1 hu ?_
      · intro e he
        apply N
        rcases List.mem_cons.mp he with h9 | h9
        · exact h9 ▸ .head _
        · rcases List.mem_cons.mp h9 with h9 | h9
          · rw [h9]; exact .tail _ (.tail _ (.tail _ (.head _)))
          · exact .tail _ h9
      · intro e he
        simp only [List.mem_cons] at he
        rcases he with h9 | h9 | h9 | h9
        · rw [h9]; exact hDl
        · rw [h9]; exact neN (by omega)
        · rw [h9]; exact neN (by omega)
        · rcases List.mem_append.mp h9 with h9 | h9
          · exact hR9 e h9
          · exact hoff e h9 lp (.head _)
      · intro m' h' tk' t5' t6' t7' t8' t9' r' hlt hne hw hl hsame F' N'
        have hlt' := fun e he => ltN (kst_ltOf hlt e he)
        refine ft_end (⟨dn ++ [(107, escA (wy.fmod 3) p ++ escA (wy.fmod 3) q)], pvs ++ [Value.ref r'], ep + 1, (r', tupO [.str (S [107]) t7', .str (Str.ofString "=") t8', .str (S (34 :: ((escA (wy.fmod 3) p ++ escA (wy.fmod 3) q) ++ [34]))) t9'] 0) :: tx, t5', t6'⟩ : PrSt) F' N' ?_ ?_ ?_ ?_ ⟨?_, ?_, ?_, ?_, ?_⟩ ?_ ?_ ?_
        · intro e he
          simp only [List.cons_append, List.mem_cons, List.mem_append] at he ⊢
          rcases he with h9 | h9 | h9 | h9 | h9 | h9 | h9
          · exact .inr (.inl h9)
          · exact .inr (.inr (.inr (.inl h9)))
          · exact .inr (.inr (.inr (.inr (.inl h9))))
          · exact .inr (.inr (.inr (.inr (.inr (.inl h9)))))
          · exact .inl h9
          · exact .inr (.inr (.inr (.inr (.inr (.inr (.inl (.inl h9)))))))
          · exact .inr (.inr (.inr (.inr (.inr (.inr (.inl (.inr h9)))))))
        · intro e he
          simp only [List.mem_cons, List.mem_append]
          exact .inr (.inr (.inr (.inr (.inr (.inr (.inr he))))))
        · intro e he b hb
          simp only [List.map_cons, List.cons_append, List.mem_cons] at hb
          rcases hb with h9 | h9 | h9 | h9 | h9 | h9
          · exact h9 ▸ hoff e he _ (.head _)
          · exact h9 ▸ hoff e he _ (.tail _ (.head _))
          · exact h9 ▸ hoff e he _ (.tail _ (.tail _ (.head _)))
          · exact h9 ▸ hoff e he _ (.tail _ (.tail _ (.tail _ (.head _))))
          · rw [h9]; exact Nat.ne_of_lt (hlt' e (.tail _ (.tail _ (.tail _ (List.mem_append.mpr (.inr he))))))
          · exact hoff e he _ (.tail _ (.tail _ (.tail _ (.tail _ h9))))
        · exact .tail _ (.head _)
        · rw [List.map_append]
          refine DatAll.append (hdat.mono fun _ h9 => .tail _ h9) (DatAll.one (DatIn.tuple (.head _) (.cons (.str _ _) (.cons ?_ (.cons (.str _ _) .nil)))))
          exact c_eq1 ▸ .str _ _
        · simp [hpl]
        · have h9 := congrArg List.length hdn
          simp only [twoP, List.length_take, List.length_cons, List.length_nil, List.length_append] at h9 ⊢
          omega
        · intro e he
          rcases List.mem_cons.mp he with h9 | h9
          · rw [h9]; exact hne
          · exact htl e h9
        · intro e he f hf
          rcases List.mem_cons.mp he with h9 | h9
          · rw [h9]; exact hlt' f (.tail _ (.tail _ (.tail _ (List.mem_append.mpr (.inl (List.mem_append.mpr (.inr hf)))))))
          · exact htR e h9 f hf
        · intro e he
          rcases List.mem_cons.mp he with h9 | h9
          · rw [h9, hw]; simp
          · rcases List.mem_cons.mp h9 with h9 | h9
            · rw [h9, hl]; simp [psN_append, psN]; omega
            · exact nomatch h9
        · intro z h2 h3
          have e1 : z ≠ Str.ofString "writing" := h2 _ (.head _)
          have e2 : z ≠ Str.ofString "line" := h2 _ (.tail _ (.head _))
          rw [hsame z ?_, ← pair_frame]
          · show (if z = _ then _ else if z = _ then _ else if storedP.contains z = true then _ else _) = _
            rw [if_neg e1, if_neg e2, h3]; rfl
          · simp only [touchedP, storedP, List.map_cons, List.map_nil, List.contains_cons, List.contains_nil, Bool.or_false, Bool.or_eq_false_iff, beq_eq_false_iff_ne, ne_eq] at h3 ⊢
            exact ⟨e1, e2, h3⟩
        · show dn ++ _ = _
          rw [hdn]; rfl
    · have ev : Value.ref T2 = v := by simpa using hv2
      subst ev
      refine pairTurn (c := 108) (ti := T2) (pvs := pvs) (ep := ep) (nt := 0) (t2 := a1) (t3 := a2) (R := (D, tupO ([Value.ref T1, Value.ref T2].take k) nn) :: (T2, tupO [.str (Str.ofString "l") a1, .str (S [q, p]) a2] 0) :: (T1, tupO [.str (Str.ofString "k") b1, .str (S [p, q]) b2] 0) :: ((tx ++ R) ++ own)) B (fr_same F pair_frame) X T ?_ hq hp hs c_l (by rw [List.length_append]; omega) (by omega) (by omega) ?_ hd1 hu ?_
      · intro e he
        apply N
        rcases List.mem_cons.mp he with h9 | h9
        · exact h9 ▸ .head _
        · rcases List.mem_cons.mp h9 with h9 | h9
          · rw [h9]; exact .tail _ (.tail _ (.head _))
          · exact .tail _ h9
      · intro e he
        simp only [List.mem_cons] at he
        rcases he with h9 | h9 | h9 | h9
        · rw [h9]; exact hDl
        · rw [h9]; exact neN (by omega)
        · rw [h9]; exact neN (by omega)
        · rcases List.mem_append.mp h9 with h9 | h9
          · exact hR9 e h9
          · exact hoff e h9 lp (.head _)
      · intro m' h' tk' t5' t6' t7' t8' t9' r' hlt hne hw hl hsame F' N'
        have hlt' := fun e he => ltN (kst_ltOf hlt e he)
        refine ft_end (⟨dn ++ [(108, escA (wy.fmod 3) q ++ escA (wy.fmod 3) p)], pvs ++ [Value.ref r'], ep + 1, (r', tupO [.str (S [108]) t7', .str (Str.ofString "=") t8', .str (S (34 :: ((escA (wy.fmod 3) q ++ escA (wy.fmod 3) p) ++ [34]))) t9'] 0) :: tx, t5', t6'⟩ : PrSt) F' N' ?_ ?_ ?_ ?_ ⟨?_, ?_, ?_, ?_, ?_⟩ ?_ ?_ ?_
        · intro e he
          simp only [List.cons_append, List.mem_cons, List.mem_append] at he ⊢
          rcases he with h9 | h9 | h9 | h9 | h9 | h9 | h9
          · exact .inr (.inl h9)
          · exact .inr (.inr (.inr (.inl h9)))
          · exact .inr (.inr (.inr (.inr (.inl h9))))
          · exact .inr (.inr (.inr (.inr (.inr (.inl h9)))))
          · exact .inl h9
          · exact .inr (.inr (.inr (.inr (.inr (.inr (.inl (.inl h9)))))))
          · exact .inr (.inr (.inr (.inr (.inr (.inr (.inl (.inr h9)))))))
        · intro e he
          simp only [List.mem_cons, List.mem_append]
          exact .inr (.inr (.inr (.inr (.inr (.inr (.inr he))))))
        · intro e he b hb
          simp only [List.map_cons, List.cons_append, List.mem_cons] at hb
          rcases hb with h9 | h9 | h9 | h9 | h9 | h9
          · exact h9 ▸ hoff e he _ (.head _)
          · exact h9 ▸ hoff e he _ (.tail _ (.head _))
          · exact h9 ▸ hoff e he _ (.tail _ (.tail _ (.head _)))
          · exact h9 ▸ hoff e he _ (.tail _ (.tail _ (.tail _ (.head _))))
          · rw [h9]; exact Nat.ne_of_lt (hlt' e (.tail _ (.tail _ (.tail _ (List.mem_append.mpr (.inr he))))))
          · exact hoff e he _ (.tail _ (.tail _ (.tail _ (.tail _ h9))))
        · exact .tail _ (.head _)
        · rw [List.map_append]
          refine DatAll.append (hdat.mono fun _ h9 => .tail _ h9) (DatAll.one (DatIn.tuple (.head _) (.cons (.str _ _) (.cons ?_ (.cons (.str _ _) .nil)))))
          exact c_eq1 ▸ .str _ _
        · simp [hpl]
        · have h9 := congrArg List.length hdn
          simp only [twoP, List.length_take, List.length_cons, List.length_nil, List.length_append] at h9 ⊢
          omega
        · intro e he
          rcases List.mem_cons.mp he with h9 | h9
          · rw [h9]; exact hne
          · exact htl e h9
        · intro e he f hf
          rcases List.mem_cons.mp he with h9 | h9
          · rw [h9]; exact hlt' f (.tail _ (.tail _ (.tail _ (List.mem_append.mpr (.inl (List.mem_append.mpr (.inr hf)))))))
          · exact htR e h9 f hf
        · intro e he
          rcases List.mem_cons.mp he with h9 | h9
          · rw [h9, hw]; simp
          · rcases List.mem_cons.mp h9 with h9 | h9
            · rw [h9, hl]; simp [psN_append, psN]; omega
            · exact nomatch h9
        · intro z h2 h3
          have e1 : z ≠ Str.ofString "writing" := h2 _ (.head _)
          have e2 : z ≠ Str.ofString "line" := h2 _ (.tail _ (.head _))
          rw [hsame z ?_, ← pair_frame]
          · show (if z = _ then _ else if z = _ then _ else if storedP.contains z = true then _ else _) = _
            rw [if_neg e1, if_neg e2, h3]; rfl
          · simp only [touchedP, storedP, List.map_cons, List.map_nil, List.contains_cons, List.contains_nil, Bool.or_false, Bool.or_eq_false_iff, beq_eq_false_iff_ne, ne_eq] at h3 ⊢
            exact ⟨e1, e2, h3⟩
        · show dn ++ _ = _
          rw [hdn]; rfl
  · rintro ⟨dn, pvs, ep, tx, z5, z6⟩ u h tk ⟨hdat, hpl, hdl, htl, htR⟩ hdn F N
    dsimp only at hdat hpl hdl htl htR hdn F N
    have ek : ([Value.ref T1, Value.ref T2].take k).length = k := by simp; omega
    rw [ek] at hdn
    subst hdn
    exact ret pvs ep tx z5 z6 u h tk hdat (by omega) htl htR F (fun e he => N e (by
      rcases List.mem_cons.mp he with h9 | h9
      · exact h9 ▸ .head _
      · exact .tail _ (.tail _ (.tail _ (.tail _ h9)))))
theorem ledReo {h₀ h : Heap} {L r lp lt nm : Addr} {o1 o2 o3 o4 : Obj} {tx R : List (Addr × Obj)} (N : News h₀ L h ((r, o1) :: (lp, o2) :: (lt, o3) :: (nm, o4) :: (tx ++ R))) : News h₀ L h ((lt, o3) :: (nm, o4) :: (((r, o1) :: (lp, o2) :: tx) ++ R)) := by
  intro e he
  apply N
  simp only [List.cons_append, List.mem_cons] at he ⊢
  rcases he with h9 | h9 | h9 | h9 | h9
  · exact .inr (.inr (.inl h9))
  · exact .inr (.inr (.inr (.inl h9)))
  · exact .inl h9
  · exact .inr (.inl h9)
  · exact .inr (.inr (.inr (.inr h9)))
theorem begin0 {w : World} {loose : List Str} {mean : ExcName → Option Value} {mg mb : Str → Option Value}
    {dp un : Nat} {gd : Option (List Code)} {outer : List Env} {A₀ : Around} {base h₀ : Heap} {L : Addr} {m₁ : Str → Option Value} {s : Shared} {Q : Flow → Shared → Prop} {E : Value → Shared → Prop}
    {lt nm : Addr} {vs nvs : List Value} {ev en : Nat} {R : List (Addr × Obj)} {wy ln : Int} {p q : Nat} {wr : List Nat} {t1 t2 t3 t4 t5 t6 : Tok} {c : Nat}
    (B : Below A₀ base outer h₀) (F : Fr h₀ L s.heap (docF 0 wy p q wr ln lt nm t1 t2 t3 t4 t5 t6 m₁)) (X : (hd.heap_39 w.params).In h₀) (T : Top hd.view_39 loose mean mg mb h₀)
    (N : News h₀ L s.heap ((lt, listOf vs.toArray ev) :: (nm, listOf nvs.toArray en) :: R))
    (hp : p ∈ sg) (hq : q ∈ sg) (hs : SigA (wy.fmod 3)) (hnm : Txt.item (Str.ofString "ab") ((wy.fdiv 3).fmod 2) = S [c])
    (hwl : wr.length ≤ 70000) (hvs : vs.length ≤ 100) (hns : nvs.length ≤ 100) (f1 : @Ne Nat lt nm) (q1 : ∀ p ∈ R, p.1 ≠ lt) (q2 : ∀ p ∈ R, p.1 ≠ nm)
    (hE : PassesOwn (model PySem.Challenge.rw_mr0358_01.row.prog w) (ktrTop dp un gd (Str.ofString "_law_document") docScope L 802 (.ref 801) [] outer) (envOf (Str.ofString "_law_document") docScope L 802 (.ref 801)) E)
    (hd1 : dp + 12 < recursionLimit) (hu : un + 250 < cLine)
    (ret : ∀ (m' : Str → Option Value) (h' : Heap) (tk' : Nat) (t5' t6' tn' : Tok) (r' : Addr) (new : List (Addr × Obj)), DatIn new (.ref r') (Deed.begins c ((twoP (wy.fmod 3) p q).take 0)).d → (∀ e ∈ new, ∀ f ∈ R, f.1 < e.1) → (∀ e ∈ new, e.1 ≠ lt) → (∀ e ∈ new, e.1 ≠ nm) →
      m' (Str.ofString "writing") = some (.str (S (wr ++ ([60] ++ [c]) ++ ((twoP (wy.fmod 3) p q).take 0).flatMap pairR ++ [62])) t5') → m' (Str.ofString "line") = some (.int (ln + psN ((twoP (wy.fmod 3) p q).take 0)) t6') →
      (∀ z, touched.contains z = false → m' z = docF 0 wy p q wr ln lt nm t1 t2 t3 t4 t5 t6 m₁ z) → Fr h₀ L h' m' → News h₀ L h' ((lt, listOf (vs ++ [Value.ref r']).toArray (ev + 1)) :: (nm, listOf (nvs ++ [Value.str (S [c]) tn']).toArray (en + 1)) :: (new ++ R)) → Q .next { s with heap := h', toks := tk' }) :
    wpAny (model PySem.Challenge.rw_mr0358_01.row.prog w) (ktrTop dp un gd (Str.ofString "_law_document") docScope L 802 (.ref 801) [] outer) (execs docA (envOf (Str.ofString "_law_document") docScope L 802 (.ref 801))) Q E s := by
  have hk : docScope.kind = .function := rfl
  have g1 := c_lt
  have g2 := c_gt
  k_with_none
  k_with "my append" => ((with_reducible show wpAny _ _ (call (Value.builtin _) [Value.ref _, _]) _ _ _); k_dflt (refine' append_K ?k1 ?k2 ?k3 ?_ ?z; (case k1 => k_asm); (case k2 => k_asm); (case k3 => k_upd); (case z => (rw [sizeLine_eq]; simp only [List.size_toArray, List.length_append, List.length_cons, List.length_nil]; omega)); k_whole); intro h' F' N'; (try k_sweep))
  k_with "my iadd" => (refine' iadd_E ?kx ?ky ?k1 ?_; (case kx => first | with_reducible rfl | with_reducible assumption); (case ky => first | with_reducible rfl | with_reducible assumption); (case k1 => (simp only [List.length_append, List.length_cons, List.length_nil]; omega)); intro t8 tk8)
  k_with "my add" => (refine' add_E ?kx ?ky ?k1 ?_; (case kx => first | with_reducible rfl | with_reducible assumption); (case ky => first | with_reducible rfl | with_reducible assumption); (case k1 => (simp only [List.length_append, List.length_cons, List.length_nil]; omega)); intro t8 tk8)
  k_with "my newList" => (k_dflt (refine' newList_K ?k1 ?k2 ?_; (case k1 => k_asm); (case k2 => k_asm); k_whole); intro lp h' F' N' l1; (try k_lt l1); (try k_sweep))
  k_with "my call" => ((with_reducible show wpAny _ _ (call (Value.ref 788) _) _ _ _); k_dflt (refine' attributeV ?k1 ?k2 ?k3 ?k4 ?k5 ?k6 rfl ?kp ?kq hs ?k7 ?k8 ?_; (case k1 => k_asm); (case k2 => k_asm); (case k3 => k_asm); (case k4 => k_asm); (case k5 => first | exact rfl | assumption); (case k6 => k_asm); (case kp => with_reducible assumption); (case kq => with_reducible assumption); (case k7 => ktr_room); (case k8 => ktr_units); k_whole; intro t9 h9 tk9 F9 N9; (try dsimp only); (try k_sweep); (try k_fold)))
  k_with "my call" => ((with_reducible show wpAny _ _ (call (Value.ref 781) _) _ _ _); k_dflt (refine' spelledAV ?k1 ?k2 ?k3 ?k4 ?k5 ?k6 rfl ?kp ?kq hs ?k7 ?k8 ?_; (case k1 => k_asm); (case k2 => k_asm); (case k3 => k_asm); (case k4 => k_asm); (case k5 => first | exact rfl | assumption); (case k6 => k_asm); (case kp => with_reducible assumption); (case kq => with_reducible assumption); (case k7 => ktr_room); (case k8 => ktr_units); k_whole; intro t9 h9 tk9 F9 N9; (try dsimp only); (try k_sweep); (try k_fold)))
  k_with "my sub" => ((with_reducible show wpAny _ _ (subscriptTail _ _ (Value.ref 773) _) _ _ _); k_dflt (refine' subA ?k1 ?k2 ?k3 ?k4 ?k5 ?k6 hs ?k9 ?k10 ?_; (case k1 => k_asm); (case k2 => k_asm); (case k3 => k_asm); (case k4 => k_asm); (case k5 => first | exact rfl | assumption); (case k6 => k_asm); (case k9 => with_unfolding_all rfl); (case k10 => (intro _; with_unfolding_all rfl)); k_whole))
  k_with "my for" => ((with_reducible show wpAny _ _ (exec (Stmt.For (Expr.Tuple _ _ _) _ _ _ _) _) _ _ _); (rename Fr _ _ _ _ => lF'); (with_unfolding_all refine' For_turns lF' ?_ (hE := hE); k_whole))
  k_with "my sub" => ((with_reducible show wpAny _ _ (subscriptTail _ (Expr.Slice _ _ _ _) (Value.ref _) (Value.ref _)) _ _ _); k_dflt (refine' slice2K 0 ?k1 ?k2 ?k3 ?k4 ?k5 ?k6 ?_; (case k1 => k_asm); (case k2 => k_asm); (case k3 => k_mem); (case k4 => decide); (case k5 => exact rfl); (case k6 => with_unfolding_all rfl)); intro D9 nn9 h9 F9 N9 l9; (try k_sweep); (try dsimp only); (try k_fold))
  k_with "pyIter ref" => (refine stopAt ?_)
  revert X; k_fill; intro X
  k_steps
  unfold Stopped
  rename (lt < lp ∧ nm < lp ∧ _) => l1a
  rename (lp < _ ∧ lt < _ ∧ nm < _ ∧ _) => l1b
  rename (_ < _ ∧ lp < _ ∧ lt < _ ∧ nm < _ ∧ _) => l1c
  rename (_ < _ ∧ _ < _ ∧ lp < _ ∧ lt < _ ∧ nm < _ ∧ _) => l1d
  have hx1 : @Ne Nat lp lt := by omega
  have hx2 : @Ne Nat lp nm := by omega
  k_dflt (refine' pairLoop (k := 0) (lp := lp) (D := D9) (R := (lt, listOf vs.toArray ev) :: (nm, listOf nvs.toArray en) :: R) B F9 X T ?kN hp hq hs (by decide) ?kw ?kD ?kf1 ?kf2 ?kq hd1 hu ?_)
  case kN =>
    intro e he
    apply N9
    simp only [List.mem_cons] at he ⊢
    rcases he with h9 | h9 | h9 | h9 | h9
    · exact .inr (.inr (.inr (.inr (.inl h9))))
    · exact .inl h9
    · exact .inr (.inr (.inl h9))
    · exact .inr (.inr (.inr (.inl h9)))
    · exact .inr (.inr (.inr (.inr (.inr h9))))
  case kw => simp only [List.length_append, List.length_cons, List.length_nil]; omega
  case kD => exact neN (by omega)
  case kf1 => omega
  case kf2 => omega
  case kq =>
    intro e he
    rcases List.mem_cons.mp he with h9 | h9
    · rw [h9]; exact neN (by omega)
    · rcases List.mem_cons.mp h9 with h9 | h9
      · rw [h9]; exact neN (by omega)
      · exact Nat.ne_of_lt (kst_ltOf l1a.2.2 e h9)
  intro pvs ep tx z5 z6 u hh9 tkk hdat hpl htl htR F8 N8
  clear F9 N9
  have N7 : News h₀ L hh9 ((lp, listOf pvs.toArray ep) :: (lt, listOf vs.toArray ev) :: (nm, listOf nvs.toArray en) :: (tx ++ R)) := by
    intro e he
    apply N8
    simp only [List.mem_cons, List.mem_append] at he ⊢
    rcases he with h9 | h9 | h9 | h9 | h9
    · exact .inl h9
    · exact .inr (.inr (.inl h9))
    · exact .inr (.inr (.inr (.inl h9)))
    · exact .inr (.inl h9)
    · exact .inr (.inr (.inr (.inr h9)))
  clear N8
  have qa : ∀ e ∈ tx ++ R, e.1 ≠ lt := by
    intro e he
    rcases List.mem_append.mp he with h9 | h9
    · exact Nat.ne_of_gt (htR e h9 _ (.head _))
    · exact q1 e h9
  have qb : ∀ e ∈ tx ++ R, e.1 ≠ nm := by
    intro e he
    rcases List.mem_append.mp he with h9 | h9
    · exact Nat.ne_of_gt (htR e h9 _ (.tail _ (.head _)))
    · exact q2 e h9
  have hpw := pairs_len (wy.fmod 3) p q 0
  dsimp only
  k_steps
  all_goals (try simp only [List.push_toArray] at *)
  rename (Fr _ _ _ _) => F6
  rename (News _ _ _ _) => N6
  rename (lp < _ ∧ lt < _ ∧ nm < _ ∧ AllLt _ (tx ++ R)) => l6
  simp only [hnm] at N6
  have hlt6 := fun e he => ltN (kst_ltOf l6.2.2.2 e he)
  refine' ret _ _ _ _ _ _ _ _ ?kdat ?klt ?kn1 ?kn2 ?kc ?kd ?ke F6 (ledReo N6)
  case kdat =>
    refine DatIn.tuple (.head _) (.cons (.str _ _) (.cons (.str _ _) (.cons (.list (.tail _ (.head _)) ?_) (.cons ?_ .nil))))
    · exact hdat.mono fun _ h9 => .tail _ (.tail _ h9)
    · exact c_gt ▸ .str _ _
  case klt =>
    intro e he f hf
    rcases List.mem_cons.mp he with h9 | h9
    · rw [h9]; exact hlt6 f (List.mem_append.mpr (.inr hf))
    · rcases List.mem_cons.mp h9 with h9 | h9
      · rw [h9]; exact kst_ltOf l1a.2.2 f hf
      · exact htR e h9 f (.tail _ (.tail _ hf))
  case kn1 =>
    intro e he
    rcases List.mem_cons.mp he with h9 | h9
    · rw [h9]; exact neN (by omega)
    · rcases List.mem_cons.mp h9 with h9 | h9
      · rw [h9]; exact hx1
      · exact qa e (List.mem_append.mpr (.inl h9))
  case kn2 =>
    intro e he
    rcases List.mem_cons.mp he with h9 | h9
    · rw [h9]; exact neN (by omega)
    · rcases List.mem_cons.mp h9 with h9 | h9
      · rw [h9]; exact hx2
      · exact qb e (List.mem_append.mpr (.inl h9))
  case kc => exact rfl
  case kd => exact rfl
  case ke =>
    intro z hz
    simp only [touched, List.map_cons, List.map_nil, List.contains_cons, List.contains_nil, Bool.or_false, Bool.or_eq_false_iff, beq_eq_false_iff_ne, ne_eq] at hz
    have hz2 : storedP.contains z = false := by
      simp only [storedP, List.map_cons, List.map_nil, List.contains_cons, List.contains_nil, Bool.or_false, Bool.or_eq_false_iff, beq_eq_false_iff_ne, ne_eq]
      simp [hz]
    have hz3 : z ∉ storedP := by simpa using hz2
    simp [kstB, hz3, hz, pairF]
theorem begin1 {w : World} {loose : List Str} {mean : ExcName → Option Value} {mg mb : Str → Option Value}
    {dp un : Nat} {gd : Option (List Code)} {outer : List Env} {A₀ : Around} {base h₀ : Heap} {L : Addr} {m₁ : Str → Option Value} {s : Shared} {Q : Flow → Shared → Prop} {E : Value → Shared → Prop}
    {lt nm : Addr} {vs nvs : List Value} {ev en : Nat} {R : List (Addr × Obj)} {wy ln : Int} {p q : Nat} {wr : List Nat} {t1 t2 t3 t4 t5 t6 : Tok} {c : Nat}
    (B : Below A₀ base outer h₀) (F : Fr h₀ L s.heap (docF 1 wy p q wr ln lt nm t1 t2 t3 t4 t5 t6 m₁)) (X : (hd.heap_39 w.params).In h₀) (T : Top hd.view_39 loose mean mg mb h₀)
    (N : News h₀ L s.heap ((lt, listOf vs.toArray ev) :: (nm, listOf nvs.toArray en) :: R))
    (hp : p ∈ sg) (hq : q ∈ sg) (hs : SigA (wy.fmod 3)) (hnm : Txt.item (Str.ofString "ab") ((wy.fdiv 3).fmod 2) = S [c])
    (hwl : wr.length ≤ 70000) (hvs : vs.length ≤ 100) (hns : nvs.length ≤ 100) (f1 : @Ne Nat lt nm) (q1 : ∀ p ∈ R, p.1 ≠ lt) (q2 : ∀ p ∈ R, p.1 ≠ nm)
    (hE : PassesOwn (model PySem.Challenge.rw_mr0358_01.row.prog w) (ktrTop dp un gd (Str.ofString "_law_document") docScope L 802 (.ref 801) [] outer) (envOf (Str.ofString "_law_document") docScope L 802 (.ref 801)) E)
    (hd1 : dp + 12 < recursionLimit) (hu : un + 250 < cLine)
    (ret : ∀ (m' : Str → Option Value) (h' : Heap) (tk' : Nat) (t5' t6' tn' : Tok) (r' : Addr) (new : List (Addr × Obj)), DatIn new (.ref r') (Deed.begins c ((twoP (wy.fmod 3) p q).take 1)).d → (∀ e ∈ new, ∀ f ∈ R, f.1 < e.1) → (∀ e ∈ new, e.1 ≠ lt) → (∀ e ∈ new, e.1 ≠ nm) →
      m' (Str.ofString "writing") = some (.str (S (wr ++ ([60] ++ [c]) ++ ((twoP (wy.fmod 3) p q).take 1).flatMap pairR ++ [62])) t5') → m' (Str.ofString "line") = some (.int (ln + psN ((twoP (wy.fmod 3) p q).take 1)) t6') →
      (∀ z, touched.contains z = false → m' z = docF 1 wy p q wr ln lt nm t1 t2 t3 t4 t5 t6 m₁ z) → Fr h₀ L h' m' → News h₀ L h' ((lt, listOf (vs ++ [Value.ref r']).toArray (ev + 1)) :: (nm, listOf (nvs ++ [Value.str (S [c]) tn']).toArray (en + 1)) :: (new ++ R)) → Q .next { s with heap := h', toks := tk' }) :
    wpAny (model PySem.Challenge.rw_mr0358_01.row.prog w) (ktrTop dp un gd (Str.ofString "_law_document") docScope L 802 (.ref 801) [] outer) (execs docA (envOf (Str.ofString "_law_document") docScope L 802 (.ref 801))) Q E s := by
  have hk : docScope.kind = .function := rfl
  have g1 := c_lt
  have g2 := c_gt
  k_with_none
  k_with "my append" => ((with_reducible show wpAny _ _ (call (Value.builtin _) [Value.ref _, _]) _ _ _); k_dflt (refine' append_K ?k1 ?k2 ?k3 ?_ ?z; (case k1 => k_asm); (case k2 => k_asm); (case k3 => k_upd); (case z => (rw [sizeLine_eq]; simp only [List.size_toArray, List.length_append, List.length_cons, List.length_nil]; omega)); k_whole); intro h' F' N'; (try k_sweep))
  k_with "my iadd" => (refine' iadd_E ?kx ?ky ?k1 ?_; (case kx => first | with_reducible rfl | with_reducible assumption); (case ky => first | with_reducible rfl | with_reducible assumption); (case k1 => (simp only [List.length_append, List.length_cons, List.length_nil]; omega)); intro t8 tk8)
  k_with "my add" => (refine' add_E ?kx ?ky ?k1 ?_; (case kx => first | with_reducible rfl | with_reducible assumption); (case ky => first | with_reducible rfl | with_reducible assumption); (case k1 => (simp only [List.length_append, List.length_cons, List.length_nil]; omega)); intro t8 tk8)
  k_with "my newList" => (k_dflt (refine' newList_K ?k1 ?k2 ?_; (case k1 => k_asm); (case k2 => k_asm); k_whole); intro lp h' F' N' l1; (try k_lt l1); (try k_sweep))
  k_with "my call" => ((with_reducible show wpAny _ _ (call (Value.ref 788) _) _ _ _); k_dflt (refine' attributeV ?k1 ?k2 ?k3 ?k4 ?k5 ?k6 rfl ?kp ?kq hs ?k7 ?k8 ?_; (case k1 => k_asm); (case k2 => k_asm); (case k3 => k_asm); (case k4 => k_asm); (case k5 => first | exact rfl | assumption); (case k6 => k_asm); (case kp => with_reducible assumption); (case kq => with_reducible assumption); (case k7 => ktr_room); (case k8 => ktr_units); k_whole; intro t9 h9 tk9 F9 N9; (try dsimp only); (try k_sweep); (try k_fold)))
  k_with "my call" => ((with_reducible show wpAny _ _ (call (Value.ref 781) _) _ _ _); k_dflt (refine' spelledAV ?k1 ?k2 ?k3 ?k4 ?k5 ?k6 rfl ?kp ?kq hs ?k7 ?k8 ?_; (case k1 => k_asm); (case k2 => k_asm); (case k3 => k_asm); (case k4 => k_asm); (case k5 => first | exact rfl | assumption); (case k6 => k_asm); (case kp => with_reducible assumption); (case kq => with_reducible assumption); (case k7 => ktr_room); (case k8 => ktr_units); k_whole; intro t9 h9 tk9 F9 N9; (try dsimp only); (try k_sweep); (try k_fold)))
  k_with "my sub" => ((with_reducible show wpAny _ _ (subscriptTail _ _ (Value.ref 773) _) _ _ _); k_dflt (refine' subA ?k1 ?k2 ?k3 ?k4 ?k5 ?k6 hs ?k9 ?k10 ?_; (case k1 => k_asm); (case k2 => k_asm); (case k3 => k_asm); (case k4 => k_asm); (case k5 => first | exact rfl | assumption); (case k6 => k_asm); (case k9 => with_unfolding_all rfl); (case k10 => (intro _; with_unfolding_all rfl)); k_whole))
  k_with "my for" => ((with_reducible show wpAny _ _ (exec (Stmt.For (Expr.Tuple _ _ _) _ _ _ _) _) _ _ _); (rename Fr _ _ _ _ => lF'); (with_unfolding_all refine' For_turns lF' ?_ (hE := hE); k_whole))
  k_with "my sub" => ((with_reducible show wpAny _ _ (subscriptTail _ (Expr.Slice _ _ _ _) (Value.ref _) (Value.ref _)) _ _ _); k_dflt (refine' slice2K 1 ?k1 ?k2 ?k3 ?k4 ?k5 ?k6 ?_; (case k1 => k_asm); (case k2 => k_asm); (case k3 => k_mem); (case k4 => decide); (case k5 => exact rfl); (case k6 => with_unfolding_all rfl)); intro D9 nn9 h9 F9 N9 l9; (try k_sweep); (try dsimp only); (try k_fold))
  k_with "pyIter ref" => (refine stopAt ?_)
  revert X; k_fill; intro X
  k_steps
  unfold Stopped
  rename (lt < lp ∧ nm < lp ∧ _) => l1a
  rename (lp < _ ∧ lt < _ ∧ nm < _ ∧ _) => l1b
  rename (_ < _ ∧ lp < _ ∧ lt < _ ∧ nm < _ ∧ _) => l1c
  rename (_ < _ ∧ _ < _ ∧ lp < _ ∧ lt < _ ∧ nm < _ ∧ _) => l1d
  have hx1 : @Ne Nat lp lt := by omega
  have hx2 : @Ne Nat lp nm := by omega
  k_dflt (refine' pairLoop (k := 1) (lp := lp) (D := D9) (R := (lt, listOf vs.toArray ev) :: (nm, listOf nvs.toArray en) :: R) B F9 X T ?kN hp hq hs (by decide) ?kw ?kD ?kf1 ?kf2 ?kq hd1 hu ?_)
  case kN =>
    intro e he
    apply N9
    simp only [List.mem_cons] at he ⊢
    rcases he with h9 | h9 | h9 | h9 | h9
    · exact .inr (.inr (.inr (.inr (.inl h9))))
    · exact .inl h9
    · exact .inr (.inr (.inl h9))
    · exact .inr (.inr (.inr (.inl h9)))
    · exact .inr (.inr (.inr (.inr (.inr h9))))
  case kw => simp only [List.length_append, List.length_cons, List.length_nil]; omega
  case kD => exact neN (by omega)
  case kf1 => omega
  case kf2 => omega
  case kq =>
    intro e he
    rcases List.mem_cons.mp he with h9 | h9
    · rw [h9]; exact neN (by omega)
    · rcases List.mem_cons.mp h9 with h9 | h9
      · rw [h9]; exact neN (by omega)
      · exact Nat.ne_of_lt (kst_ltOf l1a.2.2 e h9)
  intro pvs ep tx z5 z6 u hh9 tkk hdat hpl htl htR F8 N8
  clear F9 N9
  have N7 : News h₀ L hh9 ((lp, listOf pvs.toArray ep) :: (lt, listOf vs.toArray ev) :: (nm, listOf nvs.toArray en) :: (tx ++ R)) := by
    intro e he
    apply N8
    simp only [List.mem_cons, List.mem_append] at he ⊢
    rcases he with h9 | h9 | h9 | h9 | h9
    · exact .inl h9
    · exact .inr (.inr (.inl h9))
    · exact .inr (.inr (.inr (.inl h9)))
    · exact .inr (.inl h9)
    · exact .inr (.inr (.inr (.inr h9)))
  clear N8
  have qa : ∀ e ∈ tx ++ R, e.1 ≠ lt := by
    intro e he
    rcases List.mem_append.mp he with h9 | h9
    · exact Nat.ne_of_gt (htR e h9 _ (.head _))
    · exact q1 e h9
  have qb : ∀ e ∈ tx ++ R, e.1 ≠ nm := by
    intro e he
    rcases List.mem_append.mp he with h9 | h9
    · exact Nat.ne_of_gt (htR e h9 _ (.tail _ (.head _)))
    · exact q2 e h9
  have hpw := pairs_len (wy.fmod 3) p q 1
  dsimp only
  k_steps
  all_goals (try simp only [List.push_toArray] at *)
  rename (Fr _ _ _ _) => F6
  rename (News _ _ _ _) => N6
  rename (lp < _ ∧ lt < _ ∧ nm < _ ∧ AllLt _ (tx ++ R)) => l6
  simp only [hnm] at N6
  have hlt6 := fun e he => ltN (kst_ltOf l6.2.2.2 e he)
  refine' ret _ _ _ _ _ _ _ _ ?kdat ?klt ?kn1 ?kn2 ?kc ?kd ?ke F6 (ledReo N6)
  case kdat =>
    refine DatIn.tuple (.head _) (.cons (.str _ _) (.cons (.str _ _) (.cons (.list (.tail _ (.head _)) ?_) (.cons ?_ .nil))))
    · exact hdat.mono fun _ h9 => .tail _ (.tail _ h9)
    · exact c_gt ▸ .str _ _
  case klt =>
    intro e he f hf
    rcases List.mem_cons.mp he with h9 | h9
    · rw [h9]; exact hlt6 f (List.mem_append.mpr (.inr hf))
    · rcases List.mem_cons.mp h9 with h9 | h9
      · rw [h9]; exact kst_ltOf l1a.2.2 f hf
      · exact htR e h9 f (.tail _ (.tail _ hf))
  case kn1 =>
    intro e he
    rcases List.mem_cons.mp he with h9 | h9
    · rw [h9]; exact neN (by omega)
    · rcases List.mem_cons.mp h9 with h9 | h9
      · rw [h9]; exact hx1
      · exact qa e (List.mem_append.mpr (.inl h9))
  case kn2 =>
    intro e he
    rcases List.mem_cons.mp he with h9 | h9
    · rw [h9]; exact neN (by omega)
    · rcases List.mem_cons.mp h9 with h9 | h9
      · rw [h9]; exact hx2
      · exact qb e (List.mem_append.mpr (.inl h9))
  case kc => exact rfl
  case kd => exact rfl
  case ke =>
    intro z hz
    simp only [touched, List.map_cons, List.map_nil, List.contains_cons, List.contains_nil, Bool.or_false, Bool.or_eq_false_iff, beq_eq_false_iff_ne, ne_eq] at hz
    have hz2 : storedP.contains z = false := by
      simp only [storedP, List.map_cons, List.map_nil, List.contains_cons, List.contains_nil, Bool.or_false, Bool.or_eq_false_iff, beq_eq_false_iff_ne, ne_eq]
      simp [hz]
    have hz3 : z ∉ storedP := by simpa using hz2
    simp [kstB, hz3, hz, pairF]
theorem begin2 {w : World} {loose : List Str} {mean : ExcName → Option Value} {mg mb : Str → Option Value}
    {dp un : Nat} {gd : Option (List Code)} {outer : List Env} {A₀ : Around} {base h₀ : Heap} {L : Addr} {m₁ : Str → Option Value} {s : Shared} {Q : Flow → Shared → Prop} {E : Value → Shared → Prop}
    {lt nm : Addr} {vs nvs : List Value} {ev en : Nat} {R : List (Addr × Obj)} {wy ln : Int} {p q : Nat} {wr : List Nat} {t1 t2 t3 t4 t5 t6 : Tok} {c : Nat}
    (B : Below A₀ base outer h₀) (F : Fr h₀ L s.heap (docF 2 wy p q wr ln lt nm t1 t2 t3 t4 t5 t6 m₁)) (X : (hd.heap_39 w.params).In h₀) (T : Top hd.view_39 loose mean mg mb h₀)
    (N : News h₀ L s.heap ((lt, listOf vs.toArray ev) :: (nm, listOf nvs.toArray en) :: R))
    (hp : p ∈ sg) (hq : q ∈ sg) (hs : SigA (wy.fmod 3)) (hnm : Txt.item (Str.ofString "ab") ((wy.fdiv 3).fmod 2) = S [c])
    (hwl : wr.length ≤ 70000) (hvs : vs.length ≤ 100) (hns : nvs.length ≤ 100) (f1 : @Ne Nat lt nm) (q1 : ∀ p ∈ R, p.1 ≠ lt) (q2 : ∀ p ∈ R, p.1 ≠ nm)
    (hE : PassesOwn (model PySem.Challenge.rw_mr0358_01.row.prog w) (ktrTop dp un gd (Str.ofString "_law_document") docScope L 802 (.ref 801) [] outer) (envOf (Str.ofString "_law_document") docScope L 802 (.ref 801)) E)
    (hd1 : dp + 12 < recursionLimit) (hu : un + 250 < cLine)
    (ret : ∀ (m' : Str → Option Value) (h' : Heap) (tk' : Nat) (t5' t6' tn' : Tok) (r' : Addr) (new : List (Addr × Obj)), DatIn new (.ref r') (Deed.begins c ((twoP (wy.fmod 3) p q).take 2)).d → (∀ e ∈ new, ∀ f ∈ R, f.1 < e.1) → (∀ e ∈ new, e.1 ≠ lt) → (∀ e ∈ new, e.1 ≠ nm) →
      m' (Str.ofString "writing") = some (.str (S (wr ++ ([60] ++ [c]) ++ ((twoP (wy.fmod 3) p q).take 2).flatMap pairR ++ [62])) t5') → m' (Str.ofString "line") = some (.int (ln + psN ((twoP (wy.fmod 3) p q).take 2)) t6') →
      (∀ z, touched.contains z = false → m' z = docF 2 wy p q wr ln lt nm t1 t2 t3 t4 t5 t6 m₁ z) → Fr h₀ L h' m' → News h₀ L h' ((lt, listOf (vs ++ [Value.ref r']).toArray (ev + 1)) :: (nm, listOf (nvs ++ [Value.str (S [c]) tn']).toArray (en + 1)) :: (new ++ R)) → Q .next { s with heap := h', toks := tk' }) :
    wpAny (model PySem.Challenge.rw_mr0358_01.row.prog w) (ktrTop dp un gd (Str.ofString "_law_document") docScope L 802 (.ref 801) [] outer) (execs docA (envOf (Str.ofString "_law_document") docScope L 802 (.ref 801))) Q E s := by
  have hk : docScope.kind = .function := rfl
  have g1 := c_lt
  have g2 := c_gt
  k_with_none
  k_with "my append" => ((with_reducible show wpAny _ _ (call (Value.builtin _) [Value.ref _, _]) _ _ _); k_dflt (refine' append_K ?k1 ?k2 ?k3 ?_ ?z; (case k1 => k_asm); (case k2 => k_asm); (case k3 => k_upd); (case z => (rw [sizeLine_eq]; simp only [List.size_toArray, List.length_append, List.length_cons, List.length_nil]; omega)); k_whole); intro h' F' N'; (try k_sweep))
  k_with "my iadd" => (refine' iadd_E ?kx ?ky ?k1 ?_; (case kx => first | with_reducible rfl | with_reducible assumption); (case ky => first | with_reducible rfl | with_reducible assumption); (case k1 => (simp only [List.length_append, List.length_cons, List.length_nil]; omega)); intro t8 tk8)
  k_with "my add" => (refine' add_E ?kx ?ky ?k1 ?_; (case kx => first | with_reducible rfl | with_reducible assumption); (case ky => first | with_reducible rfl | with_reducible assumption); (case k1 => (simp only [List.length_append, List.length_cons, List.length_nil]; omega)); intro t8 tk8)
  k_with "my newList" => (k_dflt (refine' newList_K ?k1 ?k2 ?_; (case k1 => k_asm); (case k2 => k_asm); k_whole); intro lp h' F' N' l1; (try k_lt l1); (try k_sweep))
  k_with "my call" => ((with_reducible show wpAny _ _ (call (Value.ref 788) _) _ _ _); k_dflt (refine' attributeV ?k1 ?k2 ?k3 ?k4 ?k5 ?k6 rfl ?kp ?kq hs ?k7 ?k8 ?_; (case k1 => k_asm); (case k2 => k_asm); (case k3 => k_asm); (case k4 => k_asm); (case k5 => first | exact rfl | assumption); (case k6 => k_asm); (case kp => with_reducible assumption); (case kq => with_reducible assumption); (case k7 => ktr_room); (case k8 => ktr_units); k_whole; intro t9 h9 tk9 F9 N9; (try dsimp only); (try k_sweep); (try k_fold)))
  k_with "my call" => ((with_reducible show wpAny _ _ (call (Value.ref 781) _) _ _ _); k_dflt (refine' spelledAV ?k1 ?k2 ?k3 ?k4 ?k5 ?k6 rfl ?kp ?kq hs ?k7 ?k8 ?_; (case k1 => k_asm); (case k2 => k_asm); (case k3 => k_asm); (case k4 => k_asm); (case k5 => first | exact rfl | assumption); (case k6 => k_asm); (case kp => with_reducible assumption); (case kq => with_reducible assumption); (case k7 => ktr_room); (case k8 => ktr_units); k_whole; intro t9 h9 tk9 F9 N9; (try dsimp only); (try k_sweep); (try k_fold)))
  k_with "my sub" => ((with_reducible show wpAny _ _ (subscriptTail _ _ (Value.ref 773) _) _ _ _); k_dflt (refine' subA ?k1 ?k2 ?k3 ?k4 ?k5 ?k6 hs ?k9 ?k10 ?_; (case k1 => k_asm); (case k2 => k_asm); (case k3 => k_asm); (case k4 => k_asm); (case k5 => first | exact rfl | assumption); (case k6 => k_asm); (case k9 => with_unfolding_all rfl); (case k10 => (intro _; with_unfolding_all rfl)); k_whole))
  k_with "my for" => ((with_reducible show wpAny _ _ (exec (Stmt.For (Expr.Tuple _ _ _) _ _ _ _) _) _ _ _); (rename Fr _ _ _ _ => lF'); (with_unfolding_all refine' For_turns lF' ?_ (hE := hE); k_whole))
  k_with "my sub" => ((with_reducible show wpAny _ _ (subscriptTail _ (Expr.Slice _ _ _ _) (Value.ref _) (Value.ref _)) _ _ _); k_dflt (refine' slice2K 2 ?k1 ?k2 ?k3 ?k4 ?k5 ?k6 ?_; (case k1 => k_asm); (case k2 => k_asm); (case k3 => k_mem); (case k4 => decide); (case k5 => exact rfl); (case k6 => with_unfolding_all rfl)); intro D9 nn9 h9 F9 N9 l9; (try k_sweep); (try dsimp only); (try k_fold))
  k_with "pyIter ref" => (refine stopAt ?_)
  revert X; k_fill; intro X
  k_steps
  unfold Stopped
  rename (lt < lp ∧ nm < lp ∧ _) => l1a
  rename (lp < _ ∧ lt < _ ∧ nm < _ ∧ _) => l1b
  rename (_ < _ ∧ lp < _ ∧ lt < _ ∧ nm < _ ∧ _) => l1c
  rename (_ < _ ∧ _ < _ ∧ lp < _ ∧ lt < _ ∧ nm < _ ∧ _) => l1d
  have hx1 : @Ne Nat lp lt := by omega
  have hx2 : @Ne Nat lp nm := by omega
  k_dflt (refine' pairLoop (k := 2) (lp := lp) (D := D9) (R := (lt, listOf vs.toArray ev) :: (nm, listOf nvs.toArray en) :: R) B F9 X T ?kN hp hq hs (by decide) ?kw ?kD ?kf1 ?kf2 ?kq hd1 hu ?_)
  case kN =>
    intro e he
    apply N9
    simp only [List.mem_cons] at he ⊢
    rcases he with h9 | h9 | h9 | h9 | h9
    · exact .inr (.inr (.inr (.inr (.inl h9))))
    · exact .inl h9
    · exact .inr (.inr (.inl h9))
    · exact .inr (.inr (.inr (.inl h9)))
    · exact .inr (.inr (.inr (.inr (.inr h9))))
  case kw => simp only [List.length_append, List.length_cons, List.length_nil]; omega
  case kD => exact neN (by omega)
  case kf1 => omega
  case kf2 => omega
  case kq =>
    intro e he
    rcases List.mem_cons.mp he with h9 | h9
    · rw [h9]; exact neN (by omega)
    · rcases List.mem_cons.mp h9 with h9 | h9
      · rw [h9]; exact neN (by omega)
      · exact Nat.ne_of_lt (kst_ltOf l1a.2.2 e h9)
  intro pvs ep tx z5 z6 u hh9 tkk hdat hpl htl htR F8 N8
  clear F9 N9
  have N7 : News h₀ L hh9 ((lp, listOf pvs.toArray ep) :: (lt, listOf vs.toArray ev) :: (nm, listOf nvs.toArray en) :: (tx ++ R)) := by
    intro e he
    apply N8
    simp only [List.mem_cons, List.mem_append] at he ⊢
    rcases he with h9 | h9 | h9 | h9 | h9
    · exact .inl h9
    · exact .inr (.inr (.inl h9))
    · exact .inr (.inr (.inr (.inl h9)))
    · exact .inr (.inl h9)
    · exact .inr (.inr (.inr (.inr h9)))
  clear N8
  have qa : ∀ e ∈ tx ++ R, e.1 ≠ lt := by
    intro e he
    rcases List.mem_append.mp he with h9 | h9
    · exact Nat.ne_of_gt (htR e h9 _ (.head _))
    · exact q1 e h9
  have qb : ∀ e ∈ tx ++ R, e.1 ≠ nm := by
    intro e he
    rcases List.mem_append.mp he with h9 | h9
    · exact Nat.ne_of_gt (htR e h9 _ (.tail _ (.head _)))
    · exact q2 e h9
  have hpw := pairs_len (wy.fmod 3) p q 2
  dsimp only
  k_steps
  all_goals (try simp only [List.push_toArray] at *)
  rename (Fr _ _ _ _) => F6
  rename (News _ _ _ _) => N6
  rename (lp < _ ∧ lt < _ ∧ nm < _ ∧ AllLt _ (tx ++ R)) => l6
  simp only [hnm] at N6
  have hlt6 := fun e he => ltN (kst_ltOf l6.2.2.2 e he)
  refine' ret _ _ _ _ _ _ _ _ ?kdat ?klt ?kn1 ?kn2 ?kc ?kd ?ke F6 (ledReo N6)
  case kdat =>
    refine DatIn.tuple (.head _) (.cons (.str _ _) (.cons (.str _ _) (.cons (.list (.tail _ (.head _)) ?_) (.cons ?_ .nil))))
    · exact hdat.mono fun _ h9 => .tail _ (.tail _ h9)
    · exact c_gt ▸ .str _ _
  case klt =>
    intro e he f hf
    rcases List.mem_cons.mp he with h9 | h9
    · rw [h9]; exact hlt6 f (List.mem_append.mpr (.inr hf))
    · rcases List.mem_cons.mp h9 with h9 | h9
      · rw [h9]; exact kst_ltOf l1a.2.2 f hf
      · exact htR e h9 f (.tail _ (.tail _ hf))
  case kn1 =>
    intro e he
    rcases List.mem_cons.mp he with h9 | h9
    · rw [h9]; exact neN (by omega)
    · rcases List.mem_cons.mp h9 with h9 | h9
      · rw [h9]; exact hx1
      · exact qa e (List.mem_append.mpr (.inl h9))
  case kn2 =>
    intro e he
    rcases List.mem_cons.mp he with h9 | h9
    · rw [h9]; exact neN (by omega)
    · rcases List.mem_cons.mp h9 with h9 | h9
      · rw [h9]; exact hx2
      · exact qb e (List.mem_append.mpr (.inl h9))
  case kc => exact rfl
  case kd => exact rfl
  case ke =>
    intro z hz
    simp only [touched, List.map_cons, List.map_nil, List.contains_cons, List.contains_nil, Bool.or_false, Bool.or_eq_false_iff, beq_eq_false_iff_ne, ne_eq] at hz
    have hz2 : storedP.contains z = false := by
      simp only [storedP, List.map_cons, List.map_nil, List.contains_cons, List.contains_nil, Bool.or_false, Bool.or_eq_false_iff, beq_eq_false_iff_ne, ne_eq]
      simp [hz]
    have hz3 : z ∉ storedP := by simpa using hz2
    simp [kstB, hz3, hz, pairF]
/-- what the document's state keeps -/
structure DInv (ds : List Deed) (ns : List (Nat × Tok)) : Prop where
  ok : ∀ d ∈ ds, d.Ok
  alt : Alt ds
  nms : ∀ c ∈ ns, c.1 = 97 ∨ c.1 = 98
  nl : ns.length ≤ 4
  prs : ∀ n ps, Deed.begins n ps ∈ ds → ps.length ≤ 2 ∧ ∀ p ∈ ps, ∀ c ∈ p.2, c < 1114112
def nameV (c : Nat × Tok) : Value := .str (S [c.1]) c.2
theorem alt_snoc {ds : List Deed} {d : Deed} (h : Alt ds) (hd : d.isText = false ∨ ∀ e, ds.getLast? = some e → e.isText = false) : Alt (ds ++ [d]) := by
  induction ds with
  | nil => exact trivial
  | cons a r ih =>
    cases r with
    | nil =>
      refine ⟨?_, trivial⟩
      rintro ⟨h1, h2⟩
      rcases hd with hd | hd
      · rw [hd] at h2; exact Bool.noConfusion h2
      · rw [hd a rfl] at h1; exact Bool.noConfusion h1
    | cons b r => exact ⟨h.1, ih h.2 (hd.imp id fun f e he => f e (by simpa using he))⟩
theorem nlsAll_append (a b : List Deed) : nlsAll (a ++ b) = nlsAll a + nlsAll b := by
  induction a with
  | nil => simp [nlsAll]
  | cons x r ih => simp only [List.cons_append, nlsAll, ih]; omega
theorem render_append (a b : List Deed) : render (a ++ b) = render a ++ render b := by simp [render]
theorem escT_ok : ∀ k : Int, SigT k → ∀ p ∈ sg, escT k p ≠ [] ∧ (escT k p).all (wsT.cps.toList.contains ·) = true := by
  rintro k (rfl | rfl)
  · decide +kernel
  · decide +kernel
theorem escA_ok : ∀ k : Int, SigA k → ∀ p ∈ sg, (escA k p).contains 34 = false := by
  rintro k (rfl | rfl | rfl)
  · decide +kernel
  · decide +kernel
  · decide +kernel
theorem text_ok {k : Int} (hk : SigT k) {p q : Nat} (hp : p ∈ sg) (hq : q ∈ sg) : (Deed.text (escT k p ++ escT k q)).Ok := by
  have h1 := escT_ok k hk p hp
  have h2 := escT_ok k hk q hq
  refine ⟨?_, ?_⟩
  · intro h
    exact h1.1 (List.append_eq_nil_iff.mp h).1
  · rw [List.all_append, h1.2, h2.2]; rfl
theorem twoP_ok {k : Int} (hk : SigA k) {p q : Nat} (hp : p ∈ sg) (hq : q ∈ sg) (i : Nat) : ∀ x ∈ (twoP k p q).take i, pairOk x := by
  intro x hx
  have h1 := escA_ok k hk p hp
  have h2 := escA_ok k hk q hq
  have hx' := List.mem_of_mem_take hx
  simp only [twoP, List.mem_cons, List.not_mem_nil, or_false] at hx'
  rcases hx' with rfl | rfl
  · exact ⟨.inl rfl, by simp only [List.contains_append, h1, h2, Bool.or_self]⟩
  · exact ⟨.inr rfl, by simp only [List.contains_append, h1, h2, Bool.or_self]⟩
theorem fmod_bound (n : Int) (k : Int) (hk : 0 < k) : 0 ≤ n.fmod k ∧ n.fmod k < k := ⟨Int.fmod_nonneg_of_pos n hk, Int.fmod_lt_of_pos n hk⟩
theorem sigT_mod (n : Int) : SigT (n.fmod 2) := by
  have := fmod_bound n 2 (by decide)
  unfold SigT; omega
theorem sigA_mod (n : Int) : SigA (n.fmod 3) := by
  have := fmod_bound n 3 (by decide)
  unfold SigA; omega
theorem ab_item (n : Int) : ∃ c, (c = 97 ∨ c = 98) ∧ Txt.item (Str.ofString "ab") (n.fmod 2) = S [c] := by
  rcases sigT_mod n with h | h <;> rw [h]
  · exact ⟨97, .inl rfl, by decide +kernel⟩
  · exact ⟨98, .inr rfl, by decide +kernel⟩
def sgS : List Str := ["a", " ", "\"", "'", "<", ">", "&", "\n", "\t", "\r", "\\", "=", "/", ";", "#", "é"].map Str.ofString
theorem sg_item (i : Nat) (hi : i < 16) : ∃ c ∈ sg, sgS.getD i Str.empty = S [c] := by
  have : ∀ i < 16, sg.getD i 0 ∈ sg ∧ sgS.getD i Str.empty = S [sg.getD i 0] := by decide +kernel
  exact ⟨_, (this i hi).1, (this i hi).2⟩
theorem ifToA {w : World} {loose : List Str} {mean : ExcName → Option Value} {mg mb : Str → Option Value}
    {dp un : Nat} {gd : Option (List Code)} {outer : List Env} {A₀ : Around} {base h₀ : Heap} {L : Addr} {m₁ : Str → Option Value} {s : Shared} {Q : Flow → Shared → Prop} {E : Value → Shared → Prop}
    {lt nm : Addr} {vs nvs : List Value} {ev en : Nat} {R : List (Addr × Obj)} {kd wy ln : Int} {p q : Nat} {wr : List Nat} {t1 t2 t3 t4 t5 t6 : Tok}
    (B : Below A₀ base outer h₀) (F : Fr h₀ L s.heap (docF kd wy p q wr ln lt nm t1 t2 t3 t4 t5 t6 m₁)) (X : (hd.heap_39 w.params).In h₀) (T : Top hd.view_39 loose mean mg mb h₀)
    (N : News h₀ L s.heap ((lt, listOf vs.toArray ev) :: (nm, listOf nvs.toArray en) :: R)) (hz : nvs.length ≤ 100) (h3 : kd < 3) (hl4 : (nvs.length : Int) < 4)
    (h : ∀ tk', wpAny (model PySem.Challenge.rw_mr0358_01.row.prog w) (ktrTop dp un gd (Str.ofString "_law_document") docScope L 802 (.ref 801) [] outer) (execs docA (envOf (Str.ofString "_law_document") docScope L 802 (.ref 801))) Q E { s with toks := tk' }) :
    wpAny (model PySem.Challenge.rw_mr0358_01.row.prog w) (ktrTop dp un gd (Str.ofString "_law_document") docScope L 802 (.ref 801) [] outer) (exec docIf (envOf (Str.ofString "_law_document") docScope L 802 (.ref 801))) Q E s := by
  have hk : docScope.kind = .function := rfl
  k_with_none
  k_with "my len" => (k_dflt (refine' lenK ?k1 ?k2 ?k3 ?_; (case k1 => k_asm); (case k2 => k_mem); (case k3 => omega); k_whole))
  k_with "my truthy ref" => (k_dflt (refine' truthyT ?k1 ?k2 ?k3 ?_; (case k1 => k_asm); (case k2 => k_mem); (case k3 => omega); k_whole))
  k_with "my truthy ref" => (k_dflt (refine' truthyF ?k1 ?k2 ?_; (case k1 => k_asm); (case k2 => k_mem); k_whole))
  k_with "my execs" => ((with_reducible show wpAny _ _ (execs (Stmt.Assign _ _ _ :: _) _) _ _ _); refine stopAt ?_)
  revert X; k_fill; intro X
  show wpAny _ _ (exec (Stmt.If _ _ _ _) _) _ _ _
  k_steps
  unfold Stopped
  refine wpAny_mono (h _) (fun f s' hq => ?_) fun _ _ e => e
  cases f <;> first | exact hq | (dsimp only; k_steps; exact hq)
theorem ifToB {w : World} {loose : List Str} {mean : ExcName → Option Value} {mg mb : Str → Option Value}
    {dp un : Nat} {gd : Option (List Code)} {outer : List Env} {A₀ : Around} {base h₀ : Heap} {L : Addr} {m₁ : Str → Option Value} {s : Shared} {Q : Flow → Shared → Prop} {E : Value → Shared → Prop}
    {lt nm : Addr} {vs nvs : List Value} {ev en : Nat} {R : List (Addr × Obj)} {wy ln : Int} {p q : Nat} {wr : List Nat} {t1 t2 t3 t4 t5 t6 : Tok} {xv : Value}
    (B : Below A₀ base outer h₀) (F : Fr h₀ L s.heap (docF 3 wy p q wr ln lt nm t1 t2 t3 t4 t5 t6 m₁)) (X : (hd.heap_39 w.params).In h₀) (T : Top hd.view_39 loose mean mg mb h₀)
    (N : News h₀ L s.heap ((lt, listOf vs.toArray ev) :: (nm, listOf (nvs ++ [xv]).toArray en) :: R)) (hz : nvs.length ≤ 100) 
    (h : ∀ tk', wpAny (model PySem.Challenge.rw_mr0358_01.row.prog w) (ktrTop dp un gd (Str.ofString "_law_document") docScope L 802 (.ref 801) [] outer) (execs docB (envOf (Str.ofString "_law_document") docScope L 802 (.ref 801))) Q E { s with toks := tk' }) :
    wpAny (model PySem.Challenge.rw_mr0358_01.row.prog w) (ktrTop dp un gd (Str.ofString "_law_document") docScope L 802 (.ref 801) [] outer) (exec docIf (envOf (Str.ofString "_law_document") docScope L 802 (.ref 801))) Q E s := by
  have hk : docScope.kind = .function := rfl
  k_with_none
  k_with "my len" => (k_dflt (refine' lenK ?k1 ?k2 ?k3 ?_; (case k1 => k_asm); (case k2 => k_mem); (case k3 => omega); k_whole))
  k_with "my truthy ref" => (k_dflt (refine' truthyT ?k1 ?k2 ?k3 ?_; (case k1 => k_asm); (case k2 => k_mem); (case k3 => omega); k_whole))
  k_with "my truthy ref" => (k_dflt (refine' truthyF ?k1 ?k2 ?_; (case k1 => k_asm); (case k2 => k_mem); k_whole))
  k_with "my execs" => ((with_reducible show wpAny _ _ (execs (Stmt.Assign _ _ _ :: _) _) _ _ _); refine stopAt ?_)
  revert X; k_fill; intro X
  show wpAny _ _ (exec (Stmt.If _ _ _ _) _) _ _ _
  k_steps
  unfold Stopped
  refine wpAny_mono (h _) (fun f s' hq => ?_) fun _ _ e => e
  cases f <;> first | exact hq | (dsimp only; k_steps; exact hq)
theorem ifToC1 {w : World} {loose : List Str} {mean : ExcName → Option Value} {mg mb : Str → Option Value}
    {dp un : Nat} {gd : Option (List Code)} {outer : List Env} {A₀ : Around} {base h₀ : Heap} {L : Addr} {m₁ : Str → Option Value} {s : Shared} {Q : Flow → Shared → Prop} {E : Value → Shared → Prop}
    {lt nm : Addr} {vs nvs : List Value} {ev en : Nat} {R : List (Addr × Obj)} {kd wy ln : Int} {p q : Nat} {wr : List Nat} {t1 t2 t3 t4 t5 t6 : Tok}
    (B : Below A₀ base outer h₀) (F : Fr h₀ L s.heap (docF kd wy p q wr ln lt nm t1 t2 t3 t4 t5 t6 m₁)) (X : (hd.heap_39 w.params).In h₀) (T : Top hd.view_39 loose mean mg mb h₀)
    (N : News h₀ L s.heap ((lt, listOf vs.toArray ev) :: (nm, listOf nvs.toArray en) :: R)) (hz : nvs.length ≤ 100) (h3 : kd < 3) (hl4 : ¬ (nvs.length : Int) < 4) (h33 : ¬ kd = 3)
    (h : ∀ tk', wpAny (model PySem.Challenge.rw_mr0358_01.row.prog w) (ktrTop dp un gd (Str.ofString "_law_document") docScope L 802 (.ref 801) [] outer) (execs docC (envOf (Str.ofString "_law_document") docScope L 802 (.ref 801))) Q E { s with toks := tk' }) :
    wpAny (model PySem.Challenge.rw_mr0358_01.row.prog w) (ktrTop dp un gd (Str.ofString "_law_document") docScope L 802 (.ref 801) [] outer) (exec docIf (envOf (Str.ofString "_law_document") docScope L 802 (.ref 801))) Q E s := by
  have hk : docScope.kind = .function := rfl
  have h34 : (kd == 3) = false := beq_eq_false_iff_ne.mpr h33
  have h35 : decide (kd = 3) = false := decide_eq_false h33
  k_with_none
  k_with "my len" => (k_dflt (refine' lenK ?k1 ?k2 ?k3 ?_; (case k1 => k_asm); (case k2 => k_mem); (case k3 => omega); k_whole))
  k_with "my truthy ref" => (k_dflt (refine' truthyT ?k1 ?k2 ?k3 ?_; (case k1 => k_asm); (case k2 => k_mem); (case k3 => omega); k_whole))
  k_with "my truthy ref" => (k_dflt (refine' truthyF ?k1 ?k2 ?_; (case k1 => k_asm); (case k2 => k_mem); k_whole))
  k_with "my execs" => ((with_reducible show wpAny _ _ (execs (Stmt.Assign _ _ _ :: _) _) _ _ _); refine stopAt ?_)
  revert X; k_fill; intro X
  show wpAny _ _ (exec (Stmt.If _ _ _ _) _) _ _ _
  k_steps
  unfold Stopped
  refine wpAny_mono (h _) (fun f s' hq => ?_) fun _ _ e => e
  cases f <;> first | exact hq | (dsimp only; k_steps; exact hq)
theorem ifToC2 {w : World} {loose : List Str} {mean : ExcName → Option Value} {mg mb : Str → Option Value}
    {dp un : Nat} {gd : Option (List Code)} {outer : List Env} {A₀ : Around} {base h₀ : Heap} {L : Addr} {m₁ : Str → Option Value} {s : Shared} {Q : Flow → Shared → Prop} {E : Value → Shared → Prop}
    {lt nm : Addr} {vs : List Value} {ev en : Nat} {R : List (Addr × Obj)} {wy ln : Int} {p q : Nat} {wr : List Nat} {t1 t2 t3 t4 t5 t6 : Tok}
    (B : Below A₀ base outer h₀) (F : Fr h₀ L s.heap (docF 3 wy p q wr ln lt nm t1 t2 t3 t4 t5 t6 m₁)) (X : (hd.heap_39 w.params).In h₀) (T : Top hd.view_39 loose mean mg mb h₀)
    (N : News h₀ L s.heap ((lt, listOf vs.toArray ev) :: (nm, listOf ([] : List Value).toArray en) :: R)) 
    (h : ∀ tk', wpAny (model PySem.Challenge.rw_mr0358_01.row.prog w) (ktrTop dp un gd (Str.ofString "_law_document") docScope L 802 (.ref 801) [] outer) (execs docC (envOf (Str.ofString "_law_document") docScope L 802 (.ref 801))) Q E { s with toks := tk' }) :
    wpAny (model PySem.Challenge.rw_mr0358_01.row.prog w) (ktrTop dp un gd (Str.ofString "_law_document") docScope L 802 (.ref 801) [] outer) (exec docIf (envOf (Str.ofString "_law_document") docScope L 802 (.ref 801))) Q E s := by
  have hk : docScope.kind = .function := rfl
  k_with_none
  k_with "my len" => (k_dflt (refine' lenK ?k1 ?k2 ?k3 ?_; (case k1 => k_asm); (case k2 => k_mem); (case k3 => omega); k_whole))
  k_with "my truthy ref" => (k_dflt (refine' truthyT ?k1 ?k2 ?k3 ?_; (case k1 => k_asm); (case k2 => k_mem); (case k3 => omega); k_whole))
  k_with "my truthy ref" => (k_dflt (refine' truthyF ?k1 ?k2 ?_; (case k1 => k_asm); (case k2 => k_mem); k_whole))
  k_with "my execs" => ((with_reducible show wpAny _ _ (execs (Stmt.Assign _ _ _ :: _) _) _ _ _); refine stopAt ?_)
  revert X; k_fill; intro X
  show wpAny _ _ (exec (Stmt.If _ _ _ _) _) _ _ _
  k_steps
  unfold Stopped
  refine wpAny_mono (h _) (fun f s' hq => ?_) fun _ _ e => e
  cases f <;> first | exact hq | (dsimp only; k_steps; exact hq)
theorem ifToC3 {w : World} {loose : List Str} {mean : ExcName → Option Value} {mg mb : Str → Option Value}
    {dp un : Nat} {gd : Option (List Code)} {outer : List Env} {A₀ : Around} {base h₀ : Heap} {L : Addr} {m₁ : Str → Option Value} {s : Shared} {Q : Flow → Shared → Prop} {E : Value → Shared → Prop}
    {lt nm : Addr} {vs nvs : List Value} {ev en : Nat} {R : List (Addr × Obj)} {kd wy ln : Int} {p q : Nat} {wr : List Nat} {t1 t2 t3 t4 t5 t6 : Tok}
    (B : Below A₀ base outer h₀) (F : Fr h₀ L s.heap (docF kd wy p q wr ln lt nm t1 t2 t3 t4 t5 t6 m₁)) (X : (hd.heap_39 w.params).In h₀) (T : Top hd.view_39 loose mean mg mb h₀)
    (N : News h₀ L s.heap ((lt, listOf vs.toArray ev) :: (nm, listOf nvs.toArray en) :: R)) (hz : nvs.length ≤ 100) (h3 : ¬ kd < 3) (h33 : ¬ kd = 3)
    (h : ∀ tk', wpAny (model PySem.Challenge.rw_mr0358_01.row.prog w) (ktrTop dp un gd (Str.ofString "_law_document") docScope L 802 (.ref 801) [] outer) (execs docC (envOf (Str.ofString "_law_document") docScope L 802 (.ref 801))) Q E { s with toks := tk' }) :
    wpAny (model PySem.Challenge.rw_mr0358_01.row.prog w) (ktrTop dp un gd (Str.ofString "_law_document") docScope L 802 (.ref 801) [] outer) (exec docIf (envOf (Str.ofString "_law_document") docScope L 802 (.ref 801))) Q E s := by
  have hk : docScope.kind = .function := rfl
  have h34 : (kd == 3) = false := beq_eq_false_iff_ne.mpr h33
  have h35 : decide (kd = 3) = false := decide_eq_false h33
  k_with_none
  k_with "my len" => (k_dflt (refine' lenK ?k1 ?k2 ?k3 ?_; (case k1 => k_asm); (case k2 => k_mem); (case k3 => omega); k_whole))
  k_with "my truthy ref" => (k_dflt (refine' truthyT ?k1 ?k2 ?k3 ?_; (case k1 => k_asm); (case k2 => k_mem); (case k3 => omega); k_whole))
  k_with "my truthy ref" => (k_dflt (refine' truthyF ?k1 ?k2 ?_; (case k1 => k_asm); (case k2 => k_mem); k_whole))
  k_with "my execs" => ((with_reducible show wpAny _ _ (execs (Stmt.Assign _ _ _ :: _) _) _ _ _); refine stopAt ?_)
  revert X; k_fill; intro X
  show wpAny _ _ (exec (Stmt.If _ _ _ _) _) _ _ _
  k_steps
  unfold Stopped
  refine wpAny_mono (h _) (fun f s' hq => ?_) fun _ _ e => e
  cases f <;> first | exact hq | (dsimp only; k_steps; exact hq)
theorem docPreF {h₀ h : Heap} {L lt nm : Addr} {wy kd rs n ln : Int} {p q : Nat} {wr : List Nat} {t1 t2 t3 t4 t5 t6 t7 t8 : Tok} {m₁ : Str → Option Value}
    (F : Fr h₀ L h (fun y => if y = Str.ofString "way" then some (.int wy t1) else if y = Str.ofString "second" then some (.str (S [q]) t2) else if y = Str.ofString "first" then some (.str (S [p]) t3) else if y = Str.ofString "rest" then some (.int rs t7) else if y = Str.ofString "kind" then some (.int kd t4) else if y = Str.ofString "n" then some (.int n t8) else if y = Str.ofString "writing" then some (.str (S wr) t5) else if y = Str.ofString "line" then some (.int ln t6) else if y = Str.ofString "told" then some (.ref lt) else if y = Str.ofString "names" then some (.ref nm) else m₁ y)) :
    Fr h₀ L h (docF kd wy p q wr ln lt nm t1 t2 t3 t4 t5 t6 (fun y => if y = Str.ofString "rest" then some (.int rs t7) else if y = Str.ofString "n" then some (.int n t8) else m₁ y)) := by
  refine fr_same F fun y => ?_
  by_cases h1 : y = Str.ofString "rest"
  · subst h1; rfl
  · by_cases h2 : y = Str.ofString "n"
    · subst h2; rfl
    · simp only [docF, h1, h2, if_false]
theorem docPre {w : World} {loose : List Str} {mean : ExcName → Option Value} {mg mb : Str → Option Value}
    {dp un : Nat} {gd : Option (List Code)} {outer : List Env} {A₀ : Around} {base h₀ : Heap} {L : Addr} {m₁ : Str → Option Value} {s : Shared} {Q : Flow → Shared → Prop} {E : Value → Shared → Prop}
    {lt nm : Addr} {R : List (Addr × Obj)} {n ln : Int} {wr : List Nat} {t tw tl : Tok}
    (B : Below A₀ base outer h₀) (F : Fr h₀ L s.heap (fun y => if y = Str.ofString "n" then some (.int n t) else if y = Str.ofString "writing" then some (.str (S wr) tw) else if y = Str.ofString "line" then some (.int ln tl) else if y = Str.ofString "told" then some (.ref lt) else if y = Str.ofString "names" then some (.ref nm) else m₁ y)) (X : (hd.heap_39 w.params).In h₀) (T : Top hd.view_39 loose mean mg mb h₀)
    (N : News h₀ L s.heap R)
    (h : ∀ (p q : Nat) (t1 t2 t3 t4 t5 t6 : Tok) (m₂ : Str → Option Value) (h' : Heap) (tk' : Nat), p ∈ sg → q ∈ sg → (∀ z, touched.contains z = false → m₂ z = m₁ z) → Fr h₀ L h' (docF (n.fmod 6) ((n.fdiv 6).fdiv 256) p q wr ln lt nm t1 t2 t3 t4 t5 t6 m₂) → News h₀ L h' R →
      wpAny (model PySem.Challenge.rw_mr0358_01.row.prog w) (ktrTop dp un gd (Str.ofString "_law_document") docScope L 802 (.ref 801) [] outer) (exec docIf (envOf (Str.ofString "_law_document") docScope L 802 (.ref 801))) Q E { s with heap := h', toks := tk' }) :
    wpAny (model PySem.Challenge.rw_mr0358_01.row.prog w) (ktrTop dp un gd (Str.ofString "_law_document") docScope L 802 (.ref 801) [] outer) (execs docBody (envOf (Str.ofString "_law_document") docScope L 802 (.ref 801))) Q E s := by
  have hk : docScope.kind = .function := rfl
  k_with_none
  k_with "my if" => (refine stopAt ?_)
  revert X; k_fill; intro X
  k_steps
  unfold Stopped
  obtain ⟨p, hp, ep⟩ := sg_item ((n.fdiv 6).fmod 16).toNat (by have := fmod_bound (n.fdiv 6) 16 (by decide); omega)
  obtain ⟨q, hq, eq⟩ := sg_item (((n.fdiv 6).fdiv 16).fmod 16).toNat (by have := fmod_bound ((n.fdiv 6).fdiv 16) 16 (by decide); omega)
  rename (Fr _ _ _ _) => F9
  rename (News _ _ _ _) => N9
  have F8 := F9
  simp only [show ([Str.ofString "a", Str.ofString " ", Str.ofString "\"", Str.ofString "'", Str.ofString "<", Str.ofString ">", Str.ofString "&", Str.ofString "\n", Str.ofString "\t", Str.ofString "\r", Str.ofString "\\", Str.ofString "=", Str.ofString "/", Str.ofString ";", Str.ofString "#", Str.ofString "é"] : List Str) = sgS from rfl, ep, eq] at F8
  refine wpAny_mono (h p q _ _ _ _ _ _ _ _ _ hp hq ?_ (docPreF F8) N9) (fun f s' hq => ?_) fun _ _ e => e
  · intro z hz
    simp only [touched, List.map_cons, List.map_nil, List.contains_cons, List.contains_nil, Bool.or_false, Bool.or_eq_false_iff, beq_eq_false_iff_ne, ne_eq] at hz
    simp [hz]
  · cases f <;> first | exact hq | (dsimp only; k_steps; exact hq)
theorem docF_rest {kd wy ln : Int} {p q : Nat} {wr : List Nat} {lt nm : Addr} {t1 t2 t3 t4 t5 t6 : Tok} {m₁ m₂ : Str → Option Value} (hm : ∀ z, touched.contains z = false → m₂ z = m₁ z) (z : Str) (hz : touched.contains z = false) :
    docF kd wy p q wr ln lt nm t1 t2 t3 t4 t5 t6 m₂ z = (if z = Str.ofString "told" then some (.ref lt) else if z = Str.ofString "names" then some (.ref nm) else m₁ z) := by
  have h := hm z hz
  simp only [touched, List.map_cons, List.map_nil, List.contains_cons, List.contains_nil, Bool.or_false, Bool.or_eq_false_iff, beq_eq_false_iff_ne, ne_eq] at hz
  simp [docF, hz, h]
theorem begin_r (c : Nat) (ps : List (Nat × List Nat)) (wr : List Nat) : wr ++ ([60] ++ [c]) ++ ps.flatMap pairR ++ [62] = wr ++ (Deed.begins c ps).r := by
  simp [Deed.r]
theorem last_case (ds : List Deed) : ds = [] ∨ ∃ e d, ds = e ++ [d] := by
  rcases List.eq_nil_or_concat ds with h | ⟨e, d, h⟩
  · exact .inl h
  · exact .inr ⟨e, d, by simpa using h⟩
theorem alt_init {e : List Deed} {d d' : Deed} (h : Alt (e ++ [d])) (hd : d'.isText = d.isText) : Alt (e ++ [d']) := by
  induction e with
  | nil => exact trivial
  | cons a r ih =>
    cases r with
    | nil => exact ⟨by rw [hd]; exact h.1, trivial⟩
    | cons b r => exact ⟨h.1, ih h.2⟩
theorem render_snoc (ds : List Deed) (d : Deed) : render (ds ++ [d]) = render ds ++ d.r := by simp [render]
theorem nlsAll_snoc (ds : List Deed) (d : Deed) : nlsAll (ds ++ [d]) = nlsAll ds + d.nls := by
  rw [nlsAll_append]; simp [nlsAll]
theorem inv_textN {ds : List Deed} {ns : List (Nat × Tok)} {k : Int} {p q : Nat} (I : DInv ds ns) (hk : SigT k) (hp : p ∈ sg) (hq : q ∈ sg) (hl : ∀ e, ds.getLast? = some e → e.isText = false) :
    DInv (ds ++ [.text (escT k p ++ escT k q)]) ns := by
  refine ⟨?_, alt_snoc I.alt (.inr hl), I.nms, I.nl, ?_⟩
  · intro d hd
    rcases List.mem_append.mp hd with h | h
    · exact I.ok d h
    · rw [List.mem_singleton.mp h]; exact text_ok hk hp hq
  · intro n ps hd
    rcases List.mem_append.mp hd with h | h
    · exact I.prs n ps h
    · exact Deed.noConfusion (List.mem_singleton.mp h)
theorem inv_textM {e : List Deed} {t : List Nat} {ns : List (Nat × Tok)} {k : Int} {p q : Nat} (I : DInv (e ++ [.text t]) ns) (hk : SigT k) (hp : p ∈ sg) (hq : q ∈ sg) :
    DInv (e ++ [.text (t ++ (escT k p ++ escT k q))]) ns := by
  refine ⟨?_, alt_init I.alt rfl, I.nms, I.nl, ?_⟩
  · intro d hd
    rcases List.mem_append.mp hd with h | h
    · exact I.ok d (List.mem_append.mpr (.inl h))
    · rw [List.mem_singleton.mp h]
      have h1 : (Deed.text t).Ok := I.ok _ (List.mem_append.mpr (.inr (.head _)))
      have h2 := text_ok hk hp hq
      refine ⟨fun h => h1.1 (List.append_eq_nil_iff.mp h).1, ?_⟩
      rw [List.all_append, h1.2, h2.2]; rfl
  · intro n ps hd
    rcases List.mem_append.mp hd with h | h
    · exact I.prs n ps (List.mem_append.mpr (.inl h))
    · exact Deed.noConfusion (List.mem_singleton.mp h)
theorem inv_ends {ds : List Deed} {ns : List (Nat × Tok)} {c : Nat × Tok} (I : DInv ds (ns ++ [c])) : DInv (ds ++ [.ends c.1]) ns := by
  refine ⟨?_, alt_snoc I.alt (.inl rfl), fun x hx => I.nms x (List.mem_append.mpr (.inl hx)), ?_, ?_⟩
  · intro d hd
    rcases List.mem_append.mp hd with h | h
    · exact I.ok d h
    · rw [List.mem_singleton.mp h]; exact I.nms c (List.mem_append.mpr (.inr (.head _)))
  · have := I.nl
    rw [List.length_append] at this; simp at this; omega
  · intro n ps hd
    rcases List.mem_append.mp hd with h | h
    · exact I.prs n ps h
    · exact Deed.noConfusion (List.mem_singleton.mp h)
theorem escA_cps : ∀ k : Int, SigA k → ∀ p ∈ sg, ∀ c ∈ escA k p, c < 1114112 := by
  rintro k (rfl | rfl | rfl)
  · decide +kernel
  · decide +kernel
  · decide +kernel
theorem inv_begins {ds : List Deed} {ns : List (Nat × Tok)} {k : Int} {p q c i : Nat} {t : Tok} (I : DInv ds ns) (hl : ns.length < 4) (hc : c = 97 ∨ c = 98) (hk : SigA k) (hp : p ∈ sg) (hq : q ∈ sg) :
    DInv (ds ++ [.begins c ((twoP k p q).take i)]) (ns ++ [(c, t)]) := by
  refine ⟨?_, alt_snoc I.alt (.inl rfl), ?_, ?_, ?_⟩
  · intro d hd
    rcases List.mem_append.mp hd with h | h
    · exact I.ok d h
    · rw [List.mem_singleton.mp h]; exact ⟨hc, twoP_ok hk hp hq i⟩
  · intro x hx
    rcases List.mem_append.mp hx with h | h
    · exact I.nms x h
    · rw [List.mem_singleton.mp h]; exact hc
  · rw [List.length_append]; simp; omega
  · intro n ps hd
    rcases List.mem_append.mp hd with h | h
    · exact I.prs n ps h
    · have e := List.mem_singleton.mp h
      injection e with e1 e2
      rw [e2]
      refine ⟨by rw [List.length_take]; simp [twoP]; omega, ?_⟩
      intro x hx y hy
      have hx' := List.mem_of_mem_take hx
      simp only [twoP, List.mem_cons, List.not_mem_nil, or_false] at hx'
      rcases hx' with rfl | rfl
      · exact (List.mem_append.mp hy).elim (escA_cps k hk p hp y) (escA_cps k hk q hq y)
      · exact (List.mem_append.mp hy).elim (escA_cps k hk q hq y) (escA_cps k hk p hp y)
theorem dat_snocD {tx : List (Addr × Obj)} {vs : List Value} {e : List Deed} {d : Deed} (h : DatAll tx vs ((e ++ [d]).map Deed.d)) : ∃ vs0 v, vs = vs0 ++ [v] ∧ DatAll tx vs0 (e.map Deed.d) ∧ DatIn tx v d.d := by
  rcases List.eq_nil_or_concat vs with h0 | ⟨vs0, v, h0⟩
  · subst h0
    have := h.length
    simp at this
  · rw [List.concat_eq_append] at h0
    subst h0
    obtain ⟨es, d', e1, e2, e3⟩ := h.snoc
    rw [List.map_append, List.map_singleton] at e1
    obtain ⟨e4, e5⟩ := List.append_inj' e1 rfl
    injection e5 with e5
    subst e4 e5
    exact ⟨vs0, v, rfl, e2, e3⟩
theorem dat_tuple {tx : List (Addr × Obj)} {v : Value} {ds : List Dat} (h : DatIn tx v (.tuple ds)) : ∃ r vs n, v = .ref r ∧ (r, ({ cls := .type "tuple", data := .seq vs.toArray n } : Obj)) ∈ tx ∧ DatAll tx vs ds := by
  cases h with
  | tuple h1 h2 => exact ⟨_, _, _, rfl, h1, h2⟩
theorem dat_str {tx : List (Addr × Obj)} {vs : List Value} {x : Str} {ds : List Dat} (h : DatAll tx vs (.str x :: ds)) : ∃ t vr, vs = .str x t :: vr ∧ DatAll tx vr ds := by
  cases h with
  | cons h1 h2 =>
    cases h1 with
    | str => exact ⟨_, _, rfl, h2⟩
theorem dat_nil {tx : List (Addr × Obj)} {vs : List Value} (h : DatAll tx vs []) : vs = [] := by cases h; rfl
theorem dat_text {tx : List (Addr × Obj)} {v : Value} {t : List Nat} (h : DatIn tx v (Deed.text t).d) : ∃ r n t7 t8, v = .ref r ∧ (r, ({ cls := .type "tuple", data := .seq [.str (Str.ofString "text") t7, .str (S t) t8].toArray n } : Obj)) ∈ tx := by
  obtain ⟨r, vs, n, e1, e2, e3⟩ := dat_tuple h
  obtain ⟨t7, vr, e4, e5⟩ := dat_str e3
  obtain ⟨t8, vr2, e6, e7⟩ := dat_str e5
  have e8 := dat_nil e7
  subst e8 e6 e4
  exact ⟨r, n, t7, t8, e1, e2⟩
theorem dat_other {tx : List (Addr × Obj)} {v : Value} {d : Deed} (hd : d.isText = false) (h : DatIn tx v d.d) : ∃ r n x7 t7 vr, v = .ref r ∧ (x7 == Str.ofString "text") = false ∧ (r, ({ cls := .type "tuple", data := .seq (.str x7 t7 :: vr).toArray n } : Obj)) ∈ tx := by
  cases d with
  | text t => exact Bool.noConfusion hd
  | ends c =>
    obtain ⟨r, vs, n, e1, e2, e3⟩ := dat_tuple h
    obtain ⟨t7, vr, e4, e5⟩ := dat_str e3
    subst e4
    exact ⟨r, n, _, t7, vr, e1, by decide +kernel, e2⟩
  | begins c ps =>
    obtain ⟨r, vs, n, e1, e2, e3⟩ := dat_tuple h
    obtain ⟨t7, vr, e4, e5⟩ := dat_str e3
    subst e4
    exact ⟨r, n, _, t7, vr, e1, by decide +kernel, e2⟩
theorem dat_new {tx new : List (Addr × Obj)} {vs : List Value} {v : Value} {ds : List Deed} {d : Deed} (h : DatAll tx vs (ds.map Deed.d)) (h1 : DatIn (new ++ tx) v d.d) : DatAll (new ++ tx) (vs ++ [v]) ((ds ++ [d]).map Deed.d) := by
  rw [List.map_append]
  exact (h.mono fun p hp => List.mem_append.mpr (.inr hp)).append (.one h1)
theorem docTurn {w : World} {loose : List Str} {mean : ExcName → Option Value} {mg mb : Str → Option Value}
    {dp un : Nat} {gd : Option (List Code)} {outer : List Env} {A₀ : Around} {base h₀ : Heap} {L : Addr} {m₁ : Str → Option Value} {s : Shared} {Q : Flow → Shared → Prop} {E : Value → Shared → Prop}
    {lt nm : Addr} {R tx : List (Addr × Obj)} {n : Int} {t tw tl : Tok} {ds : List Deed} {ns : List (Nat × Tok)} {vs : List Value} {ev en : Nat}
    (B : Below A₀ base outer h₀) (F : Fr h₀ L s.heap (fun y => if y = Str.ofString "n" then some (.int n t) else if y = Str.ofString "writing" then some (.str (S (render ds)) tw) else if y = Str.ofString "line" then some (.int (1 + nlsAll ds) tl) else if y = Str.ofString "told" then some (.ref lt) else if y = Str.ofString "names" then some (.ref nm) else m₁ y)) (X : (hd.heap_39 w.params).In h₀) (T : Top hd.view_39 loose mean mg mb h₀)
    (N : News h₀ L s.heap ((lt, listOf vs.toArray ev) :: (nm, listOf (ns.map nameV).toArray en) :: R))
    (hdat : DatAll tx vs (ds.map Deed.d)) (hsub : ∀ e ∈ tx, e ∈ R) (f1 : @Ne Nat lt nm) (q1 : ∀ p ∈ R, p.1 ≠ lt) (q2 : ∀ p ∈ R, p.1 ≠ nm)
    (I : DInv ds ns) (hdl : ds.length ≤ 50) (hrl : (render ds).length ≤ 5000)
    (hE : PassesOwn (model PySem.Challenge.rw_mr0358_01.row.prog w) (ktrTop dp un gd (Str.ofString "_law_document") docScope L 802 (.ref 801) [] outer) (envOf (Str.ofString "_law_document") docScope L 802 (.ref 801)) E) (hd1 : dp + 12 < recursionLimit) (hu : un + 250 < cLine)
    (ret : ∀ (ds' : List Deed) (ns' : List (Nat × Tok)) (vs' : List Value) (ev' en' : Nat) (new : List (Addr × Obj)) (t5' t6' : Tok) (m' : Str → Option Value) (h' : Heap) (tk' : Nat), DInv ds' ns' → ds'.length ≤ ds.length + 1 → (render ds').length ≤ (render ds).length + 60 → DatAll (new ++ tx) vs' (ds'.map Deed.d) →
      (∀ e ∈ new, ∀ f ∈ R, f.1 < e.1) → (∀ e ∈ new, e.1 ≠ lt) → (∀ e ∈ new, e.1 ≠ nm) → m' (Str.ofString "writing") = some (.str (S (render ds')) t5') → m' (Str.ofString "line") = some (.int (1 + nlsAll ds') t6') →
      (∀ z, touched.contains z = false → m' z = (if z = Str.ofString "told" then some (.ref lt) else if z = Str.ofString "names" then some (.ref nm) else m₁ z)) → Fr h₀ L h' m' →
      News h₀ L h' ((lt, listOf vs'.toArray ev') :: (nm, listOf (ns'.map nameV).toArray en') :: (new ++ R)) → Q .next { s with heap := h', toks := tk' }) :
    wpAny (model PySem.Challenge.rw_mr0358_01.row.prog w) (ktrTop dp un gd (Str.ofString "_law_document") docScope L 802 (.ref 801) [] outer) (execs docBody (envOf (Str.ofString "_law_document") docScope L 802 (.ref 801))) Q E s := by
  have hvl : vs.length = ds.length := by have := hdat.length; simpa using this
  refine docPre B F X T N ?_
  intro p q t1 t2 t3 t4 t5 t6 m₂ h' tk' hp hq hm F' N'
  generalize hkd : n.fmod 6 = kd at F'
  generalize (n.fdiv 6).fdiv 256 = wy at F'
  have hb := fmod_bound n 6 (by decide)
  rw [hkd] at hb
  have hnl : (ns.map nameV).length ≤ 4 := by rw [List.length_map]; exact I.nl
  have hsT := sigT_mod wy
  have hsA := sigA_mod wy
  have el1 := escT_len (wy.fmod 2) p
  have el2 := escT_len (wy.fmod 2) q
  -- the text branch, however it is reached
  have hC : ∀ tk', wpAny (model PySem.Challenge.rw_mr0358_01.row.prog w) (ktrTop dp un gd (Str.ofString "_law_document") docScope L 802 (.ref 801) [] outer) (execs docC (envOf (Str.ofString "_law_document") docScope L 802 (.ref 801))) Q E { s with heap := h', toks := tk' } := by
    intro tk'
    rcases last_case ds with hds | ⟨e, d, hds⟩
    · subst hds
      have hv0 : vs = [] := List.eq_nil_of_length_eq_zero hvl
      subst hv0
      refine textZ (vs := []) (R := (nm, listOf (ns.map nameV).toArray en) :: R) B F' X T N' hp hq hsT (by omega) (by decide) ?_ hd1 hu ?_
      · intro p hp
        rcases List.mem_cons.mp hp with h9 | h9
        · rw [h9]; exact f1.symm
        · exact q1 p h9
      intro m' h' tk' t5' t6' t7' t8' r' hal hne e1 e2 e3 F9 N9
      have hal' := kst_ltOf hal
      refine ret [Deed.text (escT (wy.fmod 2) p ++ escT (wy.fmod 2) q)] ns [Value.ref r'] (ev + 1) en [(r', ({ cls := .type "tuple", data := .seq [.str (Str.ofString "text") t7', .str (S (escT (wy.fmod 2) p ++ escT (wy.fmod 2) q)) t8'].toArray } : Obj))] t5' t6' m' h' tk' (inv_textN (ds := []) I hsT hp hq (fun _ h => by simp at h)) (by simp) ?_ (.one (.tuple (.head _) (.cons (.str _ _) (.cons (.str _ _) .nil)))) ?_ ?_ ?_ (e1.trans (by simp [render, Deed.r])) ?_ (fun z hz => (e3 z hz).trans (docF_rest hm z hz)) F9 ?_
      · simp [render, Deed.r]; omega
      · intro e he f hf
        rw [List.mem_singleton.mp he]; exact hal' f (.tail _ hf)
      · intro e he; rw [List.mem_singleton.mp he]; exact hne
      · intro e he; rw [List.mem_singleton.mp he]; exact Nat.ne_of_gt (hal' _ (.head _))
      · rw [e2]; simp [nlsAll, Deed.nls]
      · intro e he
        apply N9
        simp only [List.mem_cons, List.mem_append, List.not_mem_nil, or_false] at he ⊢
        rcases he with h9 | h9 | h9 | h9
        · exact .inr (.inl h9)
        · exact .inr (.inr (.inl h9))
        · exact .inl h9
        · exact .inr (.inr (.inr h9))
    · subst hds
      obtain ⟨vs0, v, hv0, hd0, hdv⟩ := dat_snocD hdat
      subst hv0
      have hvl' : vs0.length ≤ 100 := by
        simp only [List.length_append, List.length_cons, List.length_nil] at hvl hdl; omega
      have hlq : ∀ p ∈ (nm, listOf (ns.map nameV).toArray en) :: R, p.1 ≠ lt := by
        intro p hp
        rcases List.mem_cons.mp hp with h9 | h9
        · rw [h9]; exact f1.symm
        · exact q1 p h9
      have led : ∀ {r : Addr} {o : Obj}, (r, o) ∈ tx → News h₀ L h' ((lt, listOf (vs0 ++ [v]).toArray ev) :: (r, o) :: (nm, listOf (ns.map nameV).toArray en) :: R) := by
        intro r o hr e he
        apply N'
        simp only [List.mem_cons] at he ⊢
        rcases he with h9 | h9 | h9 | h9
        · exact .inl h9
        · exact .inr (.inr (h9 ▸ hsub _ hr))
        · exact .inr (.inl h9)
        · exact .inr (.inr h9)
      rcases htx : d.isText with _ | _
      · obtain ⟨r, nt, x7, t7, vr, hv, hx7, hr⟩ := dat_other htx hdv
        subst hv
        refine textN (vs := vs0) (R := (nm, listOf (ns.map nameV).toArray en) :: R) B F' X T (led hr) hp hq hsT (by omega) hvl' hlq (q1 _ (hsub _ hr)).symm hx7 hd1 hu ?_
        intro m' h' tk' t5' t6' t7' t8' r' hal hne e1 e2 e3 F9 N9
        have hal' := kst_ltOf hal
        refine ret (e ++ [d] ++ [Deed.text (escT (wy.fmod 2) p ++ escT (wy.fmod 2) q)]) ns (vs0 ++ [Value.ref r] ++ [Value.ref r']) (ev + 1) en [(r', ({ cls := .type "tuple", data := .seq [.str (Str.ofString "text") t7', .str (S (escT (wy.fmod 2) p ++ escT (wy.fmod 2) q)) t8'].toArray } : Obj))] t5' t6' m' h' tk' (inv_textN I hsT hp hq (fun f hf => ?_)) (by simp) ?_ (dat_new hdat (.tuple (.head _) (.cons (.str _ _) (.cons (.str _ _) .nil)))) ?_ ?_ ?_ ?_ ?_ (fun z hz => (e3 z hz).trans (docF_rest hm z hz)) F9 ?_
        · rw [List.getLast?_append] at hf
          have := Option.some.inj hf
          rw [← this]; exact htx
        · rw [render_snoc _ (Deed.text _), List.length_append]; simp only [Deed.r, List.length_append]; omega
        · intro e he f hf
          rw [List.mem_singleton.mp he]; exact hal' f (.tail _ hf)
        · intro e he; rw [List.mem_singleton.mp he]; exact hne
        · intro e he; rw [List.mem_singleton.mp he]; exact Nat.ne_of_gt (hal' _ (.head _))
        · rw [e1, render_snoc _ (Deed.text _)]; rfl
        · rw [e2, nlsAll_snoc _ (Deed.text _), ← Int.add_assoc]; rfl
        · intro e he
          apply N9
          simp only [List.mem_cons, List.mem_append, List.not_mem_nil, or_false] at he ⊢
          rcases he with h9 | h9 | h9 | h9
          · exact .inr (.inl h9)
          · exact .inr (.inr (.inr (.inl h9)))
          · exact .inl h9
          · exact .inr (.inr (.inr (.inr h9)))
      · cases d with
        | ends c => exact Bool.noConfusion htx
        | begins c ps => exact Bool.noConfusion htx
        | text t0 =>
          obtain ⟨r, nt, t7, t8, hv, hr⟩ := dat_text hdv
          subst hv
          have hrl' : (render e).length + t0.length ≤ 5000 := by
            rw [render_snoc, List.length_append] at hrl; exact hrl
          refine textM (vs := vs0) (tx := t0) (R := (nm, listOf (ns.map nameV).toArray en) :: R) B F' X T (led hr) hp hq hsT (by omega) hvl' hlq (q1 _ (hsub _ hr)).symm (by omega) hd1 hu ?_
          intro m' h' tk' t5' t6' t7' t8' r' hal hne e1 e2 e3 F9 N9
          have hal' := kst_ltOf hal
          refine ret (e ++ [Deed.text (t0 ++ (escT (wy.fmod 2) p ++ escT (wy.fmod 2) q))]) ns (vs0 ++ [Value.ref r']) (ev + 1 + 1) en [(r', ({ cls := .type "tuple", data := .seq [.str (Str.ofString "text") t7', .str (S (t0 ++ (escT (wy.fmod 2) p ++ escT (wy.fmod 2) q))) t8'].toArray } : Obj))] t5' t6' m' h' tk' (inv_textM I hsT hp hq) (by simp) ?_ (dat_new hd0 (.tuple (.head _) (.cons (.str _ _) (.cons (.str _ _) .nil)))) ?_ ?_ ?_ ?_ ?_ (fun z hz => (e3 z hz).trans (docF_rest hm z hz)) F9 ?_
          · rw [render_snoc, render_snoc, List.length_append, List.length_append]; simp only [Deed.r, List.length_append]; omega
          · intro e he f hf
            rw [List.mem_singleton.mp he]; exact hal' f (.tail _ hf)
          · intro e he; rw [List.mem_singleton.mp he]; exact hne
          · intro e he; rw [List.mem_singleton.mp he]; exact Nat.ne_of_gt (hal' _ (.head _))
          · rw [e1, render_snoc, render_snoc]; simp only [Deed.r, List.append_assoc]
          · rw [e2, nlsAll_snoc, nlsAll_snoc]; simp only [Deed.nls, cnt_append]; congr 2; omega
          · intro e he
            apply N9
            simp only [List.mem_cons, List.mem_append, List.not_mem_nil, or_false] at he ⊢
            rcases he with h9 | h9 | h9 | h9
            · exact .inr (.inl h9)
            · exact .inr (.inr (.inr (.inl h9)))
            · exact .inl h9
            · exact .inr (.inr (.inr (.inr h9)))
  by_cases h3 : kd < 3
  · by_cases hl4 : ns.length < 4
    · refine ifToA B F' X T N' (by omega) h3 (by rw [List.length_map]; omega) fun tk' => ?_
      obtain ⟨c, hc, hcm⟩ := ab_item (wy.fdiv 3)
      have hA : ∀ (i : Nat) (m' : Str → Option Value) (h' : Heap) (tk' : Nat) (t5' t6' tn' : Tok) (r' : Addr) (new : List (Addr × Obj)), DatIn new (.ref r') (Deed.begins c ((twoP (wy.fmod 3) p q).take i)).d → (∀ e ∈ new, ∀ f ∈ R, f.1 < e.1) → (∀ e ∈ new, e.1 ≠ lt) → (∀ e ∈ new, e.1 ≠ nm) →
          m' (Str.ofString "writing") = some (.str (S (render ds ++ ([60] ++ [c]) ++ ((twoP (wy.fmod 3) p q).take i).flatMap pairR ++ [62])) t5') → m' (Str.ofString "line") = some (.int (1 + nlsAll ds + psN ((twoP (wy.fmod 3) p q).take i)) t6') →
          (∀ z, touched.contains z = false → m' z = docF kd wy p q (render ds) (1 + nlsAll ds) lt nm t1 t2 t3 t4 t5 t6 m₂ z) → Fr h₀ L h' m' → News h₀ L h' ((lt, listOf (vs ++ [Value.ref r']).toArray (ev + 1)) :: (nm, listOf (ns.map nameV ++ [Value.str (S [c]) tn']).toArray (en + 1)) :: (new ++ R)) → Q .next { s with heap := h', toks := tk' } := by
        intro i m' h' tk' t5' t6' tn' r' new hdi hlt hn1 hn2 e1 e2 e3 F9 N9
        have hpl := pairs_len (wy.fmod 3) p q i
        refine ret (ds ++ [Deed.begins c ((twoP (wy.fmod 3) p q).take i)]) (ns ++ [(c, tn')]) (vs ++ [Value.ref r']) (ev + 1) (en + 1) new t5' t6' m' h' tk' (inv_begins I hl4 hc hsA hp hq) (by simp) ?_ (dat_new hdat (hdi.mono fun p hp => List.mem_append.mpr (.inl hp))) hlt hn1 hn2 ?_ ?_ (fun z hz => (e3 z hz).trans (docF_rest hm z hz)) F9 ?_
        · rw [render_snoc, List.length_append]; simp only [Deed.r, List.length_append, List.length_cons, List.length_nil]; omega
        · rw [e1, begin_r, render_snoc]
        · rw [e2, nlsAll_snoc, ← Int.add_assoc]; rfl
        · rw [List.map_append]; exact N9
      have h012 : kd = 0 ∨ kd = 1 ∨ kd = 2 := by omega
      rcases h012 with h0 | h1 | h2
      · subst h0
        refine begin0 B F' X T N' hp hq hsA hcm (by omega) (by omega) (by omega) f1 q1 q2 hE hd1 hu ?_
        intro m' h' tk' t5' t6' tn' r' new hdi hlt hn1 hn2 e1 e2 e3 F9 N9
        exact hA 0 m' h' tk' t5' t6' tn' r' new hdi hlt hn1 hn2 e1 e2 e3 F9 N9
      · subst h1
        refine begin1 B F' X T N' hp hq hsA hcm (by omega) (by omega) (by omega) f1 q1 q2 hE hd1 hu ?_
        intro m' h' tk' t5' t6' tn' r' new hdi hlt hn1 hn2 e1 e2 e3 F9 N9
        exact hA 1 m' h' tk' t5' t6' tn' r' new hdi hlt hn1 hn2 e1 e2 e3 F9 N9
      · subst h2
        refine begin2 B F' X T N' hp hq hsA hcm (by omega) (by omega) (by omega) f1 q1 q2 hE hd1 hu ?_
        intro m' h' tk' t5' t6' tn' r' new hdi hlt hn1 hn2 e1 e2 e3 F9 N9
        exact hA 2 m' h' tk' t5' t6' tn' r' new hdi hlt hn1 hn2 e1 e2 e3 F9 N9
    · exact ifToC1 B F' X T N' (by omega) h3 (by rw [List.length_map]; omega) (by omega) hC
  · by_cases h33 : kd = 3
    · subst h33
      rcases List.eq_nil_or_concat ns with hns | ⟨ns0, c, hns⟩
      · subst hns
        exact ifToC2 B F' X T N' hC
      · rw [List.concat_eq_append] at hns
        subst hns
        have N8 : News h₀ L h' ((lt, listOf vs.toArray ev) :: (nm, listOf (ns0.map nameV ++ [Value.str (S [c.1]) c.2]).toArray en) :: R) := by
          rw [List.map_append] at N'; exact N'
        rw [List.map_append, List.length_append] at hnl
        refine ifToB B F' X T N8 (by omega) fun tk' => ?_
        refine endsB B F' X T N8 (by omega) (by omega) (by omega) f1 q1 q2 hd1 hu ?_
        intro m' h' tk' t5' t7' t8' t9' r' hal hne hne2 e1 e2 e3 F9 N9
        rw [c_gt] at N9
        have hal' := kst_ltOf hal
        refine ret (ds ++ [Deed.ends c.1]) ns0 (vs ++ [Value.ref r']) (ev + 1) (en + 1) [(r', ({ cls := .type "tuple", data := .seq [.str (Str.ofString "ends") t7', .str (S [c.1]) t8', .str (S [62]) t9'].toArray } : Obj))] t5' t6 m' h' tk' (inv_ends I) (by simp) ?_ (dat_new hdat (.tuple (.head _) (.cons (.str _ _) (.cons (.str _ _) (.cons (.str _ _) .nil))))) ?_ ?_ ?_ ?_ ?_ (fun z hz => (e3 z hz).trans (docF_rest hm z hz)) F9 ?_
        · rw [render_snoc, List.length_append]; simp [Deed.r]
        · intro e he f hf
          rw [List.mem_singleton.mp he]; exact hal' f hf
        · intro e he; rw [List.mem_singleton.mp he]; exact hne
        · intro e he; rw [List.mem_singleton.mp he]; exact hne2
        · rw [e1, render_snoc]; rfl
        · rw [e2, nlsAll_snoc]; simp [Deed.nls]
        · intro e he
          apply N9
          simp only [List.mem_cons, List.mem_append, List.not_mem_nil, or_false] at he ⊢
          rcases he with h9 | h9 | h9 | h9
          · exact .inr (.inl h9)
          · exact .inr (.inr (.inl h9))
          · exact .inl h9
          · exact .inr (.inr (.inr h9))
    · exact ifToC3 B F' X T N' (by omega) h3 h33 hC
def docWhile : Stmt := (fnB (PySem.Challenge.pw_mr0358_01.main.body.getD 34 default)).getD 5 default
structure DcSt where
  ds : List Deed
  ns : List (Nat × Tok)
  vs : List Value
  ev : Nat
  en : Nat
  tx : List (Addr × Obj)
  tw : Tok
  tl : Tok
abbrev DcSt.led (lt nm : Addr) (R : List (Addr × Obj)) (z : DcSt) : List (Addr × Obj) := (lt, listOf z.vs.toArray z.ev) :: (nm, listOf (z.ns.map nameV).toArray z.en) :: (z.tx ++ R)
structure DcSt.Fs (lt nm : Addr) (z : DcSt) : Prop where
  dat : DatAll z.tx z.vs (z.ds.map Deed.d)
  o1 : ∀ p ∈ z.tx, p.1 ≠ lt
  o2 : ∀ p ∈ z.tx, p.1 ≠ nm
structure DcSt.Pw (l0 : Int) (z : DcSt) : Prop where
  inv : DInv z.ds z.ns
  nl : nlsAll z.ds = l0
  dl : z.ds.length + z.ns.length ≤ 60
  rl : (render z.ds).length + 4 * z.ns.length ≤ 6000
abbrev docG (wr : List Nat) (ln : Int) (lt nm : Addr) (t5 t6 : Tok) (m₁ : Str → Option Value) : Str → Option Value :=
  fun y => if y = Str.ofString "writing" then some (.str (S wr) t5) else if y = Str.ofString "line" then some (.int ln t6) else if y = Str.ofString "told" then some (.ref lt) else if y = Str.ofString "names" then some (.ref nm) else m₁ y
theorem docEnds {w : World} {loose : List Str} {mean : ExcName → Option Value} {mg mb : Str → Option Value}
    {dp un : Nat} {gd : Option (List Code)} {outer : List Env} {A₀ : Around} {base h₀ : Heap} {L : Addr} {m₁ : Str → Option Value} {s : Shared} {Q : Flow → Shared → Prop} {E : Value → Shared → Prop}
    {lt nm : Addr} {R : List (Addr × Obj)} {z₀ : DcSt}
    (B : Below A₀ base outer h₀) (F : Fr h₀ L s.heap (docG (render z₀.ds) (1 + nlsAll z₀.ds) lt nm z₀.tw z₀.tl m₁)) (X : (hd.heap_39 w.params).In h₀) (T : Top hd.view_39 loose mean mg mb h₀)
    (N : News h₀ L s.heap (z₀.led lt nm R)) (f1 : @Ne Nat lt nm) (q1 : ∀ p ∈ R, p.1 ≠ lt) (q2 : ∀ p ∈ R, p.1 ≠ nm)
    (Z : z₀.Fs lt nm) (I : DInv z₀.ds z₀.ns) (hdl : z₀.ds.length ≤ 50) (hrl : (render z₀.ds).length ≤ 5000)
    (hE : PassesOwn (model PySem.Challenge.rw_mr0358_01.row.prog w) (ktrTop dp un gd (Str.ofString "_law_document") docScope L 802 (.ref 801) [] outer) (envOf (Str.ofString "_law_document") docScope L 802 (.ref 801)) E) (hd1 : dp + 12 < recursionLimit) (hu : un + 250 < cLine)
    (ret : ∀ (z : DcSt) (u : Str → Option Value) (h' : Heap) (tk' : Nat), z.Fs lt nm → z.Pw (nlsAll z₀.ds) → 
      Fr h₀ L h' (docG (render z.ds) (1 + nlsAll z.ds) lt nm z.tw z₀.tl (fun y => if y = Str.ofString "name" then u y else m₁ y)) → News h₀ L h' (z.led lt nm R) → Q .next { s with heap := h', toks := tk' }) :
    wpAny (model PySem.Challenge.rw_mr0358_01.row.prog w) (ktrTop dp un gd (Str.ofString "_law_document") docScope L 802 (.ref 801) [] outer) (exec docWhile (envOf (Str.ofString "_law_document") docScope L 802 (.ref 801))) Q E s := by
  have hk : docScope.kind = .function := rfl
  have g1 := c_lts
  have g2 := c_gt
  revert X; k_fill; intro X
  refine ksw_while (σ := DcSt) (DcSt.led lt nm R) (fun z => [(Str.ofString "writing", .str (S (render z.ds)) z.tw)]) (DcSt.Fs lt nm) [Str.ofString "name"]
    (DcSt.Pw (nlsAll z₀.ds)) (fun z => z.ns.length) z₀ F N Z ?_ ⟨I, rfl, by have := I.nl; omega, by have := I.nl; omega⟩ ?_ hE
  · intro p hp
    rw [List.mem_singleton.mp hp]; rfl
  clear F N Z I hdl hrl
  rintro ⟨ds, ns, vs, ev, en, tx, tw, tl⟩ u h tkk hF hP F N
  dsimp only at F N ⊢
  have hvl : vs.length = ds.length := by have := hF.dat.length; simpa using this
  have F8 : Fr h₀ L h (docG (render ds) (1 + nlsAll z₀.ds) lt nm tw z₀.tl (fun y => if y = Str.ofString "name" then u y else m₁ y)) := by
    refine fr_same F fun y => ?_
    by_cases h1 : y = Str.ofString "writing"
    · subst h1; rfl
    · by_cases h2 : y = Str.ofString "name"
      · subst h2; rfl
      · simp [kstB, docG, h1, h2]
  rcases List.eq_nil_or_concat ns with hns | ⟨ns0, c, hns⟩
  · subst hns
    k_with_none
    k_with "my truthy ref" => (k_dflt (refine' truthyF ?k1 ?k2 ?_; (case k1 => k_asm); (case k2 => k_mem); k_whole))
    clear F
    k_steps
    rw [show nlsAll z₀.ds = nlsAll ds from hP.nl.symm] at F8
    exact ret ⟨ds, [], vs, ev, en, tx, tw, tl⟩ u _ _ hF hP F8 N
  · rw [List.concat_eq_append] at hns
    subst hns
    have hdl := hP.dl
    have hrl := hP.rl
    simp only [List.length_append, List.length_cons, List.length_nil] at hdl hrl
    have hq1 : ∀ p ∈ tx ++ R, p.1 ≠ lt := fun p hp => (List.mem_append.mp hp).elim (hF.o1 p) (q1 p)
    have hq2 : ∀ p ∈ tx ++ R, p.1 ≠ nm := fun p hp => (List.mem_append.mp hp).elim (hF.o2 p) (q2 p)
    have hn0 : (ns0.map nameV).length = ns0.length := List.length_map ..
    have N8 : News h₀ L h ((lt, listOf vs.toArray ev) :: (nm, listOf (ns0.map nameV ++ [Value.str (S [c.1]) c.2]).toArray en) :: (tx ++ R)) := by
      dsimp only [DcSt.led] at N; rw [List.map_append] at N; exact N
    clear N F
    k_with_none
    k_with "my append" => ((with_reducible show wpAny _ _ (call (Value.builtin _) [Value.ref _, _]) _ _ _); k_dflt (refine' append_K ?k1 ?k2 ?k3 ?_ ?z; (case k1 => k_asm); (case k2 => k_asm); (case k3 => k_upd); (case z => (rw [sizeLine_eq]; simp only [List.size_toArray, List.length_append, List.length_cons, List.length_nil]; omega)); k_whole); intro h' F' N'; (try k_sweep))
    k_with "my iadd" => (refine' iadd_E ?kx ?ky ?k1 ?_; (case kx => first | with_reducible rfl | with_reducible assumption); (case ky => first | with_reducible rfl | with_reducible assumption); (case k1 => (simp only [List.length_append, List.length_cons, List.length_nil]; omega)); intro t8 tk8)
    k_with "my add" => (refine' add_E ?kx ?ky ?k1 ?_; (case kx => first | with_reducible rfl | with_reducible assumption); (case ky => first | with_reducible rfl | with_reducible assumption); (case k1 => (simp only [List.length_append, List.length_cons, List.length_nil]; omega)); intro t8 tk8)
    k_with "my pop" => (k_dflt (refine' popK ?k1 ?k2 ?k3 ?k4 ?_; (case k1 => k_asm); (case k2 => k_asm); (case k3 => k_upd); (case k4 => omega); k_whole); intro h' F' N'; (try k_sweep))
    k_with "my truthy ref" => (k_dflt (refine' truthyT ?k1 ?k2 ?k3 ?_; (case k1 => k_asm); (case k2 => k_mem); (case k3 => omega); k_whole))
    k_steps
    all_goals (try simp only [List.push_toArray] at *)
    rename (Fr _ _ _ _) => F9
    rename (News _ _ _ _) => N9
    rename (_ < _ ∧ _) => l9
    rw [c_gt] at N9
    refine (?_ : ∀ D9 : Addr, (@LT.lt Nat _ lt D9 ∧ @LT.lt Nat _ nm D9 ∧ AllLt D9 (tx ++ R)) → News h₀ L _ ((D9, ({ cls := .type "tuple", data := .seq [.str (Str.ofString "ends") (tk8 + 1), .str (S [c.1]) c.2, .str (S [62]) (tk8 + 1 + 1)].toArray } : Obj)) :: (lt, listOf (vs ++ [Value.ref D9]).toArray (ev + 1)) :: (nm, listOf (ns0.map nameV).toArray (en + 1)) :: (tx ++ R)) → _) _ l9 N9
    clear l9 N9
    intro D9 l9 N9
    have hal := kst_ltOf l9.2.2
    refine ksw_end ⟨ds ++ [.ends c.1], ns0, vs ++ [.ref D9], ev + 1, en + 1, (D9, ({ cls := .type "tuple", data := .seq [.str (Str.ofString "ends") (tk8 + 1), .str (S [c.1]) c.2, .str (S [62]) (tk8 + 1 + 1)].toArray } : Obj)) :: tx, t8, tl⟩ F9 N9 ?_ ⟨dat_snoc hF.dat (DatIn.tuple (n := 0) (.head _) (.cons (.str _ _) (.cons (.str _ _) (.cons (.str _ _) .nil)))), ?_, ?_⟩ ?_ ?_ ⟨inv_ends hP.inv, ?_, ?_, ?_⟩ ?_
    · intro p hp
      simp only [DcSt.led, List.cons_append, List.mem_cons] at hp ⊢
      rcases hp with h9 | h9 | h9 | h9
      · exact .inr (.inl h9)
      · exact .inr (.inr (.inl h9))
      · exact .inl h9
      · exact .inr (.inr (.inr h9))
    · intro p hp
      rcases List.mem_cons.mp hp with h9 | h9
      · rw [h9]; exact Nat.ne_of_gt l9.1
      · exact hF.o1 p h9
    · intro p hp
      rcases List.mem_cons.mp hp with h9 | h9
      · rw [h9]; exact Nat.ne_of_gt l9.2.1
      · exact hF.o2 p h9
    · intro p hp
      rw [List.mem_singleton.mp hp]
      simp only [render_snoc]; rfl
    · intro z hz1 hz2
      have hz3 := hz1 _ (.head _)
      dsimp only at hz3
      simp only [List.contains_cons, List.contains_nil, Bool.or_false, beq_eq_false_iff_ne, ne_eq] at hz2
      simp [docG, hz2, hz3]
    · rw [nlsAll_snoc]; simpa [Deed.nls] using hP.nl
    · simp only [List.length_append, List.length_cons, List.length_nil]; omega
    · rw [render_snoc, List.length_append]; simp only [Deed.r, List.length_cons, List.length_nil]; omega
    · simp
def storedD : List Str := ["kind", "rest", "first", "second", "way", "name", "pairs", "key", "value", "spelled"].map Str.ofString
structure DcSt.Pf (pre : List Int) (z : DcSt) : Prop where
  inv : DInv z.ds z.ns
  dl : z.ds.length ≤ pre.length
  rl : (render z.ds).length ≤ 60 * pre.length
theorem docLoop {w : World} {loose : List Str} {mean : ExcName → Option Value} {mg mb : Str → Option Value}
    {dp un : Nat} {gd : Option (List Code)} {outer : List Env} {A₀ : Around} {base h₀ : Heap} {L : Addr} {m₀ : Str → Option Value} {s : Shared} {Q : Flow → Shared → Prop} {E : Value → Shared → Prop}
    {lt nm l : Addr} {R : List (Addr × Obj)} {nvs : List Value} {nums : List Int} {nn : Nat} {tw tl : Tok}
    (B : Below A₀ base outer h₀) (F : Fr h₀ L s.heap m₀) (X : (hd.heap_39 w.params).In h₀) (T : Top hd.view_39 loose mean mg mb h₀)
    (N : News h₀ L s.heap ((lt, listOf ([] : List Value).toArray 0) :: (nm, listOf ([] : List Value).toArray 0) :: (l, listOf nvs.toArray nn) :: R))
    (hi : IntsAre nvs nums) (hnl : nums.length ≤ 50)
    (k1 : m₀ (Str.ofString "writing") = some (.str (Str.ofString "") tw)) (k2 : m₀ (Str.ofString "line") = some (.int 1 tl)) (k3 : m₀ (Str.ofString "told") = some (.ref lt)) (k4 : m₀ (Str.ofString "names") = some (.ref nm))
    (f1 : @Ne Nat lt nm) (f2 : @Ne Nat l lt) (f3 : @Ne Nat l nm) (q1 : ∀ p ∈ R, p.1 ≠ lt) (q2 : ∀ p ∈ R, p.1 ≠ nm)
    (hE : PassesOwn (model PySem.Challenge.rw_mr0358_01.row.prog w) (ktrTop dp un gd (Str.ofString "_law_document") docScope L 802 (.ref 801) [] outer) (envOf (Str.ofString "_law_document") docScope L 802 (.ref 801)) E) (hd1 : dp + 12 < recursionLimit) (hu : un + 250 < cLine)
    (ret : ∀ (z : DcSt) (m₁ : Str → Option Value) (h' : Heap) (tk' : Nat), z.Fs lt nm → z.Pf nums → 
      Fr h₀ L h' (docG (render z.ds) (1 + nlsAll z.ds) lt nm z.tw z.tl m₁) → News h₀ L h' (z.led lt nm ((l, listOf nvs.toArray nn) :: R)) → Q .next { s with heap := h', toks := tk' }) :
    wpAny (model PySem.Challenge.rw_mr0358_01.row.prog w) (ktrTop dp un gd (Str.ofString "_law_document") docScope L 802 (.ref 801) [] outer) (pyIter (.ref l)) (fun it s₂ => LoopAtV PySem.Challenge.rw_mr0358_01.row.prog w (ktrTop dp un gd (Str.ofString "_law_document") docScope L 802 (.ref 801) [] outer) h₀ (envOf (Str.ofString "_law_document") docScope L 802 (.ref 801)) (Str.ofString "n") docBody Q E it s₂) E s := by
  have nD : storedD.contains (Str.ofString "told") = false := by decide +kernel
  have nN : storedD.contains (Str.ofString "names") = false := by decide +kernel
  refine forNums (env := (envOf (Str.ofString "_law_document") docScope L 802 (.ref 801))) (σ := DcSt) (DcSt.led lt nm ((l, listOf nvs.toArray nn) :: R)) (fun z => [(Str.ofString "writing", .str (S (render z.ds)) z.tw), (Str.ofString "line", .int (1 + nlsAll z.ds) z.tl)])
    (DcSt.Fs lt nm) storedD DcSt.Pf ⟨[], [], [], 0, 0, [], tw, tl⟩ rfl (fun c => .tail _ (.tail _ (List.mem_append.mpr (.inr (.head _))))) hi F N ⟨.nil, (fun _ h => nomatch h), (fun _ h => nomatch h)⟩ ?_ ⟨⟨(fun _ h => nomatch h), trivial, (fun _ h => nomatch h), Nat.zero_le _, (fun _ _ h => nomatch h)⟩, Nat.zero_le _, Nat.zero_le _⟩ ?_ ?_
  · intro p hp
    rcases List.mem_cons.mp hp with h | h
    · rw [h]; rw [k1, ← S_nil]; rfl
    · rw [List.mem_singleton.mp h]; rw [k2]; rfl
  · rintro ⟨ds, ns, vs, ev, en, tx, z5, z6⟩ pre post n t u h tk own hpp hoff hF hP F N
    dsimp only at F N hoff ⊢
    have hpl : pre.length < 50 := by
      have := congrArg List.length hpp
      rw [List.length_append, List.length_cons] at this; omega
    have o1 := hF.o1
    have o2 := hF.o2
    have o3 := hP.dl
    have o4 := hP.rl
    dsimp only at o1 o2 o3 o4
    refine docTurn (m₁ := fun z => if storedD.contains z then u z else m₀ z) (R := (tx ++ (l, listOf nvs.toArray nn) :: R) ++ own) (tx := tx) (ds := ds) (ns := ns) (vs := vs) (ev := ev) (en := en) (n := n) (t := t) (tw := z5) (tl := z6) (lt := lt) (nm := nm) B (fr_same F fun y => ?_) X T N hF.dat (fun e he => List.mem_append.mpr (.inl (List.mem_append.mpr (.inl he)))) f1 ?_ ?_ hP.inv (by omega) (by omega) hE hd1 hu ?_
    · by_cases y1 : y = Str.ofString "n"
      · simp only [y1, if_true]
      · by_cases y2 : y = Str.ofString "writing"
        · subst y2; rfl
        · by_cases y3 : y = Str.ofString "line"
          · subst y3; rfl
          · by_cases y4 : y = Str.ofString "told"
            · subst y4
              simp only [kstB, y1, y2, y3, if_false, if_true, nD, k3, Bool.false_eq_true]
            · by_cases y5 : y = Str.ofString "names"
              · subst y5
                simp only [kstB, y1, y2, y3, y4, if_false, if_true, nN, k4, Bool.false_eq_true]
              · simp only [kstB, y1, y2, y3, y4, y5, if_false]
    · intro p hp
      rcases List.mem_append.mp hp with h | h
      · rcases List.mem_append.mp h with h | h
        · exact o1 p h
        · rcases List.mem_cons.mp h with h | h
          · rw [h]; exact f2
          · exact q1 p h
      · exact hoff p h lt (.head _)
    · intro p hp
      rcases List.mem_append.mp hp with h | h
      · rcases List.mem_append.mp h with h | h
        · exact o2 p h
        · rcases List.mem_cons.mp h with h | h
          · rw [h]; exact f3
          · exact q2 p h
      · exact hoff p h nm (.tail _ (.head _))
    · intro ds' ns' vs' ev' en' new t5' t6' m' h' tk' hI hl hr hD hlt hn1 hn2 e1 e2 e3 F9 N9
      refine fn_end ⟨ds', ns', vs', ev', en', new ++ tx, t5', t6'⟩ F9 N9 ?_ ?_ ?_ ⟨hD, ?_, ?_⟩ ?_ ?_ ⟨hI, ?_, ?_⟩
      · intro p hp
        simp only [DcSt.led, List.mem_cons, List.mem_append] at hp ⊢
        rcases hp with h | h | (h | h) | h | h
        · exact .inl h
        · exact .inr (.inl h)
        · exact .inr (.inr (.inl h))
        · exact .inr (.inr (.inr (.inl (.inl h))))
        · exact .inr (.inr (.inr (.inl (.inr (.inl h)))))
        · exact .inr (.inr (.inr (.inl (.inr (.inr h)))))
      · intro p hp
        exact .tail _ (.tail _ (List.mem_append.mpr (.inr (List.mem_append.mpr (.inr hp)))))
      · intro p hp b hb
        obtain ⟨e, he, rfl⟩ := List.mem_map.mp hb
        simp only [DcSt.led, List.mem_cons, List.mem_append] at he
        rcases he with h | h | (h | h) | h | h
        · rw [h]; exact hoff p hp lt (.head _)
        · rw [h]; exact hoff p hp nm (.tail _ (.head _))
        · exact Nat.ne_of_lt (hlt e h p (List.mem_append.mpr (.inr hp)))
        · exact hoff p hp e.1 (List.mem_map.mpr ⟨e, .tail _ (.tail _ (List.mem_append.mpr (.inl h))), rfl⟩)
        · exact hoff p hp e.1 (List.mem_map.mpr ⟨e, .tail _ (.tail _ (List.mem_append.mpr (.inr (List.mem_cons.mpr (.inl h))))), rfl⟩)
        · exact hoff p hp e.1 (List.mem_map.mpr ⟨e, .tail _ (.tail _ (List.mem_append.mpr (.inr (List.mem_cons.mpr (.inr h))))), rfl⟩)
      · intro p hp
        exact (List.mem_append.mp hp).elim (hn1 p) (o1 p)
      · intro p hp
        exact (List.mem_append.mp hp).elim (hn2 p) (o2 p)
      · intro p hp
        rcases List.mem_cons.mp hp with h | h
        · rw [h]; exact e1
        · rw [List.mem_singleton.mp h]; exact e2
      · intro z y1 y2 y3
        have y4 := y2 _ (.head _)
        have y5 := y2 _ (.tail _ (.head _))
        dsimp only at y4 y5
        rw [e3 z]
        · by_cases y6 : z = Str.ofString "told"
          · subst y6; simp only [if_true, k3]
          · by_cases y7 : z = Str.ofString "names"
            · subst y7; simp only [y6, if_false, if_true, k4]
            · simp only [y6, y7, if_false, y3, Bool.false_eq_true]
        · simp only [storedD, touched, List.map_cons, List.map_nil, List.contains_cons, List.contains_nil, Bool.or_false, Bool.or_eq_false_iff, beq_eq_false_iff_ne, ne_eq] at y3 ⊢
          simp [y1, y3, y4, y5]
      · dsimp only; rw [List.length_append]; simp only [List.length_cons, List.length_nil]; omega
      · dsimp only; rw [List.length_append]; simp only [List.length_cons, List.length_nil]; omega
  · rintro z u h tk hF hP F N
    refine ret z (fun y => if y = Str.ofString "n" then u y else if storedD.contains y then u y else m₀ y) h tk hF hP (fr_same F fun y => ?_) N
    by_cases y2 : y = Str.ofString "writing"
    · subst y2; rfl
    · by_cases y3 : y = Str.ofString "line"
      · subst y3; rfl
      · by_cases y4 : y = Str.ofString "told"
        · subst y4
          have : ¬ Str.ofString "told" = Str.ofString "n" := by decide +kernel
          simp only [kstB, docG, this, y2, y3, if_false, if_true, nD, k3, Bool.false_eq_true]
        · by_cases y5 : y = Str.ofString "names"
          · subst y5
            have : ¬ Str.ofString "names" = Str.ofString "n" := by decide +kernel
            simp only [kstB, docG, this, y2, y3, y4, if_false, if_true, nN, k4, Bool.false_eq_true]
          · simp only [kstB, docG, y2, y3, y4, y5, if_false]
theorem ledSwap {h₀ h : Heap} {L : Addr} {a b c : Addr × Obj} {R : List (Addr × Obj)} (N : News h₀ L h (a :: b :: c :: R)) : News h₀ L h (b :: a :: c :: R) := by
  intro e he
  apply N
  simp only [List.mem_cons] at he ⊢
  rcases he with h9 | h9 | h9 | h9
  · exact .inr (.inl h9)
  · exact .inl h9
  · exact .inr (.inr (.inl h9))
  · exact .inr (.inr (.inr h9))
theorem ledDrop {h₀ h : Heap} {L : Addr} {a b c : Addr × Obj} {R : List (Addr × Obj)} (N : News h₀ L h (a :: b :: c :: R)) : News h₀ L h (a :: b :: R) := by
  intro e he
  apply N
  simp only [List.mem_cons] at he ⊢
  rcases he with h9 | h9 | h9
  · exact .inl h9
  · exact .inr (.inl h9)
  · exact .inr (.inr (.inr h9))
theorem document {w : World} {loose : List Str} {mean : ExcName → Option Value} {mg mb : Str → Option Value}
    {dp un : Nat} {gd : Option (List Code)} {cn : Str} {cs : Scope} {a : Addr} {ccd : Value} {cl : List (Str × Addr)} {outer : List Env} {A₀ : Around} {base h₀ : Heap} {L : Addr} {m : Str → Option Value} {s : Shared} {Q E : Value → Shared → Prop}
    {rest : List (Addr × Obj)} {l : Addr} {nvs : List Value} {nums : List Int} {nn : Nat}
    (B : Below A₀ base outer h₀) (F : Fr h₀ L s.heap m) (X : (hd.heap_39 w.params).In h₀) (T : Top hd.view_39 loose mean mg mb h₀) (hk : cs.kind = .function)
    (N : News h₀ L s.heap ((l, listOf nvs.toArray nn) :: rest)) (hi : IntsAre nvs nums) (hnl : nums.length ≤ 50)
    (hd1 : dp + 14 < recursionLimit) (hu : un + 260 < cLine)
    (ret : ∀ (ds : List Deed) (r lt : Addr) (vs : List Value) (ev : Nat) (tx : List (Addr × Obj)) (t1 t2 : Tok) (h' : Heap) (tk' : Nat), DatAll tx vs (ds.map Deed.d) → (∀ d ∈ ds, d.Ok) → Alt ds → ds.length ≤ 60 → (render ds).length ≤ 6000 → (∀ n ps, Deed.begins n ps ∈ ds → ps.length ≤ 2 ∧ ∀ p ∈ ps, ∀ c ∈ p.2, c < 1114112) →
      Fr h₀ L h' m → News h₀ L h' ((r, { cls := .type "tuple", data := .seq [.str (S (render ds)) t1, .ref lt, .int (1 + nlsAll ds) t2].toArray }) :: (lt, listOf vs.toArray ev) :: (tx ++ ((l, listOf nvs.toArray nn) :: rest))) → Q (.ref r) { s with heap := h', toks := tk' }) :
    wpAny (model PySem.Challenge.rw_mr0358_01.row.prog w) (ktrTop dp un gd cn cs L a ccd cl outer) (call (.ref 802) [.ref l]) Q E s := by
  k_with_none
  k_with "my while" => (refine stopAt ?_)
  k_with "pyIter ref" => (refine stopAt ?_)
  k_with "my newList" => (k_dflt (refine' newList_K ?k1 ?k2 ?_; (case k1 => k_asm); (case k2 => k_asm); k_whole); intro lt h' F' N' l1; (try k_lt l1); (try k_sweep))
  revert X; k_fill; intro X
  refine wpAny_call ?_
  k_dflt (walk_at "my enter")
  k_steps
  unfold Stopped
  rename (_ < _ ∧ l < _ ∧ AllLt _ rest) => l2
  rename (l < _ ∧ AllLt _ rest) => l3
  have r2 := kst_ltOf l2.2.2
  have r3 := kst_ltOf l3.2
  k_dflt (refine' docLoop (R := rest) ?k1 ?k2 ?k3 ?k4 ?k5 hi hnl ?m1 ?m2 ?m3 ?m4 ?f1 ?f2 ?f3 ?q1 ?q2 ?kE ?k7 ?k8 ?_; (case k1 => k_asm); (case k2 => k_asm); (case k3 => k_asm); (case k4 => k_asm); (case k5 => exact ledSwap (by k_asm)); (case m1 => exact rfl); (case m2 => exact rfl); (case m3 => exact rfl); (case m4 => exact rfl); (case k7 => ktr_room); (case k8 => ktr_units); (case kE => first | passes_own | with_unfolding_all passes_own))
  case f1 => exact Nat.ne_of_lt l2.1
  case f2 => exact Nat.ne_of_lt l3.1
  case f3 => exact Nat.ne_of_lt l2.2.1
  case q1 => intro p hp; exact Nat.ne_of_lt (r3 p hp)
  case q2 => intro p hp; exact Nat.ne_of_lt (r2 p hp)
  intro z m₁ h9 tk9 hF hP F9 N9
  dsimp only
  k_steps
  unfold Stopped
  have hq1 := hP.dl
  have hq2 := hP.rl
  k_dflt (refine' docEnds (z₀ := z) (R := (l, listOf nvs.toArray nn) :: rest) ?k1 F9 ?k3 ?k4 N9 ?f1 ?q1 ?q2 hF hP.inv (by omega) (by omega) ?kE ?k7 ?k8 ?_; (case k1 => k_asm); (case k3 => k_asm); (case k4 => k_asm); (case k7 => ktr_room); (case k8 => ktr_units); (case kE => first | passes_own | with_unfolding_all passes_own))
  case f1 => exact Nat.ne_of_lt l2.1
  case q1 =>
    intro p hp
    rcases List.mem_cons.mp hp with h | h
    · rw [h]; exact Nat.ne_of_lt l3.1
    · exact Nat.ne_of_lt (r3 p h)
  case q2 =>
    intro p hp
    rcases List.mem_cons.mp hp with h | h
    · rw [h]; exact Nat.ne_of_lt l2.2.1
    · exact Nat.ne_of_lt (r2 p h)
  clear F9 N9
  intro z' u h8 tk8 hF' hP' F8 N8
  dsimp only
  k_steps
  have hq3 := hP'.dl
  have hq4 := hP'.rl
  exact ret z'.ds _ _ z'.vs z'.ev z'.tx _ _ _ _ hF'.dat hP'.inv.ok hP'.inv.alt (by omega) (by omega) hP'.inv.prs (by k_asm) (ledDrop (by k_asm))
theorem answer {w : World} {loose : List Str} {mean : ExcName → Option Value} {mg mb : Str → Option Value}
    {dp un : Nat} {gd : Option (List Code)} {cn : Str} {cs : Scope} {a : Addr} {ccd : Value} {cl : List (Str × Addr)} {outer : List Env} {A₀ : Around} {base h₀ : Heap} {L : Addr} {m : Str → Option Value} {s : Shared} {Q E : Value → Shared → Prop}
    {rest : List (Addr × Obj)} {all : List Nat} {ds : List Deed} {tb : Tok}
    (B : Below A₀ base outer h₀) (F : Fr h₀ L s.heap m) (X : (hd.heap_39 w.params).In h₀) (T : Top hd.view_39 loose mean mg mb h₀) (hk : cs.kind = .function)
    (N : News h₀ L s.heap rest) (hlen : all.length ≤ 100000) (hall : all = render ds) (hok : ∀ d ∈ ds, d.Ok) (halt : Alt ds) (hdl : ds.length ≤ 1000) (hpsl : ∀ n ps, Deed.begins n ps ∈ ds → ps.length ≤ 1000)
    (hd1 : dp + 24 < recursionLimit) (hu : un + 320 < cLine)
    (ret : ∀ (r lt : Addr) (vs : List Value) (nn : Nat) (tx : List (Addr × Obj)) (tln : Tok) (h' : Heap) (tk' : Nat), Fr h₀ L h' m → News h₀ L h' ((r, { cls := .type "tuple", data := .seq [.ref lt, .int (1 + nlsAll ds) tln].toArray }) :: (lt, listOf vs.toArray nn) :: (tx ++ rest)) →
      DatAll tx vs (ds.map Deed.d) → Q (.ref r) { s with heap := h', toks := tk' }) :
    wpAny (model PySem.Challenge.rw_mr0358_01.row.prog w) (ktrTop dp un gd cn cs L a ccd cl outer) (call (.ref 816) [.str (S all) tb]) Q E s := by
  k_with_none
  k_with "my call" => ((with_reducible show wpAny _ _ (call (Value.ref 809) _) _ _ _); k_dflt (refine' reading (ds := ds) ?k1 ?k2 ?k3 ?k4 ?k5 ?k6 hlen hall hok halt hdl hpsl ?k7 ?k8 ?_; (case k1 => k_asm); (case k2 => k_asm); (case k3 => k_asm); (case k4 => k_asm); (case k5 => first | exact rfl | assumption); (case k6 => k_asm); (case k7 => ktr_room); (case k8 => ktr_units); k_whole; intro r9 lt9 vs9 nn9 tx9 t9 h9 tk9 F9 N9 hD9; (try dsimp only); (try k_sweep); (try k_fold)))
  revert X; k_fill; intro X
  refine wpAny_call ?_
  k_dflt (walk_at "my enter")
  k_steps
  exact ret _ _ _ _ _ _ _ _ (by k_asm) (by k_asm) hD9
theorem strOk_S {l : List Nat} (h : ∀ c ∈ l, c < 1114112) : PyData.strOk (S l) = true := by
  simp only [PyData.strOk, S, List.all_toArray, List.all_eq_true, decide_eq_true_eq]
  exact h
theorem wsT_lt : ∀ c ∈ wsT.cps.toList, c < 1114112 := by decide +kernel
theorem pairD_ok {p : Nat × List Nat} (h : pairOk p) (h2 : ∀ c ∈ p.2, c < 1114112) : kqdOk 4 (pairD p) = true := by
  have h1 : p.1 < 1114112 := by rcases h.1 with h | h <;> omega
  have e1 : PyData.strOk (S [p.1]) = true := strOk_S (by intro c hc; rw [List.mem_singleton.mp hc]; exact h1)
  have e2 : PyData.strOk (S [61]) = true := by decide +kernel
  have e3 : PyData.strOk (S (34 :: (p.2 ++ [34]))) = true := strOk_S (by
    intro c hc
    rcases List.mem_cons.mp hc with h9 | h9
    · omega
    · rcases List.mem_append.mp h9 with h9 | h9
      · exact h2 c h9
      · rw [List.mem_singleton.mp h9]; decide)
  simp [kqdOk, pairD, e1, e2, e3]
theorem deed_ok {d : Deed} (h : d.Ok) (hp : ∀ n ps, d = Deed.begins n ps → ∀ p ∈ ps, ∀ c ∈ p.2, c < 1114112) : kqdOk 6 d.d = true := by
  have g : PyData.strOk (S [62]) = true := by decide +kernel
  cases d with
  | text t =>
    have e0 : PyData.strOk (Str.ofString "text") = true := by decide +kernel
    have e1 : PyData.strOk (S t) = true := strOk_S fun c hc => wsT_lt c (by
      have := List.all_eq_true.mp h.2 c hc
      simpa using this)
    simp [kqdOk, Deed.d, e0, e1]
  | ends n =>
    have e0 : PyData.strOk (Str.ofString "ends") = true := by decide +kernel
    have h1 : n < 1114112 := by rcases (h : n = 97 ∨ n = 98) with h | h <;> omega
    have e1 : PyData.strOk (S [n]) = true := strOk_S (by intro c hc; rw [List.mem_singleton.mp hc]; exact h1)
    simp [kqdOk, Deed.d, e0, e1, g]
  | begins n ps =>
    have e0 : PyData.strOk (Str.ofString "begins") = true := by decide +kernel
    have h1 : n < 1114112 := by rcases h.1 with h | h <;> omega
    have e1 : PyData.strOk (S [n]) = true := strOk_S (by intro c hc; rw [List.mem_singleton.mp hc]; exact h1)
    have e2 : ∀ p ∈ ps, kqdOk 4 (pairD p) = true := fun p hq => pairD_ok (h.2 p hq) (hp n ps rfl p hq)
    have e3 : (ps.map pairD).all (kqdOk 4) = true := by
      rw [List.all_eq_true]
      intro x hx
      obtain ⟨p, hq, rfl⟩ := List.mem_map.mp hx
      exact e2 p hq
    simp only [kqdOk, Deed.d, List.all_cons, List.all_nil, e0, e1, e3, g, Bool.and_self]
theorem deeds_ok {ds : List Deed} (h : ∀ d ∈ ds, d.Ok) (hp : ∀ n ps, Deed.begins n ps ∈ ds → ps.length ≤ 2 ∧ ∀ p ∈ ps, ∀ c ∈ p.2, c < 1114112) : ∀ x ∈ ds.map Deed.d, kqdOk 6 x = true := by
  intro x hx
  obtain ⟨d, hd, rfl⟩ := List.mem_map.mp hx
  exact deed_ok (h d hd) fun n ps e => (hp n ps (e ▸ hd)).2
theorem tupEq {prog : Program} {w : World} {A : Around} {E : Value → Shared → Prop} {s : Shared} {h₀ : Heap} {L : Addr} {news n₁ n₂ : List (Addr × Obj)} {a b la lb : Addr} {va vb : List Value} {na nb pa pb : Nat} {ta tb : Tok} {k : Int} {ds : List Dat} {Q : Value → Shared → Prop}
    (N : News h₀ L s.heap news) (ma : (a, ({ cls := .type "tuple", data := .seq [.ref la, .int k ta].toArray na } : Obj)) ∈ news) (mla : (la, listOf va.toArray pa) ∈ news) (Da : DatAll n₁ va ds) (sa : ∀ p ∈ n₁, p ∈ news)
    (mb : (b, ({ cls := .type "tuple", data := .seq [.ref lb, .int k tb].toArray nb } : Obj)) ∈ news) (mlb : (lb, listOf vb.toArray pb) ∈ news) (Db : DatAll n₂ vb ds) (sb : ∀ p ∈ n₂, p ∈ news)
    (hd : ∀ d ∈ ds, kqdOk 6 d = true) (hu : A.units + 64 < cLine) (h : Q (.bool true) s) : wpAny (model prog w) A (compareOp .Eq (.ref a) (.ref b)) Q E s := by
  have hk : kqdOk 8 (.tuple [.list ds, .int k]) = true := by
    have : ds.all (kqdOk 6) = true := List.all_eq_true.mpr hd
    simp [kqdOk, this]
  obtain ⟨as, ra⟩ := kqd_in N 8 (.tuple ma (.cons (.list mla (Da.mono sa)) (.cons (.int _ _) .nil))) hk
  obtain ⟨bs, rb⟩ := kqd_in N 8 (.tuple mb (.cons (.list mlb (Db.mono sb)) (.cons (.int _ _) .nil))) hk
  have la := kqd_lay 8 _ hk
  have e := (kqd_eqv 8 _ _ 8 hk hk).mpr rfl
  refine eq_dataH ra rb ?_ ?_ hu (by rw [e]; exact h)
  · unfold SeqAt.shaped; rw [la.1, Bool.true_and]; exact decide_eq_true (Nat.le_trans la.2 (by decide))
  · unfold SeqAt.shaped; rw [la.1, Bool.true_and]; exact decide_eq_true (Nat.le_trans la.2 (by decide))
local macro_rules | `(tactic| k_qdec) => `(tactic| first | with_reducible exact names0 | with_reducible exact imp0)
local macro_rules | `(tactic| walk_at "compareOp Eq ref ref") => `(tactic| k_extra "my eq")
theorem ledTwo {h₀ h : Heap} {L : Addr} {a b c d : Addr × Obj} {x y R : List (Addr × Obj)} (N : News h₀ L h (a :: b :: (x ++ (c :: d :: (y ++ R))))) : News h₀ L h (c :: d :: a :: b :: (x ++ y)) := by
  intro e he
  apply N
  simp only [List.mem_cons, List.mem_append] at he ⊢
  rcases he with h9 | h9 | h9 | h9 | h9 | h9
  · exact .inr (.inr (.inr (.inl h9)))
  · exact .inr (.inr (.inr (.inr (.inl h9))))
  · exact .inl h9
  · exact .inr (.inl h9)
  · exact .inr (.inr (.inl h9))
  · exact .inr (.inr (.inr (.inr (.inr (.inl h9)))))
theorem lawWalk : PySem.Challenge.rw_mr0358_01.Holds := by
  k_with_none
  k_with "my call" => (refine stopAt ?_)
  k_with "my eq" => (refine stopAt ?_)
  refine hd (by conv => rhs; whnf) ?_
  k_go0
  (all_goals try k_fold)
  k_steps
  unfold Stopped
  rename (IntsAre _ ([218, 712] ++ _ ++ [2435])) => hI9
  rename (News _ _ _ _) => N7
  rename (Fr _ _ _ _) => F7
  rename (Below _ _ _ _) => B7
  rename (Top _ _ _ _ _ _) => T7
  rename (Frag.In _ _) => X7
  k_dflt (refine' document B7 F7 X7 T7 ?k5 N7 hI9 ?kl ?k7 ?k8 ?_)
  case k5 => exact rfl
  case kl => (simp only [List.length_append, List.length_cons, List.length_nil, List.length_take]; omega)
  case k7 => ktr_room
  case k8 => ktr_units
  intro ds9 r9 lt9 vs9 ev9 tx9 ta9 tb9 h9 tk9 hD9 hok9 halt9 hdl9 hrl9 hps9 F9 N9
  clear F7 N7
  dsimp only
  (try k_sweep)
  (try k_fold)
  k_steps
  unfold Stopped
  rename (News _ _ _ _) => N7
  rename (Fr _ _ _ _) => F7
  k_dflt (refine' answer (ds := ds9) B7 F7 X7 T7 ?k5 N7 ?kl rfl hok9 halt9 ?kd ?kp ?k7 ?k8 ?_)
  case k5 => exact rfl
  case kl => omega
  case kd => omega
  case kp => (intro n ps h; have := (hps9 n ps h).1; omega)
  case k7 => ktr_room
  case k8 => ktr_units
  intro r8 lt8 vs8 nn8 tx8 t8 h8 tk8 F8 N8 hD8
  have N8' := ledTwo N8
  clear F7 N7 N8
  dsimp only
  (try k_fold)
  k_steps
  unfold Stopped
  rename (News _ _ _ _) => N6
  k_dflt (refine' tupEq (ds := ds9.map Deed.d) (n₁ := tx8) (n₂ := tx9) N6 (.tail _ (.tail _ (.tail _ (.head _)))) (.tail _ (.tail _ (.tail _ (.tail _ (.head _))))) hD8 ?s1 (.head _) (.tail _ (.tail _ (.head _))) hD9 ?s2 (deeds_ok hok9 hps9) ?ku ?_)
  case s1 => exact fun p hp => .tail _ (.tail _ (.tail _ (.tail _ (.tail _ (List.mem_append.mpr (.inl hp))))))
  case s2 => exact fun p hp => .tail _ (.tail _ (.tail _ (.tail _ (.tail _ (List.mem_append.mpr (.inr hp))))))
  case ku => ktr_units
  dsimp only
  k_steps
end Mine
theorem PySem.Challenge.cw_mr0358_01_holds : PySem.Challenge.rw_mr0358_01.Holds :=
  Mine.lawWalk
