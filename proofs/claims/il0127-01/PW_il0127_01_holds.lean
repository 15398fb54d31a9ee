import PyProof.Rows.All
import Wide.All
import OpenK.AllK
import Wide.FinOn
import PySem.Challenge.RW_il0127_01
open PySem PySem.W PyProof.Rows
set_option Elab.async false
set_option maxRecDepth 100000
set_option maxHeartbeats 8000000
set_option linter.all false

set_option maxRecDepth 100000
namespace Mine
open PySem PySem.W PySem.Spec PySem.Calls PyProof.Rows
/-- a list of objects as a tree -/
def btOf : List Obj → BT → Nat → Option (BT × Nat)
  | [], t, n => some (t, n)
  | o :: l, t, n => match ((t.ins n o).get n).isSome with
    | true => btOf l (t.ins n o) (n + 1)
    | false => none
theorem btOf_abs {life : Life} : ∀ {l : List Obj} {t t' : BT} {n n' : Nat}, btOf l t n = some (t', n') → absHeap t' n' life = ⟨(absHeap t n life).objs ++ l.toArray, life⟩
  | [], t, t', n, n', h => by cases h; simp [absHeap]
  | o :: l, t, t', n, n', h => by
    unfold btOf at h
    cases q : ((t.ins n o).get n).isSome with
    | false => rw [q] at h; cases h
    | true =>
      rw [q] at h
      rw [btOf_abs h, absHeap_ins q]
      simp [Heap.push]
def toT (s : Shared) : Option SharedT := match btOf s.heap.objs.toList .nil 0 with
  | some (t, n) => some ⟨t, n, s.heap.life, s.gens, s.drawn, s.toks, s.os⟩
  | none => none
theorem toT_abs {s : Shared} {a : SharedT} (h : toT s = some a) : a.abs = s := by
  unfold toT at h
  split at h
  · rename_i t n q
    cases h
    obtain ⟨⟨objs, life⟩, gens, drawn, toks, os⟩ := s
    show Shared.mk (absHeap t n life) gens drawn toks os = _
    rw [btOf_abs q]
    simp [absHeap, BT.list]
  · cases h
def impT (st : SharedT → Thread → Option (SharedT × Thread)) (n : Nat) : SharedT → Thread → Option SharedT :=
  Nat.rec (fun _ _ => none) (fun _ ih s t => match t.atExitBegin with
    | some [] => some s
    | some (_ :: _) => none
    | none => match st s t with
      | some (s', t') => ih s' t'
      | none => none) n
theorem impT_abs {tb : String → Option Builtin} {p : Program} {w : World} : ∀ {n : Nat} {s s' : SharedT} {t : Thread}, impT (stepT (denote tb) p w) n s t = some s' → importEnds tb p w n s.abs t = some s'.abs
  | 0, _, _, _, h => by cases h
  | n + 1, s, s', t, h => by
    replace h : (match t.atExitBegin with
      | some [] => some s
      | some (_ :: _) => none
      | none => match stepT (denote tb) p w s t with
        | some (s', t') => impT (stepT (denote tb) p w) n s' t'
        | none => none) = some s' := h
    unfold importEnds
    cases he : t.atExitBegin with
    | some x =>
      rw [he] at h
      cases x with
      | nil => cases h; rfl
      | cons a l => cases h
    | none =>
      rw [he] at h
      cases hs : stepT (denote tb) p w s t with
      | none => rw [hs] at h; cases h
      | some r => obtain ⟨s₂, t₂⟩ := r; rw [hs] at h; dsimp only; rw [stepT_spec hs]; exact impT_abs h
def topT (ok : Thread → Bool) (st : SharedT → Thread → Option (SharedT × Thread)) (n : Nat) : SharedT → Thread → Option SharedT :=
  Nat.rec (fun _ _ => none) (fun _ ih s t => match through t with
    | true => some s
    | false => match ok t with
      | false => none
      | true => match st s t with
        | some (s', t') => ih s' t'
        | none => none) n
theorem topT_abs {tb : String → Option Builtin} {p : Program} {w : World} {n₀ : Nat} {ann : Option Value} : ∀ {n : Nat} {s s' : SharedT} {t : Thread}, topT (stepOk n₀ ann) (stepT (denote tb) p w) n s t = some s' → topRun tb p w n₀ ann n s.abs t = some s'.abs
  | 0, _, _, _, h => by cases h
  | n + 1, s, s', t, h => by
    replace h : (match through t with
      | true => some s
      | false => match stepOk n₀ ann t with
        | false => none
        | true => match stepT (denote tb) p w s t with
          | some (s', t') => topT (stepOk n₀ ann) (stepT (denote tb) p w) n s' t'
          | none => none) = some s' := h
    unfold topRun
    cases he : through t with
    | true => rw [he] at h; cases h; rfl
    | false =>
      rw [he] at h
      cases hk : stepOk n₀ ann t with
      | false => rw [hk] at h; cases h
      | true =>
        rw [hk] at h
        cases hs : stepT (denote tb) p w s t with
        | none => rw [hs] at h; cases h
        | some r => obtain ⟨s₂, t₂⟩ := r; rw [hs] at h; dsimp only; rw [stepT_spec hs]; exact topT_abs h
/-- the opening, fenced -/
def openT (p : Program) (w : World) (N : Nat) : Option Shared := (toT (start (opening p)).1).bind fun a => (impT (stepT (denote treeTable) (opening p) w) N a (start (opening p)).2).bind fun b => fenceModules? p b.abs
theorem openT_is {p : Program} {w : World} {N : Nat} {s : Shared} (h : openT p w N = some s) : fencedOpening treeTable p w N = some s := by
  obtain ⟨a, ha, h⟩ := Option.bind_eq_some_iff.mp h
  obtain ⟨b, hb, h⟩ := Option.bind_eq_some_iff.mp h
  have e := impT_abs hb
  rw [toT_abs ha] at e
  unfold fencedOpening
  rw [e]
  exact h
def frontT (p : Program) (w : World) (N : Nat) (s₀ : Shared) : Option Shared := match s₀.heap.isNs mainGlobals && s₀.gens.size == 0 with
  | true => (toT s₀).bind fun c => (topT (stepOk s₀.heap.objs.size (s₀.heap.nsMap mainGlobals "__annotations__")) (stepT (denote treeTable) p w) N c (topStub p)).bind fun d =>
    match staticsOk (importedModules p.main.body) s₀.heap d.abs.heap && namesBound p d.abs.heap && gensDone d.abs && laidKept s₀.heap d.abs.heap with
      | true => some d.abs
      | false => none
  | false => none
theorem frontT_is {p : Program} {w : World} {N : Nat} {s₀ s : Shared} (h : frontT p w N s₀ = some s) : topFrom treeTable p w N s₀ = some s := by
  unfold frontT at h
  unfold topFrom
  cases q : (s₀.heap.isNs mainGlobals && s₀.gens.size == 0) with
  | false => rw [q] at h; cases h
  | true =>
    rw [q] at h
    obtain ⟨c, hc, h⟩ := Option.bind_eq_some_iff.mp h
    obtain ⟨d, hd, h⟩ := Option.bind_eq_some_iff.mp h
    have e := topT_abs hd
    rw [toT_abs hc] at e
    dsimp only
    rw [e]
    exact h
theorem left_of_run {p q : Program} {loose : List Str} {Xt : Shared → Bool} {α : Type} {Yf : Shared → α} {Ya : World → α} {N : Nat} {g0 : Bool}
    (h : ∀ w, (openT p w N).bind (fun s => (frontT p w N s).map fun s => (openSeen q loose (importedModules p.main.body) Xt g0 s, Yf s)) = some (openGood q loose, Ya w)) : LeftO p q loose Xt Yf Ya N g0 := fun w => by
  obtain ⟨s, hs, h1⟩ := Option.bind_eq_some_iff.mp (h w)
  obtain ⟨s', hs', h2⟩ := Option.map_eq_some_iff.mp h1
  unfold openEnds
  rw [openT_is hs]
  show (topFrom treeTable p w N s).map _ = _
  rw [frontT_is hs']
  exact congrArg some h2
end Mine

set_option maxRecDepth 100000
namespace Mine
open PySem PySem.W PySem.Spec PySem.Calls PyProof.Rows
/-- the text's statements, by their places -/
noncomputable def nthS : List Stmt → Nat → Stmt
  | [], _ => .Pass ⟨0, 0, 0, 0⟩
  | a :: _, 0 => a
  | _ :: l, n + 1 => nthS l n
noncomputable def stA (i : Nat) : Stmt := nthS PySem.Challenge.pw_il0127_01.main.body i
noncomputable def clB (s : Stmt) : List Stmt := match s with | .ClassDef _ _ _ b .. => b | _ => []
noncomputable def stM (i j : Nat) : Stmt := nthS (clB (stA i)) j
noncomputable def fnP (s : Stmt) : Arguments := match s with | .FunctionDef _ a .. => a | _ => ⟨[], [], none, [], [], none, []⟩
noncomputable def fnB (s : Stmt) : List Stmt := match s with | .FunctionDef _ _ b .. => b | _ => []
noncomputable def fnS (s : Stmt) : Scope := match s with | .FunctionDef _ _ _ _ _ _ c .. => c | _ => { kind := .function, names := [], isGenerator := false, isCoroutine := false }
noncomputable def docOf (b : List Stmt) : Str := match b with | .Expr (.Constant (.str s) _ _) _ :: _ => s | _ => ""
/-- the text, of what the law can come to -/
noncomputable def view0 : Program := { PySem.Challenge.pw_il0127_01 with main := { PySem.Challenge.pw_il0127_01.main with body := [stA 0, stA 1, stA 3, stA 5, stA 6, stA 7, stA 8, stA 10, stA 11, stA 12, stA 13, stA 14, stA 15, stA 16, stA 17] } }
set_option maxHeartbeats 8000000 in
/-- the objects that the top's run leaves, as a program of this work has printed them -/
noncomputable def kHeap0 : Params → Frag := fun P =>
[
(2, ⟨.none, none, (.dict #[⟨(PyData.keyHash P "\x69mport.loaded._collections"), (.str "\x69mport.loaded._collections" 185), (.bool true)⟩, ⟨(PyData.keyHash P "class._frozen_importlib.BuiltinImporter"), (.str "class._frozen_importlib.BuiltinImporter" 187), (.ref 15)⟩, ⟨(PyData.keyHash P "watched.\x69mport"), (.str "watched.\x69mport" 208), (.ref 19)⟩, ⟨(PyData.keyHash P "class._frozen_importlib.ModuleSpec"), (.str "class._frozen_importlib.ModuleSpec" 218), (.ref 23)⟩, ⟨(PyData.keyHash P "sys.modules.booked-epoch"), (.str "sys.modules.booked-epoch" 247), (.int 3 0)⟩, ⟨(PyData.keyHash P "sys.modules.landed._collections"), (.str "sys.modules.landed._collections" 248), (.bool true)⟩, ⟨(PyData.keyHash P "\x69mport.later-laid._collections"), (.str "\x69mport.later-laid._collections" 263), (.bool true)⟩, ⟨(PyData.keyHash P "watched.library"), (.str "watched.library" 265), (.ref 28)⟩, ⟨(PyData.keyHash P "watched.library-objects"), (.str "watched.library-objects" 0), (.str "\x0d" 0)⟩, ⟨(PyData.keyHash P "watched.library-deep._collections"), (.str "watched.library-deep._collections" 266), (.str "\x04\x00\x00\x0c\x04\x00\x00\x0c\x04\x00\x00\x03\x04\x00\x00\x0c\x08\x04dict\x02" 0)⟩, ⟨(PyData.keyHash P "type.__subclasses__.collections.defaultdict.0"), (.str "type.__subclasses__.collections.defaultdict.0" 397), (.int 115 0)⟩, ⟨(PyData.keyHash P "type.__subclasses__.collections.defaultdict.n"), (.str "type.__subclasses__.collections.defaultdict.n" 398), (.int 1 0)⟩] 12), #[]⟩),
(3, ⟨(.type "dict"), none, (.dict #[⟨(PyData.keyHash P "__name__"), (.str "__name__" 165), (.str "law_il0127_01" 554)⟩, ⟨(PyData.keyHash P "__doc__"), (.str "__doc__" 166), .none⟩, ⟨(PyData.keyHash P "__package__"), (.str "__package__" 167), .none⟩, ⟨(PyData.keyHash P "__loader__"), (.str "__loader__" 168), (.builtin "__main__.__loader__#opaque")⟩, ⟨(PyData.keyHash P "__spec__"), (.str "__spec__" 169), .none⟩, ⟨(PyData.keyHash P "__annotations__"), (.str "__annotations__" 170), (.ref 6)⟩, ⟨(PyData.keyHash P "__builtins__"), (.str "__builtins__" 171), (.ref 4)⟩, ⟨(PyData.keyHash P "__file__"), (.str "__file__" 173), (.str "/claim/cut.py" 172)⟩, ⟨(PyData.keyHash P "__cached__"), (.str "__cached__" 174), .none⟩, ⟨(PyData.keyHash P "defaultdict"), (.str "defaultdict" 272), (.type "collections.defaultdict")⟩, ⟨(PyData.keyHash P "_wall"), (.str "_wall" 285), (.ref 39)⟩, ⟨(PyData.keyHash P "unorderable_list_difference"), (.str "unorderable_list_difference" 298), (.ref 46)⟩, ⟨(PyData.keyHash P "_tuplegetter"), (.str "_tuplegetter" 357), (.ref 85)⟩, ⟨(PyData.keyHash P "FreezableDefaultDict"), (.str "FreezableDefaultDict" 400), (.ref 115)⟩, ⟨(PyData.keyHash P "Pair"), (.str "Pair" 515), (.ref 210)⟩, ⟨(PyData.keyHash P "_law_row"), (.str "_law_row" 562), (.ref 220)⟩, ⟨(PyData.keyHash P "_law_line"), (.str "_law_line" 573), (.ref 227)⟩, ⟨(PyData.keyHash P "_law_files"), (.str "_law_files" 585), (.ref 234)⟩, ⟨(PyData.keyHash P "_law_read"), (.str "_law_read" 597), (.ref 241)⟩, ⟨(PyData.keyHash P "_law_due"), (.str "_law_due" 608), (.ref 248)⟩, ⟨(PyData.keyHash P "_law_under"), (.str "_law_under" 614), (.ref 253)⟩, ⟨(PyData.keyHash P "_law_names"), (.str "_law_names" 620), (.ref 258)⟩, ⟨(PyData.keyHash P "law"), (.str "law" 626), (.ref 263)⟩] 23), #[]⟩),
(33, ⟨(.type "tuple"), none, (.seq #[] 0), #[]⟩),
(35, ⟨(.type "tuple"), none, (.seq #[(.str "k" 282)] 0), #[]⟩),
(36, ⟨(.type "tuple"), none, (.seq #[] 0), #[]⟩),
(38, ⟨(.type "code"), none, (.fields #[(.str "_wall" 279), (.str "_wall" 280), (.str "/claim/cut.py" 281), (.int 2 0), (.int 1 0), (.int 0 0), (.int 0 0), (.int 3 0), (.ref 33), (.bool true), (.int 273 0), (.ref 34), .none, (.ref 35), (.ref 36), (.ref 37), (.int 283 0), (.int 2 0), (.str "/claim/cut.py" 284)]), #[]⟩),
(39, ⟨(.type "function"), none, (.func ⟨"_wall", "_wall", fnP (stA 1), .stmts (fnB (stA 1)), fnS (stA 1), 3, [], .none, .none, .none, (.str "__main__" 164), none, (.ref 38), .none, 0⟩), #[]⟩),
(40, ⟨(.type "tuple"), none, (.seq #[] 0), #[]⟩),
(42, ⟨(.type "tuple"), none, (.seq #[(.str "expected" 291), (.str "actual" 292), (.str "missing" 293), (.str "item" 294)] 0), #[]⟩),
(43, ⟨(.type "tuple"), none, (.seq #[] 0), #[]⟩),
(45, ⟨(.type "code"), none, (.fields #[(.str "unorderable_list_difference" 288), (.str "unorderable_list_difference" 289), (.str "/claim/cut.py" 290), (.int 6 0), (.int 2 0), (.int 0 0), (.int 0 0), (.int 3 0), (.ref 40), (.bool true), (.int 273 0), (.ref 41), .none, (.ref 42), (.ref 43), (.ref 44), (.int 295 0), (.int 6 0), (.str "/claim/cut.py" 296)]), #[]⟩),
(46, ⟨(.type "function"), none, (.func ⟨"unorderable_list_difference", "unorderable_list_difference", fnP (stA 3), .stmts (fnB (stA 3)), fnS (stA 3), 3, [], .none, .none, (.str (docOf (fnB (stA 3))) 297), (.str "cpy313.unittest.util" 286), none, (.ref 45), .none, 0⟩), #[]⟩),
(54, ⟨(.type "tuple"), none, (.seq #[] 0), #[]⟩),
(56, ⟨(.type "tuple"), none, (.seq #[(.str "self" 316), (.str "index" 317), (.str "doc" 318)] 0), #[]⟩),
(57, ⟨(.type "tuple"), none, (.seq #[] 0), #[]⟩),
(59, ⟨(.type "code"), none, (.fields #[(.str "__init__" 313), (.str "_tuplegetter.__init__" 314), (.str "/claim/cut.py" 315), (.int 23 0), (.int 3 0), (.int 0 0), (.int 0 0), (.int 3 0), (.ref 54), (.bool true), (.int 273 0), (.ref 55), .none, (.ref 56), (.ref 57), (.ref 58), (.int 319 0), (.int 23 0), (.str "/claim/cut.py" 320)]), #[]⟩),
(60, ⟨(.type "function"), none, (.func ⟨"__init__", "_tuplegetter.__init__", fnP (stM 5 0), .stmts (fnB (stM 5 0)), fnS (stM 5 0), 3, [], .none, .none, .none, (.str "cpy313.importlib.metadata._collections" 299), none, (.ref 59), .none, 0⟩), #[]⟩),
(61, ⟨(.type "tuple"), none, (.seq #[.none] 0), #[]⟩),
(62, ⟨(.type "tuple"), none, (.seq #[] 0), #[]⟩),
(64, ⟨(.type "tuple"), none, (.seq #[(.str "self" 325), (.str "obj" 326), (.str "objtype" 327)] 0), #[]⟩),
(65, ⟨(.type "tuple"), none, (.seq #[] 0), #[]⟩),
(67, ⟨(.type "code"), none, (.fields #[(.str "__get__" 322), (.str "_tuplegetter.__get__" 323), (.str "/claim/cut.py" 324), (.int 27 0), (.int 3 0), (.int 0 0), (.int 0 0), (.int 3 0), (.ref 62), (.bool true), (.int 273 0), (.ref 63), .none, (.ref 64), (.ref 65), (.ref 66), (.int 328 0), (.int 27 0), (.str "/claim/cut.py" 329)]), #[]⟩),
(68, ⟨(.type "function"), none, (.func ⟨"__get__", "_tuplegetter.__get__", fnP (stM 5 1), .stmts (fnB (stM 5 1)), fnS (stM 5 1), 3, [], (.ref 61), .none, .none, (.str "cpy313.importlib.metadata._collections" 299), none, (.ref 67), .none, 0⟩), #[]⟩),
(69, ⟨(.type "tuple"), none, (.seq #[] 0), #[]⟩),
(71, ⟨(.type "tuple"), none, (.seq #[(.str "self" 334), (.str "obj" 335), (.str "value" 336)] 0), #[]⟩),
(72, ⟨(.type "tuple"), none, (.seq #[] 0), #[]⟩),
(74, ⟨(.type "code"), none, (.fields #[(.str "__set__" 331), (.str "_tuplegetter.__set__" 332), (.str "/claim/cut.py" 333), (.int 34 0), (.int 3 0), (.int 0 0), (.int 0 0), (.int 3 0), (.ref 69), (.bool true), (.int 273 0), (.ref 70), .none, (.ref 71), (.ref 72), (.ref 73), (.int 337 0), (.int 34 0), (.str "/claim/cut.py" 338)]), #[]⟩),
(75, ⟨(.type "function"), none, (.func ⟨"__set__", "_tuplegetter.__set__", fnP (stM 5 2), .stmts (fnB (stM 5 2)), fnS (stM 5 2), 3, [], .none, .none, .none, (.str "cpy313.importlib.metadata._collections" 299), none, (.ref 74), .none, 0⟩), #[]⟩),
(76, ⟨(.type "tuple"), none, (.seq #[] 0), #[]⟩),
(78, ⟨(.type "tuple"), none, (.seq #[(.str "self" 343), (.str "obj" 344)] 0), #[]⟩),
(79, ⟨(.type "tuple"), none, (.seq #[] 0), #[]⟩),
(81, ⟨(.type "code"), none, (.fields #[(.str "__delete__" 340), (.str "_tuplegetter.__delete__" 341), (.str "/claim/cut.py" 342), (.int 37 0), (.int 2 0), (.int 0 0), (.int 0 0), (.int 3 0), (.ref 76), (.bool true), (.int 273 0), (.ref 77), .none, (.ref 78), (.ref 79), (.ref 80), (.int 345 0), (.int 37 0), (.str "/claim/cut.py" 346)]), #[]⟩),
(82, ⟨(.type "function"), none, (.func ⟨"__delete__", "_tuplegetter.__delete__", fnP (stM 5 3), .stmts (fnB (stM 5 3)), fnS (stM 5 3), 3, [], .none, .none, .none, (.str "cpy313.importlib.metadata._collections" 299), none, (.ref 81), .none, 0⟩), #[]⟩),
(83, ⟨(.type "tuple"), none, (.seq #[(.str "__doc__" 348), (.str "index" 349)] 0), #[]⟩),
(84, ⟨(.type "dict"), none, (.dict #[⟨(PyData.keyHash P "__module__"), (.str "__module__" 308), (.str "cpy313.importlib.metadata._collections" 299)⟩, ⟨(PyData.keyHash P "__firstlineno__"), (.str "__firstlineno__" 312), (.int 21 311)⟩, ⟨(PyData.keyHash P "__init__"), (.str "__init__" 321), (.ref 60)⟩, ⟨(PyData.keyHash P "__get__"), (.str "__get__" 330), (.ref 68)⟩, ⟨(PyData.keyHash P "__set__"), (.str "__set__" 339), (.ref 75)⟩, ⟨(PyData.keyHash P "__delete__"), (.str "__delete__" 347), (.ref 82)⟩, ⟨(PyData.keyHash P "__static_attributes__"), (.str "__static_attributes__" 350), (.ref 83)⟩, ⟨(PyData.keyHash P "__dict__"), (.str "__dict__" 352), (.ref 86)⟩, ⟨(PyData.keyHash P "__weakref__"), (.str "__weakref__" 354), (.ref 87)⟩, ⟨(PyData.keyHash P "__doc__"), (.str "__doc__" 355), .none⟩] 4), #[]⟩),
(85, ⟨(.type "type"), none, (.cls ⟨"_tuplegetter", [(.type "object")], [(.ref 85), (.type "object")], 84, "_tuplegetter", true, [], [], false, none, false⟩), #[none, none, (some (.str "_tuplegetter" 301)), (some (.str "_tuplegetter" 309)), (some (.builtin "object.__new__")), (some (.bool true))]⟩),
(86, ⟨(.type "getset_descriptor"), none, (.fields #[(.str "__dict__" 351), (.ref 85), (.builtin "function.__dict__"), (.builtin "function.__dict__#set")]), #[]⟩),
(87, ⟨(.type "getset_descriptor"), none, (.fields #[(.str "__weakref__" 353), (.ref 85), (.builtin "ExceptionGroup.__weakref__"), .none]), #[]⟩),
(90, ⟨(.type "tuple"), none, (.seq #[(.type "collections.defaultdict")] 0), #[]⟩),
(93, ⟨(.type "cell"), none, (.cell (some (.ref 115))), #[]⟩),
(98, ⟨(.type "tuple"), none, (.seq #[(.ref 93)] 0), #[]⟩),
(99, ⟨(.type "tuple"), none, (.seq #[(.str "__class__" 376)] 0), #[]⟩),
(101, ⟨(.type "tuple"), none, (.seq #[(.str "self" 377), (.str "key" 378)] 0), #[]⟩),
(102, ⟨(.type "tuple"), none, (.seq #[] 0), #[]⟩),
(104, ⟨(.type "code"), none, (.fields #[(.str "__missing__" 373), (.str "FreezableDefaultDict.__missing__" 374), (.str "/claim/cut.py" 375), (.int 54 0), (.int 2 0), (.int 0 0), (.int 0 0), (.int 3 0), (.ref 99), (.bool true), (.int 273 0), (.ref 100), .none, (.ref 101), (.ref 102), (.ref 103), (.int 379 0), (.int 54 0), (.str "/claim/cut.py" 380)]), #[]⟩),
(105, ⟨(.type "function"), none, (.func ⟨"__missing__", "FreezableDefaultDict.__missing__", fnP (stM 6 1), .stmts (fnB (stM 6 1)), fnS (stM 6 1), 3, [("__class__", 93)], .none, .none, .none, (.str "cpy313.importlib.metadata._collections" 299), none, (.ref 104), (.ref 98), 0⟩), #[]⟩),
(106, ⟨(.type "tuple"), none, (.seq #[] 0), #[]⟩),
(108, ⟨(.type "tuple"), none, (.seq #[(.str "self" 385)] 0), #[]⟩),
(109, ⟨(.type "tuple"), none, (.seq #[(.str "self" 386)] 0), #[]⟩),
(111, ⟨(.type "code"), none, (.fields #[(.str "freeze" 382), (.str "FreezableDefaultDict.freeze" 383), (.str "/claim/cut.py" 384), (.int 57 0), (.int 1 0), (.int 0 0), (.int 0 0), (.int 3 0), (.ref 106), (.bool true), (.int 273 0), (.ref 107), .none, (.ref 108), (.ref 109), (.ref 110), (.int 387 0), (.int 57 0), (.str "/claim/cut.py" 388)]), #[]⟩),
(112, ⟨(.type "function"), none, (.func ⟨"freeze", "FreezableDefaultDict.freeze", fnP (stM 6 2), .stmts (fnB (stM 6 2)), fnS (stM 6 2), 3, [], .none, .none, .none, (.str "cpy313.importlib.metadata._collections" 299), none, (.ref 111), .none, 0⟩), #[]⟩),
(113, ⟨(.type "tuple"), none, (.seq #[(.str "_frozen" 390)] 0), #[]⟩),
(114, ⟨(.type "dict"), none, (.dict #[⟨(PyData.keyHash P "__module__"), (.str "__module__" 365), (.str "cpy313.importlib.metadata._collections" 299)⟩, ⟨(PyData.keyHash P "__firstlineno__"), (.str "__firstlineno__" 369), (.int 39 368)⟩, ⟨(PyData.keyHash P "__doc__"), (.str "__doc__" 371), (.str (docOf (clB (stA 6))) 370)⟩, ⟨(PyData.keyHash P "__missing__"), (.str "__missing__" 381), (.ref 105)⟩, ⟨(PyData.keyHash P "freeze"), (.str "freeze" 389), (.ref 112)⟩, ⟨(PyData.keyHash P "__static_attributes__"), (.str "__static_attributes__" 391), (.ref 113)⟩, ⟨(PyData.keyHash P "__dict__"), (.str "__dict__" 394), (.ref 116)⟩, ⟨(PyData.keyHash P "__weakref__"), (.str "__weakref__" 396), (.ref 117)⟩] 4), #[]⟩),
(115, ⟨(.type "type"), none, (.cls ⟨"FreezableDefaultDict", [(.type "collections.defaultdict")], [(.ref 115), (.type "collections.defaultdict"), (.type "dict"), (.type "object")], 114, "FreezableDefaultDict", true, [""], [], false, none, false⟩), #[(some (.ref 90)), none, (some (.str "FreezableDefaultDict" 358)), (some (.str "FreezableDefaultDict" 366)), (some (.builtin "dict.__new__")), (some (.bool true))]⟩),
(116, ⟨(.type "getset_descriptor"), none, (.fields #[(.str "__dict__" 393), (.ref 115), (.builtin "function.__dict__"), (.builtin "function.__dict__#set")]), #[]⟩),
(117, ⟨(.type "getset_descriptor"), none, (.fields #[(.str "__weakref__" 395), (.ref 115), (.builtin "ExceptionGroup.__weakref__"), .none]), #[]⟩),
(120, ⟨(.type "tuple"), none, (.seq #[(.type "tuple")] 0), #[]⟩),
(123, ⟨(.type "cell"), none, (.cell (some (.ref 187))), #[]⟩),
(128, ⟨(.type "tuple"), none, (.seq #[] 0), #[]⟩),
(129, ⟨(.type "tuple"), none, (.seq #[(.str "name" 417), (.str "value" 418)] 0), #[]⟩),
(130, ⟨(.type "dict"), none, (.dict #[] 0), #[]⟩),
(131, ⟨(.type "tuple"), none, (.seq #[] 0), #[]⟩),
(133, ⟨(.type "tuple"), none, (.seq #[(.str "_cls" 424), (.str "name" 425), (.str "value" 426)] 0), #[]⟩),
(134, ⟨(.type "tuple"), none, (.seq #[] 0), #[]⟩),
(136, ⟨(.type "code"), none, (.fields #[(.str "__new__" 421), (.str "Pair.__new__" 422), (.str "/claim/cut.py" 423), (.int 65 0), (.int 3 0), (.int 0 0), (.int 0 0), (.int 3 0), (.ref 131), (.bool true), (.int 273 0), (.ref 132), .none, (.ref 133), (.ref 134), (.ref 135), (.int 427 0), (.int 65 0), (.str "/claim/cut.py" 428)]), #[]⟩),
(137, ⟨(.type "function"), none, (.func ⟨"__new__", "Pair.__new__", fnP (stM 7 4), .stmts (fnB (stM 7 4)), fnS (stM 7 4), 3, [], .none, .none, (.str (docOf (fnB (stM 7 4))) 429), (.str "cpy313.importlib.metadata._collections" 299), none, (.ref 136), .none, 0⟩), #[]⟩),
(138, ⟨(.type "tuple"), none, (.seq #[] 0), #[]⟩),
(140, ⟨(.type "tuple"), none, (.seq #[(.str "cls" 434), (.str "iterable" 435), (.str "result" 436)] 0), #[]⟩),
(141, ⟨(.type "tuple"), none, (.seq #[] 0), #[]⟩),
(143, ⟨(.type "code"), none, (.fields #[(.str "_make" 431), (.str "Pair._make" 432), (.str "/claim/cut.py" 433), (.int 69 0), (.int 2 0), (.int 0 0), (.int 0 0), (.int 3 0), (.ref 138), (.bool true), (.int 273 0), (.ref 139), .none, (.ref 140), (.ref 141), (.ref 142), (.int 437 0), (.int 69 0), (.str "/claim/cut.py" 438)]), #[]⟩),
(144, ⟨(.type "function"), none, (.func ⟨"_make", "Pair._make", fnP (stM 7 5), .stmts (fnB (stM 7 5)), fnS (stM 7 5), 3, [], .none, .none, (.str (docOf (fnB (stM 7 5))) 439), (.str "cpy313.importlib.metadata._collections" 299), (some 147), (.ref 143), .none, 0⟩), #[]⟩),
(145, ⟨(.type "dict"), none, (.dict #[⟨(PyData.keyHash P "__module__"), (.str "__module__" 441), (.str "cpy313.importlib.metadata._collections" 299)⟩, ⟨(PyData.keyHash P "__name__"), (.str "__name__" 444), (.str "_make" 443)⟩, ⟨(PyData.keyHash P "__qualname__"), (.str "__qualname__" 447), (.str "Pair._make" 446)⟩, ⟨(PyData.keyHash P "__doc__"), (.str "__doc__" 449), (.str (docOf (fnB (stM 7 5))) 439)⟩, ⟨(PyData.keyHash P "__annotations__"), (.str "__annotations__" 451), (.ref 147)⟩] 5), #[]⟩),
(146, ⟨(.type "classmethod"), (some 145), (.fields #[(.ref 144), (.bool false)]), #[]⟩),
(147, ⟨(.type "dict"), none, (.dict #[] 0), #[]⟩),
(148, ⟨(.type "tuple"), none, (.seq #[(.ref 123)] 0), #[]⟩),
(149, ⟨(.type "tuple"), none, (.seq #[(.str "__class__" 456)] 0), #[]⟩),
(151, ⟨(.type "tuple"), none, (.seq #[(.str "self" 457), (.str "kwds" 458), (.str "result" 459)] 0), #[]⟩),
(152, ⟨(.type "tuple"), none, (.seq #[] 0), #[]⟩),
(154, ⟨(.type "code"), none, (.fields #[(.str "_replace" 453), (.str "Pair._replace" 454), (.str "/claim/cut.py" 455), (.int 77 0), (.int 1 0), (.int 1 0), (.int 0 0), (.int 11 0), (.ref 149), (.bool true), (.int 273 0), (.ref 150), .none, (.ref 151), (.ref 152), (.ref 153), (.int 460 0), (.int 77 0), (.str "/claim/cut.py" 461)]), #[]⟩),
(155, ⟨(.type "function"), none, (.func ⟨"_replace", "Pair._replace", fnP (stM 7 6), .stmts (fnB (stM 7 6)), fnS (stM 7 6), 3, [("__class__", 123)], .none, .none, (.str (docOf (fnB (stM 7 6))) 462), (.str "cpy313.importlib.metadata._collections" 299), none, (.ref 154), (.ref 148), 0⟩), #[]⟩),
(156, ⟨(.type "tuple"), none, (.seq #[] 0), #[]⟩),
(158, ⟨(.type "tuple"), none, (.seq #[(.str "self" 468)] 0), #[]⟩),
(159, ⟨(.type "tuple"), none, (.seq #[] 0), #[]⟩),
(161, ⟨(.type "code"), none, (.fields #[(.str "__repr__" 465), (.str "Pair.__repr__" 466), (.str "/claim/cut.py" 467), (.int 88 0), (.int 1 0), (.int 0 0), (.int 0 0), (.int 3 0), (.ref 156), (.bool true), (.int 273 0), (.ref 157), .none, (.ref 158), (.ref 159), (.ref 160), (.int 469 0), (.int 88 0), (.str "/claim/cut.py" 470)]), #[]⟩),
(162, ⟨(.type "function"), none, (.func ⟨"__repr__", "Pair.__repr__", fnP (stM 7 8), .stmts (fnB (stM 7 8)), fnS (stM 7 8), 3, [], .none, .none, (.str (docOf (fnB (stM 7 8))) 471), (.str "cpy313.importlib.metadata._collections" 299), none, (.ref 161), .none, 0⟩), #[]⟩),
(163, ⟨(.type "tuple"), none, (.seq #[] 0), #[]⟩),
(165, ⟨(.type "tuple"), none, (.seq #[(.str "self" 476)] 0), #[]⟩),
(166, ⟨(.type "tuple"), none, (.seq #[] 0), #[]⟩),
(168, ⟨(.type "code"), none, (.fields #[(.str "_asdict" 473), (.str "Pair._asdict" 474), (.str "/claim/cut.py" 475), (.int 92 0), (.int 1 0), (.int 0 0), (.int 0 0), (.int 3 0), (.ref 163), (.bool true), (.int 273 0), (.ref 164), .none, (.ref 165), (.ref 166), (.ref 167), (.int 477 0), (.int 92 0), (.str "/claim/cut.py" 478)]), #[]⟩),
(169, ⟨(.type "function"), none, (.func ⟨"_asdict", "Pair._asdict", fnP (stM 7 9), .stmts (fnB (stM 7 9)), fnS (stM 7 9), 3, [], .none, .none, .none, (.str "cpy313.importlib.metadata._collections" 299), none, (.ref 168), .none, 0⟩), #[]⟩),
(170, ⟨(.type "tuple"), none, (.seq #[] 0), #[]⟩),
(172, ⟨(.type "tuple"), none, (.seq #[(.str "self" 483)] 0), #[]⟩),
(173, ⟨(.type "tuple"), none, (.seq #[] 0), #[]⟩),
(175, ⟨(.type "code"), none, (.fields #[(.str "__getnewargs__" 480), (.str "Pair.__getnewargs__" 481), (.str "/claim/cut.py" 482), (.int 95 0), (.int 1 0), (.int 0 0), (.int 0 0), (.int 3 0), (.ref 170), (.bool true), (.int 273 0), (.ref 171), .none, (.ref 172), (.ref 173), (.ref 174), (.int 484 0), (.int 95 0), (.str "/claim/cut.py" 485)]), #[]⟩),
(176, ⟨(.type "function"), none, (.func ⟨"__getnewargs__", "Pair.__getnewargs__", fnP (stM 7 10), .stmts (fnB (stM 7 10)), fnS (stM 7 10), 3, [], .none, .none, (.str (docOf (fnB (stM 7 10))) 486), (.str "cpy313.importlib.metadata._collections" 299), none, (.ref 175), .none, 0⟩), #[]⟩),
(177, ⟨(.type "tuple"), none, (.seq #[(.str "name" 488), (.str "value" 489)] 0), #[]⟩),
(178, ⟨(.type "dict"), none, (.dict #[⟨(PyData.keyHash P "index"), (.str "index" 497), (.int 0 491)⟩, ⟨(PyData.keyHash P "__doc__"), (.str "__doc__" 499), (.str "Alias for field number 0" 492)⟩] 2), #[]⟩),
(179, ⟨(.ref 85), (some 178), .plain, #[]⟩),
(181, ⟨(.type "dict"), none, (.dict #[⟨(PyData.keyHash P "index"), (.str "index" 507), (.int 1 501)⟩, ⟨(PyData.keyHash P "__doc__"), (.str "__doc__" 509), (.str "Alias for field number 1" 502)⟩] 2), #[]⟩),
(182, ⟨(.ref 85), (some 181), .plain, #[]⟩),
(184, ⟨(.type "tuple"), none, (.seq #[] 0), #[]⟩),
(186, ⟨(.type "dict"), none, (.dict #[⟨(PyData.keyHash P "__module__"), (.str "__module__" 408), (.str "cpy313.importlib.metadata._collections" 299)⟩, ⟨(PyData.keyHash P "__firstlineno__"), (.str "__firstlineno__" 412), (.int 59 411)⟩, ⟨(PyData.keyHash P "__doc__"), (.str "__doc__" 414), (.str "Pair(name, value)" 413)⟩, ⟨(PyData.keyHash P "__slots__"), (.str "__slots__" 416), (.ref 128)⟩, ⟨(PyData.keyHash P "_fields"), (.str "_fields" 419), (.ref 129)⟩, ⟨(PyData.keyHash P "_field_defaults"), (.str "_field_defaults" 420), (.ref 130)⟩, ⟨(PyData.keyHash P "__new__"), (.str "__new__" 430), (.ref 188)⟩, ⟨(PyData.keyHash P "_make"), (.str "_make" 452), (.ref 146)⟩, ⟨(PyData.keyHash P "_replace"), (.str "_replace" 463), (.ref 155)⟩, ⟨(PyData.keyHash P "__replace__"), (.str "__replace__" 464), (.ref 155)⟩, ⟨(PyData.keyHash P "__repr__"), (.str "__repr__" 472), (.ref 162)⟩, ⟨(PyData.keyHash P "_asdict"), (.str "_asdict" 479), (.ref 169)⟩, ⟨(PyData.keyHash P "__getnewargs__"), (.str "__getnewargs__" 487), (.ref 176)⟩, ⟨(PyData.keyHash P "__match_args__"), (.str "__match_args__" 490), (.ref 177)⟩, ⟨(PyData.keyHash P "name"), (.str "name" 500), (.ref 179)⟩, ⟨(PyData.keyHash P "value"), (.str "value" 510), (.ref 182)⟩, ⟨(PyData.keyHash P "__static_attributes__"), (.str "__static_attributes__" 511), (.ref 184)⟩] 2), #[]⟩),
(187, ⟨(.type "type"), none, (.cls ⟨"Pair", [(.type "tuple")], [(.ref 187), (.type "tuple"), (.type "object")], 186, "Pair", false, [], [(.ref 210)], false, none, false⟩), #[(some (.ref 120)), none, (some (.str "Pair" 401)), (some (.str "Pair" 409)), (some .none), (some (.bool false))]⟩),
(188, ⟨(.type "staticmethod"), none, (.fields #[(.ref 137)]), #[]⟩),
(191, ⟨(.type "tuple"), none, (.seq #[(.ref 187)] 0), #[]⟩),
(198, ⟨(.type "tuple"), none, (.seq #[] 0), #[]⟩),
(200, ⟨(.type "tuple"), none, (.seq #[(.str "cls" 531), (.str "text" 532)] 0), #[]⟩),
(201, ⟨(.type "tuple"), none, (.seq #[] 0), #[]⟩),
(203, ⟨(.type "code"), none, (.fields #[(.str "parse" 528), (.str "Pair.parse" 529), (.str "/claim/cut.py" 530), (.int 103 0), (.int 2 0), (.int 0 0), (.int 0 0), (.int 3 0), (.ref 198), (.bool true), (.int 273 0), (.ref 199), .none, (.ref 200), (.ref 201), (.ref 202), (.int 533 0), (.int 103 0), (.str "/claim/cut.py" 534)]), #[]⟩),
(204, ⟨(.type "function"), none, (.func ⟨"parse", "Pair.parse", fnP (stM 8 0), .stmts (fnB (stM 8 0)), fnS (stM 8 0), 3, [], .none, .none, .none, (.str "cpy313.importlib.metadata._collections" 299), (some 207), (.ref 203), .none, 0⟩), #[]⟩),
(205, ⟨(.type "dict"), none, (.dict #[⟨(PyData.keyHash P "__module__"), (.str "__module__" 536), (.str "cpy313.importlib.metadata._collections" 299)⟩, ⟨(PyData.keyHash P "__name__"), (.str "__name__" 539), (.str "parse" 538)⟩, ⟨(PyData.keyHash P "__qualname__"), (.str "__qualname__" 542), (.str "Pair.parse" 541)⟩, ⟨(PyData.keyHash P "__doc__"), (.str "__doc__" 544), .none⟩, ⟨(PyData.keyHash P "__annotations__"), (.str "__annotations__" 546), (.ref 207)⟩] 5), #[]⟩),
(206, ⟨(.type "classmethod"), (some 205), (.fields #[(.ref 204), (.bool false)]), #[]⟩),
(207, ⟨(.type "dict"), none, (.dict #[] 0), #[]⟩),
(208, ⟨(.type "tuple"), none, (.seq #[] 0), #[]⟩),
(209, ⟨(.type "dict"), none, (.dict #[⟨(PyData.keyHash P "__module__"), (.str "__module__" 523), (.str "cpy313.importlib.metadata._collections" 299)⟩, ⟨(PyData.keyHash P "__firstlineno__"), (.str "__firstlineno__" 527), (.int 101 526)⟩, ⟨(PyData.keyHash P "parse"), (.str "parse" 547), (.ref 206)⟩, ⟨(PyData.keyHash P "__static_attributes__"), (.str "__static_attributes__" 548), (.ref 208)⟩, ⟨(PyData.keyHash P "__dict__"), (.str "__dict__" 550), (.ref 211)⟩, ⟨(PyData.keyHash P "__doc__"), (.str "__doc__" 551), .none⟩] 3), #[]⟩),
(210, ⟨(.type "type"), none, (.cls ⟨"Pair", [(.ref 187)], [(.ref 210), (.ref 187), (.type "tuple"), (.type "object")], 209, "Pair", true, [], [], false, none, false⟩), #[(some (.ref 191)), none, (some (.str "Pair" 516)), (some (.str "Pair" 524)), (some .none), (some (.bool false))]⟩),
(211, ⟨(.type "getset_descriptor"), none, (.fields #[(.str "__dict__" 549), (.ref 210), (.builtin "function.__dict__"), (.builtin "function.__dict__#set")]), #[]⟩),
(214, ⟨(.type "tuple"), none, (.seq #[] 0), #[]⟩),
(216, ⟨(.type "tuple"), none, (.seq #[(.str "x" 559)] 0), #[]⟩),
(217, ⟨(.type "tuple"), none, (.seq #[] 0), #[]⟩),
(219, ⟨(.type "code"), none, (.fields #[(.str "_law_row" 556), (.str "_law_row" 557), (.str "/claim/cut.py" 558), (.int 107 0), (.int 1 0), (.int 0 0), (.int 0 0), (.int 3 0), (.ref 214), (.bool true), (.int 273 0), (.ref 215), .none, (.ref 216), (.ref 217), (.ref 218), (.int 560 0), (.int 107 0), (.str "/claim/cut.py" 561)]), #[]⟩),
(220, ⟨(.type "function"), none, (.func ⟨"_law_row", "_law_row", fnP (stA 10), .stmts (fnB (stA 10)), fnS (stA 10), 3, [], .none, .none, .none, (.str "law_il0127_01" 554), none, (.ref 219), .none, 0⟩), #[]⟩),
(221, ⟨(.type "tuple"), none, (.seq #[] 0), #[]⟩),
(223, ⟨(.type "tuple"), none, (.seq #[(.str "x" 566), (.str "turn" 567), (.str "blanks" 568), (.str "pick" 569), (.str "line" 570)] 0), #[]⟩),
(224, ⟨(.type "tuple"), none, (.seq #[] 0), #[]⟩),
(226, ⟨(.type "code"), none, (.fields #[(.str "_law_line" 563), (.str "_law_line" 564), (.str "/claim/cut.py" 565), (.int 111 0), (.int 2 0), (.int 0 0), (.int 0 0), (.int 3 0), (.ref 221), (.bool true), (.int 273 0), (.ref 222), .none, (.ref 223), (.ref 224), (.ref 225), (.int 571 0), (.int 111 0), (.str "/claim/cut.py" 572)]), #[]⟩),
(227, ⟨(.type "function"), none, (.func ⟨"_law_line", "_law_line", fnP (stA 11), .stmts (fnB (stA 11)), fnS (stA 11), 3, [], .none, .none, .none, (.str "law_il0127_01" 554), none, (.ref 226), .none, 0⟩), #[]⟩),
(228, ⟨(.type "tuple"), none, (.seq #[] 0), #[]⟩),
(230, ⟨(.type "tuple"), none, (.seq #[(.str "script" 577), (.str "files" 578), (.str "turn" 579), (.str "k" 580), (.str "x" 581), (.str "side" 582)] 0), #[]⟩),
(231, ⟨(.type "tuple"), none, (.seq #[] 0), #[]⟩),
(233, ⟨(.type "code"), none, (.fields #[(.str "_law_files" 574), (.str "_law_files" 575), (.str "/claim/cut.py" 576), (.int 118 0), (.int 1 0), (.int 0 0), (.int 0 0), (.int 3 0), (.ref 228), (.bool true), (.int 273 0), (.ref 229), .none, (.ref 230), (.ref 231), (.ref 232), (.int 583 0), (.int 118 0), (.str "/claim/cut.py" 584)]), #[]⟩),
(234, ⟨(.type "function"), none, (.func ⟨"_law_files", "_law_files", fnP (stA 12), .stmts (fnB (stA 12)), fnS (stA 12), 3, [], .none, .none, .none, (.str "law_il0127_01" 554), none, (.ref 233), .none, 0⟩), #[]⟩),
(235, ⟨(.type "tuple"), none, (.seq #[] 0), #[]⟩),
(237, ⟨(.type "tuple"), none, (.seq #[(.str "lines" 589), (.str "book" 590), (.str "rows" 591), (.str "x" 592), (.str "turn" 593), (.str "pair" 594)] 0), #[]⟩),
(238, ⟨(.type "tuple"), none, (.seq #[] 0), #[]⟩),
(240, ⟨(.type "code"), none, (.fields #[(.str "_law_read" 586), (.str "_law_read" 587), (.str "/claim/cut.py" 588), (.int 127 0), (.int 1 0), (.int 0 0), (.int 0 0), (.int 3 0), (.ref 235), (.bool true), (.int 273 0), (.ref 236), .none, (.ref 237), (.ref 238), (.ref 239), (.int 595 0), (.int 127 0), (.str "/claim/cut.py" 596)]), #[]⟩),
(241, ⟨(.type "function"), none, (.func ⟨"_law_read", "_law_read", fnP (stA 13), .stmts (fnB (stA 13)), fnS (stA 13), 3, [], .none, .none, .none, (.str "law_il0127_01" 554), none, (.ref 240), .none, 0⟩), #[]⟩),
(242, ⟨(.type "tuple"), none, (.seq #[] 0), #[]⟩),
(244, ⟨(.type "tuple"), none, (.seq #[(.str "mine" 601), (.str "other" 602), (.str "missing" 603), (.str "k" 604), (.str "left" 605)] 0), #[]⟩),
(245, ⟨(.type "tuple"), none, (.seq #[] 0), #[]⟩),
(247, ⟨(.type "code"), none, (.fields #[(.str "_law_due" 598), (.str "_law_due" 599), (.str "/claim/cut.py" 600), (.int 138 0), (.int 2 0), (.int 0 0), (.int 0 0), (.int 3 0), (.ref 242), (.bool true), (.int 273 0), (.ref 243), .none, (.ref 244), (.ref 245), (.ref 246), (.int 606 0), (.int 138 0), (.str "/claim/cut.py" 607)]), #[]⟩),
(248, ⟨(.type "function"), none, (.func ⟨"_law_due", "_law_due", fnP (stA 14), .stmts (fnB (stA 14)), fnS (stA 14), 3, [], .none, .none, .none, (.str "law_il0127_01" 554), none, (.ref 247), .none, 0⟩), #[]⟩),
(249, ⟨(.type "tuple"), none, (.seq #[] 0), #[]⟩),
(252, ⟨(.type "code"), none, (.fields #[(.str "_law_under" 609), (.str "_law_under" 610), (.str "/claim/cut.py" 611), (.int 148 0), (.int 2 0), (.int 0 0), (.int 0 0), (.int 3 0), (.ref 249), (.bool true), (.int 273 0), (.ref 250), .none, .none, .none, (.ref 251), (.int 612 0), (.int 148 0), (.str "/claim/cut.py" 613)]), #[]⟩),
(253, ⟨(.type "function"), none, (.func ⟨"_law_under", "_law_under", fnP (stA 15), .stmts (fnB (stA 15)), fnS (stA 15), 3, [], .none, .none, .none, (.str "law_il0127_01" 554), none, (.ref 252), .none, 0⟩), #[]⟩),
(254, ⟨(.type "tuple"), none, (.seq #[] 0), #[]⟩),
(257, ⟨(.type "code"), none, (.fields #[(.str "_law_names" 615), (.str "_law_names" 616), (.str "/claim/cut.py" 617), (.int 150 0), (.int 2 0), (.int 0 0), (.int 0 0), (.int 3 0), (.ref 254), (.bool true), (.int 273 0), (.ref 255), .none, .none, .none, (.ref 256), (.int 618 0), (.int 150 0), (.str "/claim/cut.py" 619)]), #[]⟩),
(258, ⟨(.type "function"), none, (.func ⟨"_law_names", "_law_names", fnP (stA 16), .stmts (fnB (stA 16)), fnS (stA 16), 3, [], .none, .none, .none, (.str "law_il0127_01" 554), none, (.ref 257), .none, 0⟩), #[]⟩),
(259, ⟨(.type "tuple"), none, (.seq #[] 0), #[]⟩),
(262, ⟨(.type "code"), none, (.fields #[(.str "law" 621), (.str "law" 622), (.str "/claim/cut.py" 623), (.int 156 0), (.int 1 0), (.int 0 0), (.int 0 0), (.int 3 0), (.ref 259), (.bool true), (.int 273 0), (.ref 260), .none, .none, .none, (.ref 261), (.int 624 0), (.int 156 0), (.str "/claim/cut.py" 625)]), #[]⟩),
(263, ⟨(.type "function"), none, (.func ⟨"law", "law", fnP (stA 17), .stmts (fnB (stA 17)), fnS (stA 17), 3, [], .none, .none, .none, (.str "law_il0127_01" 554), none, (.ref 262), .none, 0⟩), #[]⟩)]
set_option simprocs false in
set_option maxHeartbeats 8000000 in
/-- the same with the places read out -/
noncomputable def kSig : { K : Params → Frag // K = kHeap0 } := ⟨_, by
  unfold kHeap0
  dsimp only [fnP, fnB, fnS, stA, stM, clB, nthS, docOf, PySem.Challenge.pw_il0127_01]⟩
noncomputable def kHeap : Params → Frag := kSig.1
end Mine

set_option maxRecDepth 100000
namespace Mine
open PySem PySem.W PySem.Spec PySem.Calls PyProof.Rows
abbrev rr : OpenRow := PySem.Challenge.rw_il0127_01.row
abbrev tops : List PySem.Str := [PySem.Str.ofString "_tuplegetter", PySem.Str.ofString "Pair"]
abbrev kAs : List Addr := [2, 3, 33, 35, 36, 38, 39, 40, 42, 43, 45, 46, 54, 56, 57, 59, 60, 61, 62, 64, 65, 67, 68, 69, 71, 72, 74,
              75, 76, 78, 79, 81, 82, 83, 84, 85, 86, 87, 90, 93, 98, 99, 101, 102, 104, 105, 106, 108, 109, 111, 112,
              113, 114, 115, 116, 117, 120, 123, 128, 129, 130, 131, 133, 134, 136, 137, 138, 140, 141, 143, 144, 145,
              146, 147, 148, 149, 151, 152, 154, 155, 156, 158, 159, 161, 162, 163, 165, 166, 168, 169, 170, 172, 173,
              175, 176, 177, 178, 179, 181, 182, 184, 186, 187, 188, 191, 198, 200, 201, 203, 204, 205, 206, 207, 208,
              209, 210, 211, 214, 216, 217, 219, 220, 221, 223, 224, 226, 227, 228, 230, 231, 233, 234, 235, 237, 238,
              240, 241, 242, 244, 245, 247, 248, 249, 252, 253, 254, 257, 258, 259, 262, 263]
noncomputable abbrev hk0 : Hook := kmHook kHeap kAs (fun _ => by kernel_rfl) [107]
set_option maxHeartbeats 8000000 in
theorem left0 : LeftO rr.prog view0 tops (fun s => xlAt view0 [] s && recOk rr.records s) hk0.obs hk0.val 4574 := by
  refine left_of_run fun w => ?_
  unfold openT frontT
  rw [Fast.te1435165496053646825, Fast.te10156331382660048174, Fast.te11892475500146522536, Fast.te14364793385576792824, Fast.te14289696077712309145, Fast.te6613529449190102663, Fast.te8920871248978507458, Fast.te5923862056798008813, Fast.te4187177175401517315]
  kernel_rfl
end Mine

set_option maxRecDepth 100000
namespace Mine
open PySem PySem.W PySem.Spec PySem.Calls PyProof.Rows

abbrev pw : Program := PySem.Challenge.pw_il0127_01
noncomputable abbrev KK (w : World) : Frag := Mine.kHeap w.params

abbrev Loc := Str → Option Value
abbrev Led := List (Addr × Obj)
abbrev upd (m : Loc) (x : Str) (v : Value) : Loc := fun y => if y = x then some v else m y

/-- the state over one base heap: the frame's names and the objects that the call has made -/
structure Inv0 (h₀ : Heap) (L : Addr) (h : Heap) (m : Loc) (σ : Led) : Prop where
  F : Fr h₀ L h m
  N : News h₀ L h σ
  D : (σ.map (·.1)).Nodup

structure Cx where
  w : World
  A : Around
  Z : Shared
  bs : Heap
  h₀ : Heap
  fs : List Addr
  L : Addr

/-- the state as the proofs see it: the base heap as it is now (the frames below may have got other slots) -/
structure Inv (C : Cx) (h : Heap) (m : Loc) (σ : Led) : Prop where
  x : ∃ g, C.bs.StaysIn g ∧ KtsTurn C.fs C.h₀ g ∧ Inv0 g C.L h m σ

@[reducible] def Cx.M (C : Cx) : Model := model pw C.w
@[reducible] def Cx.sh (C : Cx) (h : Heap) (tk : Nat) : Shared := ⟨h, C.Z.gens, C.Z.drawn, tk, C.Z.os⟩

def Ends {α : Type} (C : Cx) (Q : α → Loc → Led → Prop) (v : α) (s' : Shared) : Prop :=
  ∃ h' tk' m' σ', s' = C.sh h' tk' ∧ Inv C h' m' σ' ∧ Q v m' σ'

def Ev {α : Type} (C : Cx) (t : Sem α) (m : Loc) (σ : Led) (Q : α → Loc → Led → Prop) : Prop :=
  ∀ E h tk, Inv C h m σ → wpAny C.M C.A t (Ends C Q) E (C.sh h tk)

section
variable {α β γ : Type} {C : Cx} {m : Loc} {σ : Led}

theorem Ends.intro {Q : α → Loc → Led → Prop} {v : α} {h : Heap} {tk : Nat} (I : Inv C h m σ) (q : Q v m σ) : Ends C Q v (C.sh h tk) :=
  ⟨h, tk, m, σ, rfl, I, q⟩

theorem Ev.of {t : Sem α} {Q : α → Loc → Led → Prop} {E : Value → Shared → Prop} (H : Ev C t m σ Q) {h : Heap} {tk : Nat} (I : Inv C h m σ) {R : α → Shared → Prop}
    (k : ∀ v h' tk' m' σ', Inv C h' m' σ' → Q v m' σ' → R v (C.sh h' tk')) : wpAny C.M C.A t R E (C.sh h tk) :=
  wpAny_mono (H E h tk I) (fun v s' ⟨h', tk', m', σ', e, I', q⟩ => by subst e; exact k v h' tk' m' σ' I' q) fun _ _ x => x

theorem Ev.mono {t : Sem α} {Q Q' : α → Loc → Led → Prop} (H : Ev C t m σ Q) (k : ∀ v m' σ', Q v m' σ' → Q' v m' σ') : Ev C t m σ Q' :=
  fun _ _ _ I => H.of I fun _ _ _ _ _ I' q => Ends.intro I' (k _ _ _ q)

theorem Ev.pure {a : α} {Q : α → Loc → Led → Prop} (q : Q a m σ) : Ev C (Pure.pure a : Sem α) m σ Q := fun _ _ _ I => wpAny_pure (Ends.intro I q)

/-- one after the other -/
theorem Ev.seq {t : Sem α} {f : α → Sem β} {Q : β → Loc → Led → Prop} {E : Value → Shared → Prop} (H : Ev C t m σ fun a m' σ' => Ev C (f a) m' σ' Q) {h : Heap} {tk : Nat} (I : Inv C h m σ) :
    wpAny C.M C.A t (fun a s => wpAny C.M C.A (f a) (Ends C Q) E s) E (C.sh h tk) := H.of I fun _ _ _ _ _ I' q => q _ _ _ I'
theorem Ev.seq2 {t : Sem α} {f : α → Sem β} {g : α → β → Sem γ} {Q : γ → Loc → Led → Prop} {E : Value → Shared → Prop} (H : Ev C t m σ fun a m' σ' => Ev C (f a) m' σ' fun b m'' σ'' => Ev C (g a b) m'' σ'' Q) {h : Heap} {tk : Nat} (I : Inv C h m σ) :
    wpAny C.M C.A t (fun a s => wpAny C.M C.A (f a) (fun b s => wpAny C.M C.A (g a b) (Ends C Q) E s) E s) E (C.sh h tk) := H.of I fun _ _ _ _ _ I' q => q.seq I'

theorem Ev.bind {t : Sem α} {f : α → Sem β} {Q : β → Loc → Led → Prop} (H : Ev C t m σ fun a m' σ' => Ev C (f a) m' σ' Q) : Ev C (t >>= f) m σ Q :=
  fun _ _ _ I => wpAny_bind (H.seq I)
theorem Ev.holding {vs : List Value} {t : Sem α} {Q : α → Loc → Led → Prop} (H : Ev C t m σ Q) : Ev C (PySem.holding vs t) m σ Q := fun _ _ _ I => wpAny_holding (H _ _ _ I)

theorem Inv0.perm {h₀ h : Heap} {L : Addr} {σ' : Led} (I : Inv0 h₀ L h m σ) (p : σ.Perm σ') : Inv0 h₀ L h m σ' :=
  ⟨I.F, fun q hq => I.N q (p.mem_iff.mpr hq), (p.map _).nodup_iff.mp I.D⟩
theorem Inv0.sub {h₀ h : Heap} {L : Addr} {σ' : Led} (I : Inv0 h₀ L h m σ) (p : σ'.Sublist σ) : Inv0 h₀ L h m σ' :=
  ⟨I.F, fun q hq => I.N q (p.subset hq), (p.map _).nodup I.D⟩
theorem Inv0.get {h₀ h : Heap} {L a : Addr} {o : Obj} (I : Inv0 h₀ L h m σ) (hm : (a, o) ∈ σ) : h.get? a = some o := (I.N _ hm).1
theorem Inv0.ne_head {h₀ h : Heap} {L a : Addr} {o : Obj} (I : Inv0 h₀ L h m ((a, o) :: σ)) : ∀ p ∈ σ, p.1 ≠ a := fun p hp e => by
  have := I.D
  rw [List.map_cons, List.nodup_cons] at this
  exact this.1 (List.mem_map.mpr ⟨p, hp, e⟩)

theorem Inv0.push {h₀ h : Heap} {L : Addr} (I : Inv0 h₀ L h m σ) (o : Obj) (hf : o.isFreed = false) : Inv0 h₀ L (h.push o) m ((h.objs.size, o) :: σ) :=
  ⟨I.F.push _, I.N.push I.F o hf, by
    rw [List.map_cons, List.nodup_cons]
    exact ⟨fun hm => by
      obtain ⟨p, hp, e⟩ := List.mem_map.mp hm
      exact absurd (Heap.lt_size (I.N p hp).1) (by rw [e]; exact Nat.lt_irrefl _), I.D⟩⟩
theorem Inv0.lt {h₀ h : Heap} {L : Addr} (I : Inv0 h₀ L h m σ) : ∀ p ∈ σ, p.1 < h.objs.size := fun p hp => Heap.lt_size (I.N p hp).1
theorem Inv0.update {h₀ h : Heap} {L a : Addr} {o : Obj} (I : Inv0 h₀ L h m ((a, o) :: σ)) (f : Obj → Obj) (hf : (f o).isFreed = false) : Inv0 h₀ L (h.update a f) m ((a, f o) :: σ) := by
  have hs : Heap.SameBut a h (h.update a f) := Heap.SameBut.update ..
  have ha := I.N (a, o) (.head _)
  obtain ⟨oL, es, ep, hL, hLr⟩ := I.F.ns
  refine ⟨⟨⟨oL, es, ep, (hs.2 _ (Ne.symm ha.2.1)).trans hL, hLr⟩, fun b ob e => ?_, I.F.above⟩, fun p hp => ?_, I.D⟩
  · refine (hs.2 b fun q => ?_).trans (I.F.keep b ob e)
    subst q
    have := ha.2.2
    dsimp only at this
    rw [this] at e; cases e
  · rcases List.mem_cons.mp hp with rfl | hp
    · refine ⟨?_, ha.2⟩
      have := ha.1
      first | exact Heap.get?_update_self f this hf | exact Heap.get?_update_self _ this hf
    · have := I.N p (.tail _ hp)
      exact ⟨(hs.2 _ (I.ne_head p hp)).trans this.1, this.2⟩
theorem Inv0.kept {h₀ h h' : Heap} {L : Addr} (I : Inv0 h₀ L h m σ) (k : ∀ b o, h.get? b = some o → h'.get? b = some o) : Inv0 h₀ L h' m σ :=
  ⟨I.F.keeps k, fun p hp => ⟨k _ _ (I.N p hp).1, (I.N p hp).2⟩, I.D⟩
theorem Inv0.setHead {h₀ h h' : Heap} {L a : Addr} {o o' : Obj} (I : Inv0 h₀ L h m ((a, o) :: σ)) (hs : Heap.SameBut a h h') (e : h'.get? a = some o') : Inv0 h₀ L h' m ((a, o') :: σ) := by
  have ha := I.N (a, o) (.head _)
  obtain ⟨oL, es, ep, hL, hLr⟩ := I.F.ns
  refine ⟨⟨⟨oL, es, ep, (hs.2 _ (Ne.symm ha.2.1)).trans hL, hLr⟩, fun b ob eb => ?_, I.F.above⟩, fun p hp => ?_, I.D⟩
  · refine (hs.2 b fun q => ?_).trans (I.F.keep b ob eb)
    subst q
    have := ha.2.2
    dsimp only at this
    rw [this] at eb; cases eb
  · rcases List.mem_cons.mp hp with rfl | hp
    · exact ⟨e, ha.2⟩
    · have := I.N p (.tail _ hp)
      exact ⟨(hs.2 _ (I.ne_head p hp)).trans this.1, this.2⟩
theorem Inv0.dropHead {h₀ h h' : Heap} {L a : Addr} {o : Obj} (I : Inv0 h₀ L h m ((a, o) :: σ)) (hs : Heap.ExtBut a h h') : Inv0 h₀ L h' m σ := by
  have ha := I.N (a, o) (.head _)
  obtain ⟨oL, es, ep, hL, hLr⟩ := I.F.ns
  refine ⟨⟨⟨oL, es, ep, hs _ _ (Ne.symm ha.2.1) hL, hLr⟩, fun b ob e => hs b ob (fun q => ?_) (I.F.keep b ob e), I.F.above⟩, fun p hp => ?_, (List.nodup_cons.mp I.D).2⟩
  · subst q
    have := ha.2.2
    dsimp only at this
    rw [this] at e; cases e
  · have := I.N p (.tail _ hp)
    exact ⟨hs _ _ (I.ne_head p hp) this.1, this.2⟩
theorem Inv0.set {h₀ h h' : Heap} {L : Addr} {m' : Loc} (I : Inv0 h₀ L h m σ) (hn : h'.Ns L m') (hs : Heap.SameBut L h h') : Inv0 h₀ L h' m' σ := ⟨I.F.set hn hs, I.N.set hs, I.D⟩
theorem Inv0.extBut {h₀ h h' : Heap} {L : Addr} (I : Inv0 h₀ L h m σ) (he : Heap.ExtBut h.objs.size h h') : Inv0 h₀ L h' m σ :=
  ⟨I.F.extBut he (Nat.le_refl _), fun p hp => ⟨he _ _ (Nat.ne_of_lt (I.lt p hp)) (I.N p hp).1, (I.N p hp).2⟩, I.D⟩
theorem Inv.perm {h : Heap} {σ' : Led} (I : Inv C h m σ) (p : σ.Perm σ') : Inv C h m σ' := let ⟨g, b, t, I⟩ := I.x; ⟨g, b, t, I.perm p⟩
theorem Inv.sub {h : Heap} {σ' : Led} (I : Inv C h m σ) (p : σ'.Sublist σ) : Inv C h m σ' := let ⟨g, b, t, I⟩ := I.x; ⟨g, b, t, I.sub p⟩
theorem Inv.get {h : Heap} {a : Addr} {o : Obj} (I : Inv C h m σ) (hm : (a, o) ∈ σ) : h.get? a = some o := let ⟨_, _, _, I⟩ := I.x; I.get hm
theorem Inv.fun {h : Heap} {a : Addr} {o o' : Obj} (I : Inv C h m σ) (h1 : (a, o) ∈ σ) (h2 : (a, o') ∈ σ) : o = o' := Option.some.inj ((I.get h1).symm.trans (I.get h2))
theorem Inv.ne_head {h : Heap} {a : Addr} {o : Obj} (I : Inv C h m ((a, o) :: σ)) : ∀ p ∈ σ, p.1 ≠ a := let ⟨_, _, _, I⟩ := I.x; I.ne_head
theorem Inv.push {h : Heap} (I : Inv C h m σ) (o : Obj) (hf : o.isFreed = false) : Inv C (h.push o) m ((h.objs.size, o) :: σ) := let ⟨g, b, t, I⟩ := I.x; ⟨g, b, t, I.push o hf⟩
theorem Inv.lt {h : Heap} (I : Inv C h m σ) : ∀ p ∈ σ, p.1 < h.objs.size := let ⟨_, _, _, I⟩ := I.x; I.lt
theorem Inv.update {h : Heap} {a : Addr} {o : Obj} (I : Inv C h m ((a, o) :: σ)) (f : Obj → Obj) (hf : (f o).isFreed = false) : Inv C (h.update a f) m ((a, f o) :: σ) := let ⟨g, b, t, I⟩ := I.x; ⟨g, b, t, I.update f hf⟩
theorem Inv.kept {h h' : Heap} (I : Inv C h m σ) (k : ∀ b o, h.get? b = some o → h'.get? b = some o) : Inv C h' m σ := let ⟨g, b, t, I⟩ := I.x; ⟨g, b, t, I.kept k⟩
/-- an object of the head changed by another's hand -/
theorem Inv.setHead {h h' : Heap} {a : Addr} {o o' : Obj} (I : Inv C h m ((a, o) :: σ)) (hs : Heap.SameBut a h h') (e : h'.get? a = some o') : Inv C h' m ((a, o') :: σ) := let ⟨g, b, t, I⟩ := I.x; ⟨g, b, t, I.setHead hs e⟩
theorem Inv.dropHead {h h' : Heap} {a : Addr} {o : Obj} (I : Inv C h m ((a, o) :: σ)) (hs : Heap.ExtBut a h h') : Inv C h' m σ := let ⟨g, b, t, I⟩ := I.x; ⟨g, b, t, I.dropHead hs⟩
theorem Inv.set {h h' : Heap} {m' : Loc} (I : Inv C h m σ) (hn : h'.Ns C.L m') (hs : Heap.SameBut C.L h h') : Inv C h' m' σ := let ⟨g, b, t, I⟩ := I.x; ⟨g, b, t, I.set hn hs⟩
theorem Inv.extBut {h h' : Heap} (I : Inv C h m σ) (he : Heap.ExtBut h.objs.size h h') : Inv C h' m σ := let ⟨g, b, t, I⟩ := I.x; ⟨g, b, t, I.extBut he⟩
theorem Inv.ns {h : Heap} (I : Inv C h m σ) : h.Ns C.L m := let ⟨_, _, _, I⟩ := I.x; I.F.ns
theorem Inv.keep {h : Heap} (I : Inv C h m σ) : C.bs.StaysIn h := let ⟨_, b, _, I⟩ := I.x; fun a o e => I.F.keep a o (b a o e)
/-- the ledger's order is free, and an object may be forgotten -/
theorem Ev.perm {t : Sem α} {σ' : Led} {Q : α → Loc → Led → Prop} (p : σ.Perm σ') (H : Ev C t m σ' Q) : Ev C t m σ Q := fun _ _ _ I => H _ _ _ (I.perm p)
theorem Ev.sub {t : Sem α} {σ' : Led} {Q : α → Loc → Led → Prop} (p : σ'.Sublist σ) (H : Ev C t m σ' Q) : Ev C t m σ Q := fun _ _ _ I => H _ _ _ (I.sub p)
theorem Ev.drop {t : Sem α} {x : Addr × Obj} {Q : α → Loc → Led → Prop} (H : Ev C t m σ Q) : Ev C t m (x :: σ) Q := H.sub (List.sublist_cons_self _ _)
theorem Ev.drop2 {t : Sem α} {x y : Addr × Obj} {Q : α → Loc → Led → Prop} (H : Ev C t m (x :: σ) Q) : Ev C t m (x :: y :: σ) Q := H.sub (.cons_cons _ (List.sublist_cons_self _ _))
theorem Ev.front1 {t : Sem α} {x y : Addr × Obj} {Q : α → Loc → Led → Prop} (H : Ev C t m (y :: x :: σ) Q) : Ev C t m (x :: y :: σ) Q := H.perm (.swap ..)
theorem Ev.front {t : Sem α} {l : Led} {y : Addr × Obj} {Q : α → Loc → Led → Prop} (H : Ev C t m (y :: (l ++ σ)) Q) : Ev C t m (l ++ y :: σ) Q := H.perm List.perm_middle

/-- the ledger's part that is kept at an end -/
def Sp (σ' σ : Led) : Prop := ∃ τ, σ'.Sublist τ ∧ τ.Perm σ
theorem Sp.of {σ' : Led} (h : σ'.Sublist σ) : Sp σ' σ := ⟨σ, h, .refl _⟩
theorem Sp.perm {σ' τ : Led} (h : Sp σ' τ) (p : τ.Perm σ) : Sp σ' σ := let ⟨u, a, b⟩ := h; ⟨u, a, b.trans p⟩
theorem Inv.sp {h : Heap} {σ' : Led} (I : Inv C h m σ) (s : Sp σ' σ) : Inv C h m σ' := let ⟨_, a, b⟩ := s; (I.perm b.symm).sub a
theorem Ev.forget {t : Sem α} {Q : α → Loc → Led → Prop} (H : Ev C t m σ fun v m' σ' => ∃ σ'', Sp σ'' σ' ∧ Q v m' σ'') : Ev C t m σ Q := fun _ _ _ I => H.of I fun _ _ _ _ _ I' ⟨_, s, q⟩ => Ends.intro (I'.sp s) q

theorem Ev.alloc {o : Obj} {Q : Addr → Loc → Led → Prop} (hf : o.isFreed = false) (q : ∀ a, (∀ p ∈ σ, p.1 < a) → Q a m ((a, o) :: σ)) : Ev C (PySem.alloc o) m σ Q :=
  fun _ h tk I => wpAny_alloc (Ends.intro (C := C) (tk := tk) (I.push o hf) (q _ I.lt))

/-- an object of the ledger read, changed -/
theorem Ev.load {a : Addr} {o : Obj} {Q : Obj → Loc → Led → Prop} (hm : (a, o) ∈ σ) (q : Q o m σ) : Ev C (PySem.load a) m σ Q := fun _ _ _ I => wpAny_load (I.get hm) (Ends.intro I q)
theorem Ev.loadPart {a : Addr} {p : Option Value} {o : Obj} {Q : Obj → Loc → Led → Prop} (hm : (a, o) ∈ σ) (q : Q o m σ) : Ev C (PySem.loadPart a p) m σ Q := fun _ _ _ I => wpAny_loadPart (I.get hm) (Ends.intro I q)
theorem Ev.update {a : Addr} {o : Obj} {f : Obj → Obj} {Q : Unit → Loc → Led → Prop} (hf : (f o).isFreed = false) (q : Q () m ((a, f o) :: σ)) : Ev C (PySem.update a f) m ((a, o) :: σ) Q :=
  fun _ h tk I => wpAny_update (I.get (.head _)) (Ends.intro (C := C) (tk := tk) (I.update f hf) q)
theorem Ev.updatePart {a : Addr} {p : Option Value} {o : Obj} {f : Obj → Obj} {Q : Unit → Loc → Led → Prop} (hf : (f o).isFreed = false) (q : Q () m ((a, f o) :: σ)) : Ev C (PySem.updatePart a p f) m ((a, o) :: σ) Q :=
  fun _ h tk I => wpAny_updatePart (I.get (.head _)) (Ends.intro (C := C) (tk := tk) (I.update f hf) q)
end
end Mine

set_option maxRecDepth 100000
namespace Mine
open PySem PySem.W PySem.Spec PySem.Calls PyProof.Rows

structure Gd (n : Nat) (C : Cx) (env : Env) : Prop where
  X : (KK C.w).In C.bs
  T : ∃ p loose mean mg mb, Top p loose mean mg mb C.bs
  B : ∃ A₀ outer, Below A₀ C.bs outer C.h₀ ∧ C.A.frames = some (env :: outer) ∧ C.fs = outer.filterMap (·.frame)
  D : KtsDicts C.fs C.h₀
  hf : env.frame = some C.L
  hl : env.locals = C.L
  hk : env.scope.kind = .function
  hg : env.globals = mainGlobals
  hb : env.builtins = builtinsNs
  hd : C.A.depth + n < recursionLimit
  hu : C.A.units + 8 * n + 80 < cLine
  hh : C.A.handled = none

theorem Gd.le {n k : Nat} {C : Cx} {env : Env} (G : Gd n C env) (h : k ≤ n) : Gd k C env :=
  ⟨G.X, G.T, G.B, G.D, G.hf, G.hl, G.hk, G.hg, G.hb, by have := G.hd; omega, by have := G.hu; omega, G.hh⟩
/-- a frame below: the world is the same, and what stood stands -/
structure Up (C C' : Cx) : Prop where
  w : C'.w = C.w
  b : C'.bs = C.bs

section
variable {α : Type} {C : Cx} {m : Loc} {σ : Led} {env : Env} {n : Nat}

-- statements
theorem ev_nil {Q : Flow → Loc → Led → Prop} (q : Q .next m σ) : Ev C (execs [] env) m σ Q := fun _ _ _ I => wpAny_execs_nil (Ends.intro I q)
theorem ev_cons {st : Stmt} {rest : List Stmt} {Q : Flow → Loc → Led → Prop}
    (H : Ev C (exec st env) m σ fun f m' σ' => match f with | .next => Ev C (execs rest env) m' σ' Q | f => Q f m' σ') : Ev C (execs (st :: rest) env) m σ Q :=
  fun _ _ _ I => wpAny_execs_cons (H.of I fun f _ _ _ _ I' q => by cases f <;> first | exact q _ _ _ I' | exact Ends.intro I' q)
theorem ev_If {test : Expr} {body orelse : List Stmt} {pos : Pos} {Q : Flow → Loc → Led → Prop}
    (H : Ev C (isTrue test env (eval test env)) m σ fun b m' σ' => if b = true then Ev C (execs body env) m' σ' Q else Ev C (execs orelse env) m' σ' Q) : Ev C (exec (.If test body orelse pos) env) m σ Q :=
  fun _ _ _ I => wpAny_If (H.of I fun b _ _ _ _ I' q => by cases b <;> exact q _ _ _ I')
theorem ev_Return {e : Expr} {pos : Pos} {Q : Flow → Loc → Led → Prop} (H : Ev C (eval e env) m σ fun v => Q (.ret v)) : Ev C (exec (.Return (some e) pos) env) m σ Q :=
  fun _ _ _ I => wpAny_Return_some (H.of I fun _ _ _ _ _ I' q => Ends.intro I' q)
theorem ev_Continue {pos : Pos} {Q : Flow → Loc → Led → Prop} (q : Q .cont m σ) : Ev C (exec (.Continue pos) env) m σ Q := fun _ _ _ I => wpAny_Continue (Ends.intro I q)
theorem ev_AssignName {x : Str} {pos' pos : Pos} {value : Expr} {Q : Flow → Loc → Led → Prop} (H : Ev C (eval value env) m σ fun v m' σ' => Ev C (storeName env x v) m' σ' fun _ => Q .next)
    (hs : swapsWith value (some (.Name x pos')) pos.line env = pure false := by with_unfolding_all rfl) : Ev C (exec (.Assign [.Name x pos'] value pos) env) m σ Q :=
  fun _ _ _ I => wpAny_Assign_Name (H.of I fun _ _ _ _ _ I' q => q.of I' fun _ _ _ _ _ I'' q => Ends.intro I'' q) hs
theorem ev_AssignTuple {elts : List Expr} {k : Nat} {tpos pos : Pos} {value : Expr} {Q : Flow → Loc → Led → Prop} (H : Ev C (eval value env) m σ fun v m' σ' => Ev C (assign (.Tuple elts k tpos) env v) m' σ' fun _ => Q .next)
    (hs : swapsWithSole [.Tuple elts k tpos] value pos.line env = pure false := by with_unfolding_all rfl) (hw : swappedStores [.Tuple elts k tpos] value env = pure none := by with_unfolding_all rfl) :
    Ev C (exec (.Assign [.Tuple elts k tpos] value pos) env) m σ Q :=
  fun _ _ _ I => Assign_Tuple (H.of I fun _ _ _ _ _ I' q => q.of I' fun _ _ _ _ _ I'' q => Ends.intro I'' q) hs hw
theorem ev_Expr {e : Expr} {pos : Pos} {Q : Flow → Loc → Led → Prop} (H : Ev C (eval e env) m σ fun _ => Q .next)
    (hi : interactive env = false := by with_unfolding_all rfl) (hs : swapsWith e none pos.line env = pure false := by with_unfolding_all rfl) : Ev C (exec (.Expr e pos) env) m σ Q :=
  fun _ _ _ I => wpAny_Expr_any (H.of I fun _ _ _ _ _ I' q => Ends.intro I' q) hi hs

theorem ev_store {x : Str} {v : Value} {Q : Unit → Loc → Led → Prop} (G : Gd n C env) (q : Q () (upd m x v) σ) (hx : env.kindOf x = some .local := by with_unfolding_all rfl) : Ev C (storeName env x v) m σ Q :=
  fun _ _ _ I => wpAny_storeName_local hx (by rw [G.hl]; exact I.ns) (fun h' hn hs => by
    rw [G.hl] at hn hs
    exact Ends.intro (C := C) (I.set hn hs) q) (by rw [G.hk]; rfl)

-- expressions
theorem ev_local {x : Str} {pos : Pos} {v : Value} {Q : Value → Loc → Led → Prop} (G : Gd n C env) (hv : m x = some v) (q : Q v m σ) (hx : env.kindOf x = some .local := by with_unfolding_all rfl) (hd : (x == ("__debug__" : Str)) = false := by with_unfolding_all decide) :
    Ev C (eval (.Name x pos) env) m σ Q := fun _ _ _ I => wpAny_Name (wpAny_loadName_local G.hk hx (by rw [G.hl]; exact I.ns) hv (Ends.intro I q)) hd
theorem ev_global {x : Str} {pos : Pos} {v : Value} {Q : Value → Loc → Led → Prop} (G : Gd n C env) (e : nsIn (KK C.w) mainGlobals x = some (some v)) (q : Q v m σ) (hx : env.kindOf x = some .globalImplicit := by with_unfolding_all rfl) (hd : (x == ("__debug__" : Str)) = false := by with_unfolding_all decide) :
    Ev C (eval (.Name x pos) env) m σ Q := fun _ _ _ I => by
  obtain ⟨p, loose, mean, mg, mb, T⟩ := G.T
  exact Name_function_global G.hk hx (loadGlobal_global (env := env) (by rw [G.hg]; exact T.g.keeps I.keep) (mg_of G.X T.g e) (Ends.intro I q)) hd
theorem ev_builtin {x : Str} {pos : Pos} {v : Value} {Q : Value → Loc → Led → Prop} (G : Gd n C env) (e : nsIn (KK C.w) mainGlobals x = some none) (hv : bootBuiltins x = some v) (q : Q v m σ) (hn : x ≠ "__name__" := by with_unfolding_all decide) (hx : env.kindOf x = some .globalImplicit := by with_unfolding_all rfl) (hd : (x == ("__debug__" : Str)) = false := by with_unfolding_all decide) :
    Ev C (eval (.Name x pos) env) m σ Q := fun _ _ _ I => by
  obtain ⟨p, loose, mean, mg, mb, T⟩ := G.T
  exact Name_function_global G.hk hx (loadGlobal_builtin (env := env) (by rw [G.hg]; exact T.g.keeps I.keep) (mg_none_of G.X T.g e) (by rw [G.hb]; exact T.b.keeps I.keep) ((T.builtins x hn).trans hv) (Ends.intro I q)) hd

theorem ev_int {i : Int} {k : Nat} {pos : Pos} {Q : Value → Loc → Led → Prop} (q : ∀ t, Q (.int i t) m σ) : Ev C (eval (.Constant (.int i) k pos) env) m σ Q := fun _ _ _ I => wpAny_Constant_int (Ends.intro (C := C) I (q _))
theorem ev_str {x : Str} {k : Nat} {pos : Pos} {Q : Value → Loc → Led → Prop} (q : ∀ t, Q (.str x t) m σ) : Ev C (eval (.Constant (.str x) k pos) env) m σ Q := fun _ _ _ I => wpAny_Constant_str (Ends.intro (C := C) I (q _))
theorem ev_bool {b : Bool} {k : Nat} {pos : Pos} {Q : Value → Loc → Led → Prop} (q : Q (.bool b) m σ) : Ev C (eval (.Constant (.bool b) k pos) env) m σ Q := fun _ _ _ I => Constant_bool (Ends.intro I q)
theorem ev_none {k : Nat} {pos : Pos} {Q : Value → Loc → Led → Prop} (q : Q .none m σ) : Ev C (eval (.Constant .none k pos) env) m σ Q := fun _ _ _ I => Constant_none (Ends.intro I q)

theorem ev_BinOp {l r : Expr} {op : Operator} {pos : Pos} {Q : Value → Loc → Led → Prop} (H : Ev C (eval l env) m σ fun a m' σ' => Ev C (eval r env) m' σ' fun b m'' σ'' => Ev C (binaryOp op a b) m'' σ'' Q) : Ev C (eval (.BinOp l op r pos) env) m σ Q :=
  fun _ _ _ I => wpAny_BinOp (H.seq2 I)
theorem ev_Compare {l r : Expr} {op : CmpOp} {pos : Pos} {Q : Value → Loc → Led → Prop} (H : Ev C (eval l env) m σ fun a m' σ' => Ev C (eval r env) m' σ' fun b m'' σ'' => Ev C (compareOp op a b) m'' σ'' Q)
    (hm : behindInMarks op r = false := by with_unfolding_all rfl) : Ev C (eval (.Compare l [op] [r] pos) env) m σ Q := fun _ _ _ I => wpAny_Compare1 (H.seq2 I) hm
theorem ev_isCompare {l r : Expr} {op : CmpOp} {pos : Pos} {whole : Sem Value} {Q : Bool → Loc → Led → Prop} (H : Ev C (eval l env) m σ fun a m' σ' => Ev C (eval r env) m' σ' fun b m'' σ'' => Ev C (compareOp op a b) m'' σ'' fun c m''' σ''' => Ev C (truthy c) m''' σ''' Q)
    (hm : behindInMarks op r = false := by with_unfolding_all rfl) : Ev C (isTrue (.Compare l [op] [r] pos) env whole) m σ Q :=
  fun _ _ _ I => wpAny_isTrue_Compare1 (H.of I fun _ _ _ _ _ I' q => q.of I' fun _ _ _ _ _ I'' q => q.seq I'') hm
theorem ev_isPlain {e : Expr} {whole : Sem Value} {Q : Bool → Loc → Led → Prop} (H : Ev C whole m σ fun v m' σ' => Ev C (truthy v) m' σ' Q) (he : isTrue e env whole = (do let v ← whole; standAt e.pos; holding [v] (truthy v)) := by with_unfolding_all rfl) :
    Ev C (isTrue e env whole) m σ Q := fun _ _ _ I => by
  rw [he]
  exact wpAny_bind (H.of I fun _ _ _ _ _ I' q => wpAny_bind (wpAny_standAt (wpAny_holding (q _ _ _ I'))))
theorem ev_truthy_bool {b : Bool} {Q : Bool → Loc → Led → Prop} (q : Q b m σ) : Ev C (truthy (.bool b)) m σ Q := fun _ _ _ I => wpAny_truthy_bool (Ends.intro I q)
theorem ev_isOr {x : Expr} {rest : List Expr} {pos : Pos} {whole : Sem Value} {Q : Bool → Loc → Led → Prop}
    (H : Ev C (isTrue x env (eval x env)) m σ fun c m' σ' => if c = true then Q true m' σ' else Ev C (isTrue (.BoolOp .Or rest pos) env whole) m' σ' Q) : Ev C (isTrue (.BoolOp .Or (x :: rest) pos) env whole) m σ Q := fun _ _ _ I => by
  refine isTrue_or (H.of I fun c _ _ _ _ I' q => ?_)
  cases c
  · exact q _ _ _ I'
  · exact Ends.intro I' q
theorem ev_isOrNil {pos : Pos} {whole : Sem Value} {Q : Bool → Loc → Led → Prop} (q : Q false m σ) : Ev C (isTrue (.BoolOp .Or [] pos) env whole) m σ Q := fun _ _ _ I => isTrue_or_nil (Ends.intro I q)
theorem ev_And2 {a b : Expr} {pos : Pos} {Q : Value → Loc → Led → Prop}
    (H : Ev C (eval a env) m σ fun v m' σ' => Ev C (truthy v) m' σ' fun c m'' σ'' => if c = true then Ev C (eval b env) m'' σ'' Q else Q v m'' σ'') : Ev C (eval (.BoolOp .And [a, b] pos) env) m σ Q := fun _ _ _ I => by
  refine BoolOp_and (H.of I fun v _ _ _ _ I' q => q.of I' fun c _ _ _ _ I'' q => ?_)
  cases c
  · exact Ends.intro I'' q
  · exact BoolOp_one (q _ _ _ I'')

-- displays, calls' arguments
theorem ev_args_nil {pos : Pos} {Q : List Value → Loc → Led → Prop} (q : Q [] m σ) : Ev C (spliced (backTo pos (starEach [] env))) m σ Q := fun _ _ _ I => args_nil (Ends.intro I q)
theorem ev_args_cons {e : Expr} {rest : List Expr} {pos : Pos} {Q : List Value → Loc → Led → Prop}
    (H : Ev C (eval e env) m σ fun v m' σ' => Ev C (spliced (backTo pos (starEach rest env))) m' σ' fun vs => Q (v :: vs))
    (he : starEach (e :: rest) env = (false, eval e env) :: starEach rest env := by with_unfolding_all rfl) : Ev C (spliced (backTo pos (starEach (e :: rest) env))) m σ Q :=
  fun _ _ _ I => args_cons (H.of I fun _ _ _ _ _ I' q => q.of I' fun _ _ _ _ _ I'' q => Ends.intro I'' q) he
theorem ev_newList {vs : List Value} {Q : Value → Loc → Led → Prop} (q : ∀ a, (∀ p ∈ σ, p.1 < a) → Q (.ref a) m ((a, PySem.W.listOf vs.toArray 0) :: σ)) (hsz : vs.length ≤ sizeLine := by size_fits) : Ev C (newList vs) m σ Q :=
  fun _ _ tk I => wpAny_newObj_type (Ends.intro (C := C) (tk := tk) (I.push _ rfl) (q _ I.lt)) (by show vs.toArray.size ≤ sizeLine; rw [List.size_toArray]; exact hsz)
abbrev tupOf (its : Array Value) : Obj := { cls := .type "tuple", data := .seq its }
theorem ev_newTuple {vs : List Value} {Q : Value → Loc → Led → Prop} (q : ∀ a, (∀ p ∈ σ, p.1 < a) → Q (.ref a) m ((a, tupOf vs.toArray) :: σ)) (hsz : vs.length ≤ sizeLine := by size_fits) : Ev C (newTuple vs) m σ Q :=
  fun _ _ tk I => wpAny_newObj_type (Ends.intro (C := C) (tk := tk) (I.push _ rfl) (q _ I.lt)) (by show vs.toArray.size ≤ sizeLine; rw [List.size_toArray]; exact hsz)
theorem ev_List {elts : List Expr} {pos : Pos} {Q : Value → Loc → Led → Prop} (H : Ev C (spliced (backTo pos (starEach elts env))) m σ fun vs m' σ' => Ev C (newList vs) m' σ' Q) : Ev C (eval (.List elts pos) env) m σ Q := fun _ _ _ I => List_ (H.seq I)
theorem ev_Tuple {elts : List Expr} {k : Nat} {pos : Pos} {Q : Value → Loc → Led → Prop} (H : Ev C (spliced (backTo pos (starEach elts env))) m σ fun vs m' σ' => Ev C (newTuple vs) m' σ' Q) : Ev C (eval (.Tuple elts k pos) env) m σ Q := fun _ _ _ I => Tuple_ (H.seq I)

theorem ev_Call {func : Expr} {args : List Expr} {pos : Pos} {Q : Value → Loc → Led → Prop} (H : Ev C (eval func env) m σ fun f m' σ' => Ev C (callWith pos f [] (backTo pos (starEach args env)) []) m' σ' Q)
    (he : eval (.Call func args [] pos) env = (do callWith pos (← eval func env) [] (backTo pos (starEach args env)) (backToKw pos (keywordEach [] env))) := by with_unfolding_all rfl) : Ev C (eval (.Call func args [] pos) env) m σ Q := fun _ _ _ I => Call_ (H.seq I) he
theorem ev_MethodCall {o : Expr} {name : Str} {apos pos : Pos} {args : List Expr} {pl : Sem Bool} {Q : Value → Loc → Led → Prop}
    (H : Ev C (eval o env) m σ fun ov m' σ' => Ev C (getMethod ov name pl) m' σ' fun fx m'' σ'' => Ev C (callWith pos fx.1 fx.2 (backTo pos (starEach args env)) []) m'' σ'' Q)
    (he : eval (.Call (.Attribute o name apos) args [] pos) env = (do
      let ov ← eval o env
      standAt apos.atName
      let (f, first) ← holding [ov] (getMethod ov name pl)
      callWith pos f first (backTo pos (starEach args env)) []) := by with_unfolding_all rfl) : Ev C (eval (.Call (.Attribute o name apos) args [] pos) env) m σ Q := fun _ _ _ I => MethodCall_ (H.seq2 I) he
/-- a built-in called, its first arguments at hand -/
theorem ev_callB1 {pos : Pos} {id : String} {first : List Value} {e : Expr} {rest : List Expr} {Q : Value → Loc → Led → Prop} (H : Ev C (spliced (backTo pos (starEach (e :: rest) env))) m σ fun vs m' σ' => Ev C (call (.builtin id) (first ++ vs)) m' σ' Q)
    (he : starEach (e :: rest) env = (false, eval e env) :: starEach rest env := by with_unfolding_all rfl) (hp : (backTo pos (starEach rest env)).any (·.1) = false := by with_unfolding_all rfl) :
    Ev C (callWith pos (.builtin id) first (backTo pos (starEach (e :: rest) env)) []) m σ Q := fun _ _ _ I => callWith_method1 (H.seq I) he hp
theorem ev_callB0 {pos : Pos} {id : String} {first : List Value} {Q : Value → Loc → Led → Prop} (H : Ev C (call (.builtin id) first) m σ Q) : Ev C (callWith pos (.builtin id) first (backTo pos (starEach [] env)) []) m σ Q := fun _ _ _ I => callWith_method0 (H _ _ _ I)
theorem ev_callT1 {pos : Pos} {T : String} {e : Expr} {rest : List Expr} {Q : Value → Loc → Led → Prop} (H : Ev C (spliced (backTo pos (starEach (e :: rest) env))) m σ fun vs m' σ' => Ev C (call (.type T) vs) m' σ' Q)
    (he : starEach (e :: rest) env = (false, eval e env) :: starEach rest env := by with_unfolding_all rfl) (hp : (backTo pos (starEach rest env)).any (·.1) = false := by with_unfolding_all rfl) :
    Ev C (callWith pos (.type T) [] (backTo pos (starEach (e :: rest) env)) []) m σ Q := fun _ _ _ I => callWith_type1 (H.seq I) he hp
/-- one of the text's own called -/
theorem ev_callK1 {pos : Pos} {f : Value} {first : List Value} {e : Expr} {rest : List Expr} {Q : Value → Loc → Led → Prop} (G : Gd n C env) (hk : keepIn (KK C.w) f = true)
    {env' : Env} (H : Ev C (spliced (backTo pos (starEach (e :: rest) env'))) m σ fun vs m' σ' => Ev C (call f (first ++ vs)) m' σ' Q)
    (he : starEach (e :: rest) env' = (false, eval e env') :: starEach rest env' := by with_unfolding_all rfl) (hp : (backTo pos (starEach rest env')).any (·.1) = false := by with_unfolding_all rfl) :
    Ev C (callWith pos f first (backTo pos (starEach (e :: rest) env')) []) m σ Q :=
  fun _ _ _ I => callWith_K G.X hk (H.of I fun _ _ _ _ _ I' q => ⟨G.X.keeps I'.keep, q _ _ _ I'⟩) he hp

theorem ev_Subscript {value slice : Expr} {pos : Pos} {Q : Value → Loc → Led → Prop} (H : Ev C (eval value env) m σ fun o m' σ' => Ev C (eval slice env) m' σ' fun i m'' σ'' => Ev C (subscriptTail value slice o i) m'' σ'' Q) : Ev C (eval (.Subscript value slice pos) env) m σ Q := fun _ _ _ I => Subscript_ (H.seq2 I)
abbrev sliceOf (l u st : Value) : Obj := { cls := .type "slice", data := .fields #[l, u, st] }
theorem ev_Slice {lower upper step : Option Expr} {pos : Pos} {Q : Value → Loc → Led → Prop} (H : Ev C (evalPart lower env) m σ fun l m' σ' => Ev C (evalPart upper env) m' σ' fun u m'' σ'' => Ev C (evalPart step env) m'' σ'' fun st m''' σ''' =>
      ∀ a, (∀ p ∈ σ''', p.1 < a) → Q (.ref a) m''' ((a, sliceOf l u st) :: σ''')) : Ev C (eval (.Slice lower upper step pos) env) m σ Q :=
  fun _ _ _ I => wpAny_Slice (H.of I fun _ _ _ _ _ I' q => q.of I' fun _ _ _ _ _ I'' q => q.of I'' fun _ _ tk _ _ I₃ q => Ends.intro (C := C) (tk := tk) (I₃.push _ rfl) (q _ I₃.lt))
theorem ev_part_none {Q : Value → Loc → Led → Prop} (q : Q .none m σ) : Ev C (evalPart none env) m σ Q := Ev.pure q
theorem ev_part_some {e : Expr} {Q : Value → Loc → Led → Prop} (H : Ev C (eval e env) m σ Q) : Ev C (evalPart (some e) env) m σ Q := H

-- ints
theorem ev_add {a b : Int} {t u : Tok} {Q : Value → Loc → Led → Prop} (q : ∀ t, Q (.int (a + b) t) m σ) : Ev C (binaryOp .Add (.int a t) (.int b u)) m σ Q := fun _ _ _ I => PyProof.Rows.add_int (Ends.intro (C := C) I (q _))
theorem ev_mul {a b : Int} {t u : Tok} {Q : Value → Loc → Led → Prop} (q : ∀ t, Q (.int (a * b) t) m σ) (hm : IntMulOk a b := by mul_fits) : Ev C (binaryOp .Mult (.int a t) (.int b u)) m σ Q := fun _ _ _ I => PyProof.Rows.mul_int (Ends.intro (C := C) I (q _)) hm
theorem ev_mod {a b : Int} {t u : Tok} {Q : Value → Loc → Led → Prop} (hb : b ≠ 0) (q : ∀ t, Q (.int (a.fmod b) t) m σ) : Ev C (binaryOp .Mod (.int a t) (.int b u)) m σ Q := fun _ _ _ I => mod_int' hb (Ends.intro (C := C) I (q _))
theorem ev_floordiv {a b : Int} {t u : Tok} {Q : Value → Loc → Led → Prop} (hb : b ≠ 0) (q : ∀ t, Q (.int (a.fdiv b) t) m σ) (hp : Builtin.divisionGoesByPylong a b = false := by exact PyProof.noPylong_of_log2 (by decide +kernel)) : Ev C (binaryOp .FloorDiv (.int a t) (.int b u)) m σ Q := fun _ _ _ I => PyProof.Rows.floordiv_int hb (Ends.intro (C := C) I (q _)) (.inl hp)
theorem ev_eq_int {a b : Int} {t u : Tok} {Q : Value → Loc → Led → Prop} (q : Q (.bool (a == b)) m σ) : Ev C (compareOp .Eq (.int a t) (.int b u)) m σ Q := fun _ _ _ I => PyProof.Rows.eq_int (Ends.intro I q)
theorem ev_gt_int {a b : Int} {t u : Tok} {Q : Value → Loc → Led → Prop} (q : Q (.bool (decide (b < a))) m σ) : Ev C (compareOp .Gt (.int a t) (.int b u)) m σ Q := fun _ _ _ I => PyProof.Rows.gt_int (Ends.intro I q)
end
end Mine

set_option maxRecDepth 100000
namespace Mine
open PySem PySem.W PySem.Spec PySem.Calls PyProof.Rows

section
variable {α : Type} {C : Cx} {m : Loc} {σ : Led} {env : Env} {n : Nat}

/-- the ground for a call, and the way back -/
theorem ground {h : Heap} (G : Gd n C env) (I : Inv C h m σ) : ∃ outer, C.A.frames = some (env :: outer) ∧ (env :: outer).filterMap (·.frame) = C.L :: C.fs ∧
    Below C.A C.bs (env :: outer) (hideAll h (σ.map (·.1))) ∧ KtsDicts (C.L :: C.fs) (hideAll h (σ.map (·.1))) ∧
    (∀ g' h' L' m' σ', KtsTurn (C.L :: C.fs) (hideAll h (σ.map (·.1))) g' → Inv0 g' L' h' m' σ' → Inv C h' m σ') ∧
    ∀ g', KtsTurn (C.L :: C.fs) (hideAll h (σ.map (·.1))) g' → ∃ A₀ g₂, C.bs.StaysIn g₂ ∧ KtsTurn C.fs C.h₀ g₂ ∧ Fr g₂ C.L g' m ∧ Below A₀ C.bs outer g₂ := by
  obtain ⟨A₀, outer, K, hA, hfs⟩ := G.B
  obtain ⟨g, b, t, J⟩ := I.x
  have K' : Below A₀ C.bs outer g := ⟨K.stack, b, K.frames.of_keeps fun a o e _ => let ⟨_, hs⟩ := t.up e; ⟨_, hs, rfl⟩⟩
  obtain ⟨FG, BG, st, _⟩ := groundX (s := C.sh h 0) (R := fun _ _ => True) K' J.F J.N hA G.hf G.hk
  have hl : (env :: outer).filterMap (·.frame) = C.L :: C.fs := by rw [List.filterMap_cons, G.hf, hfs]
  have turn : ∀ g', KtsTurn (C.L :: C.fs) (hideAll h (σ.map (·.1))) g' → ∃ g₂, C.bs.StaysIn g₂ ∧ KtsTurn C.fs C.h₀ g₂ ∧ Fr g₂ C.L g' m ∧ Below A₀ C.bs outer g₂ := by
    intro g' T
    have nL : g.get? C.L = none := kts_self J.F
    have inn : ∀ b ∈ C.fs, C.bs.get? b = none ∧ ∃ o, g.get? b = some o := fun b hb => by
      rw [hfs] at hb
      obtain ⟨h1, o, ho, _⟩ := K'.frames.mem hb
      exact ⟨h1, o, ho⟩
    obtain ⟨T₂, S⟩ := kts_turn_at (h := g') (fs := C.fs) (g := g) (fun b hb => (inn b hb).2)
      (fun b o e nm => T.other b o (st b o e) fun hm => by
        rcases List.mem_cons.mp hm with rfl | hm
        · rw [nL] at e; cases e
        · exact nm hm)
      (fun b o e _ => T.up (st b o e))
    have bb : C.bs.StaysIn (ktsHeap g' C.fs g) := fun b' o e => T₂.other b' o (b b' o e) fun hm => by rw [(inn b' hm).1] at e; cases e
    refine ⟨_, bb, t.trans T₂, ⟨?_, S, by rw [T₂.size]; exact J.F.above⟩, ⟨K.stack, bb, K'.frames.of_keeps fun a o e _ => let ⟨_, hs⟩ := T₂.up e; ⟨_, hs, rfl⟩⟩⟩
    obtain ⟨oL, es, ep, hL, hLr⟩ := FG.ns
    obtain ⟨sl, hs⟩ := T.up hL
    exact ⟨_, es, ep, hs, hLr⟩
  refine ⟨outer, hA, hl, BG, fun b hb => ?_, fun g' h' L' m' σ' T J' => ?_, fun g' T => ⟨A₀, turn g' T⟩⟩
  · rcases List.mem_cons.mp hb with rfl | hb
    · obtain ⟨oL, es, ep, hL, hLd, _⟩ := FG.ns
      exact ⟨oL, es, ep, hL, hLd⟩
    · obtain ⟨o, es, e', ho, hd⟩ := (G.D.turn t) b hb
      exact ⟨o, es, e', st _ _ ho, hd⟩
  · obtain ⟨g₂, bb, T₂, F₂, _⟩ := turn g' T
    refine ⟨g₂, bb, T₂, F₂.of_stays (fun b o e => J'.F.keep b o (F₂.keep b o e)) (Heap.UpToSlots.of_keeps J'.F.keep), fun p hp => ⟨(J'.N p hp).1, fun q => ?_, ?_⟩, J'.D⟩
    · obtain ⟨oL, _, _, hL, _⟩ := F₂.ns
      have := (J'.N p hp).2.2
      rw [q, hL] at this; cases this
    · cases q : g₂.get? p.1 with
      | none => rfl
      | some o => have := F₂.keep _ _ q; rw [(J'.N p hp).2.2] at this; cases this

theorem Gd.def {C : Cx} {env env' : Env} {H : Heap} {L' : Addr} {outer : List Env} (G : Gd (n + 1) C env) (hA : C.A.frames = some (env :: outer)) (hl : (env :: outer).filterMap (·.frame) = C.L :: C.fs) (B : Below C.A C.bs (env :: outer) H) (D : KtsDicts (C.L :: C.fs) H)
    (h1 : env'.frame = some L') (h2 : env'.locals = L') (h3 : env'.scope.kind = .function) (h4 : env'.globals = mainGlobals) (h5 : env'.builtins = builtinsNs) :
    Gd n ⟨C.w, C.A.deeper env', C.Z, C.bs, H, C.L :: C.fs, L'⟩ env' :=
  ⟨G.X, G.T, ⟨C.A, env :: outer, B, Around.frames_deeper hA, hl.symm⟩, D, h1, h2, h3, h4, h5, by
    have := G.hd
    show C.A.depth + 1 + n < recursionLimit
    omega, by
    have := G.hu
    show C.A.units + 3 + 8 * n + 80 < cLine
    omega, G.hh⟩
theorem Inv.enter {h H : Heap} (I : Inv C h m σ) (e : H = hideAll h (σ.map (·.1))) {h₁ : Heap} {m' : Loc} (hns : h₁.Ns h.objs.size m') (hk : ∀ b o, h.get? b = some o → h₁.get? b = some o) : Inv0 H h.objs.size h₁ m' σ := by
  subst e
  exact ⟨⟨hns, fun b o e => hk b o (of_hideAll _ e), Nat.le_of_eq (hideAll_size _ _)⟩, fun p hp => ⟨hk _ _ (I.get hp), Nat.ne_of_lt (I.lt p hp), hideAll_none _ (List.mem_map_of_mem hp)⟩, let ⟨_, _, _, J⟩ := I.x; J.D⟩

theorem ev_def {name qual : Str} {params : Arguments} {body : List Stmt} {scope : Scope} {dV kV doc pm cdv ct oc : Value} {an od : Option Addr} {osl : Array (Option Value)} {f : Addr} {vs : List Value} {binds : List (Str × Value)} {Q : Value → Loc → Led → Prop}
    (G : Gd (n + 1) C env)
    (ho : (KK C.w).lookup f = some ⟨oc, od, .func (fnOf name qual params body scope dV kV doc pm an cdv ct), osl⟩) (hcd : codeIn (KK C.w) cdv qual = true)
    (hbind : ∀ s, BindsTo s (fnOf name qual params body scope dV kV doc pm an cdv ct) ⟨vs, []⟩ binds) (hloc : ∀ y ∈ binds, scope.names.lookup y.1 = some .local)
    (H : ∀ C' : Cx, Gd n C' (envOf qual scope C'.L f cdv) → Up C C' → Ev C' (execs body (envOf qual scope C'.L f cdv)) (fun y => binds.reverse.lookup y) σ fun fl _ σ' => Q (match fl with | .ret v => v | _ => .none) m σ')
    (hco : scope.isCoroutine = false := by with_unfolding_all rfl) (hgen : scope.isGenerator = false := by with_unfolding_all rfl) (hk : scope.kind = .function := by with_unfolding_all rfl) (hcell : ∀ x ∈ scope.names, x.2 ≠ .cell := by with_unfolding_all decide) :
    Ev C (call (.ref f) vs) m σ Q := fun E h tk I => by
  obtain ⟨outer, hA, hl, B, D, back, _⟩ := ground G I
  obtain ⟨p, loose, mean, mg, mb, T⟩ := G.T
  have X : (KK C.w).In h := G.X.keeps I.keep
  refine wpAny_call ?_
  refine codeAny_call_def (fd := fnOf name qual params body scope dV kV doc pm an cdv ct) (body := body) (binds := binds) (by have := G.hd; show C.A.depth < _; omega) (X _ _ ho) rfl (T.nolimit.keeps I.keep) (codeRec_of X hcd) rfl (hbind _) hcell hloc (fun h₁ hns hk₁ => ?_) hco hgen hk
  have e := (H ⟨C.w, C.A.deeper (envOf qual scope h.objs.size f cdv), C.Z, C.bs, hideAll h (σ.map (·.1)), C.L :: C.fs, h.objs.size⟩ (G.def hA hl B D rfl rfl hk rfl rfl) ⟨rfl, rfl⟩
    (fun e s' => wpAny (model pw C.w) (C.A.deeper (envOf qual scope h.objs.size f cdv)) (leaving (envOf qual scope h.objs.size f cdv) e) (fun _ s'' => E e s'') (fun e' s'' => E e' s'') s') h₁ (tk + binds.length)
    ⟨_, B.stays, KtsTurn.refl, I.enter rfl hns hk₁⟩)
  refine wpAny_mono e (fun fl s' ⟨h', tk', m', σ', es, I', q⟩ => ?_) fun _ _ x => x
  subst es
  obtain ⟨g', _, T', J'⟩ := I'.x
  exact ⟨h', tk', m, σ', rfl, back _ _ _ _ _ T' J', q⟩
end
end Mine

set_option maxRecDepth 100000
namespace Mine
open PySem PySem.W PySem.Spec PySem.Calls PyProof.Rows PySem.SeqAt

section
variable {α : Type} {C : Cx} {m : Loc} {σ : Led} {env : Env} {n : Nat}

/-- a list that stands, in the ledger or below it -/
def LAt (C : Cx) (σ : Led) (l : Addr) (its : Array Value) : Prop := ∀ h m, Inv C h m σ → h.IsList l its
theorem LAt.led {l : Addr} {its : Array Value} {k : Nat} (hm : (l, PySem.W.listOf its k) ∈ σ) : LAt C σ l its := fun _ _ I => ⟨_, I.get hm, rfl, k, rfl⟩
theorem LAt.base {l : Addr} {its : Array Value} (hl : C.bs.IsList l its) : LAt C σ l its := fun _ _ I => hl.at fun o e => I.keep l o e
theorem LAt.mono {l : Addr} {its : Array Value} {σ' : Led} (h : LAt C σ l its) (hs : ∀ H m, Inv C H m σ' → Inv C H m σ) : LAt C σ' l its := fun _ _ I => h _ _ (hs _ _ I)
theorem LAt.cons {l : Addr} {its : Array Value} {x : Addr × Obj} (h : LAt C σ l its) : LAt C (x :: σ) l its := h.mono fun _ _ I => I.sub (List.sublist_cons_self _ _)
theorem LAt.sub {l : Addr} {its : Array Value} {σ' : Led} (h : LAt C σ l its) (p : σ.Sublist σ') : LAt C σ' l its := h.mono fun _ _ I => I.sub p


abbrev itOf (l : Addr) (i : Nat) : Obj := { cls := .type "list_iterator", data := .fields #[.ref l, .int i 0] }

-- iterators over lists
theorem ev_iterList {l : Addr} {its : Array Value} {Q : Value → Loc → Led → Prop} (hl : LAt C σ l its) (q : ∀ a, Q (.ref a) m ((a, itOf l 0) :: σ)) : Ev C (pyIter (.ref l)) m σ Q := fun _ h tk I => by
  exact wpAny_pyIter_list (hl h m I) (Ends.intro (C := C) (tk := tk) (I.push _ rfl) (q _))
theorem ev_iterIter {l a : Addr} {i : Nat} {Q : Value → Loc → Led → Prop} (hm : (a, itOf l i) ∈ σ) (q : Q (.ref a) m σ) : Ev C (pyIter (.ref a)) m σ Q := fun _ h tk I => by
  exact wpAny_pyIter_listiter ⟨_, I.get hm, rfl, rfl⟩ (Ends.intro (C := C) (tk := tk) I q)
theorem ev_nextList {l a : Addr} {i : Nat} {its : Array Value} {x : Value} {Q : Option Value → Loc → Led → Prop} (hl : LAt C ((a, itOf l i) :: σ) l its) (hx : its[i]? = some x) (q : Q (some x) m ((a, itOf l (i + 1)) :: σ)) :
    Ev C (pyNext (.ref a)) m ((a, itOf l i) :: σ) Q := fun _ h tk I => by
  have ho := I.get (.head _)
  have hit : h.IsListIter a l i := ⟨_, ho, rfl, rfl⟩
  unfold pyNext
  refine wpAny_bind (wpAny_attempt (wpAny_callSpecial?_slot (name := Str.ofString "__next__") hit.typeIs slot_listiter_next
    (wpAny_call_entry slot_listiter_next hit.typeIs entry_listiter_next ?_ (args_listiter_next _))))
  obtain ⟨ol, hol, _, nl, hdl⟩ := hl h m I
  show wpAny _ _ (field (.ref a) 0 >>= _) _ _ _
  refine wpAny_bind (wpAny_field ho rfl (x := .ref l) rfl ?_)
  show wpAny _ _ (if (Value.ref l == Value.none) = true then _ else _) _ _ _
  rw [if_neg (show ¬ ((Value.ref l == Value.none) = true) from Bool.false_ne_true)]
  show wpAny _ _ (field (.ref a) 1 >>= _) _ _ _
  refine wpAny_bind (wpAny_field ho rfl (x := .int i 0) rfl ?_)
  show wpAny _ _ (seqItems? (.ref l) >>= _) _ _ _
  refine wpAny_bind (wpAny_seqItems hol hdl ?_)
  simp only [Int.toNat_natCast, hx]
  refine wpAny_bind (wpAny_setField ho rfl (by simp) (wpAny_pure ⟨x, rfl, wpAny_pure ?_⟩))
  exact Ends.intro (C := C) (I.update (Obj.mapFields fun vs => vs.setIfInBounds 1 (rawInt (i + 1 : Int))) rfl) q
theorem ev_nextEnd {l a : Addr} {i : Nat} {its : Array Value} {Q : Option Value → Loc → Led → Prop} (hh : C.A.handled = none) (hl : LAt C ((a, itOf l i) :: σ) l its) (hx : its[i]? = none) (q : Q none m σ) :
    Ev C (pyNext (.ref a)) m ((a, itOf l i) :: σ) Q := fun _ h tk I => by
  exact wpAny_pyNext_list_end hh ⟨_, I.get (.head _), rfl, rfl⟩ (hl h m I) hx fun h' he => Ends.intro (C := C) (tk := tk) (I.dropHead he) q

theorem ev_assignName {x : Str} {pos : Pos} {v : Value} {Q : Unit → Loc → Led → Prop} (H : Ev C (storeName env x v) m σ Q) : Ev C (assign (.Name x pos) env v) m σ Q := fun _ _ _ I => wpAny_assign_Name (H _ _ _ I)
theorem ev_owned {target : Expr} {l a : Addr} {i : Nat} {v : Value} {Q : Unit → Loc → Led → Prop} (ht : (∃ x p, target = .Name x p) ∨ ∃ es k p t, target = .Tuple es k p ∧ v = .ref t) (hm : (a, itOf l i) ∈ σ) (q : Q () m σ) : Ev C (letOwnedTupleGo target (.ref a) v) m σ Q := fun _ h tk I => by
  rcases ht with ⟨x, p, rfl⟩ | ⟨es, k, p, t, rfl, rfl⟩
  · exact wpAny_pure (Ends.intro I q)
  · exact wpAny_letOwnedTupleGo_listiter (l := l) (i := i) ⟨_, I.get hm, rfl, rfl⟩ (Ends.intro (C := C) (tk := tk) I q)

/-- a for over a list, by what holds between the turns: J i says the frame's names and the objects P that the loop turns; all else, R, stands -/
theorem ev_ForAny {target iter : Expr} {body : List Stmt} {pos : Pos} {Q : Flow → Loc → Led → Prop}
    (hh : C.A.handled = none)
    (H : Ev C (eval iter env) m σ fun x m' σ' => ∃ (l : Addr) (vs : List Value) (R P : Led) (J : Nat → Loc → Led → Prop), x = .ref l ∧ σ' = P ++ R ∧ J 0 m' P ∧
      (∀ i m P, J i m P → LAt C (P ++ R) l vs.toArray) ∧
      ((∃ x p, target = .Name x p) ∨ ((∃ es k p, target = .Tuple es k p) ∧ ∀ v ∈ vs, ∃ t, v = .ref t)) ∧
      (∀ i v m P R', vs[i]? = some v → (∀ p ∈ R, p ∈ R') → R.Sublist R' → J i m P →
        Ev C (assign target env v) m (P ++ R') fun _ m' σ' => Ev C (execs body env) m' σ' fun f m'' σ'' => match f with
          | .next | .cont => ∃ P', σ'' = P' ++ R' ∧ J (i + 1) m'' P'
          | .brk => Q .next m'' σ''
          | .ret v => Q (.ret v) m'' σ'') ∧
      (∀ m P, J vs.length m P → Q .next m (P ++ R)))
    (hs : ∀ x, foldedSetIterable iter env x = pure x := by intro _; with_unfolding_all rfl) : Ev C (exec (.For target iter body [] pos) env) m σ Q := fun E h tk I => by
  refine wpAny_For ?_ hs
  refine H.of I ?_
  rintro _ h₁ tk₁ m₁ _ I₁ ⟨l, vs, R, P₀, J, rfl, rfl, hJ₀, hl, ht, turn, done⟩
  refine (ev_iterList (m := m₁) (Q := fun it m' σ' => ∃ a, it = .ref a ∧ m₁ = m' ∧ (a, itOf l 0) :: (P₀ ++ R) = σ') (hl 0 m₁ P₀ hJ₀) fun a => ⟨a, rfl, rfl, rfl⟩).of I₁ ?_
  rintro _ h₂ tk₂ _ _ I₂ ⟨a, rfl, rfl, rfl⟩
  refine codeAny_forLoop_any (fun k s => ∃ i m P h tk, k = vs.length - i ∧ i ≤ vs.length ∧ s = C.sh h tk ∧ Inv C h m ((a, itOf l i) :: (P ++ R)) ∧ J i m P) ?_ vs.length ⟨0, m₁, P₀, h₂, tk₂, by omega, Nat.zero_le _, rfl, I₂, hJ₀⟩
  rintro k s ⟨i, m₃, P, h₃, tk₃, rfl, hi, rfl, I₃, hJ⟩
  have hL : LAt C ((a, itOf l i) :: (P ++ R)) l vs.toArray := (hl i m₃ P hJ).cons
  by_cases hlt : i < vs.length
  · have hv : vs[i]? = some vs[i] := by simp [hlt]
    have e1 := (ev_nextList (Q := fun r m' σ' => r = some vs[i] ∧ m₃ = m' ∧ (a, itOf l (i + 1)) :: (P ++ R) = σ') hL (x := vs[i]) (by simp [hlt]) ⟨rfl, rfl, rfl⟩)
    refine e1.of I₃ ?_
    rintro _ h₄ tk₄ _ _ I₄ ⟨rfl, rfl, rfl⟩
    dsimp only
    have e2 : Ev C (letOwnedTupleGo target (.ref a) vs[i]) m₃ ((a, itOf l (i + 1)) :: (P ++ R)) (fun _ m' σ' => m₃ = m' ∧ (a, itOf l (i + 1)) :: (P ++ R) = σ') := ev_owned (by
      rcases ht with h | ⟨⟨es, k, p, h⟩, h2⟩
      · exact .inl h
      · obtain ⟨t, e⟩ := h2 vs[i] (List.getElem_mem hlt)
        exact .inr ⟨es, k, p, t, h, e⟩) (.head _) ⟨rfl, rfl⟩
    refine e2.of I₄ ?_
    rintro _ h₅ tk₅ _ _ I₅ ⟨rfl, rfl⟩
    have I₆ := I₅.perm (List.perm_middle (l₁ := P) (a := (a, itOf l (i + 1))) (l₂ := R)).symm
    refine (turn i vs[i] m₃ P ((a, itOf l (i + 1)) :: R) hv (fun p hp => .tail _ hp) (List.sublist_cons_self _ _) hJ).of I₆ fun _ h₇ tk₇ m₇ σ₇ I₇ q => ?_
    refine q.of I₇ fun f h₈ tk₈ m₈ σ₈ I₈ q => ?_
    have fin : (∃ P', σ₈ = P' ++ ((a, itOf l (i + 1)) :: R) ∧ J (i + 1) m₈ P') → ∃ k', k' < vs.length - i ∧ ∃ i' m P h tk, k' = vs.length - i' ∧ i' ≤ vs.length ∧ C.sh h₈ tk₈ = C.sh h tk ∧ Inv C h m ((a, itOf l i') :: (P ++ R)) ∧ J i' m P := by
      rintro ⟨P', rfl, hJ'⟩
      exact ⟨vs.length - (i + 1), by omega, i + 1, m₈, P', h₈, tk₈, rfl, hlt, rfl, I₈.perm List.perm_middle, hJ'⟩
    cases f with
    | next => exact fin q
    | cont => exact fin q
    | brk => exact Ends.intro I₈ q
    | ret v => exact Ends.intro I₈ q
  · have hi' : i = vs.length := by omega
    subst hi'
    refine (ev_nextEnd (Q := fun r m' σ' => r = none ∧ m₃ = m' ∧ P ++ R = σ') hh hL (by simp) ⟨rfl, rfl, rfl⟩).of I₃ ?_
    rintro _ h₄ tk₄ _ _ I₄ ⟨rfl, rfl, rfl⟩
    exact wpAny_execs_nil (Ends.intro I₄ (done _ _ hJ))
theorem ev_ForList {target iter : Expr} {body : List Stmt} {pos : Pos} {vs : List Value} {l : Addr} {R : Led} {Q : Flow → Loc → Led → Prop} (J : Nat → Loc → Led → Prop)
    (hh : C.A.handled = none)
    (H : Ev C (eval iter env) m σ fun x m' σ' => x = .ref l ∧ ∃ P, σ' = P ++ R ∧ J 0 m' P)
    (hl : ∀ i m P, J i m P → LAt C (P ++ R) l vs.toArray)
    (ht : (∃ x p, target = .Name x p) ∨ ((∃ es k p, target = .Tuple es k p) ∧ ∀ v ∈ vs, ∃ t, v = .ref t))
    (turn : ∀ i v m P R', vs[i]? = some v → (∀ p ∈ R, p ∈ R') → R.Sublist R' → J i m P →
      Ev C (assign target env v) m (P ++ R') fun _ m' σ' => Ev C (execs body env) m' σ' fun f m'' σ'' => match f with
        | .next | .cont => ∃ P', σ'' = P' ++ R' ∧ J (i + 1) m'' P'
        | .brk => Q .next m'' σ''
        | .ret v => Q (.ret v) m'' σ'')
    (done : ∀ m P, J vs.length m P → Q .next m (P ++ R))
    (hs : ∀ x, foldedSetIterable iter env x = pure x := by intro _; with_unfolding_all rfl) : Ev C (exec (.For target iter body [] pos) env) m σ Q :=
  ev_ForAny hh (H.mono fun _ _ _ ⟨e, P, e', hJ⟩ => ⟨l, vs, R, P, J, e, e', hJ, hl, ht, turn, done⟩) hs
end
end Mine

set_option maxRecDepth 100000
namespace Mine
open PySem PySem.W PySem.Spec PySem.Calls PyProof.Rows PySem.SeqAt

section
variable {α : Type} {C : Cx} {m : Loc} {σ : Led} {env : Env} {n : Nat}

abbrev rangeOf (a : Int) (t : Tok) (b : Int) (u : Tok) (k : Tok) : Obj := { cls := .type "range", data := .fields #[.int a t, .int b u, .int 1 k] }
abbrev ritOf (x left : Int) : Obj := { cls := .type "range_iterator", data := .fields #[rawInt x, rawInt left, rawInt 1] }
theorem ev_range {b : Int} {u : Tok} {Q : Value → Loc → Led → Prop} (q : ∀ a t k, Q (.ref a) m ((a, rangeOf 0 t b u k) :: σ)) : Ev C (call (.type "range") [.int b u]) m σ Q := fun _ h tk I =>
  call_range_1 (Ends.intro (C := C) (tk := tk + 1 + 1) (I.push _ rfl) (q _ _ _))
theorem ev_iterRange {r : Addr} {a b : Int} {t u k : Tok} {Q : Value → Loc → Led → Prop} (hr : (r, rangeOf a t b u k) ∈ σ) (hs : Builtin.Range.small a b 1 = true) (q : ∀ i, Q (.ref i) m ((i, ritOf a (Builtin.Range.rangeSize a b 1)) :: σ)) :
    Ev C (pyIter (.ref r)) m σ Q := fun _ h tk I => wpAny_pyIter_range (I.get hr) hs (Ends.intro (C := C) (tk := tk) (I.push _ rfl) (q _))
theorem ev_nextRange {i : Addr} {x left : Int} {Q : Option Value → Loc → Led → Prop} (hl : 0 < left) (q : ∀ t, Q (some (.int x t)) m ((i, ritOf (x + 1) (left - 1)) :: σ)) : Ev C (pyNext (.ref i)) m ((i, ritOf x left) :: σ) Q := fun _ h tk I =>
  wpAny_pyNext_range_item (I.get (.head _)) hl fun h' e hs => Ends.intro (C := C) (tk := tk + 1) (I.setHead hs e) (q _)
theorem ev_nextRangeEnd {i : Addr} {x left : Int} {Q : Option Value → Loc → Led → Prop} (hh : C.A.handled = none) (hl : left ≤ 0) (q : Q none m σ) : Ev C (pyNext (.ref i)) m ((i, ritOf x left) :: σ) Q := fun _ h tk I =>
  wpAny_pyNext_range_end hh (I.get (.head _)) hl fun h' he => Ends.intro (C := C) (tk := tk) (I.dropHead he) q

theorem ev_ForRange {x : Str} {px pos : Pos} {iter : Expr} {body : List Stmt} {N : Nat} {R : Led} {Q : Flow → Loc → Led → Prop} (J : Nat → Loc → Led → Prop)
    (G : Gd n C env) (hh : C.A.handled = none) (hN : N < 2 ^ 61)
    (H : Ev C (eval iter env) m σ fun v m' σ' => ∃ r t u k P, v = .ref r ∧ σ' = (r, rangeOf 0 t N u k) :: (P ++ R) ∧ J 0 m' P)
    (turn : ∀ i m P R' t, i < N → (∀ p ∈ R, p ∈ R') → R.Sublist R' → J i m P →
      Ev C (execs body env) (upd m x (.int i t)) (P ++ R') fun f m'' σ'' => match f with
        | .next | .cont => ∃ P', σ'' = P' ++ R' ∧ J (i + 1) m'' P'
        | .brk => Q .next m'' σ''
        | .ret v => Q (.ret v) m'' σ'')
    (done : ∀ m P, J N m P → Q .next m (P ++ R)) (hx : env.kindOf x = some .local := by with_unfolding_all rfl)
    (hs : ∀ x, foldedSetIterable iter env x = pure x := by intro _; with_unfolding_all rfl) : Ev C (exec (.For (.Name x px) iter body [] pos) env) m σ Q := fun E h tk I => by
  refine wpAny_For ?_ hs
  refine H.of I ?_
  rintro _ h₁ tk₁ m₁ _ I₁ ⟨r, t, u, k, P₀, rfl, rfl, hJ₀⟩
  have hsm : Builtin.Range.small 0 N 1 = true := small_one (by decide) (by decide) (by omega) (by omega)
  have hsz : Builtin.Range.rangeSize 0 N 1 = (N : Int) := by rw [rangeSize_one]; split <;> omega
  have I₁' := I₁.sub (List.sublist_cons_self (r, rangeOf 0 t N u k) (P₀ ++ R))
  refine wpAny_pyIter_range (I₁.get (.head _)) hsm ?_
  rw [hsz]
  have I₂ := I₁'.push (ritOf 0 N) rfl
  refine codeAny_forLoop_any (fun j s => ∃ i m P h tk, j = N - i ∧ i ≤ N ∧ s = C.sh h tk ∧ Inv C h m ((h₁.objs.size, ritOf i (N - i)) :: (P ++ R)) ∧ J i m P) ?_ N ⟨0, m₁, P₀, _, tk₁, by omega, Nat.zero_le _, rfl, by simpa using I₂, hJ₀⟩
  rintro j s ⟨i, m₃, P, h₃, tk₃, rfl, hi, rfl, I₃, hJ⟩
  by_cases hlt : i < N
  · refine (ev_nextRange (m := m₃) (Q := fun r m' σ' => ∃ t, r = some (.int i t) ∧ m₃ = m' ∧ (h₁.objs.size, ritOf ((i : Int) + 1) ((N : Int) - i - 1)) :: (P ++ R) = σ') (by omega) fun t => ⟨t, rfl, rfl, rfl⟩).of I₃ ?_
    rintro _ h₄ tk₄ _ _ I₄ ⟨t, rfl, rfl, rfl⟩
    have I₆ := I₄.perm (List.perm_middle (l₁ := P) (a := (h₁.objs.size, ritOf ((i : Int) + 1) ((N : Int) - i - 1))) (l₂ := R)).symm
    refine wpAny_pure (wpAny_assign_Name ?_)
    refine (ev_store (m := m₃) (v := .int i t) (Q := fun _ m' σ' => upd m₃ x (.int i t) = m' ∧ P ++ (h₁.objs.size, ritOf ((i : Int) + 1) ((N : Int) - i - 1)) :: R = σ') G ⟨rfl, rfl⟩ hx).of I₆ ?_
    rintro _ h₇ tk₇ _ _ I₇ ⟨rfl, rfl⟩
    refine (turn i m₃ P ((h₁.objs.size, ritOf ((i : Int) + 1) ((N : Int) - i - 1)) :: R) t hlt (fun p hp => .tail _ hp) (List.sublist_cons_self _ _) hJ).of I₇ fun f h₈ tk₈ m₈ σ₈ I₈ q => ?_
    have fin : (∃ P', σ₈ = P' ++ ((h₁.objs.size, ritOf ((i : Int) + 1) ((N : Int) - i - 1)) :: R) ∧ J (i + 1) m₈ P') → ∃ j', j' < N - i ∧ ∃ i' m P h tk, j' = N - i' ∧ i' ≤ N ∧ C.sh h₈ tk₈ = C.sh h tk ∧ Inv C h m ((h₁.objs.size, ritOf i' (N - i')) :: (P ++ R)) ∧ J i' m P := by
      rintro ⟨P', rfl, hJ'⟩
      refine ⟨N - (i + 1), by omega, i + 1, m₈, P', h₈, tk₈, rfl, hlt, rfl, ?_, hJ'⟩
      have e : ((N : Int) - i - 1) = (N : Int) - ((i + 1 : Nat) : Int) := by omega
      have e2 : ((i : Int) + 1) = ((i + 1 : Nat) : Int) := by omega
      rw [e, e2] at I₈
      exact I₈.perm List.perm_middle
    cases f with
    | next => exact fin q
    | cont => exact fin q
    | brk => exact Ends.intro I₈ q
    | ret v => exact Ends.intro I₈ q
  · have hi' : i = N := by omega
    subst hi'
    refine (ev_nextRangeEnd (m := m₃) (Q := fun r m' σ' => r = none ∧ m₃ = m' ∧ P ++ R = σ') hh (by omega) ⟨rfl, rfl, rfl⟩).of I₃ ?_
    rintro _ h₄ tk₄ _ _ I₄ ⟨rfl, rfl, rfl⟩
    exact wpAny_execs_nil (Ends.intro I₄ (done _ _ hJ))

/-- a while, by what holds between the turns and a number that falls -/
theorem ev_While {test : Expr} {body : List Stmt} {pos : Pos} {Q : Flow → Loc → Led → Prop} (J : Nat → Loc → Led → Prop) (n₀ : Nat) (h0 : J n₀ m σ)
    (turn : ∀ n m σ, J n m σ → Ev C (isTrue test env (eval test env)) m σ fun b m' σ' => if b = true then Ev C (execs body env) m' σ' (fun f m'' σ'' => match f with
        | .next | .cont => ∃ k, k < n ∧ J k m'' σ''
        | .brk => Q .next m'' σ''
        | .ret v => Q (.ret v) m'' σ'') else Q .next m' σ') : Ev C (exec (.While test body [] pos) env) m σ Q := fun E h tk I => by
  refine wpAny_While ?_
  refine codeAny_whileLoop (fun k s => ∃ m h tk σ, s = C.sh h tk ∧ Inv C h m σ ∧ J k m σ) ?_ n₀ ⟨m, h, tk, σ, rfl, I, h0⟩
  rintro k s ⟨m₁, h₁, tk₁, σ₁, rfl, I₁, hJ⟩
  refine (turn k m₁ σ₁ hJ).of I₁ fun b h₂ tk₂ m₂ σ₂ I₂ q => ?_
  cases b with
  | false => exact wpAny_execs_nil (Ends.intro I₂ q)
  | true =>
    refine Ev.of q I₂ fun f h₃ tk₃ m₃ σ₃ I₃ q => ?_
    have fin : (∃ k', k' < k ∧ J k' m₃ σ₃) → ∃ k', k' < k ∧ ∃ m h tk σ, C.sh h₃ tk₃ = C.sh h tk ∧ Inv C h m σ ∧ J k' m σ := fun ⟨k', hk, hJ'⟩ => ⟨k', hk, m₃, h₃, tk₃, σ₃, rfl, I₃, hJ'⟩
    cases f with
    | next => exact fin q
    | cont => exact fin q
    | brk => exact Ends.intro I₃ q
    | ret v => exact Ends.intro I₃ q
end
end Mine

set_option maxRecDepth 100000
namespace Mine
open PySem PySem.W PySem.Spec PySem.Calls PyProof.Rows PySem.SeqAt

section
variable {α : Type} {C : Cx} {m : Loc} {σ : Led} {env : Env} {n : Nat}

/-- a value that reads as plain data, whatever else stands -/
def Rd (_ : Cx) (σ : Led) (v : Value) (d : PyData) : Prop := ∀ h : Heap, (∀ p ∈ σ, h.get? p.1 = some p.2) → ∃ as, Reads h v d as
theorem Rd.at {v : Value} {d : PyData} {h : Heap} (r : Rd C σ v d) (I : Inv C h m σ) : ∃ as, Reads h v d as := r h fun p hp => I.get (o := p.2) hp
theorem Rd.str (x : Str) (t : Tok) : Rd C σ (.str x t) (.str x) := fun _ _ => ⟨_, .str x t⟩
theorem Rd.mono {v : Value} {d : PyData} {σ' : Led} {C' : Cx} (r : Rd C σ v d) (hs : ∀ p ∈ σ, p ∈ σ') : Rd C' σ' v d := fun h H => r h fun p hp => H p (hs p hp)
theorem Rd.sub {v : Value} {d : PyData} {σ' : Led} (r : Rd C σ v d) (p : σ.Sublist σ') : Rd C σ' v d := r.mono fun _ hp => p.subset hp
theorem Rd.cons {v : Value} {d : PyData} {x : Addr × Obj} (r : Rd C σ v d) : Rd C (x :: σ) v d := r.mono fun _ hp => .tail _ hp
theorem readsAll_of {h : Heap} : ∀ {l : List (Value × PyData)}, (∀ p ∈ l, ∃ as, Reads h p.1 p.2 as) → ∃ as, ReadsAll h (l.map (·.1)) (l.map (·.2)) as
  | [], _ => ⟨_, .nil⟩
  | p :: _, H => by
    obtain ⟨as, ra⟩ := H p (.head _)
    obtain ⟨bs, rb⟩ := readsAll_of fun q hq => H q (.tail _ hq)
    exact ⟨_, .cons ra rb⟩
theorem Rd.list {a : Addr} {l : List (Value × PyData)} {k : Nat} (hm : (a, PySem.W.listOf (l.map (·.1)).toArray k) ∈ σ) (H : ∀ p ∈ l, Rd C σ p.1 p.2) : Rd C σ (.ref a) (.list (l.map (·.2))) := fun h I => by
  obtain ⟨as, ra⟩ := readsAll_of fun p hp => H p hp h I
  exact ⟨_, .list (I _ hm) rfl rfl (by simpa using ra)⟩
theorem Rd.tuple {a : Addr} {l : List (Value × PyData)} {k : Nat} (hm : (a, { cls := .type "tuple", data := .seq (l.map (·.1)).toArray k }) ∈ σ) (H : ∀ p ∈ l, Rd C σ p.1 p.2) : Rd C σ (.ref a) (.tuple (l.map (·.2))) := fun h I => by
  obtain ⟨as, ra⟩ := readsAll_of fun p hp => H p hp h I
  exact ⟨_, .tuple (I _ hm) rfl rfl (by simpa using ra)⟩

theorem ev_eq {a b : Value} {da db : PyData} {Q : Value → Loc → Led → Prop} (hu : C.A.units + 64 < cLine) (ra : Rd C σ a da) (rb : Rd C σ b db) (ha : shaped da = true) (hb : shaped db = true) (q : Q (.bool (PyData.eqv da db)) m σ) :
    Ev C (compareOp .Eq a b) m σ Q := fun _ h tk I => by
  obtain ⟨as, ra⟩ := ra.at I
  obtain ⟨bs, rb⟩ := rb.at I
  exact compareEq_shaped ra rb ha hb hu (Ends.intro (C := C) (tk := tk) I q)
theorem ev_ne {a b : Value} {da db : PyData} {Q : Value → Loc → Led → Prop} (hu : C.A.units + 64 < cLine) (ra : Rd C σ a da) (rb : Rd C σ b db) (ha : shaped da = true) (hb : shaped db = true) (q : Q (.bool (!PyData.eqv da db)) m σ) :
    Ev C (compareOp .NotEq a b) m σ Q := fun _ h tk I => by
  obtain ⟨as, ra⟩ := ra.at I
  obtain ⟨bs, rb⟩ := rb.at I
  exact compareNe_shaped ra rb ha hb hu (Ends.intro (C := C) (tk := tk) I q)
theorem Rd.eqAt {a b : Value} {da db : PyData} {h : Heap} {A : Around} {tk : Nat} (I : Inv C h m σ) (hu : A.units + 64 < cLine) (ra : Rd C σ a da) (rb : Rd C σ b db) (ha : shaped da = true) (hb : shaped db = true) : EqAt A (C.sh h tk) a b (PyData.eqv da db) := by
  obtain ⟨as, ra⟩ := ra.at I
  obtain ⟨bs, rb⟩ := rb.at I
  exact eqAt_reads da db A (C.sh h tk) a b as bs ra rb (canLay_of_shaped ha) (canLay_of_shaped hb) (room_of_shaped ha hu)

/-- equality with a datum, as a test of values -/
noncomputable def same (C : Cx) (σ : Led) (d : PyData) (v : Value) : Bool := @decide (∃ dv, Rd C σ v dv ∧ shaped dv = true ∧ PyData.eqv dv d = true) (Classical.propDecidable _)
theorem same_of {d dv : PyData} {v : Value} {h : Heap} (I : Inv C h m σ) (r : Rd C σ v dv) (hs : shaped dv = true) : same C σ d v = PyData.eqv dv d := by
  unfold same
  cases e : PyData.eqv dv d with
  | true => exact @decide_eq_true _ (Classical.propDecidable _) ⟨dv, r, hs, e⟩
  | false =>
    refine @decide_eq_false _ (Classical.propDecidable _) ?_
    rintro ⟨dv', r', hs', e'⟩
    obtain ⟨as, ra⟩ := r.at I
    obtain ⟨as', ra'⟩ := r'.at I
    have := PySem.SeqAt.Reads.unique dv dv' v as as' (canLay_of_shaped hs) ra ra'
    subst this
    rw [e] at e'; cases e'

-- places
theorem ev_item {value slice : Expr} {l : Addr} {its : Array Value} {k : Int} {u : Tok} {x : Value} {Q : Value → Loc → Led → Prop} (hl : LAt C σ l its) (h0 : 0 ≤ k) (h1 : k < 2 ^ 63) (hx : its[k.toNat]? = some x) (q : Q x m σ)
    (hs : subscripted slice false (.ref l) (.int k u) = operate [.ref l, .int k u] (getItem (.ref l) (.int k u)) := by with_unfolding_all rfl) : Ev C (subscriptTail value slice (.ref l) (.int k u)) m σ Q := fun _ h tk I =>
  tail_any (hl h m I).typeIs slot_list_getitem.lookup (wpAny_getItem_list (hl h m I) h0 h1 hx (Ends.intro (C := C) (tk := tk) I q)) hs
theorem ev_itemT {value slice : Expr} {t : Addr} {its : Array Value} {k : Int} {u : Tok} {j : Nat} {x : Value} {Q : Value → Loc → Led → Prop} (hm : (t, tupOf its) ∈ σ) (h0 : -(2 ^ 63) ≤ k) (h1 : k < 2 ^ 63) (hj : seqIndex? k its.size = some j) (hx : its[j]? = some x) (q : Q x m σ)
    (hs : subscripted slice false (.ref t) (.int k u) = operate [.ref t, .int k u] (getItem (.ref t) (.int k u)) := by with_unfolding_all rfl) : Ev C (subscriptTail value slice (.ref t) (.int k u)) m σ Q := fun _ h tk I =>
  tail_any (T := "tuple") ⟨_, I.get hm, rfl⟩ slot_tuple_getitem.lookup (getItem_tuple ⟨_, I.get hm, rfl, 0, rfl⟩ h0 h1 hj hx (Ends.intro (C := C) (tk := tk) I q)) hs
theorem ev_len {l : Addr} {its : Array Value} {Q : Value → Loc → Led → Prop} (hl : LAt C σ l its) (hf : (its.size : Int) < 2 ^ 63) (q : ∀ t, Q (.int its.size t) m σ) : Ev C (call (.builtin "len") [.ref l]) m σ Q := fun _ h tk I =>
  Calls.call_len_list (hl h m I) hf (Ends.intro (C := C) (tk := tk + 1 + 1) I (q _))
theorem ev_truthyList {l : Addr} {its : Array Value} {Q : Bool → Loc → Led → Prop} (hl : LAt C σ l its) (hf : (its.size : Int) < 2 ^ 63) (q : Q (!its.isEmpty) m σ) : Ev C (truthy (.ref l)) m σ Q := fun _ h tk I =>
  wpAny_truthy_list (hl h m I) hf (Ends.intro (C := C) (tk := tk + 1 + 1) I q)
theorem ev_methodList {l : Addr} {its : Array Value} {k : Nat} {name : Str} {id : String} {pl : Sem Bool} {Q : Value × List Value → Loc → Led → Prop} (hm : (l, PySem.W.listOf its k) ∈ σ) (slot : Slot "list" name id) (hty : typeOf (.builtin id) = pure (.type "method_descriptor")) (q : Q (.builtin id, [.ref l]) m σ) :
    Ev C (getMethod (.ref l) name pl) m σ Q := fun _ h tk I => by
  obtain ⟨g, b, t, J⟩ := I.x
  exact listMethod_K J.N hm slot hty (Ends.intro (C := C) (tk := tk) I q)
theorem ev_append {l : Addr} {its : Array Value} {k : Nat} {x : Value} {Q : Value → Loc → Led → Prop} (hsz : its.size ≤ sizeLine) (q : Q .none m ((l, PySem.W.listOf (its.push x) (k + 1)) :: σ)) :
    Ev C (call (.builtin "list.append") [.ref l, x]) m ((l, PySem.W.listOf its k) :: σ) Q := fun _ h tk I => by
  obtain ⟨g, b, t, J⟩ := I.x
  exact append_K (hsz := hsz) J.F J.N (.head J.ne_head) fun h' F' N' => Ends.intro (C := C) (tk := tk) ⟨g, b, t, F', N', J.D⟩ q
theorem ev_popLast {l : Addr} {its : Array Value} {k : Nat} {x : Value} {Q : Value → Loc → Led → Prop} (hx : its[its.size - 1]? = some x) (hsz : its.size ≤ sizeLine) (q : Q x m ((l, Obj.mapSeq (fun xs => xs.eraseIdxIfInBounds (its.size - 1)) (PySem.W.listOf its k)) :: σ)) :
    Ev C (call (.builtin "list.pop") [.ref l]) m ((l, PySem.W.listOf its k) :: σ) Q := fun _ h tk I =>
  call_meets PySem.F.slot_list_pop (T := "list") ⟨_, I.get (.head _), rfl⟩ PySem.F.entry_list_pop (PySem.F.args_list_pop_1 _) (MeetsSeq.list_pop_last l its k x hx hsz)
    ⟨I.get (.head _), Ends.intro (C := C) (tk := tk) (I.update _ rfl) q⟩
theorem ev_count {l : Addr} {ps : List (Value × PyData)} {k : Nat} {x : Value} {d : PyData} {Q : Value → Loc → Led → Prop} (hu : C.A.units + 80 < cLine) (hm : (l, PySem.W.listOf (ps.map (·.1)).toArray k) ∈ σ) (H : ∀ p ∈ ps, Rd C σ p.1 p.2 ∧ shaped p.2 = true) (r : Rd C σ x d) (hs : shaped d = true)
    (q : ∀ t, Q (.int (ps.countP fun p => PyData.eqv p.2 d : Nat) t) m σ) : Ev C (call (.builtin "list.count") [.ref l, x]) m σ Q := fun _ h tk I => by
  refine call_meets PySem.F.slot_list_count (T := "list") ⟨_, I.get hm, rfl⟩ PySem.F.entry_list_count (PySem.F.args_list_count_2 _ _) (list_countAt l _ k none #[] x (same C σ d)) ⟨I.get hm, fun y hy => ?_, ?_⟩
  · obtain ⟨p, hp, rfl⟩ : ∃ p ∈ ps, p.1 = y := by simpa using hy
    rw [same_of I (H p hp).1 (H p hp).2]
    exact Rd.eqAt I (by show C.A.units + 1 + 64 < cLine; omega) (H p hp).1 r (H p hp).2 hs
  · have e : (ps.map (·.1)).toArray.toList.countP (same C σ d) = ps.countP fun p => PyData.eqv p.2 d := by
      simp only [List.countP_map]
      exact List.countP_congr fun p hp => by simp [same_of I (H p hp).1 (H p hp).2]
    rw [e]
    exact Ends.intro (C := C) (tk := tk + 1) I (q _)
theorem ev_notIn {l : Addr} {ps : List (Value × PyData)} {k : Nat} {x : Value} {d : PyData} {Q : Value → Loc → Led → Prop} (hu : C.A.units + 80 < cLine) (hm : (l, PySem.W.listOf (ps.map (·.1)).toArray k) ∈ σ) (H : ∀ p ∈ ps, Rd C σ p.1 p.2 ∧ shaped p.2 = true) (r : Rd C σ x d) (hs : shaped d = true)
    (q : Q (.bool (!ps.any fun p => PyData.eqv p.2 d)) m σ) : Ev C (compareOp .NotIn x (.ref l)) m σ Q := fun _ h tk I => by
  refine notIn_listAt (same C σ d) ⟨_, I.get hm, rfl, k, rfl⟩ (fun y hy => ?_) ?_
  · obtain ⟨p, hp, rfl⟩ : ∃ p ∈ ps, p.1 = y := by simpa using hy
    rw [same_of I (H p hp).1 (H p hp).2]
    exact Rd.eqAt I (by show C.A.units + 1 + 64 < cLine; omega) (H p hp).1 r (H p hp).2 hs
  · have e : (ps.map (·.1)).toArray.any (same C σ d) = ps.any fun p => PyData.eqv p.2 d := by
      simp only [List.any_toArray, List.any_map]
      apply Bool.eq_iff_iff.mpr
      simp only [List.any_eq_true, Function.comp]
      exact ⟨fun ⟨p, hp, e⟩ => ⟨p, hp, by rw [← same_of I (H p hp).1 (H p hp).2]; exact e⟩, fun ⟨p, hp, e⟩ => ⟨p, hp, by rw [same_of I (H p hp).1 (H p hp).2]; exact e⟩⟩
    rw [e]
    exact Ends.intro (C := C) (tk := tk) I q
theorem ev_listAdd {a b : Addr} {vs ws : List Value} {Q : Value → Loc → Led → Prop} (ha : LAt C σ a vs.toArray) (hb : LAt C σ b ws.toArray) (hsz : vs.length + ws.length ≤ sizeLine) (q : ∀ c, Q (.ref c) m ((c, PySem.W.listOf (vs ++ ws).toArray 0) :: σ)) :
    Ev C (binaryOp .Add (.ref a) (.ref b)) m σ Q := fun _ h tk I => by
  obtain ⟨⟨cls, dd, data, sl⟩, ho, hc, k, hd⟩ := ha h m I
  obtain ⟨⟨cls2, dd2, data2, sl2⟩, ho2, hc2, k2, hd2⟩ := hb h m I
  simp only at hc hd hc2 hd2
  subst hc hd hc2 hd2
  have e : vs.toArray ++ ws.toArray = (vs ++ ws).toArray := by simp
  refine concat_meets ⟨_, ho, rfl⟩ ⟨_, ho2, rfl⟩ noFill_list_add seq_list_add PySem.F.slot_list_add PySem.F.entry_list_add (PySem.F.args_list_add_2 _ _) (list_addW a b vs.toArray ws.toArray k k2 dd dd2 sl sl2 (by simpa using hsz)) ⟨ho, ho2, ?_⟩
  rw [e]
  exact Ends.intro (C := C) (tk := tk) (I.push _ rfl) (q _)
/-- a slice of a list -/
theorem ev_subSlice {value : Expr} {lower upper step : Option Expr} {sp pos : Pos} {Q : Value → Loc → Led → Prop}
    (H : Ev C (eval value env) m σ fun o m' σ' => Ev C (evalPart lower env) m' σ' fun l m'' σ'' => Ev C (evalPart upper env) m'' σ'' fun u m₃ σ₃ => Ev C (evalPart step env) m₃ σ₃ fun st m₄ σ₄ =>
      ∃ a its lo hi sk, o = .ref a ∧ LAt C σ₄ a its ∧ its.size ≤ sizeLine ∧ IsPart l lo ∧ IsPart u hi ∧ IsPart st sk ∧ sk ≠ some 0 ∧ (∀ i, ∃ ops, subscripted (.Slice lower upper step sp) false (.ref a) (.ref i) = operate ops (getItem (.ref a) (.ref i))) ∧ ∀ b, Q (.ref b) m₄ ((b, PySem.W.listOf (slicePick its lo hi sk) 0) :: σ₄)) :
    Ev C (eval (.Subscript value (.Slice lower upper step sp) pos) env) m σ Q := by
  refine ev_Subscript (H.mono fun o m' σ' h₁ => ev_Slice (h₁.mono fun l m'' σ'' h₂ => h₂.mono fun u m₃ σ₃ h₃ => h₃.mono fun st m₄ σ₄ h₄ a₀ _ => ?_))
  obtain ⟨a, its, lo, hi, sk, rfl, hl, hsz, pl, pu, ps, h0, hs, q⟩ := h₄
  intro _ h tk I
  obtain ⟨ops, hs⟩ := hs a₀
  exact tail_any (hl.cons h m₄ I).typeIs list_getitem_lookup (wpAny_getItem_list_slice (hl.cons h m₄ I) ⟨_, I.get (.head _), rfl, rfl⟩ pl pu ps h0 (Ends.intro (C := C) (tk := tk) (((I.push _ rfl).perm (.swap ..)).sub (List.sublist_cons_self _ _)) (q _)) hsz) hs
end
end Mine

set_option maxRecDepth 100000
namespace Mine
local macro_rules | `(tactic| walk_at "go1") => `(tactic| with_reducible first
  | refine ev_cons ?_
  | refine ev_nil ?_
  | refine ev_BinOp ?_
  | refine ev_local (by assumption) (by first | with_unfolding_all rfl | with_unfolding_all assumption) ?_
  | refine ev_int fun _ => ?_
  | refine ev_str fun _ => ?_
  | refine ev_add fun _ => ?_
  | refine ev_floordiv (by with_unfolding_all decide) fun _ => ?_
  | refine ev_mod (by with_unfolding_all decide) fun _ => ?_
  | refine ev_args_cons ?_
  | refine ev_args_nil ?_
  | refine ev_Return ?_
  | refine ev_AssignName ?_
  | refine ev_store (by assumption) ?_
  | refine ev_If ?_
  | refine ev_isCompare ?_
  | refine ev_eq_int ?_
  | refine ev_gt_int ?_
  | refine ev_truthy_bool ?_
  | refine ev_List ?_
  | refine ev_Tuple ?_
  | refine ev_newList (hsz := by exact Nat.le_of_ble_eq_true (by with_unfolding_all rfl)) fun _ _ => ?_
  | refine ev_newTuple (hsz := by exact Nat.le_of_ble_eq_true (by with_unfolding_all rfl)) fun _ _ => ?_
  | refine ev_Subscript ?_
  | refine ev_MethodCall ?_
  | refine ev_Call ?_
  | refine ev_Expr ?_
  | refine ev_bool ?_
  | refine ev_none ?_
  | refine ev_part_none ?_
  | refine ev_part_some ?_
  | refine ev_Compare ?_)
local macro_rules | `(tactic| walk_at "go") => `(tactic| repeat (walk_at "go1"))
local macro_rules | `(tactic| walk_at "sub") => `(tactic| (refine Sp.of ?_; repeat first | exact List.Sublist.refl _ | refine List.Sublist.cons _ ?_))
local macro_rules | `(tactic| walk_at "in") => `(tactic| with_reducible first
  | exact .head _ | exact .tail _ (.head _) | exact .tail _ (.tail _ (.head _)) | exact .tail _ (.tail _ (.tail _ (.head _))) | exact .tail _ (.tail _ (.tail _ (.tail _ (.head _)))) | exact .tail _ (.tail _ (.tail _ (.tail _ (.tail _ (.head _))))) | exact .tail _ (.tail _ (.tail _ (.tail _ (.tail _ (.tail _ (.head _)))))) | exact .tail _ (.tail _ (.tail _ (.tail _ (.tail _ (.tail _ (.tail _ (.head _))))))))

section
open PySem PySem.W PySem.Spec PySem.Calls PyProof.Rows PySem.SeqAt

abbrev Nm := Fin 5
abbrev Vl := Fin 3
abbrev Row := Nm × Vl
def nm : Nm → Str
  | 0 => "a" | 1 => "" | 2 => "a b" | 3 => "b" | 4 => "c"
def vl : Vl → Str
  | 0 => "" | 1 => "=" | 2 => "1 = 1"
def nI (x : Int) : Nm := match ((x.fdiv 8).fmod 4).toNat with
  | 0 => 0 | 1 => 1 | 2 => 2 | _ => 3
def vI (x : Int) : Vl := match ((x.fdiv 32).fmod 3).toNat with
  | 0 => 0 | 1 => 1 | _ => 2
def rowI (x : Int) : Option Row := if (x.fdiv 96).fmod 4 = 3 then none else some (nI x, vI x)

theorem fmod_lt (x : Int) {b : Int} (hb : 0 < b) : 0 ≤ x.fmod b ∧ x.fmod b < b := by
  rw [Int.fmod_eq_emod_of_nonneg _ (Int.le_of_lt hb)]
  exact ⟨Int.emod_nonneg _ (by omega), Int.emod_lt_of_pos _ hb⟩
theorem pick4 {δ : Type} (a b c d : δ) {k : Int} (h : 0 ≤ k ∧ k < 4) : #[a, b, c, d][k.toNat]? = some (match k.toNat with | 0 => a | 1 => b | 2 => c | _ => d) := by
  have : k.toNat = 0 ∨ k.toNat = 1 ∨ k.toNat = 2 ∨ k.toNat = 3 := by omega
  rcases this with e | e | e | e <;> rw [e] <;> rfl
theorem pick3 {δ : Type} (a b c : δ) {k : Int} (h : 0 ≤ k ∧ k < 3) : #[a, b, c][k.toNat]? = some (match k.toNat with | 0 => a | 1 => b | _ => c) := by
  have : k.toNat = 0 ∨ k.toNat = 1 ∨ k.toNat = 2 := by omega
  rcases this with e | e | e <;> rw [e] <;> rfl

section
variable {α : Type} {C : Cx} {m : Loc} {σ : Led} {env : Env} {n : Nat}

theorem nmPick (x : Int) (t1 t2 t3 t4 : Tok) : ∃ u, (#[.str "a" t1, .str "" t2, .str "a b" t3, .str "b" t4] : Array Value)[((x.fdiv 8).fmod 4).toNat]? = some (.str (nm (nI x)) u) := by
  have h := fmod_lt (x.fdiv 8) (b := 4) (by decide)
  rw [pick4 _ _ _ _ h]
  unfold nI
  have : ((x.fdiv 8).fmod 4).toNat = 0 ∨ ((x.fdiv 8).fmod 4).toNat = 1 ∨ ((x.fdiv 8).fmod 4).toNat = 2 ∨ ((x.fdiv 8).fmod 4).toNat = 3 := by omega
  rcases this with e | e | e | e <;> rw [e] <;> exact ⟨_, rfl⟩
theorem vlPick (x : Int) (t1 t2 t3 : Tok) : ∃ u, (#[.str "" t1, .str "=" t2, .str "1 = 1" t3] : Array Value)[((x.fdiv 32).fmod 3).toNat]? = some (.str (vl (vI x)) u) := by
  have h := fmod_lt (x.fdiv 32) (b := 3) (by decide)
  rw [pick3 _ _ _ h]
  unfold vI
  have : ((x.fdiv 32).fmod 3).toNat = 0 ∨ ((x.fdiv 32).fmod 3).toNat = 1 ∨ ((x.fdiv 32).fmod 3).toNat = 2 := by omega
  rcases this with e | e | e <;> rw [e] <;> exact ⟨_, rfl⟩
theorem ev_nmItem {value slice : Expr} {l : Addr} {k : Nat} {x : Int} {u t1 t2 t3 t4 : Tok} {Q : Value → Loc → Led → Prop} (q : ∀ u, Q (.str (nm (nI x)) u) m σ)
    (hs : subscripted slice false (.ref l) (.int ((x.fdiv 8).fmod 4) u) = operate [.ref l, .int ((x.fdiv 8).fmod 4) u] (getItem (.ref l) (.int ((x.fdiv 8).fmod 4) u)) := by with_unfolding_all rfl) :
    Ev C (subscriptTail value slice (.ref l) (.int ((x.fdiv 8).fmod 4) u)) m ((l, PySem.W.listOf #[.str "a" t1, .str "" t2, .str "a b" t3, .str "b" t4] k) :: σ) Q := by
  obtain ⟨u', e⟩ := nmPick x t1 t2 t3 t4
  have h := fmod_lt (x.fdiv 8) (b := 4) (by decide)
  exact fun E h' tk I => ev_item (Q := fun v m' σ' => v = .str (nm (nI x)) u' ∧ m = m' ∧ (l, PySem.W.listOf #[.str "a" t1, .str "" t2, .str "a b" t3, .str "b" t4] k) :: σ = σ') (.led (.head _)) h.1 (by omega) e ⟨rfl, rfl, rfl⟩ hs |>.of I fun _ _ _ _ _ I' ⟨e1, e2, e3⟩ => by
    subst e1 e2 e3
    exact Ends.intro (I'.sub (List.sublist_cons_self _ _)) (q _)
theorem ev_vlItem {value slice : Expr} {l : Addr} {k : Nat} {x : Int} {u t1 t2 t3 : Tok} {Q : Value → Loc → Led → Prop} (q : ∀ u, Q (.str (vl (vI x)) u) m σ)
    (hs : subscripted slice false (.ref l) (.int ((x.fdiv 32).fmod 3) u) = operate [.ref l, .int ((x.fdiv 32).fmod 3) u] (getItem (.ref l) (.int ((x.fdiv 32).fmod 3) u)) := by with_unfolding_all rfl) :
    Ev C (subscriptTail value slice (.ref l) (.int ((x.fdiv 32).fmod 3) u)) m ((l, PySem.W.listOf #[.str "" t1, .str "=" t2, .str "1 = 1" t3] k) :: σ) Q := by
  obtain ⟨u', e⟩ := vlPick x t1 t2 t3
  have h := fmod_lt (x.fdiv 32) (b := 3) (by decide)
  exact fun E h' tk I => ev_item (Q := fun v m' σ' => v = .str (vl (vI x)) u' ∧ m = m' ∧ (l, PySem.W.listOf #[.str "" t1, .str "=" t2, .str "1 = 1" t3] k) :: σ = σ') (.led (.head _)) h.1 (by omega) e ⟨rfl, rfl, rfl⟩ hs |>.of I fun _ _ _ _ _ I' ⟨e1, e2, e3⟩ => by
    subst e1 e2 e3
    exact Ends.intro (I'.sub (List.sublist_cons_self _ _)) (q _)

theorem row_ok {x : Int} {t : Tok} {Q : Value → Loc → Led → Prop} (G : Gd (n + 1) C env)
    (q0 : rowI x = none → ∀ a, Q (.ref a) m ((a, PySem.W.listOf #[] 0) :: σ))
    (q1 : ∀ r, rowI x = some r → ∀ a t u, Q (.ref a) m ((a, PySem.W.listOf #[.str (nm r.1) t, .str (vl r.2) u] 0) :: σ)) : Ev C (call (.ref 220) [.int x t]) m σ Q := by
  refine ev_def (binds := [(Str.ofString "x", .int x t)]) G rfl (by kernel_rfl) (fun _ => BindsTo.of_eq rfl) (locs rfl) fun C' G' _ => ?_
  walk_at "go"
  split
  · rename_i h
    have h' : rowI x = none := by unfold rowI; rw [if_pos (by simpa using h)]
    walk_at "go"
    exact q0 h' _
  · rename_i h
    have h' : rowI x = some (nI x, vI x) := by unfold rowI; rw [if_neg (by simpa using h)]
    walk_at "go"
    refine ev_nmItem fun _ => ?_
    walk_at "go"
    refine ev_vlItem fun _ => ?_
    walk_at "go"
    exact q1 _ h' _ _ _
end
end

section
open PySem PySem.W PySem.Spec PySem.Calls PyProof.Rows PySem.SeqAt

abbrev Bl := Fin 4
def bl : Bl → Str
  | 0 => "" | 1 => " " | 2 => "\t" | 3 => " \t "
def bI (k : Int) : Bl := match (k.fmod 4).toNat with
  | 0 => 0 | 1 => 1 | 2 => 2 | _ => 3
def pickI (x turn : Int) : Int := x.fdiv 384 + turn
/-- the part of a line up to the "=", and what stands behind it -/
def headI (x turn : Int) : Str := bl (bI (pickI x turn)) ++ nm (nI x) ++ bl (bI ((pickI x turn).fdiv 4))
def lineI (x turn : Int) : Str := match rowI x with
  | none => headI x turn
  | some r => headI x turn ++ "=" ++ bl (bI ((pickI x turn).fdiv 16)) ++ vl r.2 ++ bl (bI ((pickI x turn).fdiv 64))

theorem nm_len (i : Nm) : (nm i).length ≤ 5 := by revert i; decide
theorem vl_len (i : Vl) : (vl i).length ≤ 5 := by revert i; decide
theorem bl_len (i : Bl) : (bl i).length ≤ 5 := by revert i; decide
theorem eq_len : (Str.ofString "=").length ≤ 5 := by decide

theorem gl_row (w : World) : nsIn (KK w) mainGlobals "_law_row" = some (some (.ref 220)) := by kernel_rfl
theorem kp_row (w : World) : keepIn (KK w) (.ref 220) = true := by kernel_rfl

section
variable {α : Type} {C : Cx} {m : Loc} {σ : Led} {env : Env} {n : Nat}

theorem rd_nil {a : Addr} {k : Nat} (hm : (a, PySem.W.listOf #[] k) ∈ σ) : Rd C σ (.ref a) (.list []) := Rd.list (l := []) hm fun _ h => nomatch h
theorem rd_row {a : Addr} {k : Nat} {x y : Str} {t u : Tok} (hm : (a, PySem.W.listOf #[.str x t, .str y u] k) ∈ σ) : Rd C σ (.ref a) (.list [.str x, .str y]) :=
  Rd.list (l := [(.str x t, .str x), (.str y u, .str y)]) hm fun p hp => by
    rcases List.mem_cons.mp hp with rfl | hp
    · exact Rd.str _ _
    · obtain rfl := List.mem_singleton.mp hp; exact Rd.str _ _
theorem shaped_row (r : Row) : shaped (.list [.str (nm r.1), .str (vl r.2)]) = true := by
  obtain ⟨i, j⟩ := r
  revert i j; decide +kernel
theorem ev_addS {a b : Str} {t u : Tok} {Q : Value → Loc → Led → Prop} (hsz : a.length + b.length ≤ sizeLine) (q : ∀ t, Q (.str (a ++ b) t) m σ) : Ev C (binaryOp .Add (.str a t) (.str b u)) m σ Q := fun _ _ _ I =>
  PyProof.Rows.add_str (hsz := hsz) fun _ tk => Ends.intro (C := C) (tk := tk) I (q _)

theorem blPick (k : Int) (t1 t2 t3 t4 : Tok) : ∃ u, (#[.str "" t1, .str " " t2, .str "\t" t3, .str " \t " t4] : Array Value)[(k.fmod 4).toNat]? = some (.str (bl (bI k)) u) := by
  have h := fmod_lt k (b := 4) (by decide)
  rw [pick4 _ _ _ _ h]
  unfold bI
  have : (k.fmod 4).toNat = 0 ∨ (k.fmod 4).toNat = 1 ∨ (k.fmod 4).toNat = 2 ∨ (k.fmod 4).toNat = 3 := by omega
  rcases this with e | e | e | e <;> rw [e] <;> exact ⟨_, rfl⟩
theorem ev_blItem {value slice : Expr} {l : Addr} {j : Nat} {k : Int} {u t1 t2 t3 t4 : Tok} {Q : Value → Loc → Led → Prop} (hm : (l, PySem.W.listOf #[.str "" t1, .str " " t2, .str "\t" t3, .str " \t " t4] j) ∈ σ) (q : ∀ u, Q (.str (bl (bI k)) u) m σ)
    (hs : subscripted slice false (.ref l) (.int (k.fmod 4) u) = operate [.ref l, .int (k.fmod 4) u] (getItem (.ref l) (.int (k.fmod 4) u)) := by with_unfolding_all rfl) :
    Ev C (subscriptTail value slice (.ref l) (.int (k.fmod 4) u)) m σ Q := by
  obtain ⟨u', e⟩ := blPick k t1 t2 t3 t4
  have h := fmod_lt k (b := 4) (by decide)
  exact ev_item (.led hm) h.1 (by omega) e (q _) hs

theorem line_ok {x turn : Int} {t t' : Tok} {Q : Value → Loc → Led → Prop} (G : Gd (n + 2) C env) (q : ∀ u, Q (.str (lineI x turn) u) m σ) : Ev C (call (.ref 227) [.int x t, .int turn t']) m σ Q := by
  refine ev_def (n := n + 1) (binds := [(Str.ofString "x", .int x t), (Str.ofString "turn", .int turn t')]) G rfl (by kernel_rfl) (fun _ => BindsTo.of_eq rfl) (locs rfl) fun C' G' _ => ?_
  refine Ev.forget ?_
  have b0 := bl_len (bI (pickI x turn))
  have b1 := bl_len (bI ((pickI x turn).fdiv 4))
  have b2 := bl_len (bI ((pickI x turn).fdiv 16))
  have b3 := bl_len (bI ((pickI x turn).fdiv 64))
  have n0 := nm_len (nI x)
  have e0 := eq_len
  have hz : sizeLine = 16777216 := rfl
  walk_at "go"
  refine ev_blItem (.head _) fun _ => ?_
  walk_at "go"
  refine ev_nmItem fun _ => ?_
  refine ev_addS (by unfold pickI at *; omega) fun _ => ?_
  walk_at "go"
  refine ev_blItem (.head _) fun _ => ?_
  refine ev_addS (by rw [Str.length_append]; unfold pickI at *; omega) fun _ => ?_
  walk_at "go"
  refine ev_global G' (gl_row _) ?_
  refine ev_callK1 G' (kp_row _) ?_
  walk_at "go"
  refine row_ok G' (fun hr a => ?_) (fun r hr a t u => ?_)
  · walk_at "go"
    refine ev_eq (by have := G'.hu; omega) (rd_nil (.tail _ (.head _))) (rd_nil (.head _)) (by decide) (by decide) ?_
    walk_at "go"
    rw [if_pos (by decide)]
    walk_at "go"
    have e : lineI x turn = headI x turn := by unfold lineI; rw [hr]
    rw [e] at q
    exact ⟨σ, by walk_at "sub", q _⟩
  · walk_at "go"
    refine ev_eq (by have := G'.hu; omega) (rd_row (.tail _ (.head _))) (rd_nil (.head _)) (shaped_row r) (by decide) ?_
    walk_at "go"
    rw [if_neg (by rw [PyData.eqv]; simp [PyData.eqvAll])]
    walk_at "go"
    refine ev_addS (by simp only [Str.length_append]; unfold pickI at *; omega) fun _ => ?_
    walk_at "go"
    refine ev_blItem (.tail _ (.tail _ (.head _))) fun _ => ?_
    refine ev_addS (by simp only [Str.length_append]; unfold pickI at *; omega) fun _ => ?_
    walk_at "go"
    refine ev_global G' (gl_row _) ?_
    refine ev_callK1 G' (kp_row _) ?_
    walk_at "go"
    refine row_ok G' (fun hr' a => by rw [hr] at hr'; cases hr') (fun r' hr' a t u => ?_)
    obtain rfl : r = r' := by rw [hr] at hr'; exact Option.some.inj hr'
    have v0 := vl_len r.2
    walk_at "go"
    refine ev_item (.led (.head _)) (by decide) (by decide) rfl ?_
    refine ev_addS (by simp only [Str.length_append]; unfold pickI at *; omega) fun _ => ?_
    walk_at "go"
    refine ev_blItem (.tail _ (.tail _ (.tail _ (.head _)))) fun _ => ?_
    refine ev_addS (by simp only [Str.length_append]; unfold pickI at *; omega) fun _ => ?_
    have e : lineI x turn = headI x turn ++ "=" ++ bl (bI ((pickI x turn).fdiv 16)) ++ vl r.2 ++ bl (bI ((pickI x turn).fdiv 64)) := by unfold lineI; rw [hr]
    rw [e] at q
    exact ⟨σ, by walk_at "sub", q _⟩
end
end

section
open PySem PySem.W PySem.Spec PySem.Calls PyProof.Rows PySem.SeqAt

section
variable {α : Type} {C : Cx} {m : Loc} {σ : Led} {env : Env} {n : Nat}

abbrev NsO := LCg.NsObj
abbrev lstOf (ys : List Value) (k : Nat) : Obj := PySem.W.listOf ys.toArray k

-- names in a comprehension's own frame
theorem ev_localC {x : Str} {pos : Pos} {v : Value} {scope : Scope} {cl : List (Str × Addr)} {a : Addr} {oc : Obj} {mc : Loc} {Q : Value → Loc → Led → Prop} (hm : (a, oc) ∈ σ) (ho : NsO oc mc) (hv : mc x = some v) (q : Q v m σ)
    (hk : (compEnvC scope cl a env).scope.kind = .function := by with_unfolding_all rfl) (hx : (compEnvC scope cl a env).kindOf x = some .local := by with_unfolding_all rfl) (hd : (x == ("__debug__" : Str)) = false := by with_unfolding_all decide) :
    Ev C (eval (.Name x pos) (compEnvC scope cl a env)) m σ Q := fun _ _ _ I =>
  wpAny_Name (wpAny_loadName_local hk hx (ho.ns (I.get hm)) hv (Ends.intro I q)) hd
theorem ev_cellC {x : Str} {pos : Pos} {v : Value} {scope : Scope} {cl : List (Str × Addr)} {a c : Addr} {oc : Obj} {Q : Value → Loc → Led → Prop} (hc : cl.lookup x = some c) (hm : (c, oc) ∈ σ) (ho : oc.data = .cell (some v)) (q : Q v m σ)
    (hk : (compEnvC scope cl a env).scope.kind = .function := by with_unfolding_all rfl) (hx : (compEnvC scope cl a env).kindOf x = some .cell := by with_unfolding_all rfl) (hd : (x == ("__debug__" : Str)) = false := by with_unfolding_all decide) :
    Ev C (eval (.Name x pos) (compEnvC scope cl a env)) m σ Q := fun _ _ _ I =>
  wpAny_Name (wpAny_loadName_cell hk hx hc ⟨oc, I.get hm, ho⟩ (Ends.intro I q)) hd
theorem ev_cell {x : Str} {pos : Pos} {v : Value} {c : Addr} {oc : Obj} {Q : Value → Loc → Led → Prop} (G : Gd n C env) (hc : env.cells.lookup x = some c) (hm : (c, oc) ∈ σ) (ho : oc.data = .cell (some v)) (q : Q v m σ)
    (hx : env.kindOf x = some .cell := by with_unfolding_all rfl) (hd : (x == ("__debug__" : Str)) = false := by with_unfolding_all decide) :
    Ev C (eval (.Name x pos) env) m σ Q := fun _ _ _ I =>
  wpAny_Name (wpAny_loadName_cell G.hk hx hc ⟨oc, I.get hm, ho⟩ (Ends.intro I q)) hd
theorem ev_storeC {x : Str} {v : Value} {scope : Scope} {cl : List (Str × Addr)} {a : Addr} {oc : Obj} {mc : Loc} {Q : Unit → Loc → Led → Prop} (ho : NsO oc mc) (q : ∀ oc', NsO oc' (upd mc x v) → Q () m ((a, oc') :: σ))
    (hx : (compEnvC scope cl a env).kindOf x = some .local := by with_unfolding_all rfl) (hk : (compEnvC scope cl a env).scope.kind = .function := by with_unfolding_all rfl) :
    Ev C (storeName (compEnvC scope cl a env) x v) m ((a, oc) :: σ) Q := fun _ _ _ I =>
  wpAny_storeName_local hx (ho.ns (I.get (.head _))) (fun h' hn hs => by
    obtain ⟨oc', e, ho'⟩ := LCg.ns_obj hn
    exact Ends.intro (C := C) (I.setHead hs e) (q _ ho')) (by rw [hk]; rfl)
theorem ev_globalC {x : Str} {pos : Pos} {v : Value} {env' : Env} {Q : Value → Loc → Led → Prop} (G : Gd n C env) (e : nsIn (KK C.w) mainGlobals x = some (some v)) (q : Q v m σ) (hg : env'.globals = mainGlobals := by with_unfolding_all first | rfl | assumption) (hk : env'.scope.kind = .function := by with_unfolding_all rfl) (hx : env'.kindOf x = some .globalImplicit := by with_unfolding_all rfl) (hd : (x == ("__debug__" : Str)) = false := by with_unfolding_all decide) :
    Ev C (eval (.Name x pos) env') m σ Q := fun _ _ _ I => by
  obtain ⟨p, loose, mean, mg, mb, T⟩ := G.T
  exact Name_function_global hk hx (loadGlobal_global (env := env') (by rw [hg]; exact T.g.keeps I.keep) (mg_of G.X T.g e) (Ends.intro I q)) hd

-- tuples and lists taken apart
theorem ev_unpackT {elts : List Expr} {k : Nat} {pos : Pos} {t : Addr} {its : Array Value} {Q : Unit → Loc → Led → Prop} (hh : C.A.handled = none) (hm : (t, tupOf its) ∈ σ)
    (q : Ev C (assignInOrder ((assignEach elts env).map (·.2)) its.toList) m σ Q) (hn : (assignEach elts env).length = its.size := by with_unfolding_all rfl) (hstar : (assignEach elts env).findIdx? (·.1) = none := by with_unfolding_all rfl) :
    Ev C (assign (.Tuple elts k pos) env (.ref t)) m σ Q := fun E h tk I => by
  refine assign_Tuple_tuple hh ⟨_, I.get hm, rfl, 0, rfl⟩ hn hstar fun h' he => ?_
  exact q E h' tk (I.extBut he)
theorem ev_inOrder_nil {Q : Unit → Loc → Led → Prop} (q : Q () m σ) : Ev C (assignInOrder [] []) m σ Q := fun _ _ _ I => assignInOrder_nil (Ends.intro I q)
theorem ev_inOrder_cons {f : Value → Sem Unit} {fs : List (Value → Sem Unit)} {v : Value} {vs : List Value} {Q : Unit → Loc → Led → Prop} (H : Ev C (f v) m σ fun _ m' σ' => Ev C (assignInOrder fs vs) m' σ' Q) : Ev C (assignInOrder (f :: fs) (v :: vs)) m σ Q := fun _ _ _ I =>
  assignInOrder_cons (H.seq I)

-- the tests of a comprehension
abbrev tests (ifs : List Expr) (env : Env) : Sem Bool := forIn ifs true fun c r => if r = true then do let ok ← isTrue c env (eval c env); pure (ForInStep.yield ok) else pure (ForInStep.yield r)
theorem ev_tests_nil {Q : Bool → Loc → Led → Prop} (q : Q true m σ) : Ev C (tests [] env) m σ Q := fun _ _ _ I => wpAny_tests_nil (Ends.intro I q)
theorem ev_tests_one {c : Expr} {Q : Bool → Loc → Led → Prop} (H : Ev C (isTrue c env (eval c env)) m σ Q) : Ev C (tests [c] env) m σ Q := fun _ _ _ I => wpAny_tests_one (H _ _ _ I)

theorem codeAny_compLoop_all {prog : Program} {w : World} {A : Around} {s : Shared} {elt target iter : Expr} {ifs : List Expr} {scope : Scope} {pos : Pos} {it acc : Value} {env : Env} {R : Result → Shared → Prop} (I : Nat → Shared → Prop)
    (turn : ∀ n s, I n s → wpAny (model prog w) A (pyNext it) (fun r s₁ => match r with
      | none => R (.ok .next) s₁
      | some v => wpAny (model prog w) A (letOwnedTupleGo target it v) (fun _ s₁' => wpAny (model prog w) A (assign target env v) (fun _ s₂ =>
          wpAny (model prog w) A (tests ifs env) (fun ok s₃ =>
            if ok = true then wpAny (model prog w) A (eval elt env) (fun x s₄ =>
              wpAny (model prog w) A (call (.builtin "list.append") [acc, x]) (fun _ s₅ => ∃ m, m < n ∧ I m s₅) (notedBy (model prog w) A env fun e s' => R (.error e) s') s₄) (notedBy (model prog w) A env fun e s' => R (.error e) s') s₃
            else ∃ m, m < n ∧ I m s₃) (notedBy (model prog w) A env fun e s' => R (.error e) s') s₂) (notedBy (model prog w) A env fun e s' => R (.error e) s') s₁') (notedBy (model prog w) A env fun e s' => R (.error e) s') s₁) (notedBy (model prog w) A env fun e s' => R (.error e) s') s)
    (n : Nat) (h : I n s) :
    codeAny (model prog w) A (.compLoop (.ListComp elt [⟨target, iter, ifs, 0⟩] scope pos) 0 it acc env) R s := by
  refine codeAny_loop rfl I (fun n s hI => ?_) n h
  show wpAny _ A ((compTurn (.ListComp elt [⟨target, iter, ifs, 0⟩] scope pos) 0 it acc env).onRaise (fun x => do noteFrame x env; theTreesLotGoes x)) _ _ s
  refine wpAny_noted ?_
  rw [compTurn_list]
  refine wpAny_bind (wpAny_standAt (wpAny_bind (wpAny_mono (turn n s hI) (fun r s₁ h₁ => ?_) fun _ _ h' => h')))
  cases r with
  | none => exact wpAny_pure h₁
  | some v =>
    refine wpAny_bind (wpAny_mono h₁ (fun _ s₁' h₁' => ?_) fun _ _ h' => h')
    refine wpAny_bind (wpAny_mono h₁' (fun _ s₂ h₂ => wpAny_bind (wpAny_mono h₂ (fun ok s₃ h₃ => ?_) fun _ _ h' => h')) fun _ _ h' => h')
    cases ok with
    | false => exact wpAny_pure ⟨rfl, h₃⟩
    | true =>
      exact wpAny_bind (wpAny_bind (wpAny_mono h₃ (fun x s₄ h₄ => wpAny_bind (wpAny_mono h₄ (fun _ s₅ h₅ => wpAny_pure (wpAny_pure ⟨rfl, h₅⟩)) fun _ _ h' => h')) fun _ _ h' => h'))

/-- a list comprehension of one clause over a list -/
theorem ev_CompAny {elt target iter : Expr} {ifs : List Expr} {scope : Scope} {cl : List (Str × Addr)} {pos : Pos} {Q : Value → Loc → Led → Prop}
    (hh : C.A.handled = none)
    (H : Ev C (eval iter env) m σ fun x m' σ' => ∃ (l : Addr) (vs : List Value) (R P : Led) (J : Nat → List Value → Led → Prop), x = .ref l ∧ m = m' ∧ σ' = P ++ R ∧ J 0 [] P ∧ vs.length ≤ sizeLine ∧
      (∀ i ys P, J i ys P → LAt C (P ++ R) l vs.toArray) ∧
      ((∃ x p, target = .Name x p) ∨ ((∃ es k p, target = .Tuple es k p) ∧ ∀ v ∈ vs, ∃ t, v = .ref t)) ∧
      (∀ i v ys P R' a oc mc, vs[i]? = some v → (∀ p ∈ R, p ∈ R') → R.Sublist R' → J i ys P → ys.length ≤ i → NsO oc mc →
        Ev C (assign target (compEnvC scope cl a env) v) m ((a, oc) :: (P ++ R')) fun _ m' σ' => Ev C (tests ifs (compEnvC scope cl a env)) m' σ' fun ok m'' σ'' =>
          if ok = true then Ev C (eval elt (compEnvC scope cl a env)) m'' σ'' fun y m₃ σ₃ => m = m₃ ∧ ∃ oc' mc' P', NsO oc' mc' ∧ σ₃ = (a, oc') :: (P' ++ R') ∧ J (i + 1) (ys ++ [y]) P'
          else m = m'' ∧ ∃ oc' mc' P', NsO oc' mc' ∧ σ'' = (a, oc') :: (P' ++ R') ∧ J (i + 1) ys P') ∧
      (∀ a k ys P, J vs.length ys P → ys.length ≤ vs.length → Q (.ref a) m ((a, lstOf ys k) :: (P ++ R))))
    (hclos : closureFor scope env = pure cl := by with_unfolding_all rfl) (hcell : ∀ x ∈ scope.names, x.2 ≠ .cell := by with_unfolding_all decide) (hkind : scope.kind = .function := by with_unfolding_all rfl)
    (hnames : ∀ y ∈ scope.names, y.2 = .local → scope.names.lookup y.1 = some .local := by with_unfolding_all decide)
    (hs : ∀ x, foldedSetIterable iter env x = pure x := by intro _; with_unfolding_all rfl) :
    Ev C (eval (.ListComp elt [⟨target, iter, ifs, 0⟩] scope pos) env) m σ Q := fun E h tk I => by
  rw [eval_ListComp]
  refine wpAny_comprehension_free (use := none) rfl hs hclos hkind hnames ?_
  refine H.of I ?_
  rintro _ h₁ tk₁ _ _ I₁ ⟨l, vs, R, P₀, J, rfl, rfl, rfl, hJ₀, hsz, hl, ht, turn, done⟩
  refine (ev_iterList (m := m) (Q := fun it m' σ' => ∃ a, it = .ref a ∧ m = m' ∧ (a, itOf l 0) :: (P₀ ++ R) = σ') (hl 0 [] P₀ hJ₀) fun a => ⟨a, rfl, rfl, rfl⟩).of I₁ ?_
  rintro _ h₂ tk₂ _ _ I₂ ⟨I', rfl, rfl, rfl⟩
  refine (ev_newList (m := m) (vs := []) (Q := fun D m' σ' => ∃ a, D = .ref a ∧ m = m' ∧ (a, lstOf [] 0) :: (I', itOf l 0) :: (P₀ ++ R) = σ') (fun a _ => ⟨a, rfl, rfl, rfl⟩) (by exact Nat.zero_le _)).of I₂ ?_
  rintro _ h₃ tk₃ _ _ I₃ ⟨D, rfl, rfl, rfl⟩
  refine wpAny_newFunctionEnv hcell (by intro y hy; simp at hy) (fun h₄ hns hsb => ?_) hkind
  obtain ⟨oc₀, e₀, ho₀⟩ := LCg.ns_obj hns
  have I₄ := ((I₃.push (σ := _) { cls := .type (if (some env).isSome then "dict" else "frame"), data := .dict #[] } rfl).setHead hsb e₀)
  generalize h₃.objs.size = a at *
  have loop : ∀ h tk, Inv C h m ((a, oc₀) :: (D, lstOf [] 0) :: (I', itOf l 0) :: (P₀ ++ R)) →
      codeAny C.M C.A (.compLoop (.ListComp elt [⟨target, iter, ifs, 0⟩] scope pos) 0 (.ref I') (.ref D) (compEnvC scope cl a env)) (compPost C.M C.A E none (Ends C Q) (.ref D) a) (C.sh h tk) := by
    intro h tk I
    refine codeAny_compLoop_all (fun k s => ∃ i ys P oc mc j h tk, k = vs.length - i ∧ i ≤ vs.length ∧ ys.length ≤ i ∧ s = C.sh h tk ∧ NsO oc mc ∧ Inv C h m ((I', itOf l i) :: (a, oc) :: (D, lstOf ys j) :: (P ++ R)) ∧ J i ys P) ?_ vs.length
      ⟨0, [], P₀, oc₀, _, 0, h, tk, by omega, Nat.zero_le _, Nat.zero_le _, rfl, ho₀, I.perm (by
        refine List.Perm.trans (List.Perm.cons _ (List.Perm.swap ..)) (List.Perm.swap ..)), hJ₀⟩
    rintro k s ⟨i, ys, P, oc, mc, j, h, tk, rfl, hi, hys, rfl, ho, I, hJ⟩
    have hL : LAt C ((I', itOf l i) :: (a, oc) :: (D, lstOf ys j) :: (P ++ R)) l vs.toArray := (hl i ys P hJ).cons.cons.cons
    by_cases hlt : i < vs.length
    · have hv : vs[i]? = some vs[i] := by simp [hlt]
      refine (ev_nextList (m := m) (Q := fun r m' σ' => r = some vs[i] ∧ m = m' ∧ (I', itOf l (i + 1)) :: (a, oc) :: (D, lstOf ys j) :: (P ++ R) = σ') hL (x := vs[i]) (by simp [hlt]) ⟨rfl, rfl, rfl⟩).of I ?_
      rintro _ h₄ tk₄ _ _ I₄ ⟨rfl, rfl, rfl⟩
      dsimp only
      have e2 : Ev C (letOwnedTupleGo target (.ref I') vs[i]) m ((I', itOf l (i + 1)) :: (a, oc) :: (D, lstOf ys j) :: (P ++ R)) (fun _ m' σ' => m = m' ∧ (I', itOf l (i + 1)) :: (a, oc) :: (D, lstOf ys j) :: (P ++ R) = σ') := ev_owned (by
        rcases ht with h | ⟨⟨es, k, p, h⟩, h2⟩
        · exact .inl h
        · obtain ⟨t, e⟩ := h2 vs[i] (List.getElem_mem hlt)
          exact .inr ⟨es, k, p, t, h, e⟩) (.head _) ⟨rfl, rfl⟩
      refine e2.of I₄ ?_
      rintro _ h₅ tk₅ _ _ I₅ ⟨rfl, rfl⟩
      have pm : ∀ (x y z : Addr × Obj) (P : Led), (x :: y :: z :: (P ++ R)).Perm (y :: (P ++ (x :: z :: R))) := fun x y z P =>
        (List.Perm.swap ..).trans (List.Perm.cons _ ((List.Perm.cons x List.perm_middle.symm).trans List.perm_middle.symm))
      have I₆ := I₅.perm (pm _ _ _ _)
      refine (turn i vs[i] ys P ((I', itOf l (i + 1)) :: (D, lstOf ys j) :: R) a oc mc hv (fun p hp => .tail _ (.tail _ hp)) ((List.sublist_cons_self _ _).trans (List.sublist_cons_self _ _)) hJ hys ho).of I₆ fun _ h₇ tk₇ m₇ σ₇ I₇ q => ?_
      refine q.of I₇ fun ok h₈ tk₈ m₈ σ₈ I₈ q => ?_
      cases ok with
      | false =>
        obtain ⟨rfl, oc', mc', P', ho', rfl, hJ'⟩ := q
        exact ⟨vs.length - (i + 1), by omega, i + 1, ys, P', oc', mc', j, h₈, tk₈, rfl, hlt, by omega, rfl, ho', I₈.perm (pm _ _ _ _).symm, hJ'⟩
      | true =>
        refine Ev.of q I₈ ?_
        rintro y h₉ tk₉ _ _ I₉ ⟨rfl, oc', mc', P', ho', rfl, hJ'⟩
        have pm2 : ∀ (x y z : Addr × Obj) (P : Led), (y :: (P ++ (x :: z :: R))).Perm (z :: x :: y :: (P ++ R)) := fun x y z P =>
          (pm x y z P).symm.trans ((List.Perm.cons x (List.Perm.swap ..)).trans (List.Perm.swap ..))
        refine (ev_append (m := m) (Q := fun _ m' σ' => m = m' ∧ (D, lstOf (ys ++ [y]) (j + 1)) :: (I', itOf l (i + 1)) :: (a, oc') :: (P' ++ R) = σ') (its := ys.toArray) (k := j) (x := y) (by simp; omega) ⟨rfl, by simp⟩).of (I₉.perm (pm2 _ _ _ _)) ?_
        rintro _ h₁₀ tk₁₀ _ _ I₁₀ ⟨rfl, rfl⟩
        exact ⟨vs.length - (i + 1), by omega, i + 1, ys ++ [y], P', oc', mc', j + 1, h₁₀, tk₁₀, rfl, hlt, by simp; omega, rfl, ho', I₁₀.perm ((List.Perm.swap ..).trans (List.Perm.cons _ (List.Perm.swap ..))), hJ'⟩
    · have hi' : i = vs.length := by omega
      subst hi'
      refine (ev_nextEnd (m := m) (Q := fun r m' σ' => r = none ∧ m = m' ∧ (a, oc) :: (D, lstOf ys j) :: (P ++ R) = σ') hh hL (by simp) ⟨rfl, rfl, rfl⟩).of I ?_
      rintro _ h₄ tk₄ _ _ I₄ ⟨rfl, rfl, rfl⟩
      exact ⟨mc, ho.ns (I₄.get (.head _)), fun h' hs' => Ends.intro (C := C) (tk := tk₄) (I₄.dropHead hs'.extBut) (done _ _ _ _ hJ hys)⟩
  refine codeAny_compStart_list (loop _ _ I₄) ?_
  refine (ev_iterIter (m := m) (Q := fun it m' σ' => it = .ref I' ∧ m = m' ∧ (a, oc₀) :: (D, lstOf [] 0) :: (I', itOf l 0) :: (P₀ ++ R) = σ') (.tail _ (.tail _ (.head _))) ⟨rfl, rfl, rfl⟩).of I₄ ?_
  rintro _ h₅ tk₅ _ _ I₅ ⟨rfl, rfl, rfl⟩
  exact loop _ _ I₅
theorem ev_ListComp {elt target iter : Expr} {ifs : List Expr} {scope : Scope} {cl : List (Str × Addr)} {pos : Pos} {vs : List Value} {l : Addr} {R : Led} {Q : Value → Loc → Led → Prop} (J : Nat → List Value → Led → Prop)
    (hh : C.A.handled = none) (hsz : vs.length ≤ sizeLine)
    (H : Ev C (eval iter env) m σ fun x m' σ' => x = .ref l ∧ m = m' ∧ ∃ P, σ' = P ++ R ∧ J 0 [] P)
    (hl : ∀ i ys P, J i ys P → LAt C (P ++ R) l vs.toArray)
    (ht : (∃ x p, target = .Name x p) ∨ ((∃ es k p, target = .Tuple es k p) ∧ ∀ v ∈ vs, ∃ t, v = .ref t))
    (turn : ∀ i v ys P R' a oc mc, vs[i]? = some v → (∀ p ∈ R, p ∈ R') → R.Sublist R' → J i ys P → ys.length ≤ i → NsO oc mc →
      Ev C (assign target (compEnvC scope cl a env) v) m ((a, oc) :: (P ++ R')) fun _ m' σ' => Ev C (tests ifs (compEnvC scope cl a env)) m' σ' fun ok m'' σ'' =>
        if ok = true then Ev C (eval elt (compEnvC scope cl a env)) m'' σ'' fun y m₃ σ₃ => m = m₃ ∧ ∃ oc' mc' P', NsO oc' mc' ∧ σ₃ = (a, oc') :: (P' ++ R') ∧ J (i + 1) (ys ++ [y]) P'
        else m = m'' ∧ ∃ oc' mc' P', NsO oc' mc' ∧ σ'' = (a, oc') :: (P' ++ R') ∧ J (i + 1) ys P')
    (done : ∀ a k ys P, J vs.length ys P → ys.length ≤ vs.length → Q (.ref a) m ((a, lstOf ys k) :: (P ++ R)))
    (hclos : closureFor scope env = pure cl := by with_unfolding_all rfl) (hcell : ∀ x ∈ scope.names, x.2 ≠ .cell := by with_unfolding_all decide) (hkind : scope.kind = .function := by with_unfolding_all rfl)
    (hnames : ∀ y ∈ scope.names, y.2 = .local → scope.names.lookup y.1 = some .local := by with_unfolding_all decide)
    (hs : ∀ x, foldedSetIterable iter env x = pure x := by intro _; with_unfolding_all rfl) :
    Ev C (eval (.ListComp elt [⟨target, iter, ifs, 0⟩] scope pos) env) m σ Q :=
  ev_CompAny hh (H.mono fun _ _ _ ⟨e, e', P, e'', hJ⟩ => ⟨l, vs, R, P, J, e, e', e'', hJ, hsz, hl, ht, turn, done⟩) hclos hcell hkind hnames hs
end
end

section
open PySem PySem.W PySem.Spec PySem.Calls PyProof.Rows PySem.SeqAt

section
variable {α : Type} {C : Cx} {m : Loc} {σ : Led} {env : Env} {n : Nat}

theorem Sp.refl (σ : Led) : Sp σ σ := ⟨σ, .refl _, .refl _⟩
theorem Sp.skip {σ' σ : Led} {x : Addr × Obj} (s : Sp σ' σ) : Sp σ' (x :: σ) := let ⟨τ, a, b⟩ := s; ⟨x :: τ, a.cons _, b.cons _⟩
theorem Sp.head {σ' σ : Led} {x : Addr × Obj} (s : Sp σ' σ) : Sp (x :: σ') (x :: σ) := let ⟨τ, a, b⟩ := s; ⟨x :: τ, a.cons_cons _, b.cons _⟩
theorem Sp.nil (σ : Led) : Sp [] σ := ⟨σ, List.nil_sublist _, .refl _⟩
section
variable {a b c d e f g : Addr × Obj}
theorem pb1 : (a :: b :: σ).Perm (b :: a :: σ) := .swap ..
theorem pb2 : (a :: b :: c :: σ).Perm (c :: a :: b :: σ) := (pb1.cons a).trans pb1
theorem pb3 : (a :: b :: c :: d :: σ).Perm (d :: a :: b :: c :: σ) := (pb2.cons a).trans pb1
theorem pb4 : (a :: b :: c :: d :: e :: σ).Perm (e :: a :: b :: c :: d :: σ) := (pb3.cons a).trans pb1
theorem pb5 : (a :: b :: c :: d :: e :: f :: σ).Perm (f :: a :: b :: c :: d :: e :: σ) := (pb4.cons a).trans pb1
theorem pb6 : (a :: b :: c :: d :: e :: f :: g :: σ).Perm (g :: a :: b :: c :: d :: e :: f :: σ) := (pb5.cons a).trans pb1
theorem Sp.b1 {σ' : Led} (s : Sp σ' (b :: a :: σ)) : Sp σ' (a :: b :: σ) := s.perm pb1.symm
theorem Sp.b2 {σ' : Led} (s : Sp σ' (c :: a :: b :: σ)) : Sp σ' (a :: b :: c :: σ) := s.perm pb2.symm
theorem Sp.b3 {σ' : Led} (s : Sp σ' (d :: a :: b :: c :: σ)) : Sp σ' (a :: b :: c :: d :: σ) := s.perm pb3.symm
theorem Sp.b4 {σ' : Led} (s : Sp σ' (e :: a :: b :: c :: d :: σ)) : Sp σ' (a :: b :: c :: d :: e :: σ) := s.perm pb4.symm
theorem Sp.b5 {σ' : Led} (s : Sp σ' (f :: a :: b :: c :: d :: e :: σ)) : Sp σ' (a :: b :: c :: d :: e :: f :: σ) := s.perm pb5.symm
theorem Sp.b6 {σ' : Led} (s : Sp σ' (g :: a :: b :: c :: d :: e :: f :: σ)) : Sp σ' (a :: b :: c :: d :: e :: f :: g :: σ) := s.perm pb6.symm
variable {t : Sem α} {Q : α → Loc → Led → Prop}
theorem Ev.b1 (H : Ev C t m (b :: a :: σ) Q) : Ev C t m (a :: b :: σ) Q := H.perm pb1
theorem Ev.b2 (H : Ev C t m (c :: a :: b :: σ) Q) : Ev C t m (a :: b :: c :: σ) Q := H.perm pb2
theorem Ev.b3 (H : Ev C t m (d :: a :: b :: c :: σ) Q) : Ev C t m (a :: b :: c :: d :: σ) Q := H.perm pb3
theorem Ev.b4 (H : Ev C t m (e :: a :: b :: c :: d :: σ) Q) : Ev C t m (a :: b :: c :: d :: e :: σ) Q := H.perm pb4
theorem Ev.b5 (H : Ev C t m (f :: a :: b :: c :: d :: e :: σ) Q) : Ev C t m (a :: b :: c :: d :: e :: f :: σ) Q := H.perm pb5
theorem Ev.b6 (H : Ev C t m (g :: a :: b :: c :: d :: e :: f :: σ) Q) : Ev C t m (a :: b :: c :: d :: e :: f :: g :: σ) Q := H.perm pb6
end
theorem Ev.sp {t : Sem α} {σ' : Led} {Q : α → Loc → Led → Prop} (s : Sp σ' σ) (H : Ev C t m σ' Q) : Ev C t m σ Q := fun _ _ _ I => H _ _ _ (I.sp s)

theorem ev_sum {l : Addr} {its : Array Value} {Q : Value → Loc → Led → Prop} (hh : C.A.handled = none) (hl : LAt C σ l its) (hi : AllInts its) (q : ∀ n t, Q (.int n t) m σ) : Ev C (call (.builtin "sum") [.ref l]) m σ Q := fun _ h tk I => by
  obtain ⟨xs, rfl⟩ := hi.items
  refine sum_intListG hh (hl h m I) fun h' tk' t' hk => ?_
  exact Ends.intro (C := C) (tk := tk') (I.kept hk) (q _ _)
theorem intAt {its : Array Value} (h : AllInts its) {k : Nat} (hk : k < its.size) : ∃ c t, its[k]? = some (.int c t) := by
  obtain ⟨c, t, e⟩ := h its[k] (Array.getElem_mem hk)
  exact ⟨c, t, by rw [Array.getElem?_eq_getElem hk, e]⟩
theorem ev_itemInts {value slice : Expr} {l : Addr} {its : Array Value} {k : Int} {u : Tok} {Q : Value → Loc → Led → Prop} (hl : LAt C σ l its) (hi : AllInts its) (h0 : 0 ≤ k) (h1 : k < its.size) (hz : its.size < 1000) (q : ∀ c t, Q (.int c t) m σ)
    (hs : subscripted slice false (.ref l) (.int k u) = operate [.ref l, .int k u] (getItem (.ref l) (.int k u)) := by with_unfolding_all rfl) : Ev C (subscriptTail value slice (.ref l) (.int k u)) m σ Q := by
  obtain ⟨c, t, e⟩ := intAt hi (k := k.toNat) (by omega)
  exact ev_item hl h0 (by omega) e (q _ _) hs
theorem allInts_of {vs : List Value} (h : ∀ v ∈ vs, ∃ a t, v = .int a t) : AllInts vs.toArray := fun v hv => h v (by simpa using hv)
theorem allInts_nil : ∀ v ∈ ([] : List Value), ∃ a t, v = .int a t := fun _ h => nomatch h
theorem allInts_cons {a : Int} {t : Tok} {vs : List Value} (h : ∀ v ∈ vs, ∃ a t, v = .int a t) : ∀ v ∈ (.int a t : Value) :: vs, ∃ a t, v = .int a t := fun v hv => by
  rcases List.mem_cons.mp hv with rfl | hv
  · exact ⟨_, _, rfl⟩
  · exact h v hv

theorem gl_files (w : World) : nsIn (KK w) mainGlobals "_law_files" = some (some (.ref 234)) := by kernel_rfl
theorem gl_line (w : World) : nsIn (KK w) mainGlobals "_law_line" = some (some (.ref 227)) := by kernel_rfl
theorem gl_read (w : World) : nsIn (KK w) mainGlobals "_law_read" = some (some (.ref 241)) := by kernel_rfl
theorem gl_due (w : World) : nsIn (KK w) mainGlobals "_law_due" = some (some (.ref 248)) := by kernel_rfl
theorem gl_under (w : World) : nsIn (KK w) mainGlobals "_law_under" = some (some (.ref 253)) := by kernel_rfl
theorem gl_names (w : World) : nsIn (KK w) mainGlobals "_law_names" = some (some (.ref 258)) := by kernel_rfl
theorem gl_diff (w : World) : nsIn (KK w) mainGlobals "unorderable_list_difference" = some (some (.ref 46)) := by kernel_rfl
theorem kp_files (w : World) : keepIn (KK w) (.ref 234) = true := by kernel_rfl
theorem kp_line (w : World) : keepIn (KK w) (.ref 227) = true := by kernel_rfl
theorem kp_read (w : World) : keepIn (KK w) (.ref 241) = true := by kernel_rfl
theorem kp_due (w : World) : keepIn (KK w) (.ref 248) = true := by kernel_rfl
theorem kp_under (w : World) : keepIn (KK w) (.ref 253) = true := by kernel_rfl
theorem kp_names (w : World) : keepIn (KK w) (.ref 258) = true := by kernel_rfl
theorem kp_diff (w : World) : keepIn (KK w) (.ref 46) = true := by kernel_rfl
theorem gn_sum (w : World) : nsIn (KK w) mainGlobals "sum" = some none := by kernel_rfl
theorem gn_range (w : World) : nsIn (KK w) mainGlobals "range" = some none := by kernel_rfl
theorem gn_len (w : World) : nsIn (KK w) mainGlobals "len" = some none := by kernel_rfl
theorem gn_list (w : World) : nsIn (KK w) mainGlobals "list" = some none := by kernel_rfl
theorem gn_map (w : World) : nsIn (KK w) mainGlobals "map" = some none := by kernel_rfl
theorem gn_str (w : World) : nsIn (KK w) mainGlobals "str" = some none := by kernel_rfl
theorem gn_TypeError (w : World) : nsIn (KK w) mainGlobals "TypeError" = some none := by kernel_rfl
theorem gn_ValueError (w : World) : nsIn (KK w) mainGlobals "ValueError" = some none := by kernel_rfl
end
end

local macro_rules | `(tactic| walk_at "sp1") => `(tactic| with_reducible first
  | exact Sp.refl _
  | refine Sp.head ?_
  | (refine Sp.b1 ?_; refine Sp.head ?_)
  | (refine Sp.b2 ?_; refine Sp.head ?_)
  | (refine Sp.b3 ?_; refine Sp.head ?_)
  | (refine Sp.b4 ?_; refine Sp.head ?_)
  | (refine Sp.b5 ?_; refine Sp.head ?_)
  | (refine Sp.b6 ?_; refine Sp.head ?_)
  | refine Sp.skip ?_)
local macro_rules | `(tactic| walk_at "sp") => `(tactic| ((try simp only [List.cons_append, List.nil_append, List.append_assoc]); repeat (walk_at "sp1")))
local macro_rules | `(tactic| walk_at "range") => `(tactic| (refine ev_Call ?_; refine ev_builtin (by assumption) (gn_range _) (by with_unfolding_all rfl) ?_; refine ev_callT1 ?_; walk_at "go"))

section
open PySem PySem.W PySem.Spec PySem.Calls PyProof.Rows PySem.SeqAt

section
variable {α : Type} {C : Cx} {m : Loc} {σ : Led} {env : Env} {n : Nat}

/-- a draw: the tuple's address, and its two ints -/
abbrev Dr := Addr × Int × Int
def Tups (f : List Dr) (T : Led) : Prop := ∀ e ∈ f, ∃ t u, (e.1, tupOf #[.int e.2.1 t, .int e.2.2 u]) ∈ T
abbrev drs (f : List Dr) : List Value := f.map fun e => .ref e.1
theorem Tups.cons {f : List Dr} {T : Led} {x : Addr × Obj} (h : Tups f T) : Tups f (x :: T) := fun e he => let ⟨t, u, hm⟩ := h e he; ⟨t, u, .tail _ hm⟩
theorem Tups.snoc {f : List Dr} {T : Led} {a : Addr} {x y : Int} {t u : Tok} (h : Tups f T) : Tups (f ++ [(a, x, y)]) ((a, tupOf #[.int x t, .int y u]) :: T) := fun e he => by
  rcases List.mem_append.mp he with he | he
  · exact h.cons e he
  · obtain rfl := List.mem_singleton.mp he; exact ⟨t, u, .head _⟩

def FP (F a0 a1 : Addr) (k0 k1 : Nat) (f0 f1 : List Dr) (T : Led) : Led := (F, lstOf [.ref a0, .ref a1] 0) :: (a0, lstOf (drs f0) k0) :: (a1, lstOf (drs f1) k1) :: T
def FJ (F a0 a1 l : Addr) (b : Nat) (m : Loc) (P : Led) : Prop :=
  m "files" = some (.ref F) ∧ m "script" = some (.ref l) ∧ ∃ f0 f1 k0 k1 T, f0.length + f1.length ≤ b ∧ Tups f0 T ∧ Tups f1 T ∧ P = FP F a0 a1 k0 k1 f0 f1 T

theorem FJ.upd {F a0 a1 l : Addr} {b : Nat} {m : Loc} {P : Led} (h : FJ F a0 a1 l b m P) {x : Str} {v : Value} (h1 : Str.ofString "files" ≠ x) (h2 : Str.ofString "script" ≠ x) : FJ F a0 a1 l b (upd m x v) P :=
  ⟨by rw [← h.1]; exact if_neg h1, by rw [← h.2.1]; exact if_neg h2, h.2.2⟩
theorem FJ.le {F a0 a1 l : Addr} {b c : Nat} {m : Loc} {P : Led} (h : FJ F a0 a1 l b m P) (hc : b ≤ c) : FJ F a0 a1 l c m P :=
  ⟨h.1, h.2.1, let ⟨f0, f1, k0, k1, T, hb, r⟩ := h.2.2; ⟨f0, f1, k0, k1, T, Nat.le_trans hb hc, r⟩⟩

theorem hai8 : ∀ t0 t1 t2 t3 t4 t5 t6 t7, AllInts #[.int 7 t0, .int 418 t1, .int 1601 t2, .int 914 t3, .int 6360 t4, .int 3462 t5, .int 24620 t6, .int 315 t7] := fun _ _ _ _ _ _ _ _ =>
  allInts_of (vs := [_, _, _, _, _, _, _, _]) (allInts_cons (allInts_cons (allInts_cons (allInts_cons (allInts_cons (allInts_cons (allInts_cons (allInts_cons allInts_nil))))))))
theorem hai2 {a b : Int} : ∀ t0 t1, AllInts #[.int a t0, .int b t1] := fun _ _ => allInts_of (vs := [_, _]) (allInts_cons (allInts_cons allInts_nil))
theorem files_ok {l : Addr} {vs : List Value} {ns : List Int} {Q : Value → Loc → Led → Prop} (G : Gd (n + 1) C env) (hl : C.bs.IsList l vs.toArray) (hi : IntsAre vs ns) (hsz : vs.length ≤ 63)
    (q : ∀ F a0 a1 k0 k1 f0 f1 T, f0.length + f1.length ≤ 32 → Tups f0 T → Tups f1 T → Q (.ref F) m (FP F a0 a1 k0 k1 f0 f1 T ++ σ)) : Ev C (call (.ref 234) [.ref l]) m σ Q := by
  refine ev_def (binds := [(Str.ofString "script", .ref l)]) G rfl (by kernel_rfl) (fun _ => BindsTo.of_eq rfl) (locs rfl) fun C' G' U => ?_
  have hl' : C'.bs.IsList l vs.toArray := by rw [U.b]; exact hl
  have hz : sizeLine = 16777216 := rfl
  walk_at "go"
  rename_i a0 _ a1 _ F _
  refine Ev.sp (σ' := FP F a0 a1 0 0 [] [] [] ++ σ) (by simp only [FP, drs, List.map_nil]; walk_at "sp") ?_
  refine ev_ForRange (N := 2) (R := σ) (fun i m P => FJ F a0 a1 l (16 * i) m P) G' G'.hh (by decide) ?_ (fun i m P R' t hi₂ hR hS hJ => ?_) (fun m P hJ => ?_)
  · walk_at "range"
    refine ev_range fun _ _ _ => ⟨_, _, _, _, _, rfl, rfl, ?_⟩
    exact ⟨rfl, rfl, [], [], 0, 0, [], Nat.zero_le _, (fun _ h => nomatch h), (fun _ h => nomatch h), rfl⟩
  · walk_at "go"
    refine ev_ForRange (N := 8) (R := R') (fun k m P => FJ F a0 a1 l (16 * i + 2 * k) m P ∧ ∃ t, m "turn" = some (.int i t)) G' G'.hh (by decide) ?_ (fun k m P R₂ t₂ hk hR₂ hS₂ hJ => ?_) (fun m P hJ => ?_)
    · walk_at "range"
      refine ev_range fun _ _ _ => ⟨_, _, _, _, _, rfl, rfl, ?_⟩
      exact ⟨hJ.upd (by decide) (by decide), _, rfl⟩
    · obtain ⟨⟨h1, h2, f0, f1, k0, k1, T, hb, hT0, hT1, rfl⟩, t, ht⟩ := hJ
      walk_at "go"
      refine ev_itemInts (.led (.head _)) (hai8 _ _ _ _ _ _ _ _) (by omega) (by show (k : Int) < (8 : Nat); omega) (by show 8 < 1000; decide) fun c t₃ => ?_
      refine Ev.drop ?_
      refine ev_Call ?_
      refine ev_builtin G' (gn_sum _) (by with_unfolding_all rfl) ?_
      refine ev_callB1 ?_
      refine ev_args_cons ?_
      refine ev_subSlice ?_
      walk_at "go"
      refine ⟨l, vs.toArray, some k, none, some 8, rfl, .base hl', by simp only [List.size_toArray]; omega, .int _ _, .none, .int _ _, by decide, fun _ => ⟨_, by with_unfolding_all rfl⟩, fun b => ?_⟩
      walk_at "go"
      refine ev_sum G'.hh (.led (.head _)) (IntsAre.allInts (IntsAre.pick hi _ _ _)) fun x t₅ => ?_
      refine Ev.drop ?_
      walk_at "go"
      generalize c + x = x
      refine ev_ForRange (N := 2) (R := R₂) (fun s m P => FJ F a0 a1 l (16 * i + 2 * k + s) m P ∧ (∃ t, m "turn" = some (.int i t)) ∧ ∃ t, m "x" = some (.int x t)) G' G'.hh (by decide) ?_ (fun s m P R₃ t₄ hs hR₃ hS₃ hJ => ?_) (fun m P hJ => ?_)
      · walk_at "range"
        refine ev_range fun _ _ _ => ⟨_, _, _, _, _, rfl, rfl, ?_⟩
        exact ⟨⟨h1, h2, f0, f1, k0, k1, T, hb, hT0, hT1, rfl⟩, ⟨_, ht⟩, _, rfl⟩
      · obtain ⟨⟨h1, h2, f0, f1, k0, k1, T, hb, hT0, hT1, rfl⟩, ⟨t, ht⟩, t', ht'⟩ := hJ
        refine Ev.forget ?_
        walk_at "go"
        refine ev_itemInts (.led (.head _)) (hai2 _ _) (by omega) (by show (s : Int) < (2 : Nat); omega) (by show 2 < 1000; decide) fun c t₅ => ?_
        refine Ev.drop ?_
        walk_at "go"
        split
        · have hz0 : f0.length ≤ sizeLine := by omega
          have hz1 : f1.length ≤ sizeLine := by omega
          rcases (by omega : s = 0 ∨ s = 1) with rfl | rfl
          · walk_at "go"
            refine ev_item (.led (.head _)) (by decide) (by decide) rfl ?_
            refine ev_methodList (.tail _ (.head _)) slot_list_append (by with_unfolding_all rfl) ?_
            refine ev_callB1 ?_
            walk_at "go"
            refine ev_mul (hm := .of_left (by decide)) fun _ => ?_
            walk_at "go"
            refine ev_mul (hm := .of_left (by decide)) fun _ => ?_
            walk_at "go"
            rename_i tk9 tu _
            show Ev C' (call (.builtin "list.append") [.ref a0, .ref tu]) _ ((tu, _) :: (F, _) :: (a0, _) :: (a1, _) :: (T ++ R₃)) _
            refine Ev.b2 (ev_append (by simpa [drs] using hz0) ?_)
            walk_at "go"
            refine ⟨_ ++ R₃, ?_, FP F a0 a1 (k0 + 1) k1 (f0 ++ [(tu, x, 7 * ((0 : Nat) : Int) + 5 * (i : Int))]) f1 ((tu, tupOf #[.int x t', .int (7 * ((0 : Nat) : Int) + 5 * (i : Int)) tk9]) :: T), rfl, ⟨h1, h2, _, _, _, _, _, by simp only [List.length_append, List.length_singleton]; omega, hT0.snoc, hT1.cons, rfl⟩, ⟨t, ht⟩, t', ht'⟩
            simp only [FP, drs, List.map_append, List.map_cons, List.map_nil, List.push_toArray]
            walk_at "sp"
          · walk_at "go"
            refine ev_item (.led (.head _)) (by decide) (by decide) rfl ?_
            refine ev_methodList (.tail _ (.tail _ (.head _))) slot_list_append (by with_unfolding_all rfl) ?_
            refine ev_callB1 ?_
            walk_at "go"
            refine ev_mul (hm := .of_left (by decide)) fun _ => ?_
            walk_at "go"
            refine ev_mul (hm := .of_left (by decide)) fun _ => ?_
            walk_at "go"
            rename_i tk9 tu _
            show Ev C' (call (.builtin "list.append") [.ref a1, .ref tu]) _ ((tu, _) :: (F, _) :: (a0, _) :: (a1, _) :: (T ++ R₃)) _
            refine Ev.b3 (ev_append (by simpa [drs] using hz1) ?_)
            walk_at "go"
            refine ⟨_ ++ R₃, ?_, FP F a0 a1 k0 (k1 + 1) f0 (f1 ++ [(tu, x, 7 * ((1 : Nat) : Int) + 5 * (i : Int))]) ((tu, tupOf #[.int x t', .int (7 * ((1 : Nat) : Int) + 5 * (i : Int)) tk9]) :: T), rfl, ⟨h1, h2, _, _, _, _, _, by simp only [List.length_append, List.length_singleton]; omega, hT0.cons, hT1.snoc, rfl⟩, ⟨t, ht⟩, t', ht'⟩
            simp only [FP, drs, List.map_append, List.map_cons, List.map_nil, List.push_toArray]
            walk_at "sp"
        · walk_at "go"
          exact ⟨_, .refl _, _, rfl, ⟨h1, h2, f0, f1, k0, k1, T, by omega, hT0, hT1, rfl⟩, ⟨t, ht⟩, t', ht'⟩
      · walk_at "go"
        exact ⟨P, rfl, hJ.1, hJ.2.1⟩
    · walk_at "go"
      exact ⟨P, rfl, hJ.1.le (by omega)⟩
  · obtain ⟨h1, h2, f0, f1, k0, k1, T, hb, hT0, hT1, rfl⟩ := hJ
    walk_at "go"
    exact q _ _ _ _ _ _ _ _ hb hT0 hT1
end
end

section
open PySem PySem.W PySem.Spec PySem.Calls PyProof.Rows PySem.SeqAt PySem.MeetsSeq

-- list.remove, by an equality that holds here
theorem remove_loopAt (l : Addr) (items : Array Value) (n : Nat) (x : Value) (e : Value → Bool) (j : Nat) (hj : j < items.size) (hit : e items[j] = true) (k : Nat) (hs1 : items.size ≤ sizeLine) :
    ∀ i : Nat, j - i = k → i ≤ j → (∀ m (hm : m < items.size), i ≤ m → m < j → e items[m] = false) → Meets (Builtin.«list.remove.loop» ⟨[.ref l, x, rawInt i], []⟩)
      (fun A R s => s.heap.get? l = some { cls := .type "list", dict := none, data := .seq items n, slots := #[] } ∧ (∀ y, y ∈ items → EqAt A.in1 s y x (e y)) ∧ R (.ok (.ret .none)) { s with heap := s.heap.update l (Obj.mapSeq fun xs => xs.eraseIdxIfInBounds j) }) := by
  induction k with
  | zero =>
    intro i hk hij hno prog w A R s h
    obtain ⟨hp, g, d, tk, os⟩ := s; obtain ⟨hl, he, h⟩ := h
    have hij' : i = j := by omega
    subst hij'
    wp_walk using wpAny_loadPart' hl
    have hi : items[((i : Nat) : Int).toNat]? = some items[i] := by simp [hj]
    rw [hi]
    refine wpAny_bind (he _ (Array.getElem_mem hj) prog w _ _ ?_)
    rw [hit]
    have hz' : (items.eraseIdxIfInBounds i).size ≤ sizeLine + 1 := Nat.le_trans (size_erased items _) (Nat.le_succ_of_le hs1)
    wp_walk using (wpAny_updateSeq hl rfl (hz := hs1) (_hz' := hz')), wpAny_loadPart' hl
    simpa using h
  | succ k ih =>
    intro i hk hij hno prog w A R s h
    obtain ⟨hp, g, d, tk, os⟩ := s; obtain ⟨hl, he, h⟩ := h
    have hlt : i < items.size := by omega
    wp_walk using wpAny_loadPart' hl
    have hi : items[((i : Nat) : Int).toNat]? = some items[i] := by simp [hlt]
    have hc : ((i : Int) + 1) = ((i + 1 : Nat) : Int) := by push_cast; rfl
    rw [hi]
    refine wpAny_bind (he _ (Array.getElem_mem hlt) prog w _ _ ?_)
    rw [hno i hlt (Nat.le_refl _) (by omega)]
    wp_walk
    rw [hc]
    exact ⟨plainId_quiet plain_remove_loop _, codeAny_builtin entry_remove_loop (by
      rw [Around.under_plainId plain_remove_loop _]
      exact ih (i + 1) (by omega) (by omega) (fun m hm h1 h2 => hno m hm (by omega) h2) prog w A R _ ⟨hl, he, h⟩)⟩
theorem list_removeAt (l : Addr) (items : Array Value) (n : Nat) (x : Value) (e : Value → Bool) (j : Nat) (hj : j < items.size)
    (hit : e items[j] = true) (hno : ∀ m (hm : m < items.size), m < j → e items[m] = false) (hs1 : items.size ≤ sizeLine) :
    Meets (Builtin.«list.remove» ⟨[.ref l, x], []⟩)
      (fun A R s => s.heap.get? l = some { cls := .type "list", dict := none, data := .seq items n, slots := #[] } ∧ (∀ y, y ∈ items → EqAt A.in1 s y x (e y)) ∧ R (.ok (.ret .none)) { s with heap := s.heap.update l (Obj.mapSeq fun xs => xs.eraseIdxIfInBounds j) }) := by
  intro prog w A R s h
  obtain ⟨hp, g, d, tk, os⟩ := s; obtain ⟨hl, he, h⟩ := h
  wp_walk using wpAny_loadPart' hl
  exact ⟨plainId_quiet plain_remove_loop _, codeAny_builtin entry_remove_loop (by
    rw [Around.under_plainId plain_remove_loop _]
    exact remove_loopAt l items n x e j hj hit _ hs1 0 rfl (Nat.zero_le _) (fun m hm _ h2 => hno m hm h2) prog w A R _ ⟨hl, he, h⟩)⟩
theorem remove_loop_noneAt (l : Addr) (items : Array Value) (n : Nat) (x : Value) (e : Value → Bool) (hno : ∀ m (hm : m < items.size), e items[m] = false) (k : Nat) :
    ∀ i : Nat, items.size - i = k → Meets (Builtin.«list.remove.loop» ⟨[.ref l, x, rawInt i], []⟩)
      (fun A R s => s.heap.get? l = some { cls := .type "list", dict := none, data := .seq items n, slots := #[] } ∧ (∀ y, y ∈ items → EqAt A.in1 s y x (e y)) ∧ raisesNew "ValueError" A R s) := by
  induction k with
  | zero =>
    intro i hk prog w A R s h
    obtain ⟨hp, g, d, tk, os⟩ := s; obtain ⟨hl, he, h⟩ := h
    wp_walk using wpAny_loadPart' hl
    have hi : items[((i : Nat) : Int).toNat]? = none := by simp; omega
    rw [hi]
    wp_walk
    exact_raiseError plainExc_ValueError h.1 h.2
  | succ k ih =>
    intro i hk prog w A R s h
    obtain ⟨hp, g, d, tk, os⟩ := s; obtain ⟨hl, he, h⟩ := h
    have hlt : i < items.size := by omega
    wp_walk using wpAny_loadPart' hl
    have hi : items[((i : Nat) : Int).toNat]? = some items[i] := by simp [hlt]
    have hc : ((i : Int) + 1) = ((i + 1 : Nat) : Int) := by push_cast; rfl
    rw [hi]
    refine wpAny_bind (he _ (Array.getElem_mem hlt) prog w _ _ ?_)
    rw [hno i hlt]
    wp_walk
    rw [hc]
    exact ⟨plainId_quiet plain_remove_loop _, codeAny_builtin entry_remove_loop (by
      rw [Around.under_plainId plain_remove_loop _]
      exact ih (i + 1) (by omega) prog w A R _ ⟨hl, he, h⟩)⟩
theorem list_remove_noneAt (l : Addr) (items : Array Value) (n : Nat) (x : Value) (e : Value → Bool) (hno : ∀ m (hm : m < items.size), e items[m] = false) :
    Meets (Builtin.«list.remove» ⟨[.ref l, x], []⟩)
      (fun A R s => s.heap.get? l = some { cls := .type "list", dict := none, data := .seq items n, slots := #[] } ∧ (∀ y, y ∈ items → EqAt A.in1 s y x (e y)) ∧ raisesNew "ValueError" A R s) := by
  intro prog w A R s h
  obtain ⟨hp, g, d, tk, os⟩ := s; obtain ⟨hl, he, h⟩ := h
  wp_walk using wpAny_loadPart' hl
  exact ⟨plainId_quiet plain_remove_loop _, codeAny_builtin entry_remove_loop (by
    rw [Around.under_plainId plain_remove_loop _]
    exact remove_loop_noneAt l items n x e hno _ 0 rfl prog w A R _ ⟨hl, he, h⟩)⟩

section
variable {α β : Type} {C : Cx} {m : Loc} {σ : Led} {env : Env} {n : Nat}

/-- a term that may raise: E is what is to hold of the raised -/
def EvG (C : Cx) (E : Value → Shared → Prop) (t : Sem α) (m : Loc) (σ : Led) (Q : α → Loc → Led → Prop) : Prop :=
  ∀ h tk, Inv C h m σ → wpAny C.M C.A t (Ends C Q) E (C.sh h tk)
section
variable {E : Value → Shared → Prop}
theorem EvG.of {t : Sem α} {Q : α → Loc → Led → Prop} (H : EvG C E t m σ Q) {h : Heap} {tk : Nat} (I : Inv C h m σ) {R : α → Shared → Prop}
    (k : ∀ v h' tk' m' σ', Inv C h' m' σ' → Q v m' σ' → R v (C.sh h' tk')) : wpAny C.M C.A t R E (C.sh h tk) :=
  wpAny_mono (H h tk I) (fun v s' ⟨h', tk', m', σ', e, I', q⟩ => by subst e; exact k v h' tk' m' σ' I' q) fun _ _ x => x
theorem Ev.g {t : Sem α} {Q : α → Loc → Led → Prop} (H : Ev C t m σ Q) : EvG C E t m σ Q := H E
theorem EvG.mono {t : Sem α} {Q Q' : α → Loc → Led → Prop} (H : EvG C E t m σ Q) (k : ∀ v m' σ', Q v m' σ' → Q' v m' σ') : EvG C E t m σ Q' :=
  fun _ _ I => H.of I fun _ _ _ _ _ I' q => Ends.intro I' (k _ _ _ q)
theorem gx_nil {Q : Flow → Loc → Led → Prop} (q : Q .next m σ) : EvG C E (execs [] env) m σ Q := fun _ _ I => wpAny_execs_nil (Ends.intro I q)
theorem gx_cons {st : Stmt} {rest : List Stmt} {Q : Flow → Loc → Led → Prop}
    (H : EvG C E (exec st env) m σ fun f m' σ' => match f with | .next => EvG C E (execs rest env) m' σ' Q | f => Q f m' σ') : EvG C E (execs (st :: rest) env) m σ Q :=
  fun _ _ I => wpAny_execs_cons (H.of I fun f _ _ _ _ I' q => by cases f <;> first | exact q _ _ I' | exact Ends.intro I' q)
theorem gx_Expr {e : Expr} {pos : Pos} {Q : Flow → Loc → Led → Prop} (H : EvG C E (eval e env) m σ fun _ => Q .next)
    (hi : interactive env = false := by with_unfolding_all rfl) (hs : swapsWith e none pos.line env = pure false := by with_unfolding_all rfl) : EvG C E (exec (.Expr e pos) env) m σ Q :=
  fun _ _ I => wpAny_Expr_any (H.of I fun _ _ _ _ _ I' q => Ends.intro I' q) hi hs
theorem gx_AssignName {x : Str} {pos' pos : Pos} {value : Expr} {Q : Flow → Loc → Led → Prop} (H : EvG C E (eval value env) m σ fun v m' σ' => Ev C (storeName env x v) m' σ' fun _ => Q .next)
    (hs : swapsWith value (some (.Name x pos')) pos.line env = pure false := by with_unfolding_all rfl) : EvG C E (exec (.Assign [.Name x pos'] value pos) env) m σ Q :=
  fun _ _ I => wpAny_Assign_Name (H.of I fun _ _ _ _ _ I' q => q.of I' fun _ _ _ _ _ I'' q => Ends.intro I'' q) hs
theorem gx_Return {e : Expr} {pos : Pos} {Q : Flow → Loc → Led → Prop} (H : EvG C E (eval e env) m σ fun v => Q (.ret v)) : EvG C E (exec (.Return (some e) pos) env) m σ Q :=
  fun _ _ I => wpAny_Return_some (H.of I fun _ _ _ _ _ I' q => Ends.intro I' q)
theorem gx_MethodCall {o : Expr} {name : Str} {apos pos : Pos} {args : List Expr} {pl : Sem Bool} {Q : Value → Loc → Led → Prop}
    (H : Ev C (eval o env) m σ fun ov m' σ' => Ev C (getMethod ov name pl) m' σ' fun fx m'' σ'' => EvG C E (callWith pos fx.1 fx.2 (backTo pos (starEach args env)) []) m'' σ'' Q)
    (he : eval (.Call (.Attribute o name apos) args [] pos) env = (do
      let ov ← eval o env
      standAt apos.atName
      let (f, first) ← holding [ov] (getMethod ov name pl)
      callWith pos f first (backTo pos (starEach args env)) []) := by with_unfolding_all rfl) : EvG C E (eval (.Call (.Attribute o name apos) args [] pos) env) m σ Q := fun _ _ I =>
  MethodCall_ (H.of I fun _ _ _ _ _ I' q => q.of I' fun _ _ _ _ _ I'' q => q _ _ I'') he
theorem gx_callB1 {pos : Pos} {id : String} {first : List Value} {e : Expr} {rest : List Expr} {Q : Value → Loc → Led → Prop} (H : Ev C (spliced (backTo pos (starEach (e :: rest) env))) m σ fun vs m' σ' => EvG C E (call (.builtin id) (first ++ vs)) m' σ' Q)
    (he : starEach (e :: rest) env = (false, eval e env) :: starEach rest env := by with_unfolding_all rfl) (hp : (backTo pos (starEach rest env)).any (·.1) = false := by with_unfolding_all rfl) :
    EvG C E (callWith pos (.builtin id) first (backTo pos (starEach (e :: rest) env)) []) m σ Q := fun _ _ I => callWith_method1 (H.of I fun _ _ _ _ _ I' q => q _ _ I') he hp
theorem gx_callK1 {pos : Pos} {f : Value} {first : List Value} {e : Expr} {rest : List Expr} {Q : Value → Loc → Led → Prop} (G : Gd n C env) (hk : keepIn (KK C.w) f = true)
    {env' : Env} (H : Ev C (spliced (backTo pos (starEach (e :: rest) env'))) m σ fun vs m' σ' => EvG C E (call f (first ++ vs)) m' σ' Q)
    (he : starEach (e :: rest) env' = (false, eval e env') :: starEach rest env' := by with_unfolding_all rfl) (hp : (backTo pos (starEach rest env')).any (·.1) = false := by with_unfolding_all rfl) :
    EvG C E (callWith pos f first (backTo pos (starEach (e :: rest) env')) []) m σ Q :=
  fun _ _ I => callWith_K (G.X.keeps I.keep) hk (H.of I fun _ _ _ _ _ I' q => ⟨G.X.keeps I'.keep, q _ _ I'⟩) he hp
end

/-- what is thrown in a frame: made there, or come from a call -/
inductive Thr (C : Cx) (env : Env) (X : String) (m : Loc) (σ : Led) : Value → Shared → Prop
  | made {hB h : Heap} {tk : Nat} {a : Addr} (I : Inv C hB m σ) (x : Heap.NewExc hB h a X) : Thr C env X m σ (.ref a) (C.sh h tk)
  | came {A₀ : Around} {outer : List Env} {g G h : Heap} {tk : Nat} {a : Addr} (hA : C.A.frames = some (env :: outer)) (hfs : C.fs = outer.filterMap (·.frame)) (K : Below A₀ C.bs outer g) (T : KtsTurn C.fs C.h₀ g) (F : Fr g C.L G m)
      (R : RaisedSN C.bs G (env :: outer) a (.type X) σ h) (u : G.UpToSlots h) (d : (σ.map (·.1)).Nodup) : Thr C env X m σ (.ref a) (C.sh h tk)

/-- the mark of a handled exception on the frame -/
abbrev Cx.on (C : Cx) (a : Addr) : Cx := { C with A := C.A.mark (some (.ref a)) }
theorem Inv.on {h : Heap} {a : Addr} (I : Inv C h m σ) : Inv (C.on a) h m σ := ⟨I.x⟩
theorem Inv.off {h : Heap} {a : Addr} (I : Inv (C.on a) h m σ) : Inv C h m σ := ⟨I.x⟩

theorem frames_mem {env : Env} {outer : List Env} {L b : Addr} (hf : env.frame = some L) (hm : b ∈ (env :: outer).filterMap (·.frame)) : b = L ∨ b ∈ outer.filterMap (·.frame) := by
  rw [List.filterMap_cons, hf] at hm
  exact List.mem_cons.mp hm
/-- the ground anew, after the frames' slots have changed -/
theorem ground_anew {A₀ : Around} {base g G B h₅ : Heap} {env : Env} {outer : List Env} {L : Addr} (hf : env.frame = some L) (K : Below A₀ base outer g) (F : Fr g L G m) (hBG : ∀ b o, G.get? b = some o → b ∉ (env :: outer).filterMap (·.frame) → B.get? b = some o) (hBh : B.StaysIn h₅) (hsm : G.UpToSlots h₅) :
    ∃ g', KtsTurn (outer.filterMap (·.frame)) g g' ∧ Fr g' L h₅ m ∧ Below A₀ base outer g' := by
  obtain ⟨T, S⟩ := kts_turn_at (h := h₅) (fs := outer.filterMap (·.frame)) (g := g)
    (fun b hb => by
      obtain ⟨_, o, ho, _⟩ := K.frames.mem hb
      exact ⟨o, ho⟩)
    (fun b o e nm => hBh b o (hBG b o (F.keep b o e) (fun hm => by
      rcases frames_mem hf hm with z | z
      · rw [z, kts_self F] at e
        cases e
      · exact nm z)))
    (fun b o e hm => by
      obtain ⟨_, o', ho', hd⟩ := K.frames.mem hm
      rw [e] at ho'
      cases ho'
      exact hsm b o (F.keep b o e) hd)
  refine ⟨_, T, ⟨hsm.ns F.ns, S, by rw [T.size]; exact F.above⟩, ⟨K.stack, fun b o e => T.other b o (K.stays b o e) (fun hm => by
    rw [(K.frames.mem hm).1] at e
    cases e), K.frames.of_keeps fun b o e _ => ?_⟩⟩
  obtain ⟨sl, hs⟩ := T.up e
  exact ⟨_, hs, rfl⟩

/-- noted, and no more in flight -/
theorem thr_noted {X : String} {e : Value} {s' : Shared} {E : Value → Shared → Prop} {Q : Unit → Shared → Prop} (G : Gd n C env) (x : Thr C env X m σ e s')
    (k : ∀ A₀ outer g G h tk a, e = .ref a → C.A.frames = some (env :: outer) → C.fs = outer.filterMap (·.frame) → Below A₀ C.bs outer g → KtsTurn C.fs C.h₀ g → Fr g C.L G m →
      RaisedSN C.bs G (env :: outer) a (.type X) σ h → G.UpToSlots h → (σ.map (·.1)).Nodup → Q () (C.sh h tk)) :
    wpAny C.M C.A (noteFrame e env) (fun _ s₂ => wpAny C.M C.A (setFlight e none) Q E s₂) E s' := by
  cases x with
  | @came A₀ outer g G' h tk a hA hfs K T F R u d =>
    obtain ⟨B, a0, hB, hBG, hl, hfl⟩ := R
    refine wpAny_looks_onW hA G.hf hfl fun h₄ hheld₄ hsm₄ => ?_
    refine wpAny_landsW hheld₄ fun h₅ hheld hsm₅' => ?_
    exact k A₀ outer g G' h₅ tk a rfl hA hfs K T F ⟨B, a0, hB, hBG, hl, hheld⟩ (u.trans (hsm₄.trans hsm₅')) d
  | @made hB h tk a I x =>
    obtain ⟨outer, hA, hl, BG, D, _, turn⟩ := ground G I
    obtain ⟨A₀, g, bg, T, F, K⟩ := turn _ KtsTurn.refl
    have hfs : C.fs = outer.filterMap (·.frame) := by
      rw [List.filterMap_cons, G.hf] at hl
      exact (List.cons.inj hl).2.symm
    have sub : ∀ b o, (hideAll hB (σ.map (·.1))).get? b = some o → hB.get? b = some o := fun b o e => of_hideAll _ e
    have frm : ∀ b ∈ (env :: outer).filterMap (·.frame), ∃ o, (hideAll hB (σ.map (·.1))).get? b = some o := fun b hb => by
      obtain ⟨_, o, ho, _⟩ := BG.frames.mem hb
      exact ⟨o, ho⟩
    have hin : ∀ env' ∈ (env :: outer), ∀ b, env'.frame = some b → b ∈ (env :: outer).filterMap (·.frame) := fun env' he b hb => List.mem_filterMap.mpr ⟨env', he, hb⟩
    have FF : hB.FunFrames C.bs (env :: outer) := BG.frames.of_keeps fun b o e _ => ⟨o, sub b o e, rfl⟩
    have st : C.bs.StaysIn (hideAll hB ((env :: outer).filterMap (·.frame))) := fun b o q => hideAll_get _ (I.keep b o q) fun hm => by
      rw [(BG.frames.mem hm).1] at q; cases q
    have sg : ∀ b o, (hideAll hB (σ.map (·.1))).get? b = some o → b ∉ (env :: outer).filterMap (·.frame) → (hideAll hB ((env :: outer).filterMap (·.frame))).get? b = some o := fun b o q nm => hideAll_get _ (sub b o q) nm
    have hl' : ∀ q ∈ σ, (hideAll hB ((env :: outer).filterMap (·.frame))).get? q.1 = some q.2 ∧ (hideAll hB (σ.map (·.1))).get? q.1 = none ∧ C.bs.get? q.1 = none := fun q hq => by
      have hn : (hideAll hB (σ.map (·.1))).get? q.1 = none := hideAll_none _ (List.mem_map_of_mem hq)
      refine ⟨hideAll_get _ (I.get hq) fun hm => ?_, hn, fresh_of_stays BG.stays hn⟩
      obtain ⟨o, ho⟩ := frm _ hm
      rw [hn] at ho; cases ho
    obtain ⟨ob, tp, he, hcls, hd⟩ := x.there
    have hen : (hideAll hB ((env :: outer).filterMap (·.frame))).get? a = none := by
      cases q : (hideAll hB ((env :: outer).filterMap (·.frame))).get? a with
      | none => rfl
      | some o => have := of_hideAll _ q; rw [x.new] at this; cases this
    unfold noteFrame
    simp only [G.hf]
    refine wpAny_bind (wpAny_field he hd (x := .none) rfl ?_)
    rw [if_neg (by decide)]
    refine wpAny_newEntryW (a0 := tp) hA ((funFrames_hide FF hin).of_keeps fun b o hb _ => ⟨o, x.keeps b o hb, rfl⟩) G.hf he (fun b o hb => x.keeps b o (of_hideAll _ hb)) hen hd (by show 1 < 6; decide) rfl fun h' hL => ?_
    obtain ⟨k1, k2, k3, k4⟩ := hL
    exact k A₀ outer g _ h' tk a rfl hA hfs K T F ⟨_, tp, st, sg, hl', k1, hen, k2, by rw [← hcls]; exact k3⟩ (((Heap.UpToSlots.of_keeps sub).trans (Heap.UpToSlots.of_keeps x.keeps)).trans k4) (let ⟨_, _, _, J⟩ := I.x; J.D)

/-- a raised one that the clause takes -/
theorem thr_caught {X T' : String} {x : Str} {e : Value} {s' : Shared} {E : Value → Shared → Prop} {Q : Flow → Loc → Led → Prop} {b₀ : Stmt} {suite : List Stmt} {np pos : Pos} (G : Gd n C env) (y : Thr C env X m σ e s')
    (ex : nsIn (KK C.w) mainGlobals x = some none) (hv : bootBuiltins x = some (.type T')) (hn' : x ≠ "__name__")
    (hexc : isSubtype (.type T') (.type "BaseException") = pure true) (hnt : isSubtype (.type ((Manifest.find? T').elim "type" fun y => y.metatype)) (.type "tuple") = pure false) (hsub : isSubtype (.type X) (.type T') = pure true)
    (H : ∀ a, Ev (C.on a) (execs (b₀ :: suite) env) m σ Q)
    (hx : env.kindOf x = some .globalImplicit) (hd : (x == ("__debug__" : Str)) = false) :
    wpAny C.M C.A (noteFrame e env) (fun _ s₂ => wpAny C.M C.A (setFlight e none) (fun _ s₃ => wpAny C.M C.A (handleBy e env [.ExceptHandler (some (.Name x np)) none (b₀ :: suite) pos]) (Ends C Q) E s₃) E s₂) E s' := by
  refine thr_noted G y fun A₀ outer g G' h tk a he hA hfs K T F R u d => ?_
  subst he
  obtain ⟨B, a0, hB, hBG, hl, hfl⟩ := R
  obtain ⟨p, loose, mean, mg, mb, TT⟩ := G.T
  have hL : B.get? C.L = none := by
    obtain ⟨_, ⟨L', _, hf, hn', _⟩, _⟩ := hfl.2.2.1
    obtain rfl : C.L = L' := Option.some.inj (G.hf.symm.trans hf)
    exact hn'
  have kb : ∀ b o, C.bs.get? b = some o → h.get? b = some o := fun b o e => hfl.1 b o (hB b o e)
  obtain ⟨ob, hob, hobc⟩ := hfl.there
  refine wpAny_handleBy_builtin (X := X) (T := T') (b := true) hexc hnt hsub ?_
  refine Name_function_global G.hk hx (loadGlobal_builtin (env := env) (by rw [G.hg]; exact TT.g.keeps kb) (mg_none_of G.X TT.g ex) (by rw [G.hb]; exact TT.b.keeps kb) ((TT.builtins x hn').trans hv) ⟨rfl, ⟨ob, hob, hobc⟩, ?_⟩) hd
  rw [if_pos rfl]
  refine lands_againW hfl fun h₆ hfl₆ hsm₆ => ?_
  obtain ⟨g₆, T₆, F₆, K₆⟩ := ground_anew G.hf K F hBG hfl₆.1 (u.trans hsm₆)
  have Nl : News g₆ C.L h₆ σ := fun q hq => ⟨hfl₆.1 _ _ (hl q hq).1, (fun z => by have := (hl q hq).1; rw [z, hL] at this; cases this), T₆.none_ _ (kts_none F.keep (hl q hq).2.1)⟩
  have I : Inv C h₆ m σ := ⟨⟨g₆, K₆.stays, T.trans (by rw [hfs]; exact T₆), F₆, Nl, d⟩⟩
  exact (H a).of I.on fun f h₇ tk₇ m₇ σ₇ I₇ q => Ends.intro I₇.off q

/-- try: what is thrown is taken by the one clause -/
theorem ev_Try {X T' : String} {x : Str} {Q : Flow → Loc → Led → Prop} {S : Loc → Led → Prop} {body : List Stmt} {b₀ : Stmt} {suite : List Stmt} {np pos hpos : Pos} (G : Gd n C env)
    (H : ∀ E : Value → Shared → Prop, (∀ m' σ' e s', Thr C env X m' σ' e s' → S m' σ' → E e s') → EvG C E (execs body env) m σ Q)
    (hS : ∀ m' σ', S m' σ' → ∀ a, Ev (C.on a) (execs (b₀ :: suite) env) m' σ' Q)
    (ex : nsIn (KK C.w) mainGlobals x = some none) (hv : bootBuiltins x = some (.type T'))
    (hexc : isSubtype (.type T') (.type "BaseException") = pure true) (hnt : isSubtype (.type ((Manifest.find? T').elim "type" fun y => y.metatype)) (.type "tuple") = pure false) (hsub : isSubtype (.type X) (.type T') = pure true)
    (hn' : x ≠ "__name__" := by with_unfolding_all decide) (hx : env.kindOf x = some .globalImplicit := by with_unfolding_all rfl) (hd : (x == ("__debug__" : Str)) = false := by with_unfolding_all decide) :
    Ev C (exec (.Try body [.ExceptHandler (some (.Name x np)) none (b₀ :: suite) hpos] [] [] pos) env) m σ Q := fun E h tk I => by
  refine wpAny_Try_except ?_
  refine (H _ (fun m' σ' e s' y q => ?_)).of I fun f h' tk' m' σ' I' q => ?_
  · exact thr_caught G y ex hv hn' hexc hnt hsub (hS m' σ' q) hx hd
  · cases f with
    | next => exact wpAny_execs_nil (Ends.intro I' q)
    | cont => exact Ends.intro I' q
    | brk => exact Ends.intro I' q
    | ret v => exact Ends.intro I' q
end
end

section
open PySem PySem.W PySem.Spec PySem.Calls PyProof.Rows PySem.SeqAt

/-- the pure form of the difference: the first list backwards -/
def difR {δ : Type} (e : δ → δ → Bool) : List δ → List δ → List δ × List δ
  | [], qs => ([], qs)
  | x :: r, qs => if (qs.any fun p => e p x) = true then difR e r (qs.eraseP fun p => e p x) else (x :: (difR e r qs).1, (difR e r qs).2)
abbrev Ent := Value × PyData
abbrev eqE : Ent → Ent → Bool := fun p q => PyData.eqv p.2 q.2

theorem difR_len {δ : Type} (e : δ → δ → Bool) : ∀ (xs ys : List δ), (difR e xs ys).1.length ≤ xs.length ∧ (difR e xs ys).2.length ≤ ys.length
  | [], ys => ⟨Nat.zero_le _, Nat.le_refl _⟩
  | x :: r, ys => by
    unfold difR
    split
    · have h := difR_len e r (ys.eraseP fun p => e p x)
      have := (List.eraseP_sublist (l := ys) (p := fun p => e p x)).length_le
      exact ⟨by simp only [List.length_cons]; omega, by omega⟩
    · have h := difR_len e r ys
      exact ⟨by simp only [List.length_cons]; omega, h.2⟩
theorem difR_mem {δ : Type} (e : δ → δ → Bool) : ∀ (xs ys : List δ), (∀ p ∈ (difR e xs ys).1, p ∈ xs) ∧ ∀ p ∈ (difR e xs ys).2, p ∈ ys
  | [], ys => ⟨fun _ h => h, fun _ h => h⟩
  | x :: r, ys => by
    unfold difR
    split
    · have h := difR_mem e r (ys.eraseP fun p => e p x)
      exact ⟨fun p hp => .tail _ (h.1 p hp), fun p hp => List.mem_of_mem_eraseP (h.2 p hp)⟩
    · have h := difR_mem e r ys
      refine ⟨fun p hp => ?_, h.2⟩
      rcases List.mem_cons.mp hp with rfl | hp
      · exact .head _
      · exact .tail _ (h.1 p hp)

section
variable {α : Type} {C : Cx} {m : Loc} {σ : Led} {env : Env} {n : Nat}

theorem map_eraseIdx {γ δ : Type} (f : γ → δ) : ∀ (l : List γ) (j : Nat), (l.map f).eraseIdx j = (l.eraseIdx j).map f
  | [], _ => rfl
  | _ :: _, 0 => rfl
  | x :: l, j + 1 => by simp only [List.map_cons, List.eraseIdx_cons_succ, map_eraseIdx f l j]
theorem mapSeq_lst (f : Array Value → Array Value) (its : Array Value) (k : Nat) : ∃ k', Obj.mapSeq f (PySem.W.listOf its k) = PySem.W.listOf (f its) k' := ⟨_, rfl⟩
theorem erase_pairs (ps : List Ent) (j : Nat) : (ps.map (·.1)).toArray.eraseIdxIfInBounds j = ((ps.eraseIdx j).map (·.1)).toArray := by
  apply Array.ext'
  simp [Array.toList_eraseIdxIfInBounds, map_eraseIdx]

theorem ev_removeHit {l : Addr} {ps : List Ent} {k : Nat} {x : Value} {d : PyData} {Q : Value → Loc → Led → Prop} (hu : C.A.units + 80 < cLine) (hsz : ps.length ≤ sizeLine)
    (H : ∀ p ∈ ps, Rd C ((l, lstOf (ps.map (·.1)) k) :: σ) p.1 p.2 ∧ shaped p.2 = true) (r : Rd C ((l, lstOf (ps.map (·.1)) k) :: σ) x d) (hs : shaped d = true) (hany : (ps.any fun p => PyData.eqv p.2 d) = true)
    (q : ∀ k', Q .none m ((l, lstOf ((ps.eraseP fun p => PyData.eqv p.2 d).map (·.1)) k') :: σ)) : Ev C (call (.builtin "list.remove") [.ref l, x]) m ((l, lstOf (ps.map (·.1)) k) :: σ) Q := fun _ h tk I => by
  obtain ⟨p₀, hp₀, hq₀⟩ := List.any_eq_true.mp hany
  have hlt : ps.findIdx (fun p => PyData.eqv p.2 d) < ps.length := List.findIdx_lt_length_of_exists ⟨p₀, hp₀, hq₀⟩
  have hat := List.findIdx_getElem (p := fun p : Ent => PyData.eqv p.2 d) (xs := ps) (w := hlt)
  have hE : (ps.eraseP fun p => PyData.eqv p.2 d) = ps.eraseIdx (ps.findIdx fun p => PyData.eqv p.2 d) := by
    rw [List.eraseP_eq_eraseIdx]
    have : ps.findIdx? (fun p => PyData.eqv p.2 d) = some (ps.findIdx fun p => PyData.eqv p.2 d) := List.findIdx?_eq_some_of_exists ⟨p₀, hp₀, hq₀⟩
    rw [this]
  rw [hE] at q
  have hz : ((ps.map (·.1)).toArray).size ≤ sizeLine := by simpa using hsz
  refine call_meets PySem.F.slot_list_remove (T := "list") ⟨_, I.get (.head _), rfl⟩ PySem.F.entry_list_remove (PySem.F.args_list_remove_2 _ _)
    (list_removeAt l _ k x (same C ((l, lstOf (ps.map (·.1)) k) :: σ) d) (ps.findIdx fun p => PyData.eqv p.2 d) (by simpa using hlt) ?_ (fun j hj hlt' => ?_) hz) ⟨I.get (.head _), fun y hy => ?_, ?_⟩
  · have e : (ps.map (·.1)).toArray[ps.findIdx fun p => PyData.eqv p.2 d]'(by simpa using hlt) = (ps[ps.findIdx fun p => PyData.eqv p.2 d]).1 := by simp
    rw [e, same_of I (H _ (List.getElem_mem hlt)).1 (H _ (List.getElem_mem hlt)).2]
    exact hat
  · have hj' : j < ps.length := by simpa using hj
    have e : (ps.map (·.1)).toArray[j] = (ps[j]).1 := by simp
    rw [e, same_of I (H _ (List.getElem_mem hj')).1 (H _ (List.getElem_mem hj')).2]
    have := List.not_of_lt_findIdx hlt'
    simpa using this
  · obtain ⟨p, hp, rfl⟩ : ∃ p ∈ ps, p.1 = y := by simpa using hy
    rw [same_of I (H p hp).1 (H p hp).2]
    exact Rd.eqAt I (by show C.A.units + 1 + 64 < cLine; omega) (H p hp).1 r (H p hp).2 hs
  · have I' := I.update (Obj.mapSeq fun xs => xs.eraseIdxIfInBounds (ps.findIdx fun p => PyData.eqv p.2 d)) rfl
    obtain ⟨k', e⟩ := mapSeq_lst (fun xs => xs.eraseIdxIfInBounds (ps.findIdx fun p => PyData.eqv p.2 d)) (ps.map (·.1)).toArray k
    rw [erase_pairs] at e
    rw [e] at I'
    exact Ends.intro (C := C) (tk := tk) I' (q k')
theorem ev_removeMiss {E : Value → Shared → Prop} {l : Addr} {ps : List Ent} {k : Nat} {x : Value} {d : PyData} {Q : Value → Loc → Led → Prop} (hu : C.A.units + 80 < cLine) (hh : C.A.handled = none)
    (H : ∀ p ∈ ps, Rd C ((l, lstOf (ps.map (·.1)) k) :: σ) p.1 p.2 ∧ shaped p.2 = true) (r : Rd C ((l, lstOf (ps.map (·.1)) k) :: σ) x d) (hs : shaped d = true) (hany : (ps.any fun p => PyData.eqv p.2 d) = false)
    (q : ∀ e s', Thr C env "ValueError" m ((l, lstOf (ps.map (·.1)) k) :: σ) e s' → E e s') : EvG C E (call (.builtin "list.remove") [.ref l, x]) m ((l, lstOf (ps.map (·.1)) k) :: σ) Q := fun h tk I => by
  refine call_meets PySem.F.slot_list_remove (T := "list") ⟨_, I.get (.head _), rfl⟩ PySem.F.entry_list_remove (PySem.F.args_list_remove_2 _ _)
    (list_remove_noneAt l _ k x (same C ((l, lstOf (ps.map (·.1)) k) :: σ) d) (fun j hj => ?_)) ⟨I.get (.head _), fun y hy => ?_, ?_⟩
  · have hj' : j < ps.length := by simpa using hj
    have e : (ps.map (·.1)).toArray[j] = (ps[j]).1 := by simp
    rw [e, same_of I (H _ (List.getElem_mem hj')).1 (H _ (List.getElem_mem hj')).2]
    have := List.any_eq_false.mp hany _ (List.getElem_mem hj')
    simpa using this
  · obtain ⟨p, hp, rfl⟩ : ∃ p ∈ ps, p.1 = y := by simpa using hy
    rw [same_of I (H p hp).1 (H p hp).2]
    exact Rd.eqAt I (by show C.A.units + 1 + 64 < cLine; omega) (H p hp).1 r (H p hp).2 hs
  · exact ⟨hh, fun h' tk' a x => q _ _ (.made (C := C) I x)⟩
theorem ev_localH {x : Str} {pos : Pos} {v : Value} {Q : Value → Loc → Led → Prop} (hk : env.scope.kind = .function) (hl : env.locals = C.L) (hv : m x = some v) (q : Q v m σ) (hx : env.kindOf x = some .local := by with_unfolding_all rfl) (hd : (x == ("__debug__" : Str)) = false := by with_unfolding_all decide) :
    Ev C (eval (.Name x pos) env) m σ Q := fun _ _ _ I => wpAny_Name (wpAny_loadName_local hk hx (by rw [hl]; exact I.ns) hv (Ends.intro I q)) hd

theorem ev_pop {l : Addr} {vs : List Value} {v : Value} {k : Nat} {Q : Value → Loc → Led → Prop} (hsz : vs.length < sizeLine) (q : ∀ k', Q v m ((l, lstOf vs k') :: σ)) : Ev C (call (.builtin "list.pop") [.ref l]) m ((l, lstOf (vs ++ [v]) k) :: σ) Q := by
  refine ev_popLast (x := v) (by simp) (by simp; omega) ?_
  obtain ⟨k', e⟩ := mapSeq_lst (fun xs => xs.eraseIdxIfInBounds ((vs ++ [v]).toArray.size - 1)) (vs ++ [v]).toArray k
  rw [e]
  have : (vs ++ [v]).toArray.eraseIdxIfInBounds ((vs ++ [v]).toArray.size - 1) = vs.toArray := by
    apply Array.ext'
    simp [Array.toList_eraseIdxIfInBounds, List.eraseIdx_append_of_length_le]
  rw [this]
  exact q k'
theorem nil_or_snoc {δ : Type} (l : List δ) : l = [] ∨ ∃ r x, l = r ++ [x] := by
  rcases List.eq_nil_or_concat l with rfl | ⟨r, x, rfl⟩
  · exact .inl rfl
  · exact .inr ⟨r, x, by simp⟩
theorem difR_snoc {δ : Type} (e : δ → δ → Bool) (r : List δ) (x : δ) (qs : List δ) : difR e (r ++ [x]).reverse qs =
    if (qs.any fun p => e p x) = true then difR e r.reverse (qs.eraseP fun p => e p x) else (x :: (difR e r.reverse qs).1, (difR e r.reverse qs).2) := by
  rw [List.reverse_append]; rfl

theorem diff_ok {le la : Addr} {ps qs : List Ent} {kE kA : Nat} {Q : Value → Loc → Led → Prop} (G : Gd (n + 1) C env) (hp : ∀ p ∈ ps, Rd C σ p.1 p.2 ∧ shaped p.2 = true) (hq : ∀ p ∈ qs, Rd C σ p.1 p.2 ∧ shaped p.2 = true)
    (hps : ps.length ≤ 100) (hqs : qs.length ≤ 100)
    (q : ∀ a t kE kA kM, Q (.ref t) m ((t, tupOf #[.ref a, .ref la]) :: (a, lstOf ((difR eqE ps.reverse qs).1.map (·.1)) kM) :: (le, lstOf [] kE) :: (la, lstOf ((difR eqE ps.reverse qs).2.map (·.1)) kA) :: σ)) :
    Ev C (call (.ref 46) [.ref le, .ref la]) m ((le, lstOf (ps.map (·.1)) kE) :: (la, lstOf (qs.map (·.1)) kA) :: σ) Q := by
  refine ev_def (binds := [(Str.ofString "expected", .ref le), (Str.ofString "actual", .ref la)]) G rfl (by kernel_rfl) (fun _ => BindsTo.of_eq rfl) (locs rfl) fun C' G' U => ?_
  have hz : sizeLine = 16777216 := rfl
  walk_at "go"
  rename_i aM _
  refine Ev.sp (σ' := (le, lstOf (ps.map (·.1)) kE) :: (la, lstOf (qs.map (·.1)) kA) :: (aM, lstOf (([] : List Ent).map (·.1)) 0) :: σ) (by simp only [List.map_nil]; walk_at "sp") ?_
  refine ev_While (fun n m' σ' => ∃ ps₁ qs₁ ms₁ : List Ent, ∃ k1 k2 k3, n = ps₁.length ∧ m' "expected" = some (.ref le) ∧ m' "actual" = some (.ref la) ∧ m' "missing" = some (.ref aM) ∧
      (∀ p ∈ ps₁, p ∈ ps) ∧ (∀ p ∈ qs₁, p ∈ qs) ∧ qs₁.length ≤ 100 ∧ ms₁.length + ps₁.length ≤ 100 ∧ difR eqE ps.reverse qs = (ms₁ ++ (difR eqE ps₁.reverse qs₁).1, (difR eqE ps₁.reverse qs₁).2) ∧
      σ' = (le, lstOf (ps₁.map (·.1)) k1) :: (la, lstOf (qs₁.map (·.1)) k2) :: (aM, lstOf (ms₁.map (·.1)) k3) :: σ) ps.length ?_ ?_
  · exact ⟨ps, qs, [], _, _, _, rfl, rfl, rfl, rfl, fun _ h => h, fun _ h => h, hqs, by simpa using hps, by simp, rfl⟩
  · rintro n₁ m₁ _ ⟨ps₁, qs₁, ms₁, k1, k2, k3, rfl, hE, hA, hM, hs1, hs2, hl2, hl1, hd, rfl⟩
    refine ev_isPlain ?_
    walk_at "go"
    refine ev_truthyList (.led (.head _)) (by simp; omega) ?_
    rcases nil_or_snoc ps₁ with rfl | ⟨r, x, rfl⟩
    · rw [if_neg (by simp)]
      rw [show difR eqE ([] : List Ent).reverse qs₁ = ([], qs₁) from rfl, List.append_nil] at hd
      refine Ev.forget ?_
      walk_at "go"
      rename_i t _
      refine ⟨(t, tupOf #[.ref aM, .ref la]) :: (aM, lstOf (ms₁.map (·.1)) k3) :: (le, lstOf (([] : List Ent).map (·.1)) k1) :: (la, lstOf (qs₁.map (·.1)) k2) :: σ, by walk_at "sp", ?_⟩
      have z := q aM t k1 k2 k3
      rw [hd] at z
      exact z
    · rw [if_pos (by simp)]
      refine Ev.forget ?_
      simp only [List.length_append, List.length_singleton] at hl1
      rw [show (r ++ [x]).map (·.1) = r.map (·.1) ++ [x.1] by simp]
      refine ev_cons (ev_AssignName (ev_MethodCall ?_))
      walk_at "go"
      refine ev_methodList (.head _) PySem.F.slot_list_pop (by with_unfolding_all rfl) ?_
      refine ev_callB0 ?_
      refine ev_pop (by simp; omega) fun k4 => ?_
      walk_at "go"
      have hxs : Rd C σ x.1 x.2 ∧ shaped x.2 = true := hp x (hs1 x (by simp))
      have hRx : ∀ {y z w : Addr × Obj}, Rd C' (y :: z :: w :: σ) x.1 x.2 := fun {y z w} => hxs.1.mono fun _ h => .tail _ (.tail _ (.tail _ h))
      have hRq : ∀ {y z w : Addr × Obj}, ∀ p ∈ qs₁, Rd C' (y :: z :: w :: σ) p.1 p.2 ∧ shaped p.2 = true := fun {y z w} p h => ⟨(hq p (hs2 p h)).1.mono fun _ h => .tail _ (.tail _ (.tail _ h)), (hq p (hs2 p h)).2⟩
      refine Ev.b1 ?_
      cases hany : qs₁.any fun p => PyData.eqv p.2 x.2 with
      | true =>
        refine ev_Try (X := "ValueError") (T' := "ValueError") (S := fun _ _ => False) G' (fun E' hE' => ?_) (fun _ _ h => h.elim) (gn_ValueError _) (by with_unfolding_all rfl) PySem.F.isExc_ValueError PySem.F.notTuple_ValueError (by rw [isSubtype_type]; kernel_rfl)
        refine Ev.g ?_
        walk_at "go"
        refine ev_methodList (.head _) PySem.F.slot_list_remove (by with_unfolding_all rfl) ?_
        refine ev_callB1 ?_
        walk_at "go"
        refine ev_removeHit (by have := G'.hu; omega) (by omega) hRq hRx hxs.2 hany fun k5 => ?_
        walk_at "go"
        refine ⟨(le, lstOf (r.map (·.1)) k4) :: (la, lstOf ((qs₁.eraseP fun p => PyData.eqv p.2 x.2).map (·.1)) k5) :: (aM, lstOf (ms₁.map (·.1)) k3) :: σ, by walk_at "sp", r.length, by simp, r, qs₁.eraseP fun p => PyData.eqv p.2 x.2, ms₁, k4, k5, k3, rfl, hE, hA, hM,
          fun p h => hs1 p (by simp [h]), fun p h => hs2 p (List.mem_of_mem_eraseP h), Nat.le_trans List.eraseP_sublist.length_le hl2, by omega, ?_, rfl⟩
        rw [hd, difR_snoc, if_pos hany]
      | false =>
        refine ev_Try (X := "ValueError") (T' := "ValueError") (S := fun m' σ' => m' = upd m₁ "item" x.1 ∧ σ' = (la, lstOf (qs₁.map (·.1)) k2) :: (le, lstOf (r.map (·.1)) k4) :: (aM, lstOf (ms₁.map (·.1)) k3) :: σ) G' (fun E' hE' => ?_) ?_ (gn_ValueError _) (by with_unfolding_all rfl) PySem.F.isExc_ValueError PySem.F.notTuple_ValueError (by rw [isSubtype_type]; kernel_rfl)
        · refine gx_cons (gx_Expr (gx_MethodCall ?_))
          walk_at "go"
          refine ev_methodList (.head _) PySem.F.slot_list_remove (by with_unfolding_all rfl) ?_
          refine gx_callB1 ?_
          walk_at "go"
          exact ev_removeMiss (by have := G'.hu; omega) G'.hh hRq hRx hxs.2 hany fun e s' y => hE' _ _ e s' y ⟨rfl, rfl⟩
        · rintro _ _ ⟨rfl, rfl⟩ a
          refine ev_cons (ev_Expr (ev_MethodCall ?_))
          refine ev_localH G'.hk G'.hl (v := .ref aM) (by with_unfolding_all exact hM) ?_
          refine ev_methodList (.tail _ (.tail _ (.head _))) slot_list_append (by with_unfolding_all rfl) ?_
          refine ev_callB1 (ev_args_cons ?_)
          refine ev_localH G'.hk G'.hl (v := x.1) (by with_unfolding_all rfl) ?_
          refine ev_args_nil ?_
          show Ev _ (call (.builtin "list.append") [.ref aM, x.1]) _ _ _
          refine Ev.b2 (ev_append (by simp; omega) ?_)
          refine ev_nil ?_
          walk_at "go"
          refine ⟨(le, lstOf (r.map (·.1)) k4) :: (la, lstOf (qs₁.map (·.1)) k2) :: (aM, lstOf ((ms₁ ++ [x]).map (·.1)) (k3 + 1)) :: σ, ?_, r.length, by simp, r, qs₁, ms₁ ++ [x], k4, k2, k3 + 1, rfl, hE, hA, hM,
            fun p h => hs1 p (by simp [h]), hs2, hl2, by simp; omega, ?_, rfl⟩
          · simp only [List.map_append, List.map_cons, List.map_nil, List.push_toArray]
            walk_at "sp"
          · rw [hd, difR_snoc, if_neg (by rw [hany]; decide)]
            simp
end
end

section
open PySem PySem.W PySem.Spec PySem.Calls PyProof.Rows PySem.SeqAt

def missF {δ : Type} (e : δ → δ → Bool) (qs : List δ) : List δ → List δ
  | [] => []
  | x :: r => if qs.countP (fun p => e p x) < (x :: r).countP (fun p => e p x) then x :: missF e qs r else missF e qs r
def leftF {δ : Type} (e : δ → δ → Bool) (ps : List δ) : List δ → List δ → List δ
  | _, [] => []
  | pre, y :: r => if ps.countP (fun p => e p y) < (pre ++ [y]).countP (fun p => e p y) then y :: leftF e ps (pre ++ [y]) r else leftF e ps (pre ++ [y]) r
theorem missF_drop {δ : Type} (e : δ → δ → Bool) (qs ps : List δ) {k : Nat} (hk : k < ps.length) : missF e qs (ps.drop k) =
    if qs.countP (fun p => e p ps[k]) < (ps.drop k).countP (fun p => e p ps[k]) then ps[k] :: missF e qs (ps.drop (k + 1)) else missF e qs (ps.drop (k + 1)) := by
  rw [List.drop_eq_getElem_cons hk]; rfl
theorem leftF_drop {δ : Type} (e : δ → δ → Bool) (ps qs : List δ) {k : Nat} (hk : k < qs.length) : leftF e ps (qs.take k) (qs.drop k) =
    if ps.countP (fun p => e p qs[k]) < (qs.take (k + 1)).countP (fun p => e p qs[k]) then qs[k] :: leftF e ps (qs.take (k + 1)) (qs.drop (k + 1)) else leftF e ps (qs.take (k + 1)) (qs.drop (k + 1)) := by
  rw [List.drop_eq_getElem_cons hk]
  have e2 : qs.take (k + 1) = qs.take k ++ [qs[k]] := by rw [List.take_succ_eq_append_getElem hk]
  rw [e2]; rfl
theorem missF_mem {δ : Type} (e : δ → δ → Bool) (qs : List δ) : ∀ (ps : List δ), (∀ p ∈ missF e qs ps, p ∈ ps) ∧ (missF e qs ps).length ≤ ps.length
  | [] => ⟨fun _ h => h, Nat.le_refl _⟩
  | x :: r => by
    have h := missF_mem e qs r
    unfold missF
    split
    · refine ⟨fun p hp => ?_, by simp only [List.length_cons]; omega⟩
      rcases List.mem_cons.mp hp with rfl | hp
      · exact .head _
      · exact .tail _ (h.1 p hp)
    · exact ⟨fun p hp => .tail _ (h.1 p hp), by simp only [List.length_cons]; omega⟩
theorem leftF_mem {δ : Type} (e : δ → δ → Bool) (ps : List δ) : ∀ (qs pre : List δ), (∀ p ∈ leftF e ps pre qs, p ∈ qs) ∧ (leftF e ps pre qs).length ≤ qs.length
  | [], _ => ⟨fun _ h => h, Nat.le_refl _⟩
  | y :: r, pre => by
    have h := leftF_mem e ps r (pre ++ [y])
    unfold leftF
    split
    · refine ⟨fun p hp => ?_, by simp only [List.length_cons]; omega⟩
      rcases List.mem_cons.mp hp with rfl | hp
      · exact .head _
      · exact .tail _ (h.1 p hp)
    · exact ⟨fun p hp => .tail _ (h.1 p hp), by simp only [List.length_cons]; omega⟩

section
variable {α : Type} {C : Cx} {m : Loc} {σ : Led} {env : Env} {n : Nat}

theorem ev_UnaryOp {op : UnaryOp} {x : Expr} {pos : Pos} {Q : Value → Loc → Led → Prop} (H : Ev C (eval x env) m σ fun v m' σ' => Ev C (unaryOp op v) m' σ' Q) : Ev C (eval (.UnaryOp op x pos) env) m σ Q := fun _ _ _ I => UnaryOp_ (H.seq I)
theorem ev_neg {a : Int} {t : Tok} {Q : Value → Loc → Led → Prop} (q : ∀ t, Q (.int (-a) t) m σ) : Ev C (unaryOp .USub (.int a t)) m σ Q := fun _ h tk I => PyProof.Rows.neg_int (Ends.intro (C := C) (tk := tk + 1) I (q _))
theorem ev_lenE {l : Addr} {ps : List Ent} {k : Nat} {Q : Value → Loc → Led → Prop} (hm : (l, lstOf (ps.map (·.1)) k) ∈ σ) (hf : ps.length ≤ 1000) (q : ∀ t, Q (.int ps.length t) m σ) : Ev C (call (.builtin "len") [.ref l]) m σ Q :=
  ev_len (.led hm) (by simp; omega) fun t => by simpa using q t
theorem ev_itemE {value slice : Expr} {l : Addr} {ps : List Ent} {j k : Nat} {u : Tok} {Q : Value → Loc → Led → Prop} (hm : (l, lstOf (ps.map (·.1)) j) ∈ σ) (hk : k < ps.length) (hz : ps.length ≤ 1000) (q : Q ps[k].1 m σ)
    (hs : subscripted slice false (.ref l) (.int k u) = operate [.ref l, .int k u] (getItem (.ref l) (.int k u)) := by with_unfolding_all rfl) : Ev C (subscriptTail value slice (.ref l) (.int k u)) m σ Q :=
  ev_item (.led hm) (by omega) (by omega) (by simp [hk]) q hs
/-- a slice, its list at hand -/
theorem ev_sliceTail {value : Expr} {lower upper step : Option Expr} {sp : Pos} {a : Addr} {Q : Value → Loc → Led → Prop}
    (H : Ev C (evalPart lower env) m σ fun l m'' σ'' => Ev C (evalPart upper env) m'' σ'' fun u m₃ σ₃ => Ev C (evalPart step env) m₃ σ₃ fun st m₄ σ₄ =>
      ∃ its lo hi sk, LAt C σ₄ a its ∧ its.size ≤ sizeLine ∧ IsPart l lo ∧ IsPart u hi ∧ IsPart st sk ∧ sk ≠ some 0 ∧ (∀ i, ∃ ops, subscripted (.Slice lower upper step sp) false (.ref a) (.ref i) = operate ops (getItem (.ref a) (.ref i))) ∧ ∀ b, Q (.ref b) m₄ ((b, PySem.W.listOf (slicePick its lo hi sk) 0) :: σ₄)) :
    Ev C (eval (.Slice lower upper step sp) env) m σ fun i m' σ' => Ev C (subscriptTail value (.Slice lower upper step sp) (.ref a) i) m' σ' Q := by
  refine ev_Slice (H.mono fun l m'' σ'' h₂ => h₂.mono fun u m₃ σ₃ h₃ => h₃.mono fun st m₄ σ₄ h₄ a₀ _ => ?_)
  obtain ⟨its, lo, hi, sk, hl, hsz, pl, pu, ps, h0, hs, q⟩ := h₄
  intro _ h tk I
  obtain ⟨ops, hs⟩ := hs a₀
  exact tail_any (hl.cons h m₄ I).typeIs list_getitem_lookup (wpAny_getItem_list_slice (hl.cons h m₄ I) ⟨_, I.get (.head _), rfl, rfl⟩ pl pu ps h0 (Ends.intro (C := C) (tk := tk) (((I.push _ rfl).perm (.swap ..)).sub (List.sublist_cons_self _ _)) (q _)) hsz) hs
/-- parts of a list of entries -/
theorem ev_fromE {value : Expr} {lower : Expr} {sp : Pos} {Q : Value → Loc → Led → Prop} {l : Addr} {ps : List Ent} {j k : Nat} (hz : ps.length ≤ 1000)
    (H : Ev C (eval lower env) m σ fun v m'' σ'' => (∃ t, v = .int k t) ∧ (l, lstOf (ps.map (·.1)) j) ∈ σ'' ∧ ∀ b, Q (.ref b) m'' ((b, lstOf ((ps.drop k).map (·.1)) 0) :: σ''))
    (hs : ∀ a i, ∃ ops, subscripted (.Slice (some lower) none none sp) false (.ref a) (.ref i) = operate ops (getItem (.ref a) (.ref i)) := by exact fun _ _ => ⟨_, by with_unfolding_all rfl⟩) :
    Ev C (eval (.Slice (some lower) none none sp) env) m σ fun i m' σ' => Ev C (subscriptTail value (.Slice (some lower) none none sp) (.ref l) i) m' σ' Q := by
  refine ev_sliceTail (ev_part_some (H.mono fun v m'' σ'' h => ev_part_none (ev_part_none ?_)))
  obtain ⟨⟨t, rfl⟩, hm, q⟩ := h
  refine ⟨_, some k, none, none, .led hm, by have : sizeLine = 16777216 := rfl; simp; omega, .int _ _, .none, .none, by decide, hs _, fun b => ?_⟩
  rw [PySem.slicePick_from']
  simpa using q b
theorem ev_uptoE {value : Expr} {upper : Expr} {sp : Pos} {Q : Value → Loc → Led → Prop} {l : Addr} {ps : List Ent} {j k : Nat} (hz : ps.length ≤ 1000)
    (H : Ev C (eval upper env) m σ fun v m'' σ'' => (∃ t, v = .int k t) ∧ (l, lstOf (ps.map (·.1)) j) ∈ σ'' ∧ ∀ b, Q (.ref b) m'' ((b, lstOf ((ps.take k).map (·.1)) 0) :: σ''))
    (hs : ∀ a i, ∃ ops, subscripted (.Slice none (some upper) none sp) false (.ref a) (.ref i) = operate ops (getItem (.ref a) (.ref i)) := by exact fun _ _ => ⟨_, by with_unfolding_all rfl⟩) :
    Ev C (eval (.Slice none (some upper) none sp) env) m σ fun i m' σ' => Ev C (subscriptTail value (.Slice none (some upper) none sp) (.ref l) i) m' σ' Q := by
  refine ev_sliceTail (ev_part_none (ev_part_some (H.mono fun v m'' σ'' h => ev_part_none ?_)))
  obtain ⟨⟨t, rfl⟩, hm, q⟩ := h
  refine ⟨_, none, some k, none, .led hm, by have : sizeLine = 16777216 := rfl; simp; omega, .none, .int _ _, .none, by decide, hs _, fun b => ?_⟩
  rw [PySem.slicePick_upto']
  simpa using q b
theorem ev_revE {value : Expr} {st : Expr} {sp : Pos} {Q : Value → Loc → Led → Prop} {l : Addr} {ps : List Ent} {j : Nat} (hz : ps.length ≤ 1000)
    (H : Ev C (eval st env) m σ fun v m'' σ'' => (∃ t, v = .int (-1) t) ∧ (l, lstOf (ps.map (·.1)) j) ∈ σ'' ∧ ∀ b, Q (.ref b) m'' ((b, lstOf (ps.reverse.map (·.1)) 0) :: σ''))
    (hs : ∀ a i, ∃ ops, subscripted (.Slice none none (some st) sp) false (.ref a) (.ref i) = operate ops (getItem (.ref a) (.ref i)) := by exact fun _ _ => ⟨_, by with_unfolding_all rfl⟩) :
    Ev C (eval (.Slice none none (some st) sp) env) m σ fun i m' σ' => Ev C (subscriptTail value (.Slice none none (some st) sp) (.ref l) i) m' σ' Q := by
  refine ev_sliceTail (ev_part_none (ev_part_none (ev_part_some (H.mono fun v m'' σ'' h => ?_))))
  obtain ⟨⟨t, rfl⟩, hm, q⟩ := h
  refine ⟨_, none, none, some (-1), .led hm, by have : sizeLine = 16777216 := rfl; simp; omega, .none, .none, .int _ _, by decide, hs _, fun b => ?_⟩
  rw [krv_pick]
  simpa using q b

theorem due_ok {lm lo : Addr} {ps qs : List Ent} {km ko : Nat} {Q : Value → Loc → Led → Prop} (G : Gd (n + 1) C env) (hm : (lm, lstOf (ps.map (·.1)) km) ∈ σ) (ho : (lo, lstOf (qs.map (·.1)) ko) ∈ σ)
    (hp : ∀ p ∈ ps, Rd C σ p.1 p.2 ∧ shaped p.2 = true) (hq : ∀ p ∈ qs, Rd C σ p.1 p.2 ∧ shaped p.2 = true) (hps : ps.length ≤ 100) (hqs : qs.length ≤ 100)
    (q : ∀ a b t ka kb, Q (.ref t) m ((t, tupOf #[.ref a, .ref b]) :: (a, lstOf ((missF eqE qs ps).reverse.map (·.1)) ka) :: (b, lstOf ((leftF eqE ps [] qs).map (·.1)) kb) :: σ)) :
    Ev C (call (.ref 248) [.ref lm, .ref lo]) m σ Q := by
  refine ev_def (binds := [(Str.ofString "mine", .ref lm), (Str.ofString "other", .ref lo)]) G rfl (by kernel_rfl) (fun _ => BindsTo.of_eq rfl) (locs rfl) fun C' G' U => ?_
  have hu := G'.hu
  have hz : sizeLine = 16777216 := rfl
  walk_at "go"
  rename_i aM _
  refine ev_ForRange (N := ps.length) (R := σ) (fun k m' P => m' "mine" = some (.ref lm) ∧ m' "other" = some (.ref lo) ∧ m' "missing" = some (.ref aM) ∧ ∃ ms : List Ent, ∃ k3, P = [(aM, lstOf (ms.map (·.1)) k3)] ∧ ms.length ≤ k ∧ ms ++ missF eqE qs (ps.drop k) = missF eqE qs ps) G' G'.hh (by omega) ?_ (fun k m' P R' t hk hR hS hJ => ?_) (fun m' P hJ => ?_)
  · walk_at "range"
    refine ev_builtin G' (gn_len _) (by with_unfolding_all rfl) ?_
    refine ev_callB1 ?_
    walk_at "go"
    refine ev_lenE (.tail _ hm) (by omega) fun _ => ?_
    walk_at "go"
    exact ev_range fun _ _ _ => ⟨_, _, _, _, _, rfl, rfl, rfl, rfl, rfl, [], _, rfl, Nat.zero_le _, rfl⟩
  · obtain ⟨h1, h2, h3, ms, k3, rfl, hl, hd⟩ := hJ
    have hp' : ∀ (y z w : Addr × Obj), ∀ p ∈ ps, Rd C' (y :: z :: R') p.1 p.2 ∧ shaped p.2 = true := fun y z w p h => ⟨(hp p h).1.mono fun x hx => .tail _ (.tail _ (hR x hx)), (hp p h).2⟩
    walk_at "go"
    refine ev_fromE (ps := ps) (k := k) (j := km) (by omega) ?_
    walk_at "go"
    refine ⟨⟨_, rfl⟩, .tail _ (hR _ hm), fun b => ?_⟩
    refine ev_methodList (.head _) PySem.F.slot_list_count (by with_unfolding_all rfl) ?_
    refine ev_callB1 ?_
    walk_at "go"
    refine ev_itemE (.tail _ (.tail _ (hR _ hm))) hk (by omega) ?_
    walk_at "go"
    have hR2 : ∀ {y z w : Addr × Obj}, ∀ p ∈ σ, p ∈ y :: z :: R' := fun {y z w} x hx => .tail _ (.tail _ (hR x hx))
    refine ev_count (by omega) (.head _) (fun p h => ⟨(hp p (List.mem_of_mem_drop h)).1.mono fun x hx => .tail _ (.tail _ (hR x hx)), (hp p (List.mem_of_mem_drop h)).2⟩) ((hp _ (List.getElem_mem hk)).1.mono fun x hx => .tail _ (.tail _ (hR x hx))) (hp _ (List.getElem_mem hk)).2 fun _ => ?_
    refine Ev.drop ?_
    walk_at "go"
    refine ev_methodList (.tail _ (hR _ ho)) PySem.F.slot_list_count (by with_unfolding_all rfl) ?_
    refine ev_callB1 ?_
    walk_at "go"
    refine ev_itemE (.tail _ (hR _ hm)) hk (by omega) ?_
    walk_at "go"
    refine ev_count (by omega) (.tail _ (hR _ ho)) (fun p h => ⟨(hq p h).1.mono fun x hx => .tail _ (hR x hx), (hq p h).2⟩) ((hp _ (List.getElem_mem hk)).1.mono fun x hx => .tail _ (hR x hx)) (hp _ (List.getElem_mem hk)).2 fun _ => ?_
    walk_at "go"
    rw [missF_drop eqE qs ps hk] at hd
    split
    · rename_i hlt
      rw [if_pos (by simpa using hlt)] at hd
      walk_at "go"
      refine ev_methodList (.head _) PySem.F.slot_list_append (by with_unfolding_all rfl) ?_
      refine ev_callB1 ?_
      walk_at "go"
      refine ev_itemE (.tail _ (hR _ hm)) hk (by omega) ?_
      walk_at "go"
      refine ev_append (by simp; omega) ?_
      walk_at "go"
      refine ⟨[(aM, lstOf ((ms ++ [ps[k]]).map (·.1)) (k3 + 1))], by simp, h1, h2, h3, ms ++ [ps[k]], k3 + 1, rfl, by simp; omega, by rw [← hd]; simp⟩
    · rename_i hlt
      rw [if_neg (by simpa using hlt)] at hd
      walk_at "go"
      exact ⟨_, rfl, h1, h2, h3, ms, k3, rfl, by omega, hd⟩
  · obtain ⟨h1, h2, h3, ms, k3, rfl, hl, hd⟩ := hJ
    rw [List.drop_of_length_le (Nat.le_refl _), show missF eqE qs [] = [] from rfl, List.append_nil] at hd
    subst hd
    walk_at "go"
    rename_i aL _
    refine ev_ForRange (N := qs.length) (R := (aM, lstOf ((missF eqE qs ps).map (·.1)) k3) :: σ) (fun k m' P => m' "mine" = some (.ref lm) ∧ m' "other" = some (.ref lo) ∧ m' "missing" = some (.ref aM) ∧ m' "left" = some (.ref aL) ∧ ∃ ls : List Ent, ∃ k4, P = [(aL, lstOf (ls.map (·.1)) k4)] ∧ ls.length ≤ k ∧ ls ++ leftF eqE ps (qs.take k) (qs.drop k) = leftF eqE ps [] qs) G' G'.hh (by omega) ?_ (fun k m' P R' t hk hR hS hJ => ?_) (fun m' P hJ => ?_)
    · walk_at "range"
      refine ev_builtin G' (gn_len _) (by with_unfolding_all rfl) ?_
      refine ev_callB1 ?_
      walk_at "go"
      refine ev_lenE (.tail _ (.tail _ ho)) (by omega) fun _ => ?_
      walk_at "go"
      exact ev_range fun _ _ _ => ⟨_, _, _, _, _, rfl, rfl, h1, h2, h3, rfl, [], _, rfl, Nat.zero_le _, rfl⟩
    · obtain ⟨h1, h2, h3, h4, ls, k4, rfl, hl, hd⟩ := hJ
      have hR2 : ∀ p ∈ σ, p ∈ R' := fun p h => hR p (.tail _ h)
      walk_at "go"
      refine ev_uptoE (ps := qs) (k := k + 1) (j := ko) (by omega) ?_
      walk_at "go"
      refine ⟨⟨_, rfl⟩, .tail _ (hR2 _ ho), fun b => ?_⟩
      refine ev_methodList (.head _) PySem.F.slot_list_count (by with_unfolding_all rfl) ?_
      refine ev_callB1 ?_
      walk_at "go"
      refine ev_itemE (.tail _ (.tail _ (hR2 _ ho))) hk (by omega) ?_
      walk_at "go"
      refine ev_count (by omega) (.head _) (fun p h => ⟨(hq p (List.mem_of_mem_take h)).1.mono fun x hx => .tail _ (.tail _ (hR2 x hx)), (hq p (List.mem_of_mem_take h)).2⟩) ((hq _ (List.getElem_mem hk)).1.mono fun x hx => .tail _ (.tail _ (hR2 x hx))) (hq _ (List.getElem_mem hk)).2 fun _ => ?_
      refine Ev.drop ?_
      walk_at "go"
      refine ev_methodList (.tail _ (hR2 _ hm)) PySem.F.slot_list_count (by with_unfolding_all rfl) ?_
      refine ev_callB1 ?_
      walk_at "go"
      refine ev_itemE (.tail _ (hR2 _ ho)) hk (by omega) ?_
      walk_at "go"
      refine ev_count (by omega) (.tail _ (hR2 _ hm)) (fun p h => ⟨(hp p h).1.mono fun x hx => .tail _ (hR2 x hx), (hp p h).2⟩) ((hq _ (List.getElem_mem hk)).1.mono fun x hx => .tail _ (hR2 x hx)) (hq _ (List.getElem_mem hk)).2 fun _ => ?_
      walk_at "go"
      rw [leftF_drop eqE ps qs hk] at hd
      split
      · rename_i hlt
        rw [if_pos (by simpa using hlt)] at hd
        walk_at "go"
        refine ev_methodList (.head _) PySem.F.slot_list_append (by with_unfolding_all rfl) ?_
        refine ev_callB1 ?_
        walk_at "go"
        refine ev_itemE (.tail _ (hR2 _ ho)) hk (by omega) ?_
        walk_at "go"
        refine ev_append (by simp; omega) ?_
        walk_at "go"
        refine ⟨[(aL, lstOf ((ls ++ [qs[k]]).map (·.1)) (k4 + 1))], by simp, h1, h2, h3, h4, ls ++ [qs[k]], k4 + 1, rfl, by simp; omega, by rw [← hd]; simp⟩
      · rename_i hlt
        rw [if_neg (by simpa using hlt)] at hd
        walk_at "go"
        exact ⟨_, rfl, h1, h2, h3, h4, ls, k4, rfl, by omega, hd⟩
    · obtain ⟨h1, h2, h3, h4, ls, k4, rfl, hl, hd⟩ := hJ
      rw [List.drop_of_length_le (Nat.le_refl _), show leftF eqE ps (qs.take qs.length) [] = [] from rfl, List.append_nil] at hd
      subst hd
      have hml := (missF_mem eqE qs ps).2
      refine Ev.forget ?_
      walk_at "go"
      refine ev_revE (ps := missF eqE qs ps) (j := k3) (by omega) ?_
      refine ev_UnaryOp ?_
      walk_at "go"
      refine ev_neg fun _ => ⟨⟨_, rfl⟩, .tail _ (.head _), fun b => ?_⟩
      walk_at "go"
      rename_i t _
      refine ⟨(t, tupOf #[.ref b, .ref aL]) :: (b, lstOf ((missF eqE qs ps).reverse.map (·.1)) 0) :: (aL, lstOf ((leftF eqE ps [] qs).map (·.1)) k4) :: σ, by walk_at "sp", q _ _ _ _ _⟩
end
end

section
open PySem PySem.W PySem.Spec PySem.Calls PyProof.Rows PySem.SeqAt

def dN (x : Nm) : PyData := .str (nm x)
def dV (x : Vl) : PyData := .str (vl x)
def dR (r : Row) : PyData := .list [.str (nm r.1), .str (vl r.2)]
theorem eqv_N : ∀ a b : Nm, PyData.eqv (dN a) (dN b) = (a == b) := by decide +kernel
theorem eqv_V : ∀ a b : Vl, PyData.eqv (dV a) (dV b) = (a == b) := by decide +kernel
theorem eqv_R : ∀ a b : Row, PyData.eqv (dR a) (dR b) = (a == b) := by
  have h : ∀ (a b : Nm) (c d : Vl), PyData.eqv (dR (a, c)) (dR (b, d)) = ((a, c) == (b, d)) := by decide +kernel
  exact fun ⟨a, c⟩ ⟨b, d⟩ => h a b c d
theorem shaped_N : ∀ a : Nm, shaped (dN a) = true := by decide +kernel
theorem shaped_V : ∀ a : Vl, shaped (dV a) = true := by decide +kernel

/-- values with what they say -/
def ents {δ : Type} (D : δ → PyData) (l : List (Value × δ)) : List Ent := l.map fun p => (p.1, D p.2)
theorem ents_fst {δ : Type} (D : δ → PyData) (l : List (Value × δ)) : (ents D l).map (·.1) = l.map (·.1) := by simp [ents]
theorem ents_len {δ : Type} (D : δ → PyData) (l : List (Value × δ)) : (ents D l).length = l.length := by simp [ents]
def NmAt (v : Value) (x : Nm) : Prop := ∃ t, v = .str (nm x) t
def VlAt (v : Value) (x : Vl) : Prop := ∃ t, v = .str (vl x) t
def RowAt (σ : Led) (v : Value) (r : Row) : Prop := ∃ a t u k, v = .ref a ∧ (a, PySem.W.listOf #[.str (nm r.1) t, .str (vl r.2) u] k) ∈ σ
theorem RowAt.mono {σ σ' : Led} {v : Value} {r : Row} (h : RowAt σ v r) (hs : ∀ p ∈ σ, p ∈ σ') : RowAt σ' v r := let ⟨a, t, u, k, e, hm⟩ := h; ⟨a, t, u, k, e, hs _ hm⟩

section
variable {α : Type} {C : Cx} {m : Loc} {σ : Led} {env : Env} {n : Nat}

theorem rd_Nm {v : Value} {x : Nm} (h : NmAt v x) : Rd C σ v (dN x) ∧ shaped (dN x) = true := ⟨by obtain ⟨t, rfl⟩ := h; exact Rd.str _ _, shaped_N x⟩
theorem rd_Vl {v : Value} {x : Vl} (h : VlAt v x) : Rd C σ v (dV x) ∧ shaped (dV x) = true := ⟨by obtain ⟨t, rfl⟩ := h; exact Rd.str _ _, shaped_V x⟩
theorem rd_Row {v : Value} {r : Row} (h : RowAt σ v r) : Rd C σ v (dR r) ∧ shaped (dR r) = true := ⟨by obtain ⟨a, t, u, k, rfl, hm⟩ := h; exact rd_row hm, shaped_row r⟩
theorem rd_ents {δ : Type} {D : δ → PyData} {l : List (Value × δ)} (H : ∀ p ∈ l, Rd C σ p.1 (D p.2) ∧ shaped (D p.2) = true) : ∀ p ∈ ents D l, Rd C σ p.1 p.2 ∧ shaped p.2 = true := fun p hp => by
  obtain ⟨q, hq, rfl⟩ := List.mem_map.mp hp
  exact H q hq

theorem ev_unpackL {elts : List Expr} {k : Nat} {pos : Pos} {l : Addr} {its : Array Value} {Q : Unit → Loc → Led → Prop} (hh : C.A.handled = none) (hl : LAt C σ l its)
    (q : Ev C (assignInOrder ((assignEach elts env).map (·.2)) its.toList) m σ Q) (hn : (assignEach elts env).length = its.size := by with_unfolding_all rfl) (hstar : (assignEach elts env).findIdx? (·.1) = none := by with_unfolding_all rfl) :
    Ev C (assign (.Tuple elts k pos) env (.ref l)) m σ Q := fun E h tk I => by
  rw [assign_Tuple]
  refine wpAny_bind (wpAny_standAt ?_)
  unfold unpack
  rw [hn, hstar]
  exact wpAny_bind (wpAny_holding (kun_itemsOf hh (hl h m I) fun h' he => q E h' tk (I.extBut he)))

theorem ev_defC {xc : Str} {name qual : Str} {params : Arguments} {body : List Stmt} {scope : Scope} {dV kV doc pm cdv ct oc : Value} {an od : Option Addr} {osl : Array (Option Value)} {f : Addr} {vs : List Value} {binds : List (Str × Value)} {Q : Value → Loc → Led → Prop}
    (G : Gd (n + 1) C env)
    (ho : (KK C.w).lookup f = some ⟨oc, od, .func (fnOf name qual params body scope dV kV doc pm an cdv ct), osl⟩) (hcd : codeIn (KK C.w) cdv qual = true)
    (hbind : ∀ s, BindsTo s (fnOf name qual params body scope dV kV doc pm an cdv ct) ⟨vs, []⟩ binds) (hkind : (binds.all fun y => scope.names.lookup y.1 == some .local || scope.names.lookup y.1 == some .cell) = true)
    (hone : ∀ n, cellsFrom n scope.names [] = [(xc, n)])
    (H : ∀ C' : Cx, ∀ co : Obj, co.data = .cell (bindC (envOfC qual scope C'.L f cdv).kindOf binds (fun _ => none) xc) → Gd n C' (envOfC qual scope C'.L f cdv) → Up C C' →
      Ev C' (execs body (envOfC qual scope C'.L f cdv)) (bindL (envOfC qual scope C'.L f cdv).kindOf binds fun _ => none) ((C'.L + 1, co) :: σ) fun fl _ σ' => Q (match fl with | .ret v => v | _ => .none) m σ')
    (hco : scope.isCoroutine = false := by with_unfolding_all rfl) (hgen : scope.isGenerator = false := by with_unfolding_all rfl) (hk : scope.kind = .function := by with_unfolding_all rfl) :
    Ev C (call (.ref f) vs) m σ Q := fun E h tk I => by
  obtain ⟨outer, hA, hl, B, D, back, _⟩ := ground G I
  obtain ⟨p, loose, mean, mg, mb, T⟩ := G.T
  have X : (KK C.w).In h := G.X.keeps I.keep
  refine wpAny_call ?_
  refine codeAny_call_function (fd := fnOf name qual params body scope dV kV doc pm an cdv ct) (body := body) (s := C.sh h tk) (by have := G.hd; show C.A.depth < _; omega) (X _ _ ho) rfl hco hgen rfl (codeRec_of X hcd) (hbind _ _ _ _ _ ?_)
  refine wpAny_newFunctionEnv_cells hk (kindsX hkind _) fun env' he s' x => ?_
  subst he
  refine ⟨(T.nolimit.keeps I.keep).keeps x.toInCall.keep, codeAny_func ?_⟩
  obtain ⟨h₁, tk₁, rfl, _⟩ := x.done
  have hk₁ := x.toInCall.keep
  have hnd : ((cellsFrom 0 scope.names []).map (·.1)).Nodup := by rw [hone]; simp
  obtain ⟨cells, NC, Y⟩ := Cl.news (h₀ := h) (Nat.le_refl _) fun n c hm => ⟨x.cell n c (lookup_of_mem_nodup (cellsFrom_names scope.names 0 (h.objs.size + 1) [] [] rfl ▸ hnd) hm), x.above n c hm⟩
  have Y' : CellsAre (bindC (envOfC qual scope h.objs.size f cdv).kindOf binds fun _ => none) [(xc, h.objs.size + 1)] cells := (hone (h.objs.size + 1)) ▸ Y
  obtain ⟨co, rfl, hco'⟩ := Y'.one
  have J := I.enter rfl x.toInCall.ns hk₁
  have J' : Inv0 (hideAll h (σ.map (·.1))) h.objs.size h₁ _ ((h.objs.size + 1, co) :: σ) := ⟨J.F, fun p hp => by
    rcases List.mem_cons.mp hp with rfl | hp
    · refine ⟨(NC _ (.head _)).1, (NC _ (.head _)).2.1, ?_⟩
      cases q : (hideAll h (σ.map (·.1))).get? (h.objs.size + 1) with
      | none => rfl
      | some o => have := of_hideAll _ q; rw [(NC _ (.head _)).2.2] at this; cases this
    · exact J.N p hp, by
    rw [List.map_cons, List.nodup_cons]
    refine ⟨fun hm => ?_, J.D⟩
    obtain ⟨p, hp, e⟩ := List.mem_map.mp hm
    have := I.lt p hp
    rw [e] at this
    exact absurd this (by show ¬ (h.objs.size + 1 < h.objs.size); omega)⟩
  have e := (H ⟨C.w, C.A.deeper (envOfC qual scope h.objs.size f cdv), C.Z, C.bs, hideAll h (σ.map (·.1)), C.L :: C.fs, h.objs.size⟩ co hco' (G.def hA hl B D rfl rfl hk rfl rfl) ⟨rfl, rfl⟩
    (fun e s' => wpAny (model pw C.w) (C.A.deeper (envOfC qual scope h.objs.size f cdv)) (leaving (envOfC qual scope h.objs.size f cdv) e) (fun _ s'' => E e s'') (fun e' s'' => E e' s'') s') h₁ tk₁
    ⟨_, B.stays, KtsTurn.refl, J'⟩)
  refine wpAny_mono e (fun fl s' ⟨h', tk', m', σ', es, I', q⟩ => ?_) fun _ _ x => x
  subst es
  obtain ⟨g', _, T', J'⟩ := I'.x
  exact ⟨h', tk', m, σ', rfl, back _ _ _ _ _ T' J', q⟩
end
end

section
open PySem PySem.W PySem.Spec PySem.Calls PyProof.Rows PySem.SeqAt

def underF (x : Nm) (rs : List Row) : List Vl := (rs.filter fun r => r.1 == x).map (·.2)
def addF (acc : List Nm) (x : Nm) : List Nm := if x ∈ acc then acc else acc ++ [x]
def namesF (xs : List Nm) : List Nm := xs.foldl addF []
theorem underF_snoc (x : Nm) (rs : List Row) (r : Row) : underF x (rs ++ [r]) = underF x rs ++ (if (r.1 == x) = true then [r.2] else []) := by
  simp only [underF, List.filter_append, List.map_append, List.filter_cons, List.filter_nil]
  split <;> rfl
theorem namesF_snoc (xs : List Nm) (x : Nm) : namesF (xs ++ [x]) = addF (namesF xs) x := by simp [namesF]
theorem take_snoc {δ : Type} {l : List δ} {i : Nat} {x : δ} (h : l[i]? = some x) : l.take (i + 1) = l.take i ++ [x] := by
  obtain ⟨hi, rfl⟩ := List.getElem?_eq_some_iff.mp h
  exact List.take_succ_eq_append_getElem hi
theorem fst_at {γ δ : Type} {l : List (γ × δ)} {i : Nat} {v : γ} (h : (l.map (·.1))[i]? = some v) : ∃ p, l[i]? = some p ∧ p.1 = v := by
  rw [List.getElem?_map] at h
  cases e : l[i]? with
  | none => rw [e] at h; cases h
  | some p => rw [e] at h; exact ⟨p, rfl, Option.some.inj h⟩
theorem mem_at {δ : Type} {l : List δ} {i : Nat} {x : δ} (h : l[i]? = some x) : x ∈ l := List.mem_of_getElem? h

section
variable {α : Type} {C : Cx} {m : Loc} {σ : Led} {env : Env} {n : Nat}

theorem under_ok {lr : Addr} {rs : List (Value × Row)} {kr : Nat} {v : Value} {x : Nm} {Q : Value → Loc → Led → Prop} (G : Gd (n + 1) C env) (hm : (lr, lstOf (rs.map (·.1)) kr) ∈ σ) (hr : ∀ p ∈ rs, RowAt σ p.1 p.2) (hv : NmAt v x) (hz : rs.length ≤ 1000)
    (q : ∀ a k (zs : List (Value × Vl)), zs.map (·.2) = underF x (rs.map (·.2)) → (∀ p ∈ zs, VlAt p.1 p.2) → Q (.ref a) m ((a, lstOf (zs.map (·.1)) k) :: σ)) : Ev C (call (.ref 253) [.ref lr, v]) m σ Q := by
  refine ev_defC (xc := "name") (binds := [(Str.ofString "rows", .ref lr), (Str.ofString "name", v)]) G rfl (by kernel_rfl) (fun _ => BindsTo.of_eq rfl) (by rfl) (fun _ => rfl) fun C' co hco G' U => ?_
  have hz' : sizeLine = 16777216 := rfl
  replace hco : co.data = .cell (some v) := hco
  refine Ev.forget ?_
  refine ev_cons (ev_Return ?_)
  refine ev_ListComp (l := lr) (vs := rs.map (·.1)) (R := (C'.L + 1, co) :: σ) (fun i ys P => P = [] ∧ ∃ zs : List (Value × Vl), ys = zs.map (·.1) ∧ zs.map (·.2) = underF x ((rs.take i).map (·.2)) ∧ ∀ p ∈ zs, VlAt p.1 p.2) G'.hh (by simp; omega) ?_ ?_ ?_ ?_ ?_
  · walk_at "go"
    exact ⟨rfl, rfl, [], rfl, rfl, [], rfl, rfl, fun _ h => nomatch h⟩
  · rintro i ys P ⟨rfl, _⟩
    exact .led (.tail _ hm)
  · refine .inr ⟨⟨_, _, _, rfl⟩, fun y hy => ?_⟩
    obtain ⟨p, hp, rfl⟩ := List.mem_map.mp hy
    obtain ⟨a, _, _, _, e, _⟩ := hr p hp
    exact ⟨a, e⟩
  · rintro i y ys P R' a oc mc hi hR hS ⟨rfl, zs, rfl, hzs, hvl⟩ hys ho
    obtain ⟨p, hpi, rfl⟩ := fst_at hi
    obtain ⟨b, t, u, k, e, hb⟩ := hr p (mem_at hpi)
    rw [e]
    have hb' := hR _ (.tail _ hb)
    have hc' := hR _ (.head _)
    refine ev_unpackL G'.hh (.led (.tail _ hb')) ?_
    refine ev_inOrder_cons (ev_assignName (ev_storeC ho fun oc₁ ho₁ => ?_))
    refine ev_inOrder_cons (ev_assignName (ev_storeC ho₁ fun oc₂ ho₂ => ?_))
    refine ev_inOrder_nil ?_
    refine ev_tests_one (ev_isCompare ?_)
    refine ev_localC (.head _) ho₂ (by with_unfolding_all rfl) ?_
    refine ev_cellC (c := C'.L + 1) (oc := co) (by with_unfolding_all rfl) (.tail _ hc') hco ?_
    refine ev_eq (by have := G'.hu; omega) (Rd.str _ _) (rd_Nm hv).1 (shaped_N p.2.1) (shaped_N x) ?_
    refine ev_truthy_bool ?_
    have hsn := underF_snoc x ((rs.take i).map (·.2)) p.2
    rw [← List.map_singleton (f := (·.2)) (a := p), ← List.map_append, ← take_snoc hpi] at hsn
    split
    · rename_i hq
      refine ev_localC (.head _) ho₂ (by with_unfolding_all rfl) ?_
      refine ⟨rfl, oc₂, _, [], ho₂, rfl, rfl, zs ++ [(.str (vl p.2.2) u, p.2.2)], by simp, ?_, ?_⟩
      · rw [hsn, if_pos (by rw [← eqv_N]; exact hq), List.map_append, hzs]; rfl
      · intro z hz
        rcases List.mem_append.mp hz with hz | hz
        · exact hvl z hz
        · obtain rfl := List.mem_singleton.mp hz; exact ⟨u, rfl⟩
    · rename_i hq
      refine ⟨rfl, oc₂, _, [], ho₂, rfl, rfl, zs, rfl, ?_, hvl⟩
      rw [hsn, if_neg (by rw [← eqv_N]; exact hq), List.append_nil, hzs]
  · rintro a k ys P ⟨rfl, zs, rfl, hzs, hvl⟩ hys
    refine ⟨(a, lstOf (zs.map (·.1)) k) :: σ, by walk_at "sp", q a k zs ?_ hvl⟩
    rw [hzs, List.length_map, List.take_of_length_le (Nat.le_refl _)]
end
end

section
open PySem PySem.W PySem.Spec PySem.Calls PyProof.Rows PySem.SeqAt

section
variable {α : Type} {C : Cx} {m : Loc} {σ : Led} {env : Env} {n : Nat}

theorem any_mem {δ : Type} [BEq δ] [LawfulBEq δ] {l : List δ} {x : δ} : (l.any (· == x)) = true ↔ x ∈ l := by
  rw [List.any_eq_true]
  exact ⟨fun ⟨y, hy, e⟩ => by rw [← eq_of_beq e]; exact hy, fun h => ⟨x, h, by simp⟩⟩
theorem any_ents {δ : Type} [BEq δ] {D : δ → PyData} (hD : ∀ a b, PyData.eqv (D a) (D b) = (a == b)) (l : List (Value × δ)) (x : δ) : ((ents D l).any fun p => PyData.eqv p.2 (D x)) = (l.map (·.2)).any (· == x) := by
  simp [ents, List.any_map, hD, Function.comp_def]
theorem ev_notInD {δ : Type} [BEq δ] {D : δ → PyData} {l : Addr} {ps : List (Value × δ)} {k : Nat} {x : Value} {d : δ} {Q : Value → Loc → Led → Prop} (hD : ∀ a b, PyData.eqv (D a) (D b) = (a == b)) (hu : C.A.units + 80 < cLine) (hm : (l, lstOf (ps.map (·.1)) k) ∈ σ)
    (H : ∀ p ∈ ps, Rd C σ p.1 (D p.2) ∧ shaped (D p.2) = true) (r : Rd C σ x (D d)) (hs : shaped (D d) = true)
    (q : Q (.bool (!(ps.map (·.2)).any (· == d))) m σ) : Ev C (compareOp .NotIn x (.ref l)) m σ Q := by
  refine ev_notIn (ps := ents D ps) hu (by rw [ents_fst]; exact hm) (rd_ents H) r hs ?_
  rw [any_ents hD]
  exact q

theorem names_ok {lr lm : Addr} {rs : List (Value × Row)} {ms : List (Value × Nm)} {kr km : Nat} {Q : Value → Loc → Led → Prop} (G : Gd (n + 1) C env) (hm : (lr, lstOf (rs.map (·.1)) kr) ∈ σ) (hr : ∀ p ∈ rs, RowAt σ p.1 p.2)
    (hm2 : (lm, lstOf (ms.map (·.1)) km) ∈ σ) (hms : ∀ p ∈ ms, NmAt p.1 p.2) (hz : rs.length ≤ 500) (hz2 : ms.length ≤ 500)
    (q : ∀ a k (zs : List (Value × Nm)), zs.map (·.2) = namesF (rs.map (·.2.1) ++ ms.map (·.2)) → (∀ p ∈ zs, NmAt p.1 p.2) → Q (.ref a) m ((a, lstOf (zs.map (·.1)) k) :: σ)) : Ev C (call (.ref 258) [.ref lr, .ref lm]) m σ Q := by
  refine ev_def (binds := [(Str.ofString "rows", .ref lr), (Str.ofString "more", .ref lm)]) G rfl (by kernel_rfl) (fun _ => BindsTo.of_eq rfl) (locs rfl) fun C' G' U => ?_
  have hu := G'.hu
  have hz' : sizeLine = 16777216 := rfl
  walk_at "go"
  rename_i aN _
  refine ev_ForAny G'.hh (Ev.forget ?_)
  refine ev_BinOp ?_
  refine ev_ListComp (l := lr) (vs := rs.map (·.1)) (R := (aN, lstOf [] 0) :: σ) (fun i ys P => P = [] ∧ ∃ zs : List (Value × Nm), ys = zs.map (·.1) ∧ zs.map (·.2) = (rs.take i).map (·.2.1) ∧ ∀ p ∈ zs, NmAt p.1 p.2) G'.hh (by simp; omega) ?_ ?_ ?_ ?_ ?_
  · walk_at "go"
    exact ⟨rfl, rfl, [], rfl, rfl, [], rfl, rfl, fun _ h => nomatch h⟩
  · rintro i ys P ⟨rfl, _⟩
    exact .led (.tail _ hm)
  · exact .inl ⟨_, _, rfl⟩
  · rintro i y ys P R' a oc mc hi hR hS ⟨rfl, zs, rfl, hzs, hvl⟩ hys ho
    obtain ⟨p, hpi, rfl⟩ := fst_at hi
    obtain ⟨b, t, u, k, e, hb⟩ := hr p (mem_at hpi)
    rw [e]
    have hb' := hR _ (.tail _ hb)
    refine ev_assignName (ev_storeC ho fun oc₁ ho₁ => ?_)
    refine ev_tests_nil ?_
    rw [if_pos rfl]
    refine ev_Subscript ?_
    refine ev_localC (.head _) ho₁ (by with_unfolding_all rfl) ?_
    refine ev_int fun _ => ?_
    refine ev_item (.led (.tail _ hb')) (by decide) (by decide) rfl ?_
    refine ⟨rfl, oc₁, _, [], ho₁, rfl, rfl, zs ++ [(.str (nm p.2.1) t, p.2.1)], by simp, ?_, ?_⟩
    · rw [take_snoc hpi, List.map_append, List.map_append, hzs]; rfl
    · intro z hz
      rcases List.mem_append.mp hz with hz | hz
      · exact hvl z hz
      · obtain rfl := List.mem_singleton.mp hz; exact ⟨t, rfl⟩
  · rintro a ka ys P ⟨rfl, zs, rfl, hzs, hvl⟩ hys
    rw [List.length_map, List.take_of_length_le (Nat.le_refl _)] at hzs
    have hzl : zs.length = rs.length := by simpa using congrArg List.length hzs
    walk_at "go"
    refine ev_listAdd (.led (.head _)) (.led (.tail _ (.tail _ hm2))) (by simp; omega) fun c => ?_
    rw [← List.map_append]
    have hall : ∀ p ∈ zs ++ ms, NmAt p.1 p.2 := fun p hp => by
      rcases List.mem_append.mp hp with hp | hp
      · exact hvl p hp
      · exact hms p hp
    rw [← hzs, ← List.map_append] at q
    have hlen : (zs ++ ms).length ≤ 1000 := by simp; omega
    generalize zs ++ ms = xs at hall q hlen ⊢
    refine ⟨(aN, lstOf [] 0) :: (c, lstOf (xs.map (·.1)) 0) :: (a, lstOf (zs.map (·.1)) ka) :: σ, by walk_at "sp", c, xs.map (·.1), (c, lstOf (xs.map (·.1)) 0) :: (a, lstOf (zs.map (·.1)) ka) :: σ, [(aN, lstOf [] 0)], fun i m' P => m' "names" = some (.ref aN) ∧ ∃ ns : List (Value × Nm), ∃ k, P = [(aN, lstOf (ns.map (·.1)) k)] ∧ ns.map (·.2) = namesF ((xs.take i).map (·.2)) ∧ (∀ p ∈ ns, NmAt p.1 p.2) ∧ ns.length ≤ i, rfl, rfl, ?_, ?_, .inl ⟨_, _, rfl⟩, ?_, ?_⟩
    · exact ⟨rfl, [], 0, rfl, rfl, fun _ h => (nomatch h), Nat.zero_le _⟩
    · rintro i m' P ⟨_, ns, k, rfl, _⟩
      exact .led (.tail _ (.head _))
    · rintro i v m' P R' hi hR hS ⟨h1, ns, k, rfl, hns, hvl, hl⟩
      obtain ⟨p, hpi, rfl⟩ := fst_at hi
      have hpx := hall p (mem_at hpi)
      have hile : i < xs.length := (List.getElem?_eq_some_iff.mp hpi).1
      refine ev_assignName ?_
      walk_at "go"
      refine ev_notInD eqv_N (by omega) (.head _) (fun p hp => rd_Nm (hvl p hp)) (rd_Nm hpx).1 (shaped_N _) ?_
      walk_at "go"
      have hsn := namesF_snoc ((xs.take i).map (·.2)) p.2
      rw [← List.map_singleton (f := (·.2)) (a := p), ← List.map_append, ← take_snoc hpi, ← hns] at hsn
      split
      · rename_i hq
        walk_at "go"
        refine ev_methodList (.head _) PySem.F.slot_list_append (by with_unfolding_all rfl) ?_
        refine ev_callB1 ?_
        walk_at "go"
        refine ev_append (by simp; omega) ?_
        walk_at "go"
        refine ⟨[(aN, lstOf ((ns ++ [p]).map (·.1)) (k + 1))], by simp, h1, ns ++ [p], k + 1, rfl, ?_, fun z hz => ?_, by simp; omega⟩
        · rw [hsn]
          have : ¬ p.2 ∈ ns.map (·.2) := fun h => by rw [any_mem.mpr h] at hq; cases hq
          simp [addF, this]
        · rcases List.mem_append.mp hz with hz | hz
          · exact hvl z hz
          · obtain rfl := List.mem_singleton.mp hz; exact hpx
      · rename_i hq
        walk_at "go"
        refine ⟨_, rfl, h1, ns, k, rfl, ?_, hvl, by omega⟩
        rw [hsn]
        have : p.2 ∈ ns.map (·.2) := by
          refine Classical.byContradiction fun h => hq ?_
          rw [Bool.eq_false_iff.mpr fun e => h (any_mem.mp e)]; rfl
        simp only [addF]
        rw [if_pos this]
    · rintro m' P ⟨h1, ns, k, rfl, hns, hvl, hl⟩
      refine Ev.forget ?_
      walk_at "go"
      rw [List.length_map, List.take_of_length_le (Nat.le_refl _)] at hns
      exact ⟨(aN, lstOf (ns.map (·.1)) k) :: σ, by walk_at "sp", q _ _ ns hns hvl⟩
end
end

section
open PySem PySem.W PySem.Spec PySem.Calls PyProof.Rows PySem.SeqAt Builtin Builtin.ObjectAttr

theorem call_slotB {w : World} {A : Around} {h : Heap} {g : Array GenState} {d : Drawn} {tk : Nat} {os : OsState} {R : Result → Shared → Prop} (id owner n : String) {self : Value} {rest : List Value} {kw : List (Str × Value)} {b : Builtin} (hq : id.startsWith "lifetime." = false) (entry : entryFor table id = some b) (kind : builtinKind id = some .slot) (split : splitId id = some (owner, n))
    (hi : Looks (model pw w) h (isInstance self (.type owner)) true) (args : argsOk id ⟨self :: rest, kw⟩)
    (H : wpAny (model pw w) (A.under (.builtin id ⟨self :: rest, kw⟩)) (b ⟨self :: rest, kw⟩) (fun fin s' => match fin with | .done f => R (.ok f) s' | .again c' => c'.quiet = true ∧ codeAny (model pw w) A c' R s') (fun e s' => R (.error e) s') ⟨h, g, d, tk, os⟩) :
    codeAny (model pw w) A (.call (.builtin id) ⟨self :: rest, kw⟩) R ⟨h, g, d, tk, os⟩ :=
  codeAny_call_builtin_at (Code.quiet_builtin _ hq) entry (@check_slot (model pw w) _ _ ⟨h, g, d, tk, os⟩ id owner n self rest kw _ kind split hi args H)

-- what the classes' words are
theorem dn_kind : builtinKind "dict.__new__" = some .builtinFn := by decide +kernel
theorem dn_split : splitId "dict.__new__" = some ("dict", "__new__") := by decide +kernel
theorem dn_entry : entryFor table "dict.__new__" = some Builtin.«dict.__new__» := entryFor_of_tree (by kernel_rfl)
theorem di_kind : builtinKind "collections.defaultdict.__init__" = some .slot := by decide +kernel
theorem di_split : splitId "collections.defaultdict.__init__" = some ("collections.defaultdict", "__init__") := by decide +kernel
theorem di_entry : entryFor table "collections.defaultdict.__init__" = some Builtin.«collections.defaultdict.__init__» := entryFor_of_tree (by kernel_rfl)
theorem di_args (a b : Value) : argsOk "collections.defaultdict.__init__" ⟨[a, b], []⟩ := by unfold argsOk; kernel_rfl
theorem di_bind (self : Value) : bindSpecial (.builtin "collections.defaultdict.__init__") self = pure (.builtin "collections.defaultdict.__init__", [self]) :=
  (Slot.of (T := "collections.defaultdict") (name := "__init__") (owner := "collections.defaultdict") (n := "__init__") (by rw [typeLookup_type, builtinLookup_eq_fast]; kernel_rfl) (by decide +kernel) (by decide +kernel) (by decide +kernel)
    (.inl (by decide +kernel)) (by rw [isSubtype_type]; kernel_rfl)).bind self
theorem list_type : typeOf (.type "list") = pure (.type "type") := by kernel_rfl
theorem list_call : specialOf (.type "list") "__call__" = pure (some (.builtin "type.__call__")) := by unfold specialOf; rw [list_type]; exact tc_lookup
theorem dinit_entry : entryFor table "dict.__init__" = some Builtin.«dict.__init__» := entryFor_of_tree (by kernel_rfl)

abbrev bookObj (dx : Addr) (es : Array DictEntry) (k : Nat) : Obj := { cls := .ref 115, dict := some dx, data := .dict es k, slots := #[some (.type "list")] }

section
variable {α : Type} {C : Cx} {m : Loc} {σ : Led} {env : Env} {n : Nat}

theorem dd_init {A : Around} {x dx : Addr} {h₂ : Heap} {tk : Nat} {R : Result → Shared → Prop} (G : Gd n C env) (I : Inv C h₂ m ((x, { cls := .ref 115, dict := some dx, data := .dict #[] }) :: σ))
    (q : ∀ h₃ tk, Inv C h₃ m ((x, bookObj dx #[] 0) :: σ) → R (.ok (.ret .none)) (C.sh h₃ tk)) :
    codeAny C.M A (.call (.builtin "collections.defaultdict.__init__") ⟨[.ref x, .type "list"], []⟩) R (C.sh h₂ tk) := by
  have X := G.X.keeps I.keep
  have hx₂ := I.get (.head _)
  have t1 : Looks C.M h₂ (typeOf (.ref x)) (.ref 115) := (Looks.ld hx₂).andThen .now
  have t3 : Looks C.M h₂ (isSubtype (.ref 115) (.type "collections.defaultdict")) true := looks_subIn X (by kernel_rfl)
  have t7 : Looks C.M h₂ (specialOf (.type "list") "__call__") (some (.builtin "type.__call__")) := Looks.of_pure list_call
  refine call_slotB "collections.defaultdict.__init__" "collections.defaultdict" "__init__" (by decide +kernel) di_entry di_kind di_split (t1.andThen t3) (di_args _ _) ?_
  unfold Builtin.«collections.defaultdict.__init__»
  repeat (first | with_reducible refine wpAny_runValue ?_ | with_reducible refine wpAny_updatePart hx₂ ?_ | lk)
  have I₃ := I.update (fun o => { o with slots := (o.slots ++ Array.replicate (0 + 1 - o.slots.size) none).setIfInBounds 0 [Value.type "list"].head? }) rfl
  generalize hh : h₂.update x (fun o => { o with slots := (o.slots ++ Array.replicate (0 + 1 - o.slots.size) none).setIfInBounds 0 [Value.type "list"].head? }) = h₃ at I₃
  have I₃' : Inv C h₃ m ((x, bookObj dx #[] 0) :: σ) := I₃
  have hx₃ := I₃'.get (.head _)
  have X₃ := G.X.keeps I₃'.keep
  have t1' : Looks C.M h₃ (typeOf (.ref x)) (.ref 115) := (Looks.ld hx₃).andThen .now
  have t3' : Looks C.M h₃ (isSubtype (.ref 115) (.type "dict")) true := looks_subIn X₃ (by kernel_rfl)
  have t4' : Looks C.M h₃ (isSubtype (.ref 115) (.type "collections.OrderedDict")) false := looks_subIn X₃ (by kernel_rfl)
  refine codeAny_builtin dinit_entry ?_
  unfold Builtin.«dict.__init__»
  repeat lk
  exact q _ _ I₃'

theorem ev_newBook {Q : Value → Loc → Led → Prop} (G : Gd n C env) (q : ∀ x dx, 3 < x → 3 < dx → Q (.ref x) m ((x, bookObj dx #[] 0) :: (dx, emptyDict) :: σ)) : Ev C (call (.ref 115) [.type "list"]) m σ Q := fun E h tk I => by
  have X := G.X.keeps I.keep
  have h3 : 3 < h.objs.size := by
    obtain ⟨p, loose, mean, mg, mb, T⟩ := G.T
    obtain ⟨o, _, _, ho, _⟩ := T.g.keeps I.keep
    exact Heap.lt_size ho
  have hC := X 115 _ rfl
  have hcall : Looks C.M h (specialOf (.ref 115) "__call__") (some (.builtin "type.__call__")) := looks_specialIn X (by kernel_rfl)
  have htyp : Looks C.M h (isInstance (.ref 115) (.type "type")) true := looks_instIn X (by kernel_rfl)
  refine wpAny_call ?_
  refine codeAny_of_tree ?_
  show wpAny _ _ (callAny (.ref 115) _) _ _ _
  refine nd_load hC ?_
  show wpAny _ _ (callAny.viaDunder (.ref 115) _) _ _ _
  unfold callAny.viaDunder
  refine wpAny_bind (hcall.at ?_)
  dsimp only
  rw [tc_bind]
  refine wpAny_bind (wpAny_pure (wpAny_bind (wpAny_pure ?_)))
  refine wpAny_pure (a := Fin.again (.call (.builtin "type.__call__") ⟨.ref 115 :: [.type "list"], []⟩)) (And.intro rfl ?_)
  refine codeAny_call_builtin_at (Code.quiet_builtin _ (by decide +kernel)) entry_typeCall (check_slot tc_kind tc_split htyp (tc_args _ _ _) ?_)
  unfold Builtin.«type.__call__»
  have hm : Looks C.M h (mroOf (.ref 115)) _ := ((Looks.ld (part := none) hC).andThen .now).andThen .now
  repeat (first | with_reducible refine wpAny_call ?_ | lk)
  refine codeAny_call_builtin_at (Code.quiet_builtin _ (by decide +kernel)) dn_entry ?_
  simp only [checkBuiltinCall, dn_kind, dn_split]
  have hsub : Looks C.M h (isSubtype (.ref 115) (.type "dict")) true := looks_subIn X (by kernel_rfl)
  repeat lk
  have I₂ := (I.push { cls := .type "dict", data := .dict #[] } rfl).push { cls := .ref 115, dict := some h.objs.size, data := .dict #[] } rfl
  have h3' : 3 < (h.push { cls := .type "dict", data := .dict #[] }).objs.size := by rw [Heap.size_push]; exact Nat.lt_succ_of_lt h3
  generalize hx : (h.push { cls := .type "dict", data := .dict #[] }).objs.size = x at I₂ h3' ⊢
  generalize hh : (h.push { cls := .type "dict", data := .dict #[] }).push { cls := .ref 115, dict := some h.objs.size, data := .dict #[] } = h₂ at I₂ ⊢
  have X₂ := G.X.keeps I₂.keep
  have hC₂ := X₂ 115 _ rfl
  have hx₂ := I₂.get (.head _)
  have t1 : Looks C.M h₂ (typeOf (.ref x)) (.ref 115) := (Looks.ld hx₂).andThen .now
  have t2 : Looks C.M h₂ (isSubtype (.ref 115) (.ref 115)) true := looks_subIn X₂ (by kernel_rfl)
  have t4 : Looks C.M h₂ (typeLookup (.ref 115) "__init__") (some (.builtin "collections.defaultdict.__init__")) := looks_findIn X₂ (by kernel_rfl)
  have t5 : Looks C.M h₂ (bindSpecial (.builtin "collections.defaultdict.__init__") (.ref x)) _ := Looks.of_pure (di_bind (.ref x))
  repeat (first | with_reducible refine wpAny_call ?_ | lk)
  refine dd_init (C := C) (σ := (h.objs.size, emptyDict) :: σ) G I₂ fun h₃ tk I₃ => ?_
  dsimp only
  repeat lk
  exact Ends.intro (C := C) I₃ (q _ _ h3' h3)
end
end

section
open PySem PySem.W PySem.Spec PySem.Calls PyProof.Rows PySem.SeqAt Builtin Builtin.ObjectAttr

section
variable {α : Type} {C : Cx} {m : Loc} {σ : Led} {env : Env} {n : Nat}

theorem check_meth {M : Model} {A : Around} {E : Value → Shared → Prop} {s : Shared} {i owner n : String} {self : Value} {rest : List Value} {kw : List (Str × Value)} {Q : Unit → Shared → Prop}
    (hk : builtinKind i = some .method) (hs : splitId i = some (owner, n)) (hi : Looks M s.heap (isInstance self (.type owner)) true) (ha : argsOk i ⟨self :: rest, kw⟩) (q : Q () s) :
    wpAny M A (checkBuiltinCall i ⟨self :: rest, kw⟩) Q E s := by
  simp only [checkBuiltinCall, hk, hs]
  refine wpAny_bind (hi.here ?_)
  simp only [Bool.not_true, Bool.false_eq_true, if_false]
  cases hsig : Manifest.signature? i with
  | none => exact wpAny_pure q
  | some sig =>
    simp only [argsOk, hsig] at ha
    have h2 : Bind.checkArgs i sig ⟨self :: rest, kw⟩ = pure () := ha
    show wpAny M A (Bind.checkArgs i sig ⟨self :: rest, kw⟩) Q E s
    rw [h2]; exact wpAny_pure q
theorem call_methB {w : World} {A : Around} {h : Heap} {g : Array GenState} {d : Drawn} {tk : Nat} {os : OsState} {R : Result → Shared → Prop} (id owner n : String) {self : Value} {rest : List Value} {kw : List (Str × Value)} {b : Builtin} (hq : plainId id = true) (entry : entryFor table id = some b) (kind : builtinKind id = some .method) (split : splitId id = some (owner, n))
    (hi : Looks (model pw w) h (isInstance self (.type owner)) true) (args : argsOk id ⟨self :: rest, kw⟩)
    (H : wpAny (model pw w) A.in1 (b ⟨self :: rest, kw⟩) (fun fin s' => match fin with | .done f => R (.ok f) s' | .again c' => c'.quiet = true ∧ codeAny (model pw w) A c' R s') (fun e s' => R (.error e) s') ⟨h, g, d, tk, os⟩) :
    codeAny (model pw w) A (.call (.builtin id) ⟨self :: rest, kw⟩) R ⟨h, g, d, tk, os⟩ :=
  codeAny_call_builtin hq entry (@check_meth (model pw w) _ _ ⟨h, g, d, tk, os⟩ id owner n self rest kw _ kind split hi args H)
theorem dg_kind : builtinKind "dict.__getitem__" = some .method := by decide +kernel
theorem dg_split : splitId "dict.__getitem__" = some ("dict", "__getitem__") := by decide +kernel
theorem dg_entry : entryFor table "dict.__getitem__" = some Builtin.«dict.__getitem__» := entryFor_of_tree (by kernel_rfl)
theorem dg_args (a b : Value) : argsOk "dict.__getitem__" ⟨[a, b], []⟩ := by unfold argsOk; kernel_rfl
theorem dg_bind (self : Value) : bindSpecial (.builtin "dict.__getitem__") self = pure (.builtin "dict.__getitem__", [self]) := PySem.F.slot_dict_getitem.bind self

/-- a book's pairs: names and the lists' places -/
abbrev BP := List (Nm × Addr)
inductive BE : List DictEntry → BP → Prop
  | nil : BE [] []
  | cons {e : DictEntry} {x : Nm} {t : Tok} {a : Addr} {es : List DictEntry} {bs : BP} : e.key = .str (nm x) t → e.val = .ref a → BE es bs → BE (e :: es) ((x, a) :: bs)
theorem nm_inj : ∀ a b : Nm, (nm a == nm b) = (a == b) := by decide +kernel
theorem BE.all {es : List DictEntry} {bs : BP} (h : BE es bs) : (es.all fun e => isExactStrKey e.key) = true := by
  induction h with
  | nil => rfl
  | cons hk _ _ ih => rw [List.all_cons, hk, ih]; rfl
theorem BE.find {es : List DictEntry} {bs : BP} (h : BE es bs) (x : Nm) : es.findIdx? (fun e => e.key.isStr (nm x)) = bs.findIdx? (fun b => b.1 == x) := by
  induction h with
  | nil => rfl
  | @cons e y t a es bs hk _ _ ih =>
    rw [List.findIdx?_cons, List.findIdx?_cons, ih]
    have : e.key.isStr (nm x) = (y == x) := by rw [hk]; exact nm_inj y x
    rw [this]
theorem BE.at {es : List DictEntry} {bs : BP} (h : BE es bs) (i : Nat) : (es[i]?).map (·.val) = (bs[i]?).map fun b => Value.ref b.2 := by
  induction h generalizing i with
  | nil => rfl
  | cons _ hv _ ih => cases i with
    | zero => simp [hv]
    | succ i => simpa using ih i
def bget (bs : BP) (x : Nm) : Option Addr := (bs.find? fun b => b.1 == x).map (·.2)
theorem bget_idx (bs : BP) (x : Nm) : bget bs x = (bs.findIdx? fun b => b.1 == x).bind fun i => (bs[i]?).map (·.2) := by
  unfold bget
  induction bs with
  | nil => rfl
  | cons b bs ih =>
    rw [List.find?_cons, List.findIdx?_cons]
    cases hb : b.1 == x with
    | true => rfl
    | false =>
      simp only [Bool.false_eq_true, if_false]
      rw [ih]
      cases bs.findIdx? (fun b => b.1 == x) <;> rfl

theorem book_dictGet {A : Around} {E : Value → Shared → Prop} {x : Addr} {o : Obj} {es : Array DictEntry} {k : Nat} {bs : BP} {y : Nm} {t : Tok} {h : Heap} {tk : Nat} {Q : Option Value → Shared → Prop} (hx : h.get? x = some o) (hd : o.data = .dict es k) (B : BE es.toList bs)
    (q : Q ((bget bs y).map Value.ref) (C.sh h (tk + 1))) : wpAny C.M A (dictGet x (.str (nm y) t)) Q E (C.sh h tk) := by
  unfold dictGet
  refine wpAny_holding ?_
  refine wpAny_bind (wpAny_pyHash_str ?_)
  refine wpAny_bind (KTD.kt_dictFind_strs (s := C.sh h (tk + 1)) hx hd (by simpa using B.all) ?_)
  have e := B.find y
  rw [show es.findIdx? (fun e => e.key.isStr (nm y)) = es.toList.findIdx? (fun e => e.key.isStr (nm y)) from (List.findIdx?_toArray ..), e]
  rw [bget_idx] at q
  cases hf : bs.findIdx? (fun b => b.1 == y) with
  | none => rw [hf] at q; exact wpAny_pure q
  | some i =>
    rw [hf] at q
    refine wpAny_bind (wpAny_dictEntries hx hd (wpAny_pure ?_))
    have e2 := B.at i
    rw [Array.getElem?_toList] at e2
    rw [e2]
    simpa [Option.map_map, Function.comp_def] using q

theorem bookMiss {A : Around} {h : Heap} {tk : Nat} {x dx : Addr} {es : Array DictEntry} {k : Nat} {bs : BP} {y : Nm} {t : Tok} {R : Result → Shared → Prop} (G : Gd n C env) (I : Inv C h m σ) (hm : (x, bookObj dx es k) ∈ σ) (B : BE es.toList bs) (h3 : 3 < x)
    (q0 : ∀ l, bget bs y = some l → R (.ok (.ret (.ref l))) (C.sh h (tk + 1))) (q1 : bget bs y = none → wpAny C.M A.in1 (callSpecial? (.ref x) "__missing__" [.str (nm y) t]) (fun r s' => ∃ v, r = some v ∧ R (.ok (.ret v)) s') (fun e s' => R (.error e) s') (C.sh h (tk + 1))) :
    codeAny C.M A (.call (.builtin "dict.__getitem__") ⟨[.ref x, .str (nm y) t], []⟩) R (C.sh h tk) := by
  have X := G.X.keeps I.keep
  have hx := I.get hm
  have t1 : Looks C.M h (typeOf (.ref x)) (.ref 115) := (Looks.ld hx).andThen .now
  have t3 : Looks C.M h (isSubtype (.ref 115) (.type "dict")) true := looks_subIn X (by kernel_rfl)
  have hs : (x == sysModules) = false := by
    have : x ≠ 1 := fun e => by rw [e] at h3; exact absurd h3 (by decide)
    simpa [sysModules] using this
  refine call_methB "dict.__getitem__" "dict" "__getitem__" PySem.F.slot_dict_getitem.plain dg_entry dg_kind dg_split (t1.andThen t3) (dg_args _ _) ?_
  unfold Builtin.«dict.__getitem__»
  have hmis : Dict.missed x (.str (nm y) t) = pure none := by
    unfold Dict.missed
    rw [if_neg (by rw [hs]; exact Bool.false_ne_true)]
  have t4 : Looks C.M h (Dict.missed x (.str (nm y) t)) none := Looks.of_pure hmis
  repeat (first | with_reducible refine book_dictGet hx rfl B ?_ | lk)
  cases hb : bget bs y with
  | some l =>
    repeat lk
    exact q0 l hb
  | none =>
    iterate 6 lk
    refine wpAny_bind (wpAny_mono (q1 hb) (fun r s' hr => ?_) fun _ _ e => e)
    obtain ⟨v, rfl, hr⟩ := hr
    exact wpAny_bind (wpAny_rule (wpAny_pure hr))
theorem ev_bookTail {value slice : Expr} {x dx : Addr} {es : Array DictEntry} {k : Nat} {y : Nm} {t : Tok} {Q : Value → Loc → Led → Prop} (G : Gd n C env) (hm : (x, bookObj dx es k) ∈ σ) 
    (H : ∀ (E : Value → Shared → Prop) h tk, Inv C h m σ → codeAny C.M C.A (.call (.builtin "dict.__getitem__") ⟨[.ref x, .str (nm y) t], []⟩) (fun r s' => match r with | .ok (.ret v) => Ends C Q v s' | .ok _ => False | .error e => E e s') (C.sh h tk))
    (hs : subscripted slice false (.ref x) (.str (nm y) t) = operate [.ref x, .str (nm y) t] (getItem (.ref x) (.str (nm y) t))) : Ev C (subscriptTail value slice (.ref x) (.str (nm y) t)) m σ Q := fun E h tk I => by
  have X := G.X.keeps I.keep
  have hx := I.get hm
  have t1 : Looks C.M h (typeOf (.ref x)) (.ref 115) := (Looks.ld hx).andThen .now
  have t2 : Looks C.M h (specialOf (.ref x) "__getitem__") (some (.builtin "dict.__getitem__")) := t1.andThen (looks_findIn X (by kernel_rfl))
  have t3 : Looks C.M h (bindSpecial (.builtin "dict.__getitem__") (.ref x)) (.builtin "dict.__getitem__", [.ref x]) := Looks.of_pure (dg_bind _)
  have t4 : Looks C.M h (isSubtype (.ref 115) (.type "collections.deque")) false := looks_subIn X (by kernel_rfl)
  unfold subscriptTail
  iterate 6 lk
  refine wpAny_pure ?_
  refine wpAny_bind ?_
  rw [hs]
  refine wpAny_operating ?_
  unfold getItem
  repeat (first | with_reducible refine wpAny_call ?_ | lk)
  refine codeAny_mono (H E h tk I) fun r s' z => ?_
  rcases r with e | (v | _ | _ | _) <;> first | exact z | exact z.elim | skip
  obtain ⟨h', tk', m', σ', rfl, I', q⟩ := z
  repeat (first | exact wpAny_letTemporaryGo (wpAny_pure (Ends.intro I' q)) | lk)

/-- the same frame, a little further in -/
abbrev Cx.in (C : Cx) (A : Around) : Cx := { C with A := A }
theorem Inv.into {h : Heap} {A : Around} (I : Inv C h m σ) : Inv (C.in A) h m σ := ⟨I.x⟩
theorem Inv.back {h : Heap} {A : Around} (I : Inv (C.in A) h m σ) : Inv C h m σ := ⟨I.x⟩
theorem Ends.back {α : Type} {A : Around} {Q : α → Loc → Led → Prop} {v : α} {s' : Shared} (e : Ends (C.in A) Q v s') : Ends C Q v s' := let ⟨h', tk', m', σ', e1, I, q⟩ := e; ⟨h', tk', m', σ', e1, I.back, q⟩
theorem Ev.in {α : Type} {A : Around} {t : Sem α} {Q : α → Loc → Led → Prop} (H : Ev (C.in A) t m σ Q) {E : Value → Shared → Prop} {h : Heap} {tk : Nat} (I : Inv C h m σ) : wpAny C.M A t (Ends C Q) E (C.sh h tk) :=
  wpAny_mono (H E h tk I.into) (fun _ _ e => e.back) fun _ _ x => x
theorem Gd.in {C : Cx} {env : Env} {A : Around} (G : Gd (n + 1) C env) (h1 : A.frames = C.A.frames) (h2 : A.handled = C.A.handled) (h3 : A.depth ≤ C.A.depth + 1) (h4 : A.units ≤ C.A.units + 8) : Gd n (C.in A) env :=
  ⟨G.X, G.T, let ⟨A₀, outer, K, hA, hfs⟩ := G.B; ⟨A₀, outer, K, h1.trans hA, hfs⟩, G.D, G.hf, G.hl, G.hk, G.hg, G.hb, by have := G.hd; show A.depth + n < _; omega, by have := G.hu; show A.units + 8 * n + 80 < _; omega, h2.trans G.hh⟩

theorem ev_book {value slice : Expr} {x dx : Addr} {es : Array DictEntry} {k : Nat} {bs : BP} {y : Nm} {t : Tok} {Q : Value → Loc → Led → Prop} (G : Gd n C env) (hm : (x, bookObj dx es k) ∈ σ) (B : BE es.toList bs) (h3 : 3 < x)
    (q0 : ∀ l, bget bs y = some l → Q (.ref l) m σ) (q1 : bget bs y = none → Ev (C.in C.A.in1) (call (.ref 105) [.ref x, .str (nm y) t]) m σ Q)
    (hs : subscripted slice false (.ref x) (.str (nm y) t) = operate [.ref x, .str (nm y) t] (getItem (.ref x) (.str (nm y) t)) := by with_unfolding_all rfl) : Ev C (subscriptTail value slice (.ref x) (.str (nm y) t)) m σ Q := by
  refine ev_bookTail G hm (fun E h tk I => ?_) hs
  have X := G.X.keeps I.keep
  have hx := I.get hm
  refine bookMiss G I hm B h3 (fun l e => Ends.intro I (q0 l e)) fun e => ?_
  have t1 : Looks C.M h (typeOf (.ref x)) (.ref 115) := (Looks.ld hx).andThen .now
  have t2 : Looks C.M h (typeLookup (.ref 115) "__missing__") (some (.ref 105)) := looks_findIn X (by kernel_rfl)
  have t3 : Looks C.M h (bindSpecial (.ref 105) (.ref x)) (.ref 105, [.ref x]) := bind_fn X (.ref x) (by kernel_rfl)
  show wpAny C.M C.A.in1 (callSpecial? _ _ _) _ _ ⟨h, C.Z.gens, C.Z.drawn, tk + 1, C.Z.os⟩
  iterate 9 lk
  refine wpAny_bind ?_
  exact wpAny_mono ((q1 e).in I) (fun v s' z => wpAny_pure ⟨v, rfl, z⟩) fun _ _ z => z
end
end

section
open PySem PySem.W PySem.Spec PySem.Calls PyProof.Rows PySem.SeqAt Builtin Builtin.ObjectAttr

section
variable {α : Type} {C : Cx} {m : Loc} {σ : Led} {env : Env} {n : Nat}

theorem dm_type : typeOf (.builtin "collections.defaultdict.__missing__") = pure (.type "method_descriptor") := by kernel_rfl
theorem md_get : typeLookup (.type "method_descriptor") "__get__" = pure (some (.builtin "method_descriptor.__get__")) := by rw [typeLookup_type, builtinLookup_eq_fast]; kernel_rfl
theorem dd_own : classOwn (.type "collections.defaultdict") "__missing__" = pure (some (.builtin "collections.defaultdict.__missing__")) := by kernel_rfl

theorem mdg_kind : builtinKind "method_descriptor.__get__" = some .slot := by decide +kernel
theorem mdg_split : splitId "method_descriptor.__get__" = some ("method_descriptor", "__get__") := by decide +kernel
theorem mdg_entry : entryFor table "method_descriptor.__get__" = some Builtin.«method_descriptor.__get__» := entryFor_of_tree (by kernel_rfl)
theorem mdg_args (a b c : Value) : argsOk "method_descriptor.__get__" ⟨[a, b, c], []⟩ := by unfold argsOk; kernel_rfl
theorem md_sub : isSubtype (.type "method_descriptor") (.type "method_descriptor") = pure true := by rw [isSubtype_type]; kernel_rfl
theorem dm_cut : ".".intercalate ("collections.defaultdict.__missing__".cutAt '.').dropLast = "collections.defaultdict" := by decide +kernel
abbrev boundMiss (x : Addr) : Obj := { cls := .type "builtin_function_or_method", data := .fields #[.builtin "collections.defaultdict.__missing__", .ref x] }
theorem super_attr {so x dx : Addr} {es : Array DictEntry} {k : Nat} {Q : Value → Loc → Led → Prop} (G : Gd n C env) (hso : (so, ks_superObj 115 x 115) ∈ σ) (hm : (x, bookObj dx es k) ∈ σ) (q : ∀ b, Q (.ref b) m ((b, boundMiss x) :: σ)) : Ev C (getAttr (.ref so) "__missing__" true) m σ Q := fun E h tk I => by
  have X := G.X.keeps I.keep
  have hx := I.get hm
  have hS := I.get hso
  have hC := X 115 _ rfl
  have hlk := F.ks_slot_super_ga.lookup
  have hcan := F.ks_canon_super_ga
  have hT : ∀ t', (⟨h, C.Z.gens, C.Z.drawn, t', C.Z.os⟩ : Shared).TypeIs (.ref so) "super" := fun _ => ⟨_, hS, rfl⟩
  have hno : Looks C.M h (opaqueClassAbove (.ref 115)) none := looks_opaque X (by kernel_rfl)
  have hmro : Looks C.M h (mroOf (.ref 115)) [.ref 115, .type "collections.defaultdict", .type "dict", .type "object"] := ((Looks.ld (part := none) hC).andThen .now).andThen .now
  unfold getAttr getAttrBy
  refine wpAny_bind (wpAny_mkText (wpAny_holding (wpAny_bind (wpAny_typeOf (hT _) (wpAny_bind (wpAny_of_eq hlk ?_))))))
  show wpAny _ _ (getAttrByItsOwn (.ref so) (.str "__missing__" tk) (.type "super") (.builtin "super.__getattribute__") true true) _ _ _
  unfold getAttrByItsOwn hookBefore callGetattribute boundAndCalled
  refine wpAny_bind (wpAny_of_eq (show (if onTheHeap (.type "super") then typeLookup (.type "super") "__getattr__" else pure none) = pure none from rfl) ?_)
  refine wpAny_bind (wpAny_attempt (wpAny_holding ?_))
  show wpAny _ _ (bindSpecial (.builtin "super.__getattribute__") (.ref so) >>= _) _ _ _
  refine wpAny_bind (wpAny_of_eq (F.ks_slot_super_ga.bind _) ?_)
  refine wpAny_call_entry F.ks_slot_super_ga (hT _) F.ks_entry_super_ga ?_ (F.ks_gaArgs_super _ _)
  have f0 : Looks C.M h (field (.ref so) 0) (.ref 115) := looks_field hS 0 (v := .ref 115) rfl
  have f1 : Looks C.M h (field (.ref so) 1) (.ref x) := looks_field hS 1 (v := .ref x) rfl
  have f2 : Looks C.M h (field (.ref so) 2) (.ref 115) := looks_field hS 2 (v := .ref 115) rfl
  unfold Builtin.«super.__getattribute__»
  have t1 : Looks C.M h (typeOf (.builtin "collections.defaultdict.__missing__")) (.type "method_descriptor") := Looks.of_pure dm_type
  have t2 : Looks C.M h (typeLookup (.type "method_descriptor") "__get__") (some (.builtin "method_descriptor.__get__")) := Looks.of_pure md_get
  have t3 : Looks C.M h (classOwn (.type "collections.defaultdict") "__missing__") (some (.builtin "collections.defaultdict.__missing__")) := Looks.of_pure dd_own
  have hne : (Value.ref x == Value.ref 115) = false := by
    have : x ≠ 115 := fun e => by rw [e, hC] at hx; cases hx
    simpa using this
  repeat (first | (with_reducible refine wpAny_call ?_) | (with_reducible refine ks_wpAny_notOpaque hno ?_) | lk)
  simp only [hne, Bool.false_eq_true, if_false]
  have t4 : Looks C.M h (isSubtype (.type "method_descriptor") (.type "method_descriptor")) true := Looks.of_pure md_sub
  refine call_slotB "method_descriptor.__get__" "method_descriptor" "__get__" (by decide +kernel) mdg_entry mdg_kind mdg_split (t1.andThen t4) (mdg_args _ _ _) ?_
  unfold Builtin.«method_descriptor.__get__»
  iterate 20 lk
  simp only [dm_cut]
  have t5 : Looks C.M h (typeOf (.ref x)) (.ref 115) := (Looks.ld hx).andThen .now
  have t6 : Looks C.M h (isSubtype (.ref 115) (.type "collections.defaultdict")) true := looks_subIn X (by kernel_rfl)
  repeat lk
  exact ⟨_, rfl, wpAny_pure (Ends.intro (C := C) (I.push _ rfl) (q _))⟩
end
end

section
open PySem PySem.W PySem.Spec PySem.Calls PyProof.Rows PySem.SeqAt Builtin Builtin.ObjectAttr

section
variable {α : Type} {C : Cx} {m : Loc} {σ : Led} {env : Env} {n : Nat}

theorem ga_args (a b c : Value) : argsOk "getattr" ⟨[a, b, c], []⟩ := by unfold argsOk; kernel_rfl
theorem ga_check (a b c : Value) : checkBuiltinCall "getattr" ⟨[a, b, c], []⟩ = pure () := by kernel_rfl
theorem dga_kind : builtinKind "collections.defaultdict.__getattribute__" = some .slot := by decide +kernel
theorem dga_split : splitId "collections.defaultdict.__getattribute__" = some ("collections.defaultdict", "__getattribute__") := by decide +kernel
theorem dga_entry : entryFor table "collections.defaultdict.__getattribute__" = some Builtin.«object.__getattribute__» :=
  entryFor_alias (id' := "object.__getattribute__") (by kernel_rfl) (by first | rfl | decide +kernel) (by decide +kernel) (by kernel_rfl)
theorem dga_args (a b : Value) : argsOk "collections.defaultdict.__getattribute__" ⟨[a, b], []⟩ := by unfold argsOk; kernel_rfl
theorem dga_bind (self : Value) : bindSpecial (.builtin "collections.defaultdict.__getattribute__") self = pure (.builtin "collections.defaultdict.__getattribute__", [self]) :=
  (Slot.of (T := "collections.defaultdict") (name := "__getattribute__") (owner := "collections.defaultdict") (n := "__getattribute__") (by rw [typeLookup_type, builtinLookup_eq_fast]; kernel_rfl) (by decide +kernel) (by decide +kernel) (by decide +kernel)
    (.inl (by decide +kernel)) (by rw [isSubtype_type]; kernel_rfl)).bind self

theorem attr_frozen {x dx : Addr} {es : Array DictEntry} {k : Nat} {t : Tok} {A : Around} {E : Value → Shared → Prop} {h : Heap} {tk : Nat} {Q : Option Value → Shared → Prop} (hh : A.handled = none) (G : Gd n C env) (hm : (x, bookObj dx es k) ∈ σ) (hd : (dx, emptyDict) ∈ σ) (I : Inv C h m σ)
    (q : ∀ h' tk', Inv C h' m σ → Q none (C.sh h' tk')) : wpAny C.M A (getAttrBy? (.ref x) (.str "_frozen" t)) Q E (C.sh h tk) := by
  have X := G.X.keeps I.keep
  have hx := I.get hm
  have hdx := I.get hd
  have t1 : Looks C.M h (typeOf (.ref x)) (.ref 115) := (Looks.ld hx).andThen .now
  have I0 : InstAt h x (bookObj dx es k) 115 (some emptyDict) := ⟨hx, rfl, rfl, hdx⟩
  have t3 : Looks C.M h (typeLookup (.ref 115) "__getattribute__") (some (.builtin "collections.defaultdict.__getattribute__")) := looks_findIn X (by kernel_rfl)
  have t4 : Looks C.M h (find (.ref x) (.ref 115) "_frozen") .missing := looks_find X I0 (by kernel_rfl)
  have t5 : Looks C.M h (typeLookup (.ref 115) "__getattr__") none := looks_findIn X (by kernel_rfl)
  have t6 : Looks C.M h (bindSpecial (.builtin "collections.defaultdict.__getattribute__") (.ref x)) (.builtin "collections.defaultdict.__getattribute__", [.ref x]) := Looks.of_pure (dga_bind _)
  have t7 : Looks C.M h (isSubtype (.ref 115) (.type "collections.defaultdict")) true := looks_subIn X (by kernel_rfl)
  unfold getAttrBy?
  refine wpAny_bind (wpAny_attempt ?_)
  unfold getAttrBy
  iterate 7 lk
  unfold getAttrByItsOwn hookBefore
  iterate 3 lk
  refine wpAny_bind (wpAny_attempt ?_)
  repeat (first | with_reducible refine wpAny_call ?_ | lk)
  refine call_slotB "collections.defaultdict.__getattribute__" "collections.defaultdict" "__getattribute__" (by decide +kernel) dga_entry dga_kind dga_split (t1.andThen t7) (dga_args _ _) ?_
  unfold Builtin.«object.__getattribute__»
  iterate 22 lk
  have hC := X 115 _ rfl
  unfold noSuchAttribute
  repeat ((fail_if_success (with_reducible refine wpAny_raiseAttrError ?a ?b ?c)); lk)
  refine wpAny_raiseAttrError (show _ = none from hh) (fun h' tk' e hn => ?_) (by decide +kernel)
  obtain ⟨ta, ua, he⟩ := hn.there
  have tE : Looks C.M h' (typeOf (.ref e)) (.type "AttributeError") := (Looks.ld he).andThen .now
  have tF : Looks C.M h' (isSubtype (.type "AttributeError") (.type "AttributeError")) true := Looks.of_pure sub_AttributeError
  dsimp only
  repeat lk
  refine wpAny_throw ?_
  repeat lk
  exact q _ _ (I.kept hn.keeps)
theorem at_getAttrBy? {M : Model} {A : Around} {o n : Value} {Q : Option Value → Shared → Prop} {E : Value → Shared → Prop} {s : Shared} (h : wpAny M A (getAttrBy? o n) Q E s) : wpAny M A (getAttrBy? o n) Q E s := h
theorem frozen_none {x dx : Addr} {es : Array DictEntry} {k : Nat} {t : Tok} {d : Value} {Q : Value → Loc → Led → Prop} (G : Gd n C env) (hm : (x, bookObj dx es k) ∈ σ) (hd : (dx, emptyDict) ∈ σ) (q : Q d m σ) : Ev C (call (.builtin "getattr") [.ref x, .str "_frozen" t, d]) m σ Q := fun E h tk I => by
  have X := G.X.keeps I.keep
  have hx := I.get hm
  have hdx := I.get hd
  have t1 : Looks C.M h (typeOf (.ref x)) (.ref 115) := (Looks.ld hx).andThen .now
  have t2 : Looks C.M h (isSubtype (.ref 115) (.type "module")) false := looks_subIn X (by kernel_rfl)
  refine wpAny_call (codeAny_call_builtin KB.plain_getattr KB.entry_getattr ?_)
  rw [ga_check]
  refine wpAny_pure ?_
  unfold Builtin.«getattr»
  repeat ((fail_if_success (with_reducible refine at_getAttrBy? ?_)); lk)
  refine wpAny_mono (attr_frozen (C := C) (A := C.A.in1) (E := fun _ _ => False) (Q := fun r s' => r = none ∧ ∃ h' tk', s' = C.sh h' tk' ∧ Inv C h' m σ) G.hh G hm hd I fun h' tk' I' => ⟨rfl, h', tk', rfl, I'⟩) ?_ (fun _ _ z => z.elim)
  rintro _ _ ⟨rfl, h', tk', rfl, I'⟩
  repeat lk
  exact Ends.intro I' q
end
end

section
open PySem PySem.W PySem.Spec PySem.Calls PyProof.Rows PySem.SeqAt Builtin Builtin.ObjectAttr

theorem wpAny_callBorrowed {M : Model} {A : Around} {E : Value → Shared → Prop} {s : Shared} {f : Value} {pos : List Value} {Q : Value → Shared → Prop}
    (H : wpAny M A (call f pos) Q E s) : wpAny M A (callBorrowed f pos) Q E s := fun Γ p hΓ => by
  have h := H Γ p hΓ
  unfold call at h
  rw [Sem.wp_runValue] at h
  unfold callBorrowed
  show wpCode M _ _ p s
  refine wpCode_mono (fun r s' hr => ?_) h
  rcases r with e | (v | _ | _ | _) <;> first | exact hr | exact hr.elim
theorem newCall_list_0 : checkBuiltinCall "list.__new__" ⟨[.type "list"], []⟩ = pure () := by kernel_rfl
theorem typeCall_list_0 : checkTypeCall "list" ⟨[], []⟩ = pure () := by kernel_rfl
theorem args_list_init_1 (a : Value) : argsOk "list.__init__" ⟨[a], []⟩ := by unfold argsOk; kernel_rfl
theorem code_list_new0 {prog : Program} {w : World} {A : Around} {E : Value → Shared → Prop} {s : Shared} {Q₁ : Value → Shared → Prop}
    (h : Q₁ (.ref s.heap.objs.size) { s with heap := s.heap.push { cls := .type "list", data := .seq #[] } }) :
    codeAny (model prog w) A (.call (.builtin "list.__new__") ⟨[.type "list"], []⟩) (wants Q₁ E) s := by
  refine codeAny_of_tree ?_
  show wpAny _ A.in1 (do checkBuiltinCall "list.__new__" ⟨[.type "list"], []⟩; again (.builtin "list.__new__" ⟨[.type "list"], []⟩)) _ _ s
  refine wpAny_bind (wpAny_of_eq newCall_list_0 (wpAny_pure ⟨plainId_quiet F.plain_list_new _, codeAny_builtin_stack F.entry_list_new rfl fun p st => ?_⟩))
  rw [Around.under_plainId F.plain_list_new _]
  have hsub := sub_list_self
  have hown := owner_list_new
  obtain ⟨hp, g, d, tk, os⟩ := s
  simp only [hown]
  wp_walk
  exact h
theorem call_list0 {prog : Program} {w : World} {A : Around} {E : Value → Shared → Prop} {h : Heap} {g : Array GenState} {d : Drawn} {tk : Nat} {os : OsState} {Q : Value → Shared → Prop}
    (hQ : ∀ h', Heap.SameBut h.objs.size (h.push { cls := .type "list", data := .seq #[] }) h' → h'.get? h.objs.size = some (PySem.W.listOf #[] 0) → Q (.ref h.objs.size) ⟨h', g, d, tk, os⟩) :
    wpAny (model prog w) A (call (.type "list") []) Q E ⟨h, g, d, tk, os⟩ := by
  refine callType_codes (Q₁ := fun obj s₁ => obj = .ref h.objs.size ∧ s₁ = ⟨h.push { cls := .type "list", data := .seq #[] }, g, d, tk, os⟩) F.called_list typeCall_list_0 F.entry_list_init
    (code_list_new0 ⟨rfl, rfl⟩) fun obj s₁ h₁ => ?_
  obtain ⟨rfl, rfl⟩ := h₁
  have hS : (h.push { cls := .type "list", data := .seq #[] }).get? h.objs.size = some { cls := .type "list", data := .seq #[] } := Heap.get?_push_size _ rfl
  refine ⟨⟨_, hS, rfl⟩, args_list_init_1 _, ?_⟩
  unfold Builtin.«list.__init__»
  wp_walk using wpAny_loadPart' hS, (wpAny_updateSeq hS rfl)
  exact ⟨rfl, hQ _ (Heap.SameBut.update ..) (Heap.get?_update_self _ hS rfl)⟩


section
variable {α : Type} {C : Cx} {m : Loc} {σ : Led} {env : Env} {n : Nat}
theorem ev_list0 {Q : Value → Loc → Led → Prop} (q : ∀ l, Q (.ref l) m ((l, PySem.W.listOf #[] 0) :: σ)) : Ev C (call (.type "list") []) m σ Q := fun E h tk I =>
  call_list0 fun h' hs e => Ends.intro (C := C) (tk := tk) ((I.push { cls := .type "list", data := .seq #[] } rfl).setHead hs e) (q _)
theorem sd_entry : entryFor table "dict.setdefault" = some Builtin.«dict.setdefault» := entryFor_of_tree (by kernel_rfl)
theorem bm_entry : entryFor table "collections.defaultdict.__missing__" = some Builtin.«collections.defaultdict.__missing__» := entryFor_of_tree (by kernel_rfl)

theorem at_setDefault {M : Model} {A : Around} {d : Addr} {o n : Value} {Q : Value → Shared → Prop} {E : Value → Shared → Prop} {s : Shared} (h : wpAny M A (dictSetDefault d o n) Q E s) : wpAny M A (dictSetDefault d o n) Q E s := h
theorem BE.snoc {es : List DictEntry} {bs : BP} (h : BE es bs) {e : DictEntry} {y : Nm} {t : Tok} {l : Addr} (hk : e.key = .str (nm y) t) (hv : e.val = .ref l) : BE (es ++ [e]) (bs ++ [(y, l)]) := by
  induction h with
  | nil => exact .cons hk hv .nil
  | cons a b _ ih => exact .cons a b ih
theorem book_setDefault {A : Around} {E : Value → Shared → Prop} {x dx l : Addr} {es : Array DictEntry} {k : Nat} {bs : BP} {y : Nm} {t : Tok} {h : Heap} {tk : Nat} {Q : Value → Shared → Prop} (hx : h.get? x = some (bookObj dx es k)) (B : BE es.toList bs) (hnew : bget bs y = none) (hsz : es.size ≤ 1000)
    (q : Q (.ref l) (C.sh (h.update x (Obj.mapDictKeys (·.push ⟨hashStr C.w (nm y), .str (nm y) t, .ref l⟩))) (tk + 1))) : wpAny C.M A (dictSetDefault x (.str (nm y) t) (.ref l)) Q E (C.sh h tk) := by
  unfold dictSetDefault
  refine wpAny_holding ?_
  refine wpAny_bind (wpAny_pyHash_str ?_)
  refine wpAny_bind (KTD.kt_dictFind_strs (s := C.sh h (tk + 1)) hx rfl (by simpa using B.all) ?_)
  rw [show es.findIdx? (fun e => e.key.isStr (nm y)) = es.toList.findIdx? (fun e => e.key.isStr (nm y)) from (List.findIdx?_toArray ..), B.find y]
  rw [bget_idx] at hnew
  cases hf : bs.findIdx? (fun b => b.1 == y) with
  | some i =>
    rw [hf] at hnew
    obtain ⟨hi, -⟩ := List.findIdx?_eq_some_iff_getElem.mp hf
    simp [hi] at hnew
  | none =>
    refine wpAny_bind (wpAny_rule (wpAny_bind ?_))
    unfold updateDictKeys
    refine wpAny_bind (wpAny_loadPart (s := C.sh h (tk + 1)) hx ?_)
    dsimp only
    refine wpAny_bind (wpAny_updatePart (s := C.sh h (tk + 1)) hx ?_)
    refine wpAny_lookBehind (Heap.get?_update_self _ hx rfl) (pastItsLine_dict (by rw [Array.size_push, sizeLine_eq]; omega)) ?_
    exact wpAny_pure q
theorem miss_open {b x dx : Addr} {es : Array DictEntry} {k : Nat} {y : Nm} {t : Tok} {Q : Value → Loc → Led → Prop} (G : Gd n C env) (hb : (b, boundMiss x) ∈ σ) (h3 : 3 < x) {bs : BP} (B : BE es.toList bs) (hnew : bget bs y = none) (hsz : es.size ≤ 1000)
    (q : ∀ l e, BE (es.push e).toList (bs ++ [(y, l)]) → Q (.ref l) m ((l, PySem.W.listOf #[] 0) :: (x, bookObj dx (es.push e) (k + 1)) :: σ)) : Ev C (call (.ref b) [.str (nm y) t]) m ((x, bookObj dx es k) :: σ) Q := fun E h tk I => by
  have X := G.X.keeps I.keep
  have hx := I.get (.head _)
  have hB := I.get (.tail _ hb)
  have t1 : Looks C.M h (typeOf (.ref x)) (.ref 115) := (Looks.ld hx).andThen .now
  have t3 : Looks C.M h (isSubtype (.ref 115) (.type "collections.defaultdict")) true := looks_subIn X (by kernel_rfl)
  refine wpAny_call ?_
  refine codeAny_of_tree ?_
  show wpAny _ _ (callAny (.ref b) _) _ _ _
  refine nd_load hB ?_
  show wpAny _ _ (do checkBoundCall "collections.defaultdict.__missing__" ⟨[.ref x, .str (nm y) t], []⟩; again (.builtin "collections.defaultdict.__missing__" ⟨[.ref x, .str (nm y) t], []⟩)) _ _ _
  have hC := X 115 _ rfl
  have t4 : Looks C.M h (isSubtype (.ref 115) (.type "module")) false := looks_subIn X (by kernel_rfl)
  have t5 : Looks C.M h (isSubtype (.ref 115) (.type "type")) false := looks_subIn X (by kernel_rfl)
  have t6 : Looks C.M h (typeOf (.ref 115)) (.type "type") := (Looks.ld hC).andThen .now
  repeat lk
  refine ⟨Code.quiet_builtin _ (by decide +kernel), codeAny_builtin bm_entry ?_⟩
  unfold Builtin.«collections.defaultdict.__missing__»
  have t7 : Looks C.M h (borrowsExactly (.type "list")) true := Looks.of_pure rfl
  repeat ((fail_if_success (with_reducible refine wpAny_callBorrowed ?_)); lk)
  refine wpAny_callBorrowed (call_list0 fun h' hs e => ?_)
  have I₂ := (I.push { cls := .type "list", data := .seq #[] } rfl).setHead hs e
  generalize h.objs.size = l at *
  have hx₂ := I₂.get (.tail _ (.head _))
  have X₂ := G.X.keeps I₂.keep
  have t1' : Looks C.M h' (typeOf (.ref x)) (.ref 115) := (Looks.ld hx₂).andThen .now
  have t3' : Looks C.M h' (isSubtype (.ref 115) (.type "collections.OrderedDict")) false := looks_subIn X₂ (by kernel_rfl)
  repeat lk
  refine ⟨Code.quiet_builtin _ (by decide +kernel), codeAny_builtin sd_entry ?_⟩
  have hs : (x == sysModules) = false := by
    have : x ≠ 1 := fun e => by rw [e] at h3; exact absurd h3 (by decide)
    simpa [sysModules] using this
  unfold Builtin.«dict.setdefault»
  repeat lk
  simp only [hs, Bool.false_eq_true, if_false]
  repeat ((fail_if_success (with_reducible refine at_setDefault ?_)); lk)
  refine book_setDefault (C := C) hx₂ B hnew hsz ?_
  have I₃ := (I₂.perm (.swap ..)).update (Obj.mapDictKeys (·.push ⟨hashStr C.w (nm y), .str (nm y) t, .ref l⟩)) rfl
  repeat lk
  refine Ends.intro (C := C) (I₃.perm (.swap ..)) (q l ⟨hashStr C.w (nm y), .str (nm y) t, .ref l⟩ ?_)
  rw [Array.toList_push]
  exact B.snoc rfl rfl
end
end

section
open PySem PySem.W PySem.Spec PySem.Calls PyProof.Rows PySem.SeqAt Builtin Builtin.ObjectAttr

section
variable {α β : Type} {C : Cx} {m : Loc} {σ : Led} {env : Env} {n : Nat}

/-- as Ev, of a term that the def's own code runs -/
def EvA (C : Cx) (c : Code) (t : Sem α) (m : Loc) (σ : Led) (Q : α → Loc → Led → Prop) : Prop :=
  ∀ E h tk, Inv C h m σ → PySem.wpAt C.M C.A c t (Ends C Q) E (C.sh h tk)
variable {c : Code}
theorem Ev.a {t : Sem α} {Q : α → Loc → Led → Prop} (H : Ev C t m σ Q) : EvA C c t m σ Q := fun E h tk I => PySem.wpAt_of_wpAny (H E h tk I)
theorem EvA.of {t : Sem α} {Q : α → Loc → Led → Prop} (H : EvA C c t m σ Q) {E : Value → Shared → Prop} {h : Heap} {tk : Nat} (I : Inv C h m σ) {R : α → Shared → Prop}
    (k : ∀ v h' tk' m' σ', Inv C h' m' σ' → Q v m' σ' → R v (C.sh h' tk')) : PySem.wpAt C.M C.A c t R E (C.sh h tk) :=
  ks_wpAt_mono (H E h tk I) (fun v s' ⟨h', tk', m', σ', e, I', q⟩ => by subst e; exact k v h' tk' m' σ' I' q) fun _ _ x => x
theorem EvA.bind {t : Sem α} {f : α → Sem β} {Q : β → Loc → Led → Prop} (H : EvA C c t m σ fun a m' σ' => EvA C c (f a) m' σ' Q) : EvA C c (t >>= f) m σ Q :=
  fun _ _ _ I => PySem.wpAt_bind (H.of I fun _ _ _ _ _ I' q => q _ _ _ I')
theorem EvA.holding {vs : List Value} {t : Sem α} {Q : α → Loc → Led → Prop} (H : EvA C c t m σ Q) : EvA C c (PySem.holding vs t) m σ Q := fun _ _ _ I => ks_wpAt_holding (H _ _ _ I)
theorem eva_cons_ret {st : Stmt} {rest : List Stmt} {Q : Flow → Loc → Led → Prop} (H : EvA C c (exec st env) m σ fun f m' σ' => (∃ v, f = .ret v) ∧ Q f m' σ') : EvA C c (execs (st :: rest) env) m σ Q :=
  fun _ _ _ I => ks_wpAt_execs_cons (H.of I fun f _ _ _ _ I' ⟨⟨v, e⟩, q⟩ => by subst e; exact Ends.intro I' q)
theorem eva_Return {e : Expr} {pos : Pos} {Q : Flow → Loc → Led → Prop} (H : EvA C c (eval e env) m σ fun v => Q (.ret v)) : EvA C c (exec (.Return (some e) pos) env) m σ Q :=
  fun _ _ _ I => ks_wpAt_Return_some (H.of I fun _ _ _ _ _ I' q => Ends.intro I' q)
theorem eva_Call {func : Expr} {args : List Expr} {pos : Pos} {Q : Value → Loc → Led → Prop} (H : EvA C c (eval func env) m σ fun f m' σ' => EvA C c (callWith pos f [] (backTo pos (starEach args env)) []) m' σ' Q)
    (he : eval (.Call func args [] pos) env = (do callWith pos (← eval func env) [] (backTo pos (starEach args env)) (backToKw pos (keywordEach [] env))) := by with_unfolding_all rfl) : EvA C c (eval (.Call func args [] pos) env) m σ Q := by
  rw [he]
  exact EvA.bind H
theorem eva_spliced_cons {x : Sem Value} {rest : List (Bool × Sem Value)} {Q : List Value → Loc → Led → Prop} (H : EvA C c x m σ fun v m' σ' => EvA C c (spliced rest) m' σ' fun vs => Q (v :: vs)) : EvA C c (spliced ((false, x) :: rest)) m σ Q := by
  unfold spliced
  refine EvA.bind (fun E h tk I => H.of I fun v h' tk' m' σ' I' q => ?_)
  refine Ends.intro I' ?_
  intro E h tk I
  refine PySem.wpAt_bind (PySem.wpAt_of_wpAny (wpAny_pure ?_))
  refine PySem.wpAt_bind (ks_wpAt_holding (q.of I fun vs _ _ _ _ I'' q => ?_))
  exact PySem.wpAt_of_wpAny (wpAny_pure (Ends.intro I'' q))
theorem eva_spliced_nil {Q : List Value → Loc → Led → Prop} (q : Q [] m σ) : EvA C c (spliced []) m σ Q := fun _ _ _ I => PySem.wpAt_of_wpAny (wpAny_pure (Ends.intro I q))
/-- a built-in function called, its arguments run by the def's own code -/
theorem eva_callB {pos : Pos} {id : String} {x : Sem Value} {rest : List (Bool × Sem Value)} {Q : Value → Loc → Led → Prop} (hp : rest.any (·.1) = false) (H : EvA C c (spliced ((false, x) :: rest)) m σ fun vs m' σ' => Ev C (call (.builtin id) vs) m' σ' Q) :
    EvA C c (callWith pos (.builtin id) [] ((false, x) :: rest) []) m σ Q := by
  unfold callWith
  refine EvA.bind (EvA.holding ?_)
  unfold evalArgs
  show EvA C c (spliced ((false, x) :: rest) >>= _) _ _ _
  refine EvA.bind (fun E h tk I => H.of I fun vs h' tk' m' σ' I' q => Ends.intro I' ?_)
  intro E h tk I
  refine PySem.wpAt_of_wpAny (wpAny_holding (wpAny_bind (wpAny_pure (wpAny_bind (wpAny_pure (wpAny_pure ?_))))))
  refine Ends.intro I ?_
  intro E h tk I
  refine PySem.wpAt_of_wpAny (wpAny_bind (wpAny_standAt ?_))
  simp only [List.any_cons, hp, List.any_nil, Bool.or_false]
  refine wpAny_bind (wpAny_pure ?_)
  exact wpAny_bind (q.of I fun _ _ _ _ _ I' q => wpAny_bind (wpAny_holding (wpAny_point (wpAny_pure (Ends.intro I' q)))))
theorem eva_args_nil {pos : Pos} {Q : List Value → Loc → Led → Prop} (q : Q [] m σ) : EvA C c (spliced (backTo pos (starEach [] env))) m σ Q := eva_spliced_nil q
theorem eva_args_cons {e : Expr} {rest : List Expr} {pos : Pos} {Q : List Value → Loc → Led → Prop}
    (H : EvA C c (eval e env) m σ fun v m' σ' => EvA C c (spliced (backTo pos (starEach rest env))) m' σ' fun vs => Q (v :: vs))
    (he : starEach (e :: rest) env = (false, eval e env) :: starEach rest env := by with_unfolding_all rfl) : EvA C c (spliced (backTo pos (starEach (e :: rest) env))) m σ Q := by
  rw [he]; exact eva_spliced_cons H
theorem eva_callB1 {pos : Pos} {id : String} {e : Expr} {rest : List Expr} {Q : Value → Loc → Led → Prop} (H : EvA C c (spliced (backTo pos (starEach (e :: rest) env))) m σ fun vs m' σ' => Ev C (call (.builtin id) vs) m' σ' Q)
    (he : starEach (e :: rest) env = (false, eval e env) :: starEach rest env := by with_unfolding_all rfl) (hp : (backTo pos (starEach rest env)).any (·.1) = false := by with_unfolding_all rfl) :
    EvA C c (callWith pos (.builtin id) [] (backTo pos (starEach (e :: rest) env)) []) m σ Q := by
  rw [he] at H ⊢
  exact eva_callB hp H
end
end

section
open PySem PySem.W PySem.Spec PySem.Calls PyProof.Rows PySem.SeqAt Builtin Builtin.ObjectAttr

section
variable {α β : Type} {C : Cx} {m : Loc} {σ : Led} {env : Env} {n : Nat} {c : Code}

theorem ev_defA {name qual : Str} {params : Arguments} {body : List Stmt} {scope : Scope} {dV kV doc pm cdv ct oc : Value} {an od : Option Addr} {osl : Array (Option Value)} {f cc : Addr} {vs : List Value} {binds : List (Str × Value)} {Q : Value → Loc → Led → Prop}
    (G : Gd (n + 1) C env)
    (ho : (KK C.w).lookup f = some ⟨oc, od, .func (ksFn name qual params body scope dV kV doc pm an cdv ct cc), osl⟩) (hcd : codeIn (KK C.w) cdv qual = true)
    (hbind : ∀ s, BindsTo s (ksFn name qual params body scope dV kV doc pm an cdv ct cc) ⟨vs, []⟩ binds) (hloc : ∀ y ∈ binds, scope.names.lookup y.1 = some .local)
    (H : ∀ C' : Cx, Gd n C' (ksEnv qual scope C'.L f cdv cc) → Up C C' → EvA C' (.func body (ksEnv qual scope C'.L f cdv cc)) (execs body (ksEnv qual scope C'.L f cdv cc)) (fun y => binds.reverse.lookup y) σ fun fl _ σ' => Q (match fl with | .ret v => v | _ => .none) m σ')
    (hco : scope.isCoroutine = false := by with_unfolding_all rfl) (hgen : scope.isGenerator = false := by with_unfolding_all rfl) (hk : scope.kind = .function := by with_unfolding_all rfl) (hcell : ∀ x ∈ scope.names, x.2 ≠ .cell := by with_unfolding_all decide) :
    Ev C (call (.ref f) vs) m σ Q := fun E h tk I => by
  obtain ⟨outer, hA, hl, B, D, back, _⟩ := ground G I
  obtain ⟨p, loose, mean, mg, mb, T⟩ := G.T
  have X : (KK C.w).In h := G.X.keeps I.keep
  refine wpAny_call ?_
  refine ks_codeAny_call_defAt (fd := ksFn name qual params body scope dV kV doc pm an cdv ct cc) (body := body) (binds := binds) (by have := G.hd; show C.A.depth < _; omega) (X _ _ ho) rfl (T.nolimit.keeps I.keep) (codeRec_of X hcd) rfl (hbind _) hcell hloc (fun h₁ hns hk₁ => ?_) hco hgen hk
  have e := (H ⟨C.w, C.A.deeper (ksEnv qual scope h.objs.size f cdv cc), C.Z, C.bs, hideAll h (σ.map (·.1)), C.L :: C.fs, h.objs.size⟩ (G.def hA hl B D rfl rfl hk rfl rfl) ⟨rfl, rfl⟩
    (fun e s' => wpAny (model pw C.w) (C.A.deeper (ksEnv qual scope h.objs.size f cdv cc)) (leaving (ksEnv qual scope h.objs.size f cdv cc) e) (fun _ s'' => E e s'') (fun e' s'' => E e' s'') s') h₁ (tk + binds.length)
    ⟨_, B.stays, KtsTurn.refl, I.enter rfl hns hk₁⟩)
  refine ks_wpAt_mono e (fun fl s' ⟨h', tk', m', σ', es, I', q⟩ => ?_) fun _ _ x => x
  subst es
  obtain ⟨g', _, T', J'⟩ := I'.x
  exact ⟨h', tk', m, σ', rfl, back _ _ _ _ _ T' J', q⟩

theorem eva_Attribute {value : Expr} {attr : Str} {pos : Pos} {Q : Value → Loc → Led → Prop} (H : EvA C c (attributeBase value attr env (eval value env)) m σ fun o m' σ' => Ev C (getAttr o attr true) m' σ' Q) : EvA C c (eval (.Attribute value attr pos) env) m σ Q := by
  rw [arm_eval_Attribute]
  refine EvA.bind (fun E h tk I => H.of I fun o h' tk' m' σ' I' q => Ends.intro I' ?_)
  intro E h tk I
  exact PySem.wpAt_of_wpAny (wpAny_bind (wpAny_standAt (wpAny_bind (wpAny_holding (q.of I fun r _ _ _ _ I' q => wpAny_bind (wpAny_letTemporaryGo (wpAny_pure (Ends.intro I' q))))))))

theorem ev_callBound1 {pos : Pos} {b x : Addr} {e : Expr} {rest : List Expr} {Q : Value → Loc → Led → Prop} (H : Ev C (spliced (backTo pos (starEach (e :: rest) env))) m σ fun vs m' σ' => (b, boundMiss x) ∈ σ' ∧ Ev C (call (.ref b) vs) m' σ' Q)
    (he : starEach (e :: rest) env = (false, eval e env) :: starEach rest env := by with_unfolding_all rfl) (hp : (backTo pos (starEach rest env)).any (·.1) = false := by with_unfolding_all rfl) :
    Ev C (callWith pos (.ref b) [] (backTo pos (starEach (e :: rest) env)) []) m σ Q := fun E h tk I => by
  rw [he] at H ⊢
  unfold callWith
  refine wpAny_bind (wpAny_holding (Calls.evalArgs_plain (H.of I fun vs h' tk' m' σ' I' q => wpAny_bind (wpAny_standAt ?_))))
  obtain ⟨hb, q⟩ := q
  have hB := I'.get hb
  simp only [List.any_nil, Bool.or_false]
  rw [show ((backTo pos ((false, eval e env) :: starEach rest env)).any (·.1)) = false from by show (false || (backTo pos (starEach rest env)).any (·.1)) = false; rw [hp]; rfl]
  refine wpAny_bind (wpAny_bind (wpAny_load hB (wpAny_pure ?_)))
  exact wpAny_bind (q.of I' fun _ _ _ _ _ I' q => wpAny_bind (wpAny_holding (wpAny_point (wpAny_pure (Ends.intro I' q)))))
theorem missing_open {x dx : Addr} {es : Array DictEntry} {k : Nat} {bs : BP} {y : Nm} {t : Tok} {Q : Value → Loc → Led → Prop} (G : Gd (n + 1) C env) (hd : (dx, emptyDict) ∈ σ) (h3 : 3 < x) (B : BE es.toList bs) (hnew : bget bs y = none) (hsz : es.size ≤ 1000)
    (q : ∀ l e, BE (es.push e).toList (bs ++ [(y, l)]) → Q (.ref l) m ((l, PySem.W.listOf #[] 0) :: (x, bookObj dx (es.push e) (k + 1)) :: σ)) : Ev C (call (.ref 105) [.ref x, .str (nm y) t]) m ((x, bookObj dx es k) :: σ) Q := by
  refine ev_defA (binds := [(Str.ofString "self", .ref x), (Str.ofString "key", .str (nm y) t)]) G rfl (by kernel_rfl) (fun _ => BindsTo.of_eq rfl) (locs rfl) fun C' G' U => ?_
  refine eva_cons_ret ?_
  refine eva_Return ?_
  refine eva_Call ?_
  refine eva_Call ?_
  refine (ev_builtin G' (by kernel_rfl) (by with_unfolding_all rfl) ?_).a
  refine eva_callB1 (id := "getattr") ?_
  refine eva_args_cons ?_
  refine Ev.a ?_
  refine ev_local G' (by with_unfolding_all rfl) ?_
  refine eva_args_cons ?_
  refine Ev.a ?_
  refine ev_str fun _ => ?_
  refine eva_args_cons ?_
  refine eva_Attribute ?_
  intro E h tk I
  have X := G'.X.keeps I.keep
  obtain ⟨g, bg, Tn, J⟩ := I.x
  obtain ⟨p, loose, mean, mg, mb, TT⟩ := G'.T
  have hx := I.get (.head _)
  have hdx := I.get (.tail _ hd)
  have I0 : InstAt h x (bookObj dx es k) 115 (some emptyDict) := ⟨hx, rfl, rfl, hdx⟩
  refine ks_node (s := C'.sh h tk) J.F (G'.X.keeps bg) J.N (TT.keeps bg) (rfl : (KK C'.w).lookup 105 = some _) rfl (by with_unfolding_all rfl) I0 (rfl : (KK C'.w).lookup 104 = some _) rfl (by rfl) (rfl : (KK C'.w).lookup 93 = some _) (rfl : clsIn (KK C'.w) 115 = some _) (by kernel_rfl) (by kernel_rfl) (by decide) (by rfl) (by rfl) (by rfl) (by rfl) (by rfl) (by with_unfolding_all rfl) fun so h' F' N' lt => ?_
  have I₂ : Inv C' h' _ ((so, ks_superObj 115 x 115) :: (x, bookObj dx es k) :: σ) := ⟨⟨g, bg, Tn, F', N', by
    rw [List.map_cons, List.nodup_cons]
    refine ⟨fun hm => ?_, J.D⟩
    obtain ⟨p, hp, e⟩ := List.mem_map.mp hm
    exact absurd (lt p hp) (by rw [e]; exact Nat.lt_irrefl _)⟩⟩
  refine Ends.intro (C := C') (tk := tk) I₂ ?_
  refine super_attr G' (.head _) (.tail _ (.head _)) fun b => ?_
  refine eva_args_nil ?_
  refine frozen_none G' (.tail _ (.tail _ (.head _))) (.tail _ (.tail _ (.tail _ hd))) ?_
  refine Ev.a ?_
  refine ev_callBound1 (x := x) ?_
  refine ev_args_cons ?_
  refine ev_local G' (by with_unfolding_all rfl) ?_
  refine ev_args_nil ⟨.head _, ?_⟩
  refine Ev.forget ?_
  refine Ev.b2 ?_
  refine miss_open (C := C') (σ := (b, boundMiss x) :: (so, ks_superObj 115 x 115) :: σ) G' (.head _) h3 B hnew hsz fun l e hB => ?_
  exact ⟨(l, PySem.W.listOf #[] 0) :: (x, bookObj dx (es.push e) (k + 1)) :: σ, .head (.head (.skip (.skip (.refl _)))), ⟨_, rfl⟩, q l e hB⟩
end
end

section
open PySem PySem.W PySem.Spec PySem.Calls PyProof.Rows PySem.SeqAt Builtin Builtin.ObjectAttr

section
variable {α β : Type} {C : Cx} {m : Loc} {σ : Led} {env : Env} {n : Nat}
theorem osa_kind : builtinKind "object.__setattr__" = some .slot := by decide +kernel
abbrev frozDict (hs : Int) (t : Tok) (f : Addr) : Obj := { cls := .type "dict", data := .dict #[⟨hs, .str "_frozen" t, .ref f⟩] 1 }
theorem ref_pass (self : Value) : refuseLoop self "__setattr__" [.type "collections.defaultdict", .type "dict", .type "object"] = pure () := by kernel_rfl
theorem set_frozen {x dx f : Addr} {es : Array DictEntry} {k : Nat} {Q : Unit → Loc → Led → Prop} (G : Gd n C env) (hm : (x, bookObj dx es k) ∈ σ) (q : ∀ hs t, Q () m ((dx, frozDict hs t f) :: σ)) : Ev C (setAttr (.ref x) "_frozen" (.ref f)) m ((dx, emptyDict) :: σ) Q := fun E h tk I => by
  have X := G.X.keeps I.keep
  have hx := I.get (.tail _ hm)
  have hdx := I.get (.head _)
  have hC := X 115 _ rfl
  have t1 : Looks C.M h (typeOf (.ref x)) (.ref 115) := (Looks.ld hx).andThen .now
  have t2 : Looks C.M h (typeLookup (.ref 115) "__setattr__") (some (.builtin "object.__setattr__")) := looks_findIn X (by kernel_rfl)
  have t3 : Looks C.M h (bindSpecial (.builtin "object.__setattr__") (.ref x)) (.builtin "object.__setattr__", [.ref x]) := Looks.of_pure (PySem.F.store_object.slot.bind _)
  have t4 : Looks C.M h (isSubtype (.ref 115) (.type "object")) true := looks_subIn X (by kernel_rfl)
  have t5 : Looks C.M h (typeLookup (.ref 115) "_frozen") none := looks_findIn X (by kernel_rfl)
  have SF := PySem.F.store_object
  unfold setAttr
  repeat (first | with_reducible refine wpAny_call ?_ | lk)
  refine call_slotB "object.__setattr__" "object" "__setattr__" (by decide +kernel) SF.entry SF.kind SF.split (t1.andThen t4) (SF.args (.ref x) (.str "_frozen" tk) (.ref f)) ?_
  show wpAny _ _ (Builtin.«object.__setattr__» ⟨[.ref x, .str "_frozen" tk, .ref f], []⟩) _ _ _
  rw [osa_eq, refuse_eq]
  have hmro : Looks C.M h (mroOf (.ref 115)) [.ref 115, .type "collections.defaultdict", .type "dict", .type "object"] := ((Looks.ld (part := none) hC).andThen .now).andThen .now
  refine wpAny_bind (wpAny_bind (t1.at (wpAny_bind (hmro.at ?_))))
  rw [refuseLoop_ref, ref_pass]
  refine wpAny_pure ?_
  repeat ((fail_if_success (with_reducible refine wpAny_updatePart (o := emptyDict) ?z ?z2)); lk)
  refine wpAny_updatePart hdx ?_
  have I₂ := I.update (Obj.putName "_frozen" (if (Str.ofString "_frozen").cps.isEmpty = true then 0 else reduceHash ((model pw C.w).w.params.strHash (Str.ofString "_frozen").cps)) (Value.str "_frozen" (tk + 1)) (Value.ref f)) rfl
  have I₃ : Inv C _ m ((dx, frozDict (if (Str.ofString "_frozen").cps.isEmpty = true then 0 else reduceHash ((model pw C.w).w.params.strHash (Str.ofString "_frozen").cps)) (tk + 1) f) :: σ) := I₂
  have hdx₃ := I₃.get (.head _)
  refine wpAny_bind (wpAny_lookBehind hdx₃ (pastItsLine_dict (show 1 ≤ sizeLine + 1 by decide)) ?_)
  repeat lk
  exact Ends.intro (C := C) I₃ (q _ _)

theorem ev_callK0 {pos : Pos} {f : Value} {first : List Value} {Q : Value → Loc → Led → Prop} (G : Gd n C env) (hk : keepIn (KK C.w) f = true)
    {env' : Env} (H : Ev C (call f first) m σ Q) : Ev C (callWith pos f first (backTo pos (starEach [] env')) []) m σ Q :=
  fun E h tk I => callWith_K0 (s := C.sh h tk) (G.X.keeps I.keep) hk (by rw [List.append_nil]; exact H E h tk I)

theorem ev_AssignAttr {o value : Expr} {attr : Str} {pos' pos : Pos} {Q : Flow → Loc → Led → Prop} (H : Ev C (eval value env) m σ fun v m' σ' => Ev C (eval o env) m' σ' fun ov m'' σ'' => Ev C (setAttr ov attr v) m'' σ'' fun _ => Q .next)
    (hs : swapsWith value (some (.Attribute o attr pos')) pos.line env = pure false := by with_unfolding_all rfl) : Ev C (exec (.Assign [.Attribute o attr pos'] value pos) env) m σ Q :=
  fun _ _ _ I => plainObj_wpAny_Assign_Attribute (H.of I fun _ _ _ _ _ I' q => q.of I' fun _ _ _ _ _ I'' q => q.of I'' fun _ _ _ _ _ I₃ q => Ends.intro I₃ q) hs
theorem ev_Lambda {params : Arguments} {body : Expr} {scope cs : Scope} {pos : Pos} {cn : Str} {a c P : Addr} {ccd : Value} {cl clos : List (Str × Addr)} {Q : Value → Loc → Led → Prop} (G : Gd n C env) (hc : CodeHd C.bs c P) (hcd : ccd = .ref c)
    (hcl : closureFor scope (envX cn cs C.L a ccd cl) = pure clos) (hdef : defaultsOf params (envX cn cs C.L a ccd cl) = ([], []))
    (q : ∀ f c' oc vs t ctv pm ws, oc.data = .fields vs → vs[1]? = some (.str ((envX cn cs C.L a ccd cl).qual ++ "<lambda>") t) → Q (.ref f) m ((f, kla_obj "<lambda>" ((envX cn cs C.L a ccd cl).qual ++ "<lambda>") params body scope clos pm c' ctv) :: (c', oc) :: (P, tabObj ws) :: σ)) :
    Ev C (eval (.Lambda params body scope pos) (envX cn cs C.L a ccd cl)) m ((P, tabObj #[]) :: σ) Q := fun E h tk I => by
  obtain ⟨g, bg, Tn, J⟩ := I.x
  obtain ⟨p, loose, mean, mg, mb, TT⟩ := G.T
  refine kla_eval hdef ?_
  refine kla_nest (s := C.sh h tk) (ps := #[]) J.F J.N (TT.keeps bg) (hc.keeps bg) hcd (news := (P, tabObj #[]) :: σ) (g := fun o => (P, o) :: σ) (.head J.ne_head) ?_ rfl hcl fun f c' oc vs t ctv h' tk' F' N' hd hv lt ltf => ?_
  · first | exact .nil | trivial | exact ⟨⟩ | decide
  · refine Ends.intro (C := C) (h := h') (tk := tk') ⟨⟨g, bg, Tn, F', N', ?_⟩⟩ (q f c' oc vs t ctv _ _ hd hv)
    have dd := J.D
    rw [List.map_cons, List.map_cons, List.nodup_cons, List.nodup_cons]
    have hlt : ∀ b ∈ ((P, tabObj #[]) :: σ).map (·.1), b < c' := fun b hb => by
      obtain ⟨p, hp, rfl⟩ := List.mem_map.mp hb
      exact lt p hp
    refine ⟨fun hm => ?_, fun hm => ?_, dd⟩
    · rcases List.mem_cons.mp hm with e | hm
      · exact absurd ltf (by have e' : f = c' := e; rw [e']; exact Nat.lt_irrefl _)
      · exact absurd (Nat.lt_trans (hlt f hm) ltf) (Nat.lt_irrefl _)
    · exact absurd (hlt c' hm) (Nat.lt_irrefl _)
end
end

section
open PySem PySem.W PySem.Spec PySem.Calls PyProof.Rows PySem.SeqAt Builtin Builtin.ObjectAttr

section
variable {α β : Type} {C : Cx} {m : Loc} {σ : Led} {env : Env} {n : Nat}
theorem dd_canon : (Manifest.canonical "collections.defaultdict.__getattribute__" != "object.__getattribute__") = false := by decide +kernel
theorem df_type : typeOf (.builtin "collections.defaultdict.default_factory") = pure (.type "member_descriptor") := by kernel_rfl

theorem at_getAttrBy {M : Model} {A : Around} {o n : Value} {b c : Bool} {Q : Value → Shared → Prop} {E : Value → Shared → Prop} {s : Shared} (h : wpAny M A (getAttrBy o n b c) Q E s) : wpAny M A (getAttrBy o n b c) Q E s := h
theorem mbg_kind : builtinKind "member_descriptor.__get__" = some .slot := by decide +kernel
theorem mbg_split : splitId "member_descriptor.__get__" = some ("member_descriptor", "__get__") := by decide +kernel
theorem mbg_entry : entryFor table "member_descriptor.__get__" = some Builtin.«member_descriptor.__get__» := entryFor_of_tree (by kernel_rfl)
theorem mbg_args (a b c : Value) : argsOk "member_descriptor.__get__" ⟨[a, b, c], []⟩ := by unfold argsOk; kernel_rfl
theorem mbd_sub : isSubtype (.type "member_descriptor") (.type "member_descriptor") = pure true := by rw [isSubtype_type]; kernel_rfl
theorem df_cut : ".".intercalate ("collections.defaultdict.default_factory".cutAt '.').dropLast = "collections.defaultdict" := by decide +kernel
theorem dfa_entry : entryFor table "collections.defaultdict.default_factory" = some Builtin.«collections.defaultdict.default_factory» := entryFor_of_tree (by kernel_rfl)
theorem get_factory {x dx : Addr} {es : Array DictEntry} {k : Nat} {pl : Sem Bool} {Q : Value × List Value → Loc → Led → Prop} (G : Gd n C env) {hs : Int} {tf : Tok} {f : Addr} (hm : (x, bookObj dx es k) ∈ σ) (hd : (dx, frozDict hs tf f) ∈ σ) (q : Q (.type "list", []) m σ) : Ev C (getMethod (.ref x) "default_factory" pl) m σ Q := fun E h tk I => by
  have X := G.X.keeps I.keep
  have hx := I.get hm
  have hC := X 115 _ rfl
  have t1 : Looks C.M h (typeOf (.ref x)) (.ref 115) := (Looks.ld hx).andThen .now
  have t2 : Looks C.M h (typeLookup (.ref 115) "__getattribute__") (some (.builtin "collections.defaultdict.__getattribute__")) := looks_findIn X (by kernel_rfl)
  have t3 : Looks C.M h (typeLookup (.ref 115) "__getattr__") none := looks_findIn X (by kernel_rfl)
  have t4 : Looks C.M h (typeLookup (.ref 115) "default_factory") (some (.builtin "collections.defaultdict.default_factory")) := looks_findIn X (by kernel_rfl)
  have t5 : Looks C.M h (typeOf (.builtin "collections.defaultdict.default_factory")) (.type "member_descriptor") := Looks.of_pure df_type
  unfold getMethod
  repeat ((fail_if_success (with_reducible refine at_getAttrBy ?_)); lk)
  have hdx := I.get hd
  have I0 : InstAt h x (bookObj dx es k) 115 (some (frozDict hs tf f)) := ⟨hx, rfl, rfl, hdx⟩
  have t6 : Looks C.M h (find (.ref x) (.ref 115) "default_factory") (.bind (.builtin "member_descriptor.__get__") (.builtin "collections.defaultdict.default_factory")) := looks_find X I0 (by kernel_rfl)
  have t7 : Looks C.M h (isSubtype (.ref 115) (.type "collections.defaultdict")) true := looks_subIn X (by kernel_rfl)
  have t8 : Looks C.M h (bindSpecial (.builtin "collections.defaultdict.__getattribute__") (.ref x)) (.builtin "collections.defaultdict.__getattribute__", [.ref x]) := Looks.of_pure (dga_bind _)
  unfold getAttrBy
  iterate 7 lk
  unfold getAttrByItsOwn hookBefore
  iterate 3 lk
  refine wpAny_bind (wpAny_attempt ?_)
  repeat (first | with_reducible refine wpAny_call ?_ | lk)
  refine call_slotB "collections.defaultdict.__getattribute__" "collections.defaultdict" "__getattribute__" (by decide +kernel) dga_entry dga_kind dga_split (t1.andThen t7) (dga_args _ _) ?_
  unfold Builtin.«object.__getattribute__»
  repeat (first | with_reducible refine wpAny_call ?_ | lk)
  have t9 : Looks C.M h (isSubtype (.type "member_descriptor") (.type "member_descriptor")) true := Looks.of_pure mbd_sub
  refine call_slotB "member_descriptor.__get__" "member_descriptor" "__get__" (by decide +kernel) mbg_entry mbg_kind mbg_split (t5.andThen t9) (mbg_args _ _ _) ?_
  unfold Builtin.«member_descriptor.__get__»
  iterate 20 lk
  simp only [df_cut]
  repeat lk
  refine ⟨Code.quiet_builtin _ (by decide +kernel), codeAny_builtin dfa_entry ?_⟩
  unfold Builtin.«collections.defaultdict.default_factory»
  repeat lk
  exact Ends.intro (C := C) I q
end
end

section
open PySem PySem.W PySem.Spec PySem.Calls PyProof.Rows PySem.SeqAt Builtin Builtin.ObjectAttr

section
variable {α β : Type} {C : Cx} {m : Loc} {σ : Led} {env : Env} {n : Nat}

theorem ev_free {x : Str} {pos : Pos} {v : Value} {c : Addr} {oc : Obj} {Q : Value → Loc → Led → Prop} (G : Gd n C env) (hc : env.cells.lookup x = some c) (hm : (c, oc) ∈ σ) (ho : oc.data = .cell (some v)) (q : Q v m σ)
    (hx : env.kindOf x = some .free := by with_unfolding_all rfl) (hd : (x == ("__debug__" : Str)) = false := by with_unfolding_all decide) (hn : (x == ("__classdict__" : Str)) = false := by with_unfolding_all decide) :
    Ev C (eval (.Name x pos) env) m σ Q := fun _ _ _ I =>
  wpAny_Name (wpAny_loadName_free G.hk hx hc ⟨oc, I.get hm, ho⟩ (Ends.intro I q) hn) hd
theorem ev_callT0 {pos : Pos} {T : String} {Q : Value → Loc → Led → Prop} (H : Ev C (call (.type T) []) m σ Q) : Ev C (callWith pos (.type T) [] (backTo pos (starEach [] env)) []) m σ Q := fun _ _ _ I => PyProof.Rows.callWith_type0 (H _ _ _ I)

theorem ev_callLam {name qual : Str} {params : Arguments} {body : Expr} {scope : Scope} {cl : List (Str × Addr)} {pm ctv : Value} {c' f : Addr} {oc : Obj} {ws : Array Value} {t : Tok} {vs : List Value} {binds : List (Str × Value)} {Q : Value → Loc → Led → Prop} (G : Gd (n + 1) C env)
    (ho : (f, kla_obj name qual params body scope cl pm c' ctv) ∈ σ) (hc : (c', oc) ∈ σ) (hd : oc.data = .fields ws) (hv : ws[1]? = some (.str qual t))
    (hbind : bindArgs (kla_fn name qual params body scope cl pm (.ref c') ctv) ⟨vs, []⟩ = pure binds) (hloc : ∀ y ∈ binds, scope.names.lookup y.1 = some .local)
    (H : ∀ C' : Cx, Gd n C' (envX qual scope C'.L f (.ref c') cl) → Up C C' → Ev C' (eval body (envX qual scope C'.L f (.ref c') cl)) (fun y => binds.reverse.lookup y) σ fun v _ σ' => Q v m σ')
    (hco : scope.isCoroutine = false) (hgen : scope.isGenerator = false) (hk : scope.kind = .function) (hcell : ∀ x ∈ scope.names, x.2 ≠ .cell) :
    Ev C (call (.ref f) vs) m σ Q := fun E h tk I => by
  obtain ⟨outer, hA, hl, B, D, back, _⟩ := ground G I
  obtain ⟨p, loose, mean, mg, mb, T⟩ := G.T
  refine wpAny_call ?_
  refine kla_callFunE (s := C.sh h tk) (by have := G.hd; show C.A.depth < _; omega) (I.get ho) rfl hco hgen rfl ⟨c', oc, ws, t, rfl, I.get hc, hd, hv⟩ ?_
  rw [hbind]
  refine wpAny_pure (wpAny_newFunctionEnv hcell hloc (fun h₁ hns hsb => ⟨((T.nolimit).keeps I.keep).fresh _ hsb, ?_⟩) hk)
  show codeAny _ _ (.expr body (envX qual scope h.objs.size f (.ref c') cl)) _ _
  have hk₁ : ∀ b o, h.get? b = some o → h₁.get? b = some o := fun b o e => hsb.extBut b o (Nat.ne_of_lt (Heap.lt_size e)) (Heap.get?_push_of_some _ e)
  have e := (H ⟨C.w, C.A.deeper (envX qual scope h.objs.size f (.ref c') cl), C.Z, C.bs, hideAll h (σ.map (·.1)), C.L :: C.fs, h.objs.size⟩ (G.def hA hl B D rfl rfl hk rfl rfl) ⟨rfl, rfl⟩
    (fun e s' => wpAny (model pw C.w) (C.A.deeper (envX qual scope h.objs.size f (.ref c') cl)) (leaving (envX qual scope h.objs.size f (.ref c') cl) e) (fun _ s'' => E e s'') (fun e' s'' => E e' s'') s') h₁ (tk + binds.length)
    ⟨_, B.stays, KtsTurn.refl, I.enter rfl hns hk₁⟩)
  refine kla_codeExpr (wpAny_mono e (fun v s' ⟨h', tk', m', σ', es, I', q⟩ => ?_) fun _ _ x => x)
  subst es
  obtain ⟨g', _, T', J'⟩ := I'.x
  exact ⟨h', tk', m, σ', rfl, back _ _ _ _ _ T' J', q⟩

/-- a book's frozen hook: it makes a list and keeps nothing -/
def Lam (w : World) (σ : Led) (f x : Addr) : Prop := (∃ o fd, (f, o) ∈ σ ∧ o.data = .func fd) ∧ ∀ (C : Cx) (n : Nat) (env : Env) (m : Loc) (σ' : Led) (dx : Addr) (es : Array DictEntry) (k : Nat) (hs : Int) (t : Tok) (v : Value) (Q : Value → Loc → Led → Prop), C.w = w → Gd (n + 1) C env → (∀ p ∈ σ, p ∈ σ') →
  (x, bookObj dx es k) ∈ σ' → (dx, frozDict hs t f) ∈ σ' → (∀ l, Q (.ref l) m ((l, PySem.W.listOf #[] 0) :: σ')) → Ev C (call (.ref f) [v]) m σ' Q
theorem Lam.mono {w : World} {σ σ' : Led} {f x : Addr} (h : Lam w σ f x) (hs : ∀ p ∈ σ, p ∈ σ') : Lam w σ' f x := ⟨let ⟨o, fd, hm, hd⟩ := h.1; ⟨o, fd, hs _ hm, hd⟩, fun C n env m σ'' dx es k hh t v Q hw G hp h1 h2 q => h.2 C n env m σ'' dx es k hh t v Q hw G (fun p h => hp p (hs p h)) h1 h2 q⟩

theorem freeze_ok {x dx : Addr} {es : Array DictEntry} {k : Nat} {Q : Value → Loc → Led → Prop} (G : Gd (n + 1) C env) (hc : CodeHd C.bs 111 107) (hm : (x, bookObj dx es k) ∈ σ)
    (q : ∀ f τ hs t ws, Lam C.w τ f x → Q .none m ((dx, frozDict hs t f) :: (107, tabObj ws) :: (τ ++ σ))) : Ev C (call (.ref 112) [.ref x]) m ((107, tabObj #[]) :: (dx, emptyDict) :: σ) Q := by
  refine ev_defC (xc := "self") (binds := [(Str.ofString "self", .ref x)]) G rfl (by kernel_rfl) (fun _ => BindsTo.of_eq rfl) (by rfl) (fun _ => rfl) fun C' co hco G' U => ?_
  replace hco : co.data = .cell (some (.ref x)) := hco
  refine Ev.forget ?_
  refine ev_cons (ev_AssignAttr ?_)
  refine Ev.b1 ?_
  refine ev_Lambda (C := C') (σ := (C'.L + 1, co) :: (dx, emptyDict) :: σ) G' (by rw [U.b]; exact hc) rfl (by with_unfolding_all rfl) (by rfl) fun f c' oc vs t ctv pm ws hd hv => ?_
  refine ev_cell (c := C'.L + 1) (oc := co) G' (by with_unfolding_all rfl) (.tail _ (.tail _ (.tail _ (.head _)))) hco ?_
  refine Ev.b4 ?_
  refine set_frozen G' (.tail _ (.tail _ (.tail _ (.tail _ hm)))) fun hs t' => ?_
  refine ev_nil ?_
  refine ⟨_, .head ⟨_, .refl _, pb2.symm⟩, q f [(f, _), (c', oc), (C'.L + 1, co)] hs t' ws ?_⟩
  · refine ⟨⟨_, _, .head _, rfl⟩, ?_⟩
    intro C₂ n₂ env₂ m₂ σ₂ dx₂ es₂ k₂ hs₂ t₂ v Q₂ hw G₂ hp h1 h2 q₂
    refine ev_callLam (binds := [(Str.ofString "key", v)]) G₂ (hp _ (.head _)) (hp _ (.tail _ (.head _))) hd hv (by with_unfolding_all rfl) (locs rfl) (fun C₃ G₃ U₃ => ?_) rfl rfl rfl (by decide)
    refine ev_MethodCall ?_
    refine ev_free (c := C'.L + 1) (oc := co) G₃ (by with_unfolding_all rfl) (hp _ (.tail _ (.tail _ (.head _)))) hco ?_
    refine get_factory G₃ h1 h2 ?_
    refine ev_callT0 ?_
    exact ev_list0 fun l => q₂ l
end
end

section
open PySem PySem.W PySem.Spec PySem.Calls PyProof.Rows PySem.SeqAt Builtin Builtin.ObjectAttr

section
variable {α β : Type} {C : Cx} {m : Loc} {σ : Led} {env : Env} {n : Nat}
theorem attr_froz {x dx f : Addr} {es : Array DictEntry} {k : Nat} {t tf : Tok} {hs : Int} {A : Around} {E : Value → Shared → Prop} {h : Heap} {tk : Nat} {Q : Option Value → Shared → Prop} (G : Gd n C env) (hm : (x, bookObj dx es k) ∈ σ) (hd : (dx, frozDict hs tf f) ∈ σ) (I : Inv C h m σ)
    (q : ∀ tk', Q (some (.ref f)) (C.sh h tk')) : wpAny C.M A (getAttrBy? (.ref x) (.str "_frozen" t)) Q E (C.sh h tk) := by
  have X := G.X.keeps I.keep
  have hx := I.get hm
  have hdx := I.get hd
  have t1 : Looks C.M h (typeOf (.ref x)) (.ref 115) := (Looks.ld hx).andThen .now
  have I0 : InstAt h x (bookObj dx es k) 115 (some (frozDict hs tf f)) := ⟨hx, rfl, rfl, hdx⟩
  have t3 : Looks C.M h (typeLookup (.ref 115) "__getattribute__") (some (.builtin "collections.defaultdict.__getattribute__")) := looks_findIn X (by kernel_rfl)
  have t4 : Looks C.M h (find (.ref x) (.ref 115) "_frozen") (.value (.ref f)) := looks_find X I0 (by kernel_rfl)
  have t5 : Looks C.M h (typeLookup (.ref 115) "__getattr__") none := looks_findIn X (by kernel_rfl)
  have t6 : Looks C.M h (bindSpecial (.builtin "collections.defaultdict.__getattribute__") (.ref x)) (.builtin "collections.defaultdict.__getattribute__", [.ref x]) := Looks.of_pure (dga_bind _)
  have t7 : Looks C.M h (isSubtype (.ref 115) (.type "collections.defaultdict")) true := looks_subIn X (by kernel_rfl)
  unfold getAttrBy?
  refine wpAny_bind (wpAny_attempt ?_)
  unfold getAttrBy
  iterate 7 lk
  unfold getAttrByItsOwn hookBefore
  iterate 3 lk
  refine wpAny_bind (wpAny_attempt ?_)
  repeat (first | with_reducible refine wpAny_call ?_ | lk)
  refine call_slotB "collections.defaultdict.__getattribute__" "collections.defaultdict" "__getattribute__" (by decide +kernel) dga_entry dga_kind dga_split (t1.andThen t7) (dga_args _ _) ?_
  unfold Builtin.«object.__getattribute__»
  repeat lk
  exact q _
theorem frozen_some {x dx f : Addr} {es : Array DictEntry} {k : Nat} {t tf : Tok} {hs : Int} {d : Value} {Q : Value → Loc → Led → Prop} (G : Gd n C env) (hm : (x, bookObj dx es k) ∈ σ) (hd : (dx, frozDict hs tf f) ∈ σ) (q : Q (.ref f) m σ) : Ev C (call (.builtin "getattr") [.ref x, .str "_frozen" t, d]) m σ Q := fun E h tk I => by
  have X := G.X.keeps I.keep
  have hx := I.get hm
  have hdx := I.get hd
  have t1 : Looks C.M h (typeOf (.ref x)) (.ref 115) := (Looks.ld hx).andThen .now
  have t2 : Looks C.M h (isSubtype (.ref 115) (.type "module")) false := looks_subIn X (by kernel_rfl)
  refine wpAny_call (codeAny_call_builtin KB.plain_getattr KB.entry_getattr ?_)
  rw [ga_check]
  refine wpAny_pure ?_
  unfold Builtin.«getattr»
  repeat ((fail_if_success (with_reducible refine at_getAttrBy? ?_)); lk)
  refine attr_froz G hm hd I fun tk' => ?_
  repeat lk
  exact Ends.intro I q
theorem ev_callFun1 {pos : Pos} {f : Addr} {o : Obj} {fd : FuncData} {e : Expr} {rest : List Expr} {Q : Value → Loc → Led → Prop} (hd : o.data = .func fd) (H : Ev C (spliced (backTo pos (starEach (e :: rest) env))) m σ fun vs m' σ' => (f, o) ∈ σ' ∧ Ev C (call (.ref f) vs) m' σ' Q)
    (he : starEach (e :: rest) env = (false, eval e env) :: starEach rest env := by with_unfolding_all rfl) :
    Ev C (callWith pos (.ref f) [] (backTo pos (starEach (e :: rest) env)) []) m σ Q := fun E h tk I => by
  rw [he] at H ⊢
  refine callWith_function (o := o) (fd := fd) (Calls.evalArgs_plain (H.of I fun vs h' tk' m' σ' I' q => ⟨⟨I'.get q.1, hd⟩, ?_⟩))
  exact q.2 E h' tk' I'
theorem missing_froz {x dx f : Addr} {es : Array DictEntry} {k : Nat} {y : Nm} {t tf : Tok} {hs : Int} {Q : Value → Loc → Led → Prop} (G : Gd (n + 2) C env) (hm : (x, bookObj dx es k) ∈ σ) (hd : (dx, frozDict hs tf f) ∈ σ) (hL : Lam C.w σ f x)
    (q : ∀ l, Q (.ref l) m ((l, PySem.W.listOf #[] 0) :: σ)) : Ev C (call (.ref 105) [.ref x, .str (nm y) t]) m σ Q := by
  refine ev_defA (binds := [(Str.ofString "self", .ref x), (Str.ofString "key", .str (nm y) t)]) G rfl (by kernel_rfl) (fun _ => BindsTo.of_eq rfl) (locs rfl) fun C' G' U => ?_
  refine eva_cons_ret ?_
  refine eva_Return ?_
  refine eva_Call ?_
  refine eva_Call ?_
  refine (ev_builtin G' (by kernel_rfl) (by with_unfolding_all rfl) ?_).a
  refine eva_callB1 (id := "getattr") ?_
  refine eva_args_cons ?_
  refine Ev.a ?_
  refine ev_local G' (by with_unfolding_all rfl) ?_
  refine eva_args_cons ?_
  refine Ev.a ?_
  refine ev_str fun _ => ?_
  refine eva_args_cons ?_
  refine eva_Attribute ?_
  intro E h tk I
  have X := G'.X.keeps I.keep
  obtain ⟨g, bg, Tn, J⟩ := I.x
  obtain ⟨p, loose, mean, mg, mb, TT⟩ := G'.T
  have hx := I.get hm
  have hdx := I.get hd
  have I0 : InstAt h x (bookObj dx es k) 115 (some (frozDict hs tf f)) := ⟨hx, rfl, rfl, hdx⟩
  refine ks_node (s := C'.sh h tk) J.F (G'.X.keeps bg) J.N (TT.keeps bg) (rfl : (KK C'.w).lookup 105 = some _) rfl (by with_unfolding_all rfl) I0 (rfl : (KK C'.w).lookup 104 = some _) rfl (by rfl) (rfl : (KK C'.w).lookup 93 = some _) (rfl : clsIn (KK C'.w) 115 = some _) (by kernel_rfl) (by kernel_rfl) (by decide) (by rfl) (by rfl) (by rfl) (by rfl) (by rfl) (by with_unfolding_all rfl) fun so h' F' N' lt => ?_
  have I₂ : Inv C' h' _ ((so, ks_superObj 115 x 115) :: σ) := ⟨⟨g, bg, Tn, F', N', by
    rw [List.map_cons, List.nodup_cons]
    refine ⟨fun hm => ?_, J.D⟩
    obtain ⟨p, hp, e⟩ := List.mem_map.mp hm
    exact absurd (lt p hp) (by rw [e]; exact Nat.lt_irrefl _)⟩⟩
  refine Ends.intro (C := C') (tk := tk) I₂ ?_
  refine super_attr G' (.head _) (.tail _ hm) fun b => ?_
  refine eva_args_nil ?_
  refine frozen_some G' (.tail _ (.tail _ hm)) (.tail _ (.tail _ hd)) ?_
  refine Ev.a ?_
  obtain ⟨⟨o, fd, ho, hfd⟩, hcall⟩ := hL
  refine ev_callFun1 (o := o) hfd ?_
  refine ev_args_cons ?_
  refine ev_local G' (by with_unfolding_all rfl) ?_
  refine ev_args_nil ⟨.tail _ (.tail _ ho), ?_⟩
  refine Ev.forget ?_
  refine hcall C' n _ _ _ dx es k hs tf _ _ U.w G' (fun p hp => .tail _ (.tail _ hp)) (.tail _ (.tail _ hm)) (.tail _ (.tail _ hd)) fun l => ?_
  exact ⟨(l, PySem.W.listOf #[] 0) :: σ, .head (.skip (.skip (.refl _))), ⟨_, rfl⟩, q l⟩
end
end

section
open PySem PySem.W PySem.Spec PySem.Calls PyProof.Rows PySem.SeqAt Builtin Builtin.ObjectAttr

section
variable {α β : Type} {C : Cx} {m : Loc} {σ : Led} {env : Env} {n : Nat}
theorem get_own {x dx : Addr} {es : Array DictEntry} {k : Nat} {od : Obj} {name : Str} {f tf : Value} {pl : Sem Bool} {Q : Value × List Value → Loc → Led → Prop} (G : Gd n C env) (hm : (x, bookObj dx es k) ∈ σ) (hd : (dx, od) ∈ σ)
    (h1 : ∀ h, (KK C.w).In h → Looks C.M h (typeLookup (.ref 115) name) (some f)) (h2 : ∀ h, (KK C.w).In h → Looks C.M h (typeOf f) tf) (h3 : (tf != .type "function" && tf != .type "method_descriptor" && tf != .type "wrapper_descriptor") = false)
    (h4 : ∀ h, h.get? dx = some od → Looks C.M h (nsGet dx name) none) (q : Q (f, [.ref x]) m σ) : Ev C (getMethod (.ref x) name pl) m σ Q := fun E h tk I => by
  have X := G.X.keeps I.keep
  have hx := I.get hm
  have hdx := I.get hd
  have hC := X 115 _ rfl
  have t1 : Looks C.M h (typeOf (.ref x)) (.ref 115) := (Looks.ld hx).andThen .now
  have t2 : Looks C.M h (typeLookup (.ref 115) "__getattribute__") (some (.builtin "collections.defaultdict.__getattribute__")) := looks_findIn X (by kernel_rfl)
  have t3 : Looks C.M h (typeLookup (.ref 115) "__getattr__") none := looks_findIn X (by kernel_rfl)
  have t4 := h1 h X
  have t5 := h2 h X
  have t6 := h4 h hdx
  unfold getMethod
  repeat lk
  simp only [h3]
  repeat lk
  exact Ends.intro (C := C) I q
theorem ty_112 {h : Heap} (X : (KK C.w).In h) : Looks C.M h (typeOf (.ref 112)) (.type "function") := by
  have hx := X 112 _ rfl
  exact (Looks.ld hx).andThen .now
theorem ty_get : typeOf (.builtin "dict.get") = pure (.type "method_descriptor") := by kernel_rfl
theorem ty_items : typeOf (.builtin "dict.items") = pure (.type "method_descriptor") := by kernel_rfl
theorem get_freeze {x dx : Addr} {es : Array DictEntry} {k : Nat} {pl : Sem Bool} {Q : Value × List Value → Loc → Led → Prop} (G : Gd n C env) (hm : (x, bookObj dx es k) ∈ σ) (hd : (dx, emptyDict) ∈ σ) (q : Q (.ref 112, [.ref x]) m σ) : Ev C (getMethod (.ref x) "freeze" pl) m σ Q :=
  get_own (tf := .type "function") G hm hd (fun h X => looks_findIn X (by kernel_rfl)) (fun h X => ty_112 X) rfl (fun h hd => (Looks.ld hd).andThen (.of_pure (by kernel_rfl))) q
theorem get_get {x dx : Addr} {es : Array DictEntry} {k : Nat} {od : Obj} {pl : Sem Bool} {Q : Value × List Value → Loc → Led → Prop} (G : Gd n C env) (hm : (x, bookObj dx es k) ∈ σ) (hd : (dx, od) ∈ σ) (ho : od = emptyDict ∨ ∃ hs t f, od = frozDict hs t f) (q : Q (.builtin "dict.get", [.ref x]) m σ) : Ev C (getMethod (.ref x) "get" pl) m σ Q :=
  get_own (tf := .type "method_descriptor") G hm hd (fun h X => looks_findIn X (by kernel_rfl)) (fun h X => .of_pure ty_get) rfl (fun h hd => by
    rcases ho with rfl | ⟨hs, t, f, rfl⟩
    · exact (Looks.ld hd).andThen (.of_pure (by kernel_rfl))
    · exact (Looks.ld hd).andThen (.of_pure (by kernel_rfl))) q
theorem get_items {x dx : Addr} {es : Array DictEntry} {k : Nat} {od : Obj} {pl : Sem Bool} {Q : Value × List Value → Loc → Led → Prop} (G : Gd n C env) (hm : (x, bookObj dx es k) ∈ σ) (hd : (dx, od) ∈ σ) (ho : od = emptyDict ∨ ∃ hs t f, od = frozDict hs t f) (q : Q (.builtin "dict.items", [.ref x]) m σ) : Ev C (getMethod (.ref x) "items" pl) m σ Q :=
  get_own (tf := .type "method_descriptor") G hm hd (fun h X => looks_findIn X (by kernel_rfl)) (fun h X => .of_pure ty_items) rfl (fun h hd => by
    rcases ho with rfl | ⟨hs, t, f, rfl⟩
    · exact (Looks.ld hd).andThen (.of_pure (by kernel_rfl))
    · exact (Looks.ld hd).andThen (.of_pure (by kernel_rfl))) q
end
end

section
open PySem PySem.W PySem.Spec PySem.Calls PyProof.Rows PySem.SeqAt Builtin Builtin.ObjectAttr

section
variable {α β : Type} {C : Cx} {m : Loc} {σ : Led} {env : Env} {n : Nat}
theorem dget_kind : builtinKind "dict.get" = some .method := by decide +kernel
theorem dget_split : splitId "dict.get" = some ("dict", "get") := by decide +kernel
theorem dget_entry : entryFor table "dict.get" = some Builtin.«dict.get» := entryFor_of_tree (by kernel_rfl)
theorem dget_args (a b : Value) : argsOk "dict.get" ⟨[a, b], []⟩ := by unfold argsOk; kernel_rfl
theorem dget_plain : plainId "dict.get" = true := by decide +kernel
theorem ev_dictGet {x dx : Addr} {es : Array DictEntry} {k : Nat} {bs : BP} {y : Nm} {t : Tok} {Q : Value → Loc → Led → Prop} (G : Gd n C env) (hm : (x, bookObj dx es k) ∈ σ) (B : BE es.toList bs) (h3 : 3 < x)
    (q : Q (match bget bs y with | some l => .ref l | none => .none) m σ) : Ev C (call (.builtin "dict.get") [.ref x, .str (nm y) t]) m σ Q := fun E h tk I => by
  have X := G.X.keeps I.keep
  have hx := I.get hm
  have t1 : Looks C.M h (typeOf (.ref x)) (.ref 115) := (Looks.ld hx).andThen .now
  have t3 : Looks C.M h (isSubtype (.ref 115) (.type "dict")) true := looks_subIn X (by kernel_rfl)
  have hs : (x == sysModules) = false := by
    have : x ≠ 1 := fun e => by rw [e] at h3; exact absurd h3 (by decide)
    simpa [sysModules] using this
  have hmis : Dict.missed x (.str (nm y) t) = pure none := by
    unfold Dict.missed
    rw [if_neg (by rw [hs]; exact Bool.false_ne_true)]
  have t4 : Looks C.M h (Dict.missed x (.str (nm y) t)) none := Looks.of_pure hmis
  have t5 : Looks C.M h (isSubtype (.ref 115) (.type "collections.OrderedDict")) false := looks_subIn X (by kernel_rfl)
  refine wpAny_call ?_
  refine call_methB "dict.get" "dict" "get" dget_plain dget_entry dget_kind dget_split (t1.andThen t3) (dget_args _ _) ?_
  unfold Builtin.«dict.get»
  repeat (first | with_reducible refine book_dictGet hx rfl B ?_ | lk)
  cases hb : bget bs y with
  | some l =>
    rw [hb] at q
    repeat lk
    exact Ends.intro (C := C) I q
  | none =>
    rw [hb] at q
    repeat lk
    exact Ends.intro (C := C) I q
abbrev viewOf (x : Addr) : Obj := { cls := .type "dict_items", data := .fields #[.ref x] }
theorem ditems_kind : builtinKind "dict.items" = some .method := by decide +kernel
theorem ditems_split : splitId "dict.items" = some ("dict", "items") := by decide +kernel
theorem ditems_entry : entryFor table "dict.items" = some Builtin.«dict.items» := entryFor_of_tree (by kernel_rfl)
theorem ditems_args (a : Value) : argsOk "dict.items" ⟨[a], []⟩ := by unfold argsOk; kernel_rfl
theorem ditems_plain : plainId "dict.items" = true := by decide +kernel
theorem ev_dictItems {x dx : Addr} {es : Array DictEntry} {k : Nat} {Q : Value → Loc → Led → Prop} (G : Gd n C env) (hm : (x, bookObj dx es k) ∈ σ) (h3 : 3 < x)
    (q : ∀ v, Q (.ref v) m ((v, viewOf x) :: σ)) : Ev C (call (.builtin "dict.items") [.ref x]) m σ Q := fun E h tk I => by
  have X := G.X.keeps I.keep
  have hx := I.get hm
  have t1 : Looks C.M h (typeOf (.ref x)) (.ref 115) := (Looks.ld hx).andThen .now
  have t3 : Looks C.M h (isSubtype (.ref 115) (.type "dict")) true := looks_subIn X (by kernel_rfl)
  have hs : (x == sysModules) = false := by
    have : x ≠ 1 := fun e => by rw [e] at h3; exact absurd h3 (by decide)
    simpa [sysModules] using this
  have t5 : Looks C.M h (isSubtype (.ref 115) (.type "collections.OrderedDict")) false := looks_subIn X (by kernel_rfl)
  refine wpAny_call ?_
  refine call_methB "dict.items" "dict" "items" ditems_plain ditems_entry ditems_kind ditems_split (t1.andThen t3) (ditems_args _) ?_
  unfold Builtin.«dict.items» Dict.showsAll
  repeat lk
  simp only [hs, Bool.false_eq_true, if_false]
  repeat lk
  exact Ends.intro (C := C) (I.push _ rfl) (q _)
end
end

section
open PySem PySem.W PySem.Spec PySem.Calls PyProof.Rows PySem.SeqAt Builtin Builtin.ObjectAttr

section
variable {α : Type} {C : Cx} {m : Loc} {σ : Led} {env : Env} {n : Nat}
/-- the items iterator: the first field is the last pair made -/
abbrev itmOf (own flag : Value) (x : Addr) (i N ep : Nat) (k v : Value) : Obj := { cls := .type "dict_itemiterator", data := .fields #[own, flag, .ref x, .int i 0, .int N 0, .int ep 0, k, v] }
theorem itm_own : Dict_items.ownsTuple "dict_itemiterator" = true := by decide
theorem ev_iterView {v x dx : Addr} {es : Array DictEntry} {k : Nat} {Q : Value → Loc → Led → Prop} (hm : (x, bookObj dx es k) ∈ σ) (hv : (v, viewOf x) ∈ σ)
    (q : ∀ I, Q (.ref I) m ((I, itmOf .none (.bool false) x 0 es.size k .none .none) :: σ)) : Ev C (pyIter (.ref v)) m σ Q := fun E h tk I => by
  have hx := I.get hm
  have hV := I.get hv
  have hT : (C.sh h tk).TypeIs (.ref v) "dict_items" := ⟨_, hV, rfl⟩
  refine wpAny_pyIter_slot hT PySem.F.slot_dict_items_iter (wpAny_call_entry PySem.F.slot_dict_items_iter hT PySem.F.entry_dict_items_iter ?_ (PySem.F.args_dict_items_iter_1 _))
  unfold Builtin.«dict_items.__iter__» Builtin.Dict_items.dictOf Builtin.Dict_items.newIterator
  have f0 : Looks C.M h (field (.ref v) 0) (.ref x) := looks_field hV 0 (v := .ref x) rfl
  repeat lk
  simp only [itm_own, if_true]
  exact ⟨_, rfl, "dict_itemiterator", _, ⟨_, Heap.get?_push_size _ rfl, rfl⟩, PySem.F.slot_dict_itemiterator_next.lookup, Ends.intro (C := C) (I.push _ rfl) (q _)⟩
theorem at_setField {M : Model} {A : Around} {o : Value} {i : Nat} {v : Value} {Q : Unit → Shared → Prop} {E : Value → Shared → Prop} {s : Shared} (h : wpAny M A (setField o i v) Q E s) : wpAny M A (setField o i v) Q E s := h
theorem at_alive {M : Model} {A : Around} {a : Addr} {Q : Option Obj → Shared → Prop} {E : Value → Shared → Prop} {s : Shared} (h : wpAny M A (loadIfAlive a) Q E s) : wpAny M A (loadIfAlive a) Q E s := h
theorem at_newTuple {M : Model} {A : Around} {vs : List Value} {Q : Value → Shared → Prop} {E : Value → Shared → Prop} {s : Shared} (h : wpAny M A (newTuple vs) Q E s) : wpAny M A (newTuple vs) Q E s := h
theorem at_flag {M : Model} {A : Around} {f : Value} {t u : Sem Bool} {Q : Bool → Shared → Prop} {E : Value → Shared → Prop} {s : Shared} (h : wpAny M A (if (f != .bool true) = true then t else u) Q E s) : wpAny M A (if (f != .bool true) = true then t else u) Q E s := h
theorem ev_nextItm {I x dx : Addr} {es : Array DictEntry} {k i : Nat} {own flag kk vv : Value} {e : DictEntry} {Q : Option Value → Loc → Led → Prop} (hm : (x, bookObj dx es k) ∈ σ) (he : es[i]? = some e)
    (ho : own = .none ∨ ∃ (a : Addr) (oa : Obj), own = rawInt a ∧ (a, oa) ∈ σ)
    (q : ∀ (t : Addr) own' flag' kk' vv', (own' = rawInt t ∨ own' = own ∧ own ≠ .none) → Q (some (.ref t)) m ((t, tupOf #[e.key, e.val]) :: (I, itmOf own' flag' x (i + 1) es.size k kk' vv') :: σ)) : Ev C (pyNext (.ref I)) m ((I, itmOf own flag x i es.size k kk vv) :: σ) Q := fun E h tk J => by
  have hx := J.get (.tail _ hm)
  have hI := J.get (.head _)
  have hT : (C.sh h tk).TypeIs (.ref I) "dict_itemiterator" := ⟨_, hI, rfl⟩
  unfold pyNext
  refine wpAny_bind (wpAny_attempt (wpAny_callSpecial?_slot (name := Str.ofString "__next__") hT PySem.F.slot_dict_itemiterator_next
    (wpAny_call_entry PySem.F.slot_dict_itemiterator_next hT PySem.F.entry_dict_itemiterator_next ?_ (PySem.F.args_dict_itemiterator_next_1 _))))
  have t1 : Looks C.M h (typeOf (.ref I)) (.type "dict_itemiterator") := (Looks.ld hI).andThen .now
  have hlt : i < es.size := (Array.getElem?_eq_some_iff.mp he).1
  unfold Builtin.«dict_itemiterator.__next__»
  repeat ((fail_if_success (with_reducible refine at_setField ?_)); lk)
  rw [if_neg (by simp)]
  repeat ((fail_if_success (with_reducible refine at_setField ?_)); lk)
  rw [if_neg (by simp)]
  repeat ((fail_if_success (with_reducible refine at_setField ?_)); lk)
  simp only [show ¬ ((i : Int) < 0) from by omega, if_false, Int.toNat_natCast, he]
  repeat ((fail_if_success (with_reducible refine at_setField ?_)); lk)
  show wpAny _ _ (setField (.ref I) 3 (rawInt ((i : Int) + 1))) _ _ _
  refine wpAny_setField_rec hI (by simp) fun h₁ he₁ hs₁ => ?_
  have J₁ : Inv C h₁ m ((I, itmOf own flag x (i + 1) es.size k kk vv) :: σ) := J.setHead hs₁ (by
    have e : ((i + 1 : Nat) : Int) = (i : Int) + 1 := by omega
    rw [he₁]; simp [itmOf, e, rawInt])
  clear he₁ hs₁
  have hI₁ := J₁.get (.head _)
  have t1 : Looks C.M h₁ (typeOf (.ref I)) (.type "dict_itemiterator") := (Looks.ld hI₁).andThen .now
  repeat ((fail_if_success (with_reducible refine at_newTuple ?_)); lk)
  refine wpAny_newTuple ?_
  have J₂ := J₁.push { cls := .type "tuple", data := .seq #[e.key, e.val] } rfl
  show wpAny _ _ _ _ _ (C.sh (h₁.push { cls := .type "tuple", data := .seq #[e.key, e.val] }) tk)
  generalize h₁.objs.size = t at *
  generalize h₁.push { cls := .type "tuple", data := .seq #[e.key, e.val] } = h₂ at *
  have hI₂ := J₂.get (.tail _ (.head _))
  have f0 : Looks C.M h₂ (field (.ref I) 0) own := looks_field hI₂ 0 (v := own) rfl
  have f1 : Looks C.M h₂ (field (.ref I) 1) flag := looks_field hI₂ 1 (v := flag) rfl
  have f6 : Looks C.M h₂ (field (.ref I) 6) kk := looks_field hI₂ 6 (v := kk) rfl
  have f7 : Looks C.M h₂ (field (.ref I) 7) vv := looks_field hI₂ 7 (v := vv) rfl
  rcases ho with rfl | ⟨a, oa, rfl, ha⟩
  · repeat ((fail_if_success (with_reducible refine at_setField ?_)); lk)
    refine wpAny_setField_rec hI₂ (by simp) fun h₃ he₃ hs₃ => ?_
    refine wpAny_bind (wpAny_setField_rec he₃ (by simp) fun h₄ he₄ hs₄ => ?_)
    refine wpAny_bind (wpAny_setField_rec he₄ (by simp) fun h₅ he₅ hs₅ => ?_)
    refine wpAny_bind (wpAny_setField_rec he₅ (by simp) fun h₆ he₆ hs₆ => ?_)
    have J₆ := ((((J₂.perm (.swap ..)).setHead hs₃ he₃).setHead hs₄ he₄).setHead hs₅ he₅).setHead hs₆ he₆
    refine wpAny_bind (wpAny_letGo (wpAny_pure (wpAny_pure ⟨_, rfl, wpAny_pure ?_⟩)))
    refine Ends.intro (C := C) (J₆.perm (.swap ..)) (q t (rawInt t) (.bool false) e.key e.val (.inl rfl))
  · have hA := J₂.get (.tail _ (.tail _ ha))
    have fa : Looks C.M h₂ (loadIfAlive a) (some oa) := fun A Q E s k q => kdx_alive (k _ _ hA) q
    show wpAny _ _ _ _ _ _
    repeat ((fail_if_success (with_reducible refine at_alive ?_)); lk)
    rw [Int.toNat_natCast]
    repeat ((fail_if_success (with_reducible refine at_setField ?_)); (fail_if_success (with_reducible refine at_flag ?_)); lk)
    by_cases hf : (flag != Value.bool true) = true
    · rw [if_pos hf]
      refine wpAny_bind (wpAny_setField_rec hI₂ (by simp) fun h₃ he₃ hs₃ => ?_)
      have J₃ := (J₂.perm (.swap ..)).setHead hs₃ he₃
      repeat lk
      exact ⟨_, rfl, wpAny_pure (Ends.intro (C := C) (J₃.perm (.swap ..)) (q t (rawInt a) (.bool true) kk vv (.inr ⟨rfl, by simp [rawInt]⟩)))⟩
    · rw [if_neg hf]
      repeat lk
      exact ⟨_, rfl, wpAny_pure (Ends.intro (C := C) J₂ (q t (rawInt a) flag kk vv (.inr ⟨rfl, by simp [rawInt]⟩)))⟩
theorem ev_nextItmEnd {I x dx : Addr} {es : Array DictEntry} {k i : Nat} {own flag kk vv : Value} {Q : Option Value → Loc → Led → Prop} (hh : C.A.handled = none) (hm : (x, bookObj dx es k) ∈ σ) (he : es.size ≤ i)
    (q : Q none m σ) : Ev C (pyNext (.ref I)) m ((I, itmOf own flag x i es.size k kk vv) :: σ) Q := fun E h tk J => by
  have hx := J.get (.tail _ hm)
  have hI := J.get (.head _)
  have hT : (C.sh h tk).TypeIs (.ref I) "dict_itemiterator" := ⟨_, hI, rfl⟩
  unfold pyNext
  refine wpAny_bind (wpAny_attempt (wpAny_callSpecial?_slot (name := Str.ofString "__next__") hT PySem.F.slot_dict_itemiterator_next
    (wpAny_call_entry PySem.F.slot_dict_itemiterator_next hT PySem.F.entry_dict_itemiterator_next ?_ (PySem.F.args_dict_itemiterator_next_1 _))))
  have t1 : Looks C.M h (typeOf (.ref I)) (.type "dict_itemiterator") := (Looks.ld hI).andThen .now
  unfold Builtin.«dict_itemiterator.__next__»
  repeat ((fail_if_success (with_reducible refine at_setField ?_)); lk)
  rw [if_neg (by simp)]
  repeat ((fail_if_success (with_reducible refine at_setField ?_)); lk)
  rw [if_neg (by simp)]
  repeat ((fail_if_success (with_reducible refine at_setField ?_)); lk)
  simp only [show ¬ ((i : Int) < 0) from by omega, if_false, Int.toNat_natCast, Array.getElem?_eq_none he]
  repeat ((fail_if_success (with_reducible refine at_setField ?_)); lk)
  show wpAny _ _ (setField (.ref I) 2 .none) _ _ _
  refine wpAny_setField_rec hI (by simp) fun h₁ he₁ hs₁ => ?_
  have J₁ := J.dropHead hs₁.extBut
  refine wpAny_bind ?_
  simp only [newExc, newTuple]
  refine wpAny_bind (wpAny_newObj_type ?_ (by size_fits))
  refine wpAny_bind (m := firstArgMember _ _) (wpAny_of_eq (a := Value.none) (by first | rfl | (simp only [firstArgMember]; rfl)) ?_)
  refine wpAny_newObj_type ?_ (by size_fits)
  simp only [raiseNew]
  refine wpAny_bind (wpAny_handled ?_)
  rw [show C.A.in1.handled = none from hh]
  refine wpAny_bind (wpAny_pure (wpAny_throw ?_))
  refine wpAny_bind (wpAny_isInstance (T := "StopIteration") (b := true) ⟨_, Heap.get?_push_size _ rfl, rfl⟩ isSubtype_stop ?_)
  exact wpAny_pure (Ends.intro (C := C) (((J₁.push _ rfl).push _ rfl).sub ((List.sublist_cons_self _ _).trans (List.sublist_cons_self _ _))) q)
end
end

section
open PySem PySem.W PySem.Spec PySem.Calls PyProof.Rows PySem.SeqAt Builtin Builtin.ObjectAttr

section
variable {α : Type} {C : Cx} {m : Loc} {σ : Led} {env : Env} {n : Nat}
/-- the pairs that a book's items give -/
inductive Prs (T : Led) : List Value → List DictEntry → Prop
  | nil : Prs T [] []
  | cons {t : Addr} {e : DictEntry} {us : List Value} {es : List DictEntry} : (t, tupOf #[e.key, e.val]) ∈ T → Prs T us es → Prs T (.ref t :: us) (e :: es)
theorem Prs.mono {T T' : Led} {us : List Value} {es : List DictEntry} (h : Prs T us es) (hs : ∀ p ∈ T, p ∈ T') : Prs T' us es := by
  induction h with
  | nil => exact .nil
  | cons a _ ih => exact .cons (hs _ a) ih
theorem Prs.snoc {T : Led} {us : List Value} {es : List DictEntry} (h : Prs T us es) {t : Addr} {e : DictEntry} (ht : (t, tupOf #[e.key, e.val]) ∈ T) : Prs T (us ++ [.ref t]) (es ++ [e]) := by
  induction h with
  | nil => exact .cons ht .nil
  | cons a _ ih => exact .cons a ih
theorem Prs.len {T : Led} {us : List Value} {es : List DictEntry} (h : Prs T us es) : us.length = es.length := by
  induction h with
  | nil => rfl
  | cons _ _ ih => simp [ih]
theorem view_loop {S I x dx : Addr} {es : Array DictEntry} {k : Nat} {res : Value} {R : Result → Shared → Prop} (hh : C.A.handled = none) (hm : (x, bookObj dx es k) ∈ σ) (hsz : es.size ≤ 1000)
    (hR : ∀ h' tk' us T c, Inv C h' m ((S, lstOf us c) :: (T ++ σ)) → Prs T us es.toList → R (.ok (.ret res)) (C.sh h' tk')) :
    ∀ (r i : Nat) (us : List Value) (T : Led) (c : Nat) (own flag kk vv : Value) (h : Heap) (tk : Nat), es.size - i = r → i ≤ es.size → Prs T us (es.toList.take i) → (own = .none ∨ ∃ (a : Addr) (oa : Obj), own = rawInt a ∧ (a, oa) ∈ T) →
      Inv C h m ((I, itmOf own flag x i es.size k kk vv) :: (S, lstOf us c) :: (T ++ σ)) → codeAny C.M C.A (.builtin "list.extend.loop" ⟨[.ref S, .ref I, res], []⟩) R (C.sh h tk) := by
  intro r
  induction r with
  | zero =>
    intro i us T c own flag kk vv h tk hr hi hp ho J
    have hie : i = es.size := by omega
    refine codeAny_builtin PySem.F.entry_extend_loop ?_
    rw [Around.under_plainId PySem.F.plain_extend_loop _]
    show wpAny _ C.A.in1 (pyNext (.ref I) >>= _) _ _ _
    refine wpAny_bind ((ev_nextItmEnd (C := C.in C.A.in1) (Q := fun r m' σ' => r = none ∧ m' = m ∧ σ' = (S, lstOf us c) :: (T ++ σ)) hh (.tail _ (List.mem_append_right _ hm)) (by omega) ⟨rfl, rfl, rfl⟩).of J.into fun v h' tk' m' σ' J' q => ?_)
    obtain ⟨rfl, rfl, rfl⟩ := q
    refine wpAny_pure (hR h' tk' us T c J'.back ?_)
    rwa [hie, List.take_of_length_le (by simp)] at hp
  | succ r ih =>
    intro i us T c own flag kk vv h tk hr hi hp ho J
    have hlt : i < es.size := by omega
    have hus : us.length = i := by rw [hp.len, List.length_take]; simp; omega
    refine codeAny_builtin PySem.F.entry_extend_loop ?_
    rw [Around.under_plainId PySem.F.plain_extend_loop _]
    show wpAny _ C.A.in1 (pyNext (.ref I) >>= _) _ _ _
    refine wpAny_bind ((ev_nextItm (C := C.in C.A.in1) (e := es[i]) (Q := fun r m' σ' => ∃ t own' flag' kk' vv', (own' = rawInt (t : Addr) ∨ own' = own ∧ own ≠ .none) ∧ r = some (.ref t) ∧ m' = m ∧ σ' = (t, tupOf #[es[i].key, es[i].val]) :: (I, itmOf own' flag' x (i + 1) es.size k kk' vv') :: (S, lstOf us c) :: (T ++ σ))
      (.tail _ (List.mem_append_right _ hm)) (Array.getElem?_eq_getElem hlt) (ho.imp id fun ⟨a, oa, e, h⟩ => ⟨a, oa, e, .tail _ (List.mem_append_left _ h)⟩) fun t own' flag' kk' vv' h => ⟨t, own', flag', kk', vv', h, rfl, rfl, rfl⟩).of J.into fun v h' tk' m' σ' J' q => ?_)
    obtain ⟨t, own', flag', kk', vv', ho', rfl, rfl, rfl⟩ := q
    have J₂ := J'.back.perm (pb2 (a := _) (b := _) (c := _) (σ := _))
    show wpAny _ C.A.in1 (updateSeq S (·.push (Value.ref t)) >>= _) _ _ _
    refine wpAny_bind (wpAny_updateSeq (J₂.get (.head _)) rfl (wpAny_pure ⟨plainId_quiet PySem.F.plain_extend_loop _, ?_⟩) (by simp [hus]; rw [sizeLine_eq]; omega) (by simp [hus]; rw [sizeLine_eq]; omega))
    have J₃ := J₂.update (Obj.mapSeq (·.push (Value.ref t))) rfl
    obtain ⟨c', ec⟩ := mapSeq_lst (·.push (Value.ref t)) us.toArray c
    rw [show (lstOf us c) = PySem.W.listOf us.toArray c from rfl, ec, show us.toArray.push (Value.ref t) = (us ++ [Value.ref t]).toArray by simp] at J₃
    refine ih (i + 1) (us ++ [.ref t]) ((t, tupOf #[es[i].key, es[i].val]) :: T) c' own' flag' kk' vv' _ tk' (by omega) (by omega) ?_ ?_ (J₃.perm pb2)
    · rw [List.take_succ_eq_append_getElem (by simpa using hlt)]
      exact (hp.mono fun p h => .tail _ h).snoc (by simp)
    · rcases ho' with rfl | ⟨rfl, hne⟩
      · exact .inr ⟨t, _, rfl, .head _⟩
      · rcases ho with h | ⟨a, oa, e, h⟩
        · exact absurd h hne
        · exact .inr ⟨a, oa, e, .tail _ h⟩
theorem at_update {M : Model} {A : Around} {f : Array Value → Array Value} {a : Addr} {Q : Unit → Shared → Prop} {E : Value → Shared → Prop} {s : Shared} (h : wpAny M A (updateSeq a f) Q E s) : wpAny M A (updateSeq a f) Q E s := h
theorem at_extend {M : Model} {A : Around} {a b r : Value} {Q : PySem.Fin → Shared → Prop} {E : Value → Shared → Prop} {s : Shared} (h : wpAny M A (List.listExtendWith a b r) Q E s) : wpAny M A (List.listExtendWith a b r) Q E s := h
theorem ev_listView {v x dx : Addr} {es : Array DictEntry} {k : Nat} {Q : Value → Loc → Led → Prop} (hh : C.A.handled = none) (hm : (x, bookObj dx es k) ∈ σ) (hv : (v, viewOf x) ∈ σ) (hsz : es.size ≤ 1000)
    (q : ∀ l T us c, Prs T us es.toList → Q (.ref l) m ((l, lstOf us c) :: (T ++ σ))) : Ev C (call (.type "list") [.ref v]) m σ Q := fun E h tk I => by
  refine callType_codes (Q₁ := fun obj s₁ => obj = .ref h.objs.size ∧ s₁ = C.sh (h.push { cls := .type "list", data := .seq #[] }) tk) PySem.F.called_list (PySem.F.typeCall_list_1 _) PySem.F.entry_list_init
    (code_list_new _ ⟨rfl, rfl⟩) fun obj s₁ h₁ => ?_
  obtain ⟨rfl, rfl⟩ := h₁
  have J := I.push { cls := .type "list", data := .seq #[] } rfl
  generalize h.objs.size = S at *
  generalize h.push { cls := .type "list", data := .seq #[] } = h₁ at *
  refine ⟨⟨_, J.get (.head _), rfl⟩, PySem.F.args_list_init_2 _ _, ?_⟩
  have hS := J.get (.head _)
  have hV := J.get (.tail _ hv)
  have hSv : S ≠ v := fun e => J.ne_head _ hv e.symm
  unfold Builtin.«list.__init__»
  have t1 : Looks C.M h₁ (typeOf (.ref v)) (.type "dict_items") := (Looks.ld hV).andThen .now
  have hsl : Looks C.M h₁ (List.listItems (.ref S)) #[] := fun A Q E s k q => by
    unfold List.listItems
    exact wpAny_bind (wpAny_seqItems (k _ _ hS) rfl (wpAny_pure q))
  repeat ((fail_if_success (with_reducible refine at_update ?_)); lk)
  refine wpAny_updateSeq hS rfl ?_
  have J₁ := J.update (Obj.mapSeq (fun _ => (#[] : Array Value))) rfl
  have hS₁ := J₁.get (.head _)
  have hV₁ := J₁.get (.tail _ hv)
  have hx₁ := J₁.get (.tail _ hm)
  show wpAny _ _ _ _ _ (C.sh (h₁.update S (Obj.mapSeq (fun _ => (#[] : Array Value)))) tk)
  generalize h₁.update S (Obj.mapSeq (fun _ => (#[] : Array Value))) = h₂ at *
  have t1 : Looks C.M h₂ (typeOf (.ref v)) (.type "dict_items") := (Looks.ld hV₁).andThen .now
  repeat ((fail_if_success (with_reducible refine at_extend ?_)); lk)
  obtain ⟨c₀, ec⟩ := mapSeq_lst (fun _ => (#[] : Array Value)) #[] 0
  replace J₁ : Inv C h₂ m ((S, lstOf [] c₀) :: σ) := by
    rw [show Obj.mapSeq (fun _ => (#[] : Array Value)) { cls := .type "list", data := .seq #[] } = lstOf [] c₀ from ec] at J₁
    exact J₁
  unfold List.listExtendWith
  refine wpAny_bind (t1.here ?_)
  have e1 : List.listSameRef (.ref S) (.ref v) = false := by simp [List.listSameRef, hSv]
  simp only [e1, show (Value.type "dict_items" == Value.type "list") = false by decide, show (Value.type "dict_items" == Value.type "tuple") = false by decide, Bool.or_false, Bool.false_eq_true, if_false]
  refine wpAny_bind ((ev_iterView (C := C.in C.A.in1.in1) (Q := fun r m' σ' => ∃ N, r = .ref N ∧ m' = m ∧ σ' = (N, itmOf .none (.bool false) x 0 es.size k .none .none) :: (S, lstOf [] c₀) :: σ) (.tail _ hm) (.tail _ hv) fun N => ⟨N, rfl, rfl, rfl⟩).of (C := C.in C.A.in1.in1) J₁.into fun r h' tk' m' σ' J' q => ?_)
  obtain ⟨N, rfl, rfl, rfl⟩ := q
  have K := J'.back
  refine wpAny_bind (wpAny_holding (kdx_hint (s := C.sh h' tk') ⟨_, K.get (.tail _ (.tail _ hv)), rfl⟩ ?_))
  have go : ∀ h₃ c, Inv C h₃ m' ((N, itmOf .none (.bool false) x 0 es.size k .none .none) :: (S, lstOf [] c) :: σ) → codeAny C.M C.A.in1 (.builtin "list.extend.loop" ⟨[.ref S, .ref N, .none], []⟩) (wants (fun r s₂ => r = Value.none ∧ Ends C Q (Value.ref S) s₂) E) (C.sh h₃ tk') := fun h₃ c J₃ => by
    refine view_loop (C := C.in C.A.in1) (σ := σ) hh hm hsz (fun h₄ tk₄ us T c J₄ hp => ?_) es.size 0 [] [] c _ _ _ _ h₃ tk' (by omega) (by omega) (by simpa using Prs.nil) (.inl rfl) J₃.into
    exact ⟨rfl, Ends.intro (C := C) J₄.back (q S T us c hp)⟩
  refine wpAny_ite_split (fun _ => ?_) (fun _ => wpAny_pure ⟨plainId_quiet PySem.F.plain_extend_loop _, go _ _ K⟩)
  refine wpAny_bind (wpAny_rule ?_)
  refine wpAny_bind ?_
  show wpAny _ _ (updateSeq S (·.push .none) >>= fun _ => updateSeq S (·.pop)) _ _ _
  have K₁ := K.perm (pb1 (σ := σ))
  obtain ⟨c₁, e₁⟩ := mapSeq_lst (·.push Value.none) #[] c₀
  obtain ⟨c₂, e₂⟩ := mapSeq_lst (·.pop) #[.none] c₁
  refine wpAny_bind (wpAny_updateSeq (K₁.get (.head _)) rfl ?_)
  have K₂ := K₁.update (Obj.mapSeq (·.push Value.none)) rfl
  refine wpAny_updateSeq (hz := by seq_fits) (K₂.get (.head _)) rfl ?_
  have K₃ := K₂.update (Obj.mapSeq (·.pop)) rfl
  rw [show lstOf [] c₀ = PySem.W.listOf #[] c₀ from rfl, e₁, show (#[] : Array Value).push .none = #[Value.none] from rfl, e₂] at K₃
  exact wpAny_pure ⟨plainId_quiet PySem.F.plain_extend_loop _, go _ _ (K₃.perm (.swap ..))⟩
end
end

section
open PySem PySem.W PySem.Spec PySem.Calls PyProof.Rows PySem.SeqAt Builtin Builtin.ObjectAttr

section
variable {α β : Type} {C : Cx} {m : Loc} {σ : Led} {env : Env} {n : Nat}
/-- a call of a plain def that may raise an exception of its own making -/
theorem ev_defR {X : String} {S : Led → Prop} {E : Value → Shared → Prop} {name qual : Str} {params : Arguments} {body : List Stmt} {scope : Scope} {dV kV doc pm cdv ct oc : Value} {an od : Option Addr} {osl : Array (Option Value)} {f : Addr} {vs : List Value} {binds : List (Str × Value)} {Q : Value → Loc → Led → Prop}
    (G : Gd (n + 1) C env) (hE : ∀ σ' e s', Thr C env X m σ' e s' → S σ' → E e s')
    (ho : (KK C.w).lookup f = some ⟨oc, od, .func (fnOf name qual params body scope dV kV doc pm an cdv ct), osl⟩) (hcd : codeIn (KK C.w) cdv qual = true)
    (hbind : ∀ s, BindsTo s (fnOf name qual params body scope dV kV doc pm an cdv ct) ⟨vs, []⟩ binds) (hloc : ∀ y ∈ binds, scope.names.lookup y.1 = some .local)
    (H : ∀ (C' : Cx) (E' : Value → Shared → Prop), (∀ m' σ' hB h a tk, Inv C' hB m' σ' → Heap.NewExc hB h a X → S σ' → E' (.ref a) (C'.sh h tk)) → Gd n C' (envOf qual scope C'.L f cdv) → Up C C' → EvG C' E' (execs body (envOf qual scope C'.L f cdv)) (fun y => binds.reverse.lookup y) σ fun fl _ σ' => Q (match fl with | .ret v => v | _ => .none) m σ')
    (hco : scope.isCoroutine = false := by with_unfolding_all rfl) (hgen : scope.isGenerator = false := by with_unfolding_all rfl) (hk : scope.kind = .function := by with_unfolding_all rfl) (hcell : ∀ x ∈ scope.names, x.2 ≠ .cell := by with_unfolding_all decide) :
    EvG C E (call (.ref f) vs) m σ Q := fun h tk I => by
  obtain ⟨outer, hA, hl, B, D, back, turn⟩ := ground G I
  obtain ⟨p, loose, mean, mg, mb, T⟩ := G.T
  have X' : (KK C.w).In h := G.X.keeps I.keep
  have hfs : C.fs = outer.filterMap (·.frame) := by
    rw [List.filterMap_cons, G.hf] at hl
    exact (List.cons.inj hl).2.symm
  refine wpAny_call ?_
  refine codeAny_call_def (fd := fnOf name qual params body scope dV kV doc pm an cdv ct) (body := body) (binds := binds) (by have := G.hd; show C.A.depth < _; omega) (X' _ _ ho) rfl (T.nolimit.keeps I.keep) (codeRec_of X' hcd) rfl (hbind _) hcell hloc (fun h₁ hns hk₁ => ?_) hco hgen hk
  have e := (H ⟨C.w, C.A.deeper (envOf qual scope h.objs.size f cdv), C.Z, C.bs, hideAll h (σ.map (·.1)), C.L :: C.fs, h.objs.size⟩
    (fun e s' => wpAny (model pw C.w) (C.A.deeper (envOf qual scope h.objs.size f cdv)) (leaving (envOf qual scope h.objs.size f cdv) e) (fun _ s'' => E e s'') (fun e' s'' => E e' s'') s')
    (fun m' σ' hB h₂ a tk₂ I' x hS => by
      obtain ⟨g', bg', T', J'⟩ := I'.x
      obtain ⟨A₀, g₂, bg₂, T₂, F₂, K₂⟩ := turn g' T'
      exact leave_newS (A := C.A) (outer := env :: outer) ⟨B.stack, bg', B.frames.of_keeps fun a o e _ => let ⟨_, hs⟩ := T'.up e; ⟨_, hs, rfl⟩⟩ x J'.F J'.N
        (fun h' R _ u => hE σ' _ _ (.came hA hfs K₂ T₂ F₂ R u J'.D) hS) hk)
    (G.def hA hl B D rfl rfl hk rfl rfl) ⟨rfl, rfl⟩) h₁ (tk + binds.length)
    ⟨_, B.stays, KtsTurn.refl, I.enter rfl hns hk₁⟩
  refine wpAny_mono e (fun fl s' ⟨h', tk', m', σ', es, I', q⟩ => ?_) fun _ _ x => x
  subst es
  obtain ⟨g', _, T', J'⟩ := I'.x
  exact ⟨h', tk', m, σ', rfl, back _ _ _ _ _ T' J', q⟩
end
end

section
open PySem PySem.W PySem.Spec PySem.Calls PyProof.Rows PySem.SeqAt Builtin Builtin.ObjectAttr

theorem eq_cps : (Str.ofString "=").cps = #[61] := by decide +kernel
theorem ext1 (l : Array Nat) (i : Nat) : (l.extract i (i + 1)).toList = (l.toList.drop i).take 1 := by
  simp [Array.toList_extract, List.extract_eq_take_drop]
theorem subAt_eq (x : PySem.Str) (i : Nat) : Builtin.Str.subAt x "=" i = ((x.cps.toList.drop i).take 1 == [61]) := by
  unfold Builtin.Str.subAt
  show (x.cps.extract i (i + (Str.ofString "=").cps.size) == (Str.ofString "=").cps) = _
  rw [eq_cps]
  show (x.cps.extract i (i + 1) == #[61]) = _
  rw [← ext1]
  cases hh : x.cps.extract i (i + 1) with
  | mk l => simp
theorem app_cps (a b : PySem.Str) : (a ++ b).cps.toList = a.cps.toList ++ b.cps.toList := by
  show (a.cps ++ b.cps).toList = _
  simp
theorem split_eq (h t : PySem.Str) (hno : ∀ c ∈ h.cps.toList, c ≠ 61) : Txt.splitMax (h ++ "=" ++ t) "=" 1 = [h, t] := by
  have e : (h ++ "=" ++ t).cps.toList = h.cps.toList ++ 61 :: t.cps.toList := by
    rw [app_cps, app_cps, show (Str.ofString "=").cps.toList = [61] by rw [eq_cps]]; simp
  have hl : (h ++ "=" ++ t).length = h.length + 1 + t.length := by
    show (h ++ "=" ++ t).cps.size = _
    rw [← Array.length_toList, e]; simp [Str.length]; omega
  generalize h ++ "=" ++ t = x at *
  have hm : StrLaws.At x "=" x.length h.length := by
    refine ⟨by rw [hl]; show _ + (Str.ofString "=").cps.size ≤ _; rw [eq_cps]; show _ + 1 ≤ _; omega, ?_⟩
    rw [subAt_eq, e]
    simp [Str.length]
  have hb : ∀ k, k < h.length → ¬ StrLaws.At x "=" x.length k := fun k hk ⟨_, hs⟩ => by
    rw [subAt_eq, e] at hs
    have hk' : k < h.cps.toList.length := by simpa [Str.length] using hk
    rw [List.drop_append_of_le_length (Nat.le_of_lt hk'), List.drop_eq_getElem_cons hk'] at hs
    simp only [List.cons_append, List.take_succ_cons, List.take_zero] at hs
    exact hno _ (List.getElem_mem hk') (by simpa using hs)
  have ho : Builtin.Str.occurrences x "=" 0 x.length 1 = [h.length] := by
    rcases PySem.StrLaws.occ_head x "=" 1 (Nat.le_refl _) with ⟨h0, hn⟩ | ⟨i, r, h0, ha, hn⟩
    · exact absurd hm (hn _)
    · have h1 := PySem.StrLaws.occ_length_le x "=" 0 x.length 1
      rw [h0] at h1 ⊢
      have : r = [] := by cases r <;> simp_all
      subst this
      rcases Nat.lt_trichotomy i h.length with z | z | z
      · exact absurd ha (hb i z)
      · rw [z]
      · exact absurd hm (hn _ z)
  have e1 : (Str.ofString "=").length = 1 := by show (Str.ofString "=").cps.size = 1; rw [eq_cps]; rfl
  unfold Txt.splitMax
  rw [show limitOf x 1 = 1 from rfl, ho, e1]
  have hk : Builtin.Str.strKind (Str.ofString "=") = 1 := by decide +kernel
  have hp := strKind_pos x
  rw [if_neg (by simp [hk]; omega), if_neg (by simp)]
  show [Builtin.Str.strSub x 0 h.length, Builtin.Str.strSub x (h.length + 1) x.length] = _
  have sub : ∀ (i j : Nat) (y : PySem.Str), ((x.cps.toList.drop i).take (j - i)) = y.cps.toList → Builtin.Str.strSub x i j = y := fun i j y hy => by
    obtain ⟨yc⟩ := y
    unfold Builtin.Str.strSub
    congr 1
    apply Array.ext'
    rw [← hy]
    simp [Array.toList_extract, List.extract_eq_take_drop]
  rw [sub 0 h.length h (by rw [e]; simp [Str.length]), sub (h.length + 1) x.length t (by rw [e, hl]; simp only [Str.length, List.drop_append]; simp; rw [List.drop_of_length_le (by simp), List.nil_append, List.take_of_length_le (by simp)])]
theorem split_no (h : PySem.Str) (hno : ∀ c ∈ h.cps.toList, c ≠ 61) : Txt.splitMax h "=" 1 = [h] := by
  have hb : ∀ k, ¬ StrLaws.At h "=" h.length k := fun k ⟨hle, hs⟩ => by
    rw [subAt_eq] at hs
    cases hd : h.cps.toList.drop k with
    | nil => rw [hd] at hs; simp at hs
    | cons c r =>
      rw [hd] at hs
      have hc : c ∈ h.cps.toList := List.mem_of_mem_drop (i := k) (by rw [hd]; exact .head _)
      exact hno c hc (by simpa using hs)
  have ho : Builtin.Str.occurrences h "=" 0 h.length 1 = [] := by
    rcases PySem.StrLaws.occ_head h "=" 1 (Nat.le_refl _) with ⟨h0, hn⟩ | ⟨i, r, h0, ha, hn⟩
    · exact h0
    · exact absurd ha (hb i)
  unfold Txt.splitMax
  rw [show limitOf h 1 = 1 from rfl, ho]
  simp
def headS (a b : Bl) (x : Nm) : PySem.Str := bl a ++ nm x ++ bl b
def tailS (a b : Bl) (x : Vl) : PySem.Str := bl a ++ vl x ++ bl b
theorem head_no : ∀ (a b : Bl) (x : Nm), ((headS a b x).cps.toList.all fun c => c != 61) = true := by decide +kernel
theorem head_strip : ∀ (a b : Bl) (x : Nm), (Txt.strip (headS a b x) == nm x) = true := by decide +kernel
theorem tail_strip : ∀ (a b : Bl) (x : Vl), (Txt.strip (tailS a b x) == vl x) = true := by decide +kernel
theorem head_len : ∀ (a b : Bl) (x : Nm), (headS a b x).length ≤ 15 := by decide +kernel
theorem tail_len : ∀ (a b : Bl) (x : Vl), (tailS a b x).length ≤ 15 := by decide +kernel
theorem str_assoc (a b c : PySem.Str) : a ++ b ++ c = a ++ (b ++ c) := by
  obtain ⟨a⟩ := a; obtain ⟨b⟩ := b; obtain ⟨c⟩ := c
  show PySem.Str.mk ((a ++ b) ++ c) = PySem.Str.mk (a ++ (b ++ c))
  rw [Array.append_assoc]
theorem head_ne (a b : Bl) (x : Nm) : ∀ c ∈ (headS a b x).cps.toList, c ≠ 61 := fun c hc => by
  have := List.all_eq_true.mp (head_no a b x) c hc
  simpa using this
/-- what the two parts of a line are -/
theorem line_none {x turn : Int} (h : rowI x = none) : lineI x turn = headS (bI (pickI x turn)) (bI ((pickI x turn).fdiv 4)) (nI x) := by
  unfold lineI
  rw [h]; rfl
theorem line_some {x turn : Int} {r : Row} (h : rowI x = some r) : ∃ a b c d, lineI x turn = headS a b r.1 ++ "=" ++ tailS c d r.2 := by
  have hr : r.1 = nI x := by
    unfold rowI at h
    split at h
    · cases h
    · cases h; rfl
  refine ⟨bI (pickI x turn), bI ((pickI x turn).fdiv 4), bI ((pickI x turn).fdiv 16), bI ((pickI x turn).fdiv 64), ?_⟩
  unfold lineI
  rw [h]
  show headI x turn ++ "=" ++ bl _ ++ vl _ ++ bl _ = headS _ _ _ ++ "=" ++ tailS _ _ _
  rw [str_assoc (headI x turn ++ "=") (bl _) (vl _), str_assoc (headI x turn ++ "=") _ (bl _), hr]
  rfl
end

section
open PySem PySem.W PySem.Spec PySem.Calls PyProof.Rows PySem.SeqAt Builtin Builtin.ObjectAttr

section
variable {α : Type} {C : Cx} {m : Loc} {σ : Led} {env : Env} {n : Nat}
theorem fc_strip (w : World) : findCls (KK w) (.type "str") (.type "type") (PySem.Str.ofString "strip") = some (.val (.builtin "str.strip")) := by kernel_rfl
theorem fc_parse (w : World) : findCls (KK w) (.ref 210) (.type "type") (PySem.Str.ofString "parse") = some (.get (.builtin "classmethod.__get__") (.ref 206) .none (.ref 210)) := by kernel_rfl
theorem keep_pair (w : World) : keepIn (KK w) (.ref 210) = true := by kernel_rfl
theorem rc_parse (w : World) : recIn (KK w) 206 "classmethod" = some (.ref 204 :: [.bool false]) := by kernel_rfl
theorem rd_pair (w : World) : readsIn (KK w) 210 (.type "type") = true := by kernel_rfl
theorem gl_pair (w : World) : nsIn (KK w) mainGlobals "Pair" = some (some (.ref 210)) := by kernel_rfl
theorem type_str : typeOf (.type "str") = pure (.type "type") := by first | rfl | kernel_rfl
theorem sub_type (w : World) : subIn (KK w) (.type "type") (.type "type") = some true := by kernel_rfl
theorem tga_find (w : World) : findIn (KK w) (.type "type") "__getattribute__" = some (some (.builtin "type.__getattribute__")) := by kernel_rfl
theorem ev_Attribute {value : Expr} {attr : PySem.Str} {pos : Pos} {Q : Value → Loc → Led → Prop} (H : Ev C (attributeBase value attr env (eval value env)) m σ fun o m' σ' => Ev C (getAttr o attr true) m' σ' Q) : Ev C (eval (.Attribute value attr pos) env) m σ Q := by
  rw [arm_eval_Attribute]
  refine Ev.bind (fun E h tk I => H.of I fun o h' tk' m' σ' I' q => Ends.intro I' ?_)
  intro E h tk I
  exact wpAny_bind (wpAny_standAt (wpAny_bind (wpAny_holding (q.of I fun r _ _ _ _ I' q => wpAny_bind (wpAny_letTemporaryGo (wpAny_pure (Ends.intro I' q)))))))
theorem ev_strStrip {Q : Value → Loc → Led → Prop} (G : Gd n C env) (q : Q (.builtin "str.strip") m σ) : Ev C (getAttr (.type "str") "strip" true) m σ Q := fun E h tk I => by
  have X := G.X.keeps I.keep
  have hstub : opaqueClassAbove (.type "str") = pure none := by unfold opaqueClassAbove; dsimp only; rw [show Manifest.isStub "str" = false by decide +kernel]; rfl
  refine cls_open (s := C.sh h tk) X (Looks.of_pure hstub) (Looks.of_pure type_str) (tga_find _) (looks_hook X (r := none) (by rfl)) (sub_type _) (fc_strip _) ?_
  refine wpAny_pure ?_
  exact handed_on (by kernel_rfl) (Ends.intro (C := C) (tk := tk + 1) I q)
theorem ev_strSplit {x : PySem.Str} {t : Tok} {pl : Sem Bool} {Q : Value × List Value → Loc → Led → Prop} (q : Q (.builtin "str.split", [.str x t]) m σ) : Ev C (getMethod (.str x t) "split" pl) m σ Q := fun E h tk I => GM.split (Ends.intro (C := C) I q)
theorem ev_split {x y : PySem.Str} {k : Int} {t u v : Tok} {Q : Value → Loc → Led → Prop} (hy : (y.length == 0) = false) (hk : (decide (k < -(2 ^ 63 : Int)) || decide (k ≥ 2 ^ 63)) = false) (hsz : x.length + 2 ≤ sizeLine)
    (q : ∀ l L, l.map (·.1) = Txt.splitMax x y k → Q (.ref L) m ((L, lstOf (strValues l) 0) :: σ)) : Ev C (call (.builtin "str.split") [.str x t, .str y u, .int k v]) m σ Q := fun E h tk I => by
  obtain ⟨g, b, tn, J⟩ := I.x
  refine splitN2A (hsz := hsz) J.F J.N hy hk fun l h' tk' e _ _ _ F' N' => ?_
  refine Ends.intro (C := C) (tk := tk') ⟨⟨g, b, tn, F', N', ?_⟩⟩ (q l _ e)
  rw [List.map_cons, List.nodup_cons]
  refine ⟨fun hm => ?_, J.D⟩
  obtain ⟨p, hp, e⟩ := List.mem_map.mp hm
  have := I.lt p hp
  rw [e] at this
  exact absurd this (Nat.lt_irrefl _)
end
end

section
open PySem PySem.W PySem.Spec PySem.Calls PyProof.Rows PySem.SeqAt Builtin Builtin.ObjectAttr

section
variable {α : Type} {C : Cx} {m : Loc} {σ : Led} {env : Env} {n : Nat}
theorem mro_map : mroOf (.type "map") = pure [.type "map", .type "object"] := by rw [mroOf_type]; kernel_rfl
theorem lookup_map_new : typeLookup (.type "map") "__new__" = pure (some (.builtin "map.__new__")) := by rw [typeLookup_type, builtinLookup_eq_fast]; kernel_rfl
theorem slot_map_init : Slot "map" "__init__" "object.__init__" :=
  .of (owner := "object") (n := "__init__") (by rw [typeLookup_type, builtinLookup_eq_fast]; kernel_rfl) (by decide +kernel) (by decide +kernel) (by decide +kernel)
    (by first | exact .inl (by decide +kernel) | exact .inr (by decide +kernel)) (by rw [isSubtype_type]; kernel_rfl)
theorem called_map : TypeCalled "map" "map.__new__" "object.__init__" :=
  ⟨by decide +kernel, by decide +kernel, ⟨_, _, mro_map⟩, madeBy_type mro_map lookup_map_new (by decide +kernel), by decide +kernel, by rw [isSubtype_type]; kernel_rfl, slot_map_init⟩
theorem typeCall_map_2 (a b : Value) : checkTypeCall "map" ⟨[a, b], []⟩ = pure () := by kernel_rfl
theorem newCall_map_2 (a b : Value) : checkBuiltinCall "map.__new__" ⟨[.type "map", a, b], []⟩ = pure () := by kernel_rfl
theorem entry_map_new : entryFor table "map.__new__" = some Builtin.«map.__new__» := entryFor_of_tree (by kernel_rfl)
theorem plain_map_new : plainId "map.__new__" = true := by decide +kernel
theorem sub_map : isSubtype (.type "map") (.type "map") = pure true := by rw [isSubtype_type]; kernel_rfl
abbrev mapOf (t : Addr) (f : Value) : Obj := { cls := .type "map", data := .fields #[.ref t, f] }
theorem at_pyIter {M : Model} {A : Around} {a : Value} {Q : Value → Shared → Prop} {E : Value → Shared → Prop} {s : Shared} (h : wpAny M A (pyIter a) Q E s) : wpAny M A (pyIter a) Q E s := h
theorem ev_map {f : Value} {L : Addr} {its : Array Value} {Q : Value → Loc → Led → Prop} (hl : LAt C σ L its)
    (q : ∀ i t M, Q (.ref M) m ((M, mapOf t f) :: (t, tupOf #[.ref i]) :: (i, itOf L 0) :: σ)) : Ev C (call (.type "map") [f, .ref L]) m σ Q := fun E h tk I => by
  refine callType_codes (Q₁ := fun obj s₁ => ∃ h' tk' i t M, obj = .ref M ∧ s₁ = C.sh h' tk' ∧ Inv C h' m ((M, mapOf t f) :: (t, tupOf #[.ref i]) :: (i, itOf L 0) :: σ)) called_map (typeCall_map_2 _ _) PySem.F.entry_object_init ?_ ?_
  · refine codeAny_of_tree ?_
    show wpAny _ C.A.in1.in1 (do checkBuiltinCall "map.__new__" ⟨[.type "map", f, .ref L], []⟩; again (.builtin "map.__new__" ⟨[.type "map", f, .ref L], []⟩)) _ _ _
    refine wpAny_bind (wpAny_of_eq (newCall_map_2 _ _) (wpAny_pure ⟨plainId_quiet plain_map_new _, codeAny_builtin entry_map_new ?_⟩))
    rw [Around.under_plainId plain_map_new _]
    unfold Builtin.«map.__new__» SmallTypes.newClass SmallTypes.refuseKeywords SmallTypes.iterAll SmallTypes.newRecord isType
    have t1 : Looks C.M h (isSubtype (.type "map") (.type "map")) true := Looks.of_pure sub_map
    have t2 : Looks C.M h (isInstance (.type "map") (.type "type")) true := Looks.of_pure (by kernel_rfl)
    repeat ((fail_if_success (with_reducible refine at_pyIter ?_)); lk)
    have hl' : LAt (C.in C.A.in1.in1) σ L its := fun H m' I' => hl H m' I'.back
    refine (ev_iterList (C := C.in C.A.in1.in1) (Q := fun r m' σ' => ∃ i, r = .ref i ∧ m' = m ∧ σ' = (i, itOf L 0) :: σ) hl' fun i => ⟨i, rfl, rfl, rfl⟩).of I.into fun r h' tk' m' σ' J q' => ?_
    obtain ⟨i, rfl, rfl, rfl⟩ := q'
    have J := J.back
    repeat ((fail_if_success (with_reducible refine at_newTuple ?_)); lk)
    refine wpAny_newTuple (hsz := by show 1 ≤ sizeLine; decide) ?_
    have J₁ := J.push { cls := .type "tuple", data := .seq #[.ref i] } rfl
    show wpAny _ _ _ _ _ (C.sh (h'.push { cls := .type "tuple", data := .seq #[.ref i] }) tk')
    generalize h'.objs.size = t at *
    generalize h'.push { cls := .type "tuple", data := .seq #[.ref i] } = h₁ at *
    repeat lk
    exact ⟨_, _, _, _, _, rfl, rfl, J₁.push _ rfl⟩
  · rintro obj s₁ ⟨h', tk', i, t, M, rfl, rfl, J⟩
    have hT : (C.sh h' tk').TypeIs (.ref M) "map" := ⟨_, J.get (.head _), rfl⟩
    refine ⟨hT, PySem.F.args_object_init_3 _ _ _, ?_⟩
    unfold Builtin.«object.__init__»
    have t1 : Looks C.M h' (typeOf (.ref M)) (.type "map") := (Looks.ld (J.get (.head _))).andThen .now
    have t2 : Looks C.M h' (typeLookup (.type "map") "__init__") (some (.builtin "object.__init__")) := Looks.of_pure slot_map_init.lookup
    have t3 : Looks C.M h' (Bind.madeBy (.type "map")) (some "map.__new__") := Looks.of_pure called_map.made
    repeat lk
    exact ⟨rfl, Ends.intro (C := C) J (q i t M)⟩
end
end

section
open PySem PySem.W PySem.Spec PySem.Calls PyProof.Rows PySem.SeqAt Builtin Builtin.ObjectAttr

section
variable {α : Type} {C : Cx} {m : Loc} {σ : Led} {env : Env} {n : Nat}
theorem slot_map_next : Slot "map" "__next__" "map.__next__" :=
  .of (owner := "map") (n := "__next__") (by rw [typeLookup_type, builtinLookup_eq_fast]; kernel_rfl) (by decide +kernel) (by decide +kernel) (by decide +kernel)
    (by first | exact .inl (by decide +kernel) | exact .inr (by decide +kernel)) (by rw [isSubtype_type]; kernel_rfl)
theorem slot_map_iter : Slot "map" "__iter__" "map.__iter__" :=
  .of (owner := "map") (n := "__iter__") (by rw [typeLookup_type, builtinLookup_eq_fast]; kernel_rfl) (by decide +kernel) (by decide +kernel) (by decide +kernel)
    (by first | exact .inl (by decide +kernel) | exact .inr (by decide +kernel)) (by rw [isSubtype_type]; kernel_rfl)
theorem entry_map_next : entryFor table "map.__next__" = some Builtin.«map.__next__» := entryFor_of_tree (by kernel_rfl)
theorem args_map_next (a : Value) : argsOk "map.__next__" ⟨[a], []⟩ := by unfold argsOk; kernel_rfl
theorem args_map_iter (a : Value) : argsOk "map.__iter__" ⟨[a], []⟩ := by unfold argsOk; kernel_rfl
theorem entry_map_iter : entryFor table "map.__iter__" = some Builtin.«dict_keyiterator.__iter__» :=
  entryFor_alias (id' := "dict_keyiterator.__iter__") (by kernel_rfl) (by first | rfl | decide +kernel) (by decide +kernel) (by kernel_rfl)
theorem at_strip {M : Model} {A : Around} {a : Value} {vs : List Value} {Q : Value → Shared → Prop} {E : Value → Shared → Prop} {s : Shared} (h : wpAny M A (call a vs) Q E s) : wpAny M A (call a vs) Q E s := h
theorem at_nextOf {M : Model} {A : Around} {a : Value} {Q : Value → Shared → Prop} {E : Value → Shared → Prop} {s : Shared} (h : wpAny M A (SmallTypes.nextOf a) Q E s) : wpAny M A (SmallTypes.nextOf a) Q E s := h
theorem ev_nextOfList {l a : Addr} {i : Nat} {its : Array Value} {x : Value} {Q : Value → Loc → Led → Prop} (hl : LAt C ((a, itOf l i) :: σ) l its) (hx : its[i]? = some x) (q : Q x m ((a, itOf l (i + 1)) :: σ)) :
    Ev C (SmallTypes.nextOf (.ref a)) m ((a, itOf l i) :: σ) Q := fun _ h tk I => by
  have ho := I.get (.head _)
  have hit : h.IsListIter a l i := ⟨_, ho, rfl, rfl⟩
  unfold SmallTypes.nextOf
  refine wpAny_bind (wpAny_callSpecial?_slot (name := Str.ofString "__next__") hit.typeIs slot_listiter_next
    (wpAny_call_entry slot_listiter_next hit.typeIs entry_listiter_next ?_ (args_listiter_next _)))
  obtain ⟨ol, hol, _, nl, hdl⟩ := hl h m I
  show wpAny _ _ (field (.ref a) 0 >>= _) _ _ _
  refine wpAny_bind (wpAny_field ho rfl (x := .ref l) rfl ?_)
  show wpAny _ _ (if (Value.ref l == Value.none) = true then _ else _) _ _ _
  rw [if_neg (show ¬ ((Value.ref l == Value.none) = true) from Bool.false_ne_true)]
  show wpAny _ _ (field (.ref a) 1 >>= _) _ _ _
  refine wpAny_bind (wpAny_field ho rfl (x := .int i 0) rfl ?_)
  show wpAny _ _ (seqItems? (.ref l) >>= _) _ _ _
  refine wpAny_bind (wpAny_seqItems hol hdl ?_)
  simp only [Int.toNat_natCast, hx]
  refine wpAny_bind (wpAny_setField ho rfl (by simp) (wpAny_pure ⟨x, rfl, wpAny_pure ?_⟩))
  exact Ends.intro (C := C) (I.update (Obj.mapFields fun vs => vs.setIfInBounds 1 (rawInt (i + 1 : Int))) rfl) q
theorem ev_nextMap {l i t M : Addr} {k : Nat} {its : Array Value} {x : PySem.Str} {u : Tok} {Q : Option Value → Loc → Led → Prop} (hM : (M, mapOf t (.builtin "str.strip")) ∈ σ) (ht : (t, tupOf #[.ref i]) ∈ σ) (hl : LAt C ((i, itOf l k) :: σ) l its) (hx : its[k]? = some (.str x u)) (hsz : x.length ≤ sizeLine)
    (q : ∀ u, Q (some (.str (Txt.strip x) u)) m ((i, itOf l (k + 1)) :: σ)) : Ev C (pyNext (.ref M)) m ((i, itOf l k) :: σ) Q := fun E h tk I => by
  have hm := I.get (.tail _ hM)
  have hT := I.get (.tail _ ht)
  have hTy : (C.sh h tk).TypeIs (.ref M) "map" := ⟨_, hm, rfl⟩
  unfold pyNext
  refine wpAny_bind (wpAny_attempt (wpAny_callSpecial?_slot (name := Str.ofString "__next__") hTy slot_map_next
    (wpAny_call_entry slot_map_next hTy entry_map_next ?_ (args_map_next _))))
  have f0 : Looks C.M h (field (.ref M) 0) (.ref t) := looks_field hm 0 (v := .ref t) rfl
  have s0 : Looks C.M h (seqItems? (.ref t)) (some #[.ref i]) := fun A Q E s k q => wpAny_seqItems (k _ _ hT) rfl q
  unfold Builtin.«map.__next__»
  repeat ((fail_if_success (with_reducible refine at_nextOf ?_)); lk)
  refine (ev_nextOfList (C := C.in C.A.in1) (Q := fun r m' σ' => r = .str x u ∧ m' = m ∧ σ' = (i, itOf l (k + 1)) :: σ) (fun H m' I' => hl H m' I'.back) hx ⟨rfl, rfl, rfl⟩).of I.into fun r h' tk' m' σ' J q' => ?_
  obtain ⟨rfl, rfl, rfl⟩ := q'
  have J := J.back
  have hm' := J.get (.tail _ hM)
  have f1 : Looks C.M h' (field (.ref M) 1) (.builtin "str.strip") := looks_field hm' 1 (v := .builtin "str.strip") rfl
  repeat ((fail_if_success (with_reducible refine at_strip ?_)); lk)
  refine SC.strip (fun t' k' => ?_) hsz
  repeat lk
  exact ⟨_, rfl, wpAny_pure (Ends.intro (C := C) (tk := k') J (q _))⟩
theorem ev_nextMapEnd {l i t M : Addr} {k : Nat} {its : Array Value} {f : Value} {Q : Option Value → Loc → Led → Prop} (hh : C.A.handled = none) (hM : (M, mapOf t f) ∈ σ) (ht : (t, tupOf #[.ref i]) ∈ σ) (hl : LAt C ((i, itOf l k) :: σ) l its) (hx : its[k]? = none)
    (q : Q none m σ) : Ev C (pyNext (.ref M)) m ((i, itOf l k) :: σ) Q := fun E h tk I => by
  have hm := I.get (.tail _ hM)
  have hT := I.get (.tail _ ht)
  have hTy : (C.sh h tk).TypeIs (.ref M) "map" := ⟨_, hm, rfl⟩
  unfold pyNext
  refine wpAny_bind (wpAny_attempt (wpAny_callSpecial?_slot (name := Str.ofString "__next__") hTy slot_map_next
    (wpAny_call_entry slot_map_next hTy entry_map_next ?_ (args_map_next _))))
  have f0 : Looks C.M h (field (.ref M) 0) (.ref t) := looks_field hm 0 (v := .ref t) rfl
  have s0 : Looks C.M h (seqItems? (.ref t)) (some #[.ref i]) := fun A Q E s k q => wpAny_seqItems (k _ _ hT) rfl q
  unfold Builtin.«map.__next__»
  repeat ((fail_if_success (with_reducible refine at_nextOf ?_)); lk)
  refine wpAny_nextOf_list_end (A := C.A.in1) hh ⟨_, I.get (.head _), rfl, rfl⟩ (hl h m I) hx fun h' e he hs => ?_
  obtain ⟨o, ho, hc⟩ := hs
  refine wpAny_bind (wpAny_isInstance (T := "StopIteration") (b := true) ⟨o, ho, hc⟩ isSubtype_stop ?_)
  exact wpAny_pure (Ends.intro (C := C) (tk := tk) (I.dropHead he) q)
theorem ev_iterMap {M t : Addr} {f : Value} {Q : Value → Loc → Led → Prop} (hM : (M, mapOf t f) ∈ σ) (q : Q (.ref M) m σ) : Ev C (pyIter (.ref M)) m σ Q := fun E h tk I => by
  have hm := I.get hM
  have hT : (C.sh h tk).TypeIs (.ref M) "map" := ⟨_, hm, rfl⟩
  refine wpAny_pyIter_slot hT slot_map_iter (wpAny_call_entry slot_map_iter hT entry_map_iter ?_ (args_map_iter _))
  show wpAny _ _ (ret (.ref M)) _ _ _
  exact wpAny_pure ⟨_, rfl, "map", _, hT, slot_map_next.lookup, Ends.intro (C := C) I q⟩
end
end

section
open PySem PySem.W PySem.Spec PySem.Calls PyProof.Rows PySem.SeqAt Builtin Builtin.ObjectAttr

section
variable {α : Type} {C : Cx} {m : Loc} {σ : Led} {env : Env} {n : Nat}
inductive Strips : List Value → List PySem.Str → Prop
  | nil : Strips [] []
  | cons {x : PySem.Str} {u : Tok} {vs : List Value} {xs : List PySem.Str} : Strips vs xs → Strips (.str (Txt.strip x) u :: vs) (x :: xs)
theorem Strips.snoc {vs : List Value} {xs : List PySem.Str} (h : Strips vs xs) (x : PySem.Str) (u : Tok) : Strips (vs ++ [.str (Txt.strip x) u]) (xs ++ [x]) := by
  induction h with
  | nil => exact .cons .nil
  | cons _ ih => exact .cons ih
theorem Strips.len {vs : List Value} {xs : List PySem.Str} (h : Strips vs xs) : vs.length = xs.length := by
  induction h with
  | nil => rfl
  | cons _ ih => simp [ih]
theorem map_loop {S M t i L : Addr} {l : List (PySem.Str × Tok)} {k₀ : Nat} {res : Value} {R : Result → Shared → Prop} (hh : C.A.handled = none) (hM : (M, mapOf t (.builtin "str.strip")) ∈ σ) (ht : (t, tupOf #[.ref i]) ∈ σ) (hL : (L, lstOf (strValues l) k₀) ∈ σ) (hsz : l.length ≤ 1000) (hx : ∀ p ∈ l, p.1.length ≤ sizeLine)
    (hR : ∀ h' tk' vs c, Inv C h' m ((S, lstOf vs c) :: σ) → Strips vs (l.map (·.1)) → R (.ok (.ret res)) (C.sh h' tk')) :
    ∀ (r j : Nat) (vs : List Value) (c : Nat) (h : Heap) (tk : Nat), l.length - j = r → j ≤ l.length → Strips vs ((l.map (·.1)).take j) →
      Inv C h m ((i, itOf L j) :: (S, lstOf vs c) :: σ) → codeAny C.M C.A (.builtin "list.extend.loop" ⟨[.ref S, .ref M, res], []⟩) R (C.sh h tk) := by
  have hl : ∀ (C' : Cx) (σ' : Led), (∀ p ∈ σ, p ∈ σ') → LAt C' σ' L (strValues l).toArray := fun C' σ' hs => LAt.led (k := k₀) (hs _ hL)
  intro r
  induction r with
  | zero =>
    intro j vs c h tk hr hj hp J
    have hje : j = l.length := by omega
    refine codeAny_builtin PySem.F.entry_extend_loop ?_
    rw [Around.under_plainId PySem.F.plain_extend_loop _]
    show wpAny _ C.A.in1 (pyNext (.ref M) >>= _) _ _ _
    refine wpAny_bind ((ev_nextMapEnd (C := C.in C.A.in1) (Q := fun r m' σ' => r = none ∧ m' = m ∧ σ' = (S, lstOf vs c) :: σ) hh (.tail _ hM) (.tail _ ht) (hl _ _ fun p hp => .tail _ (.tail _ hp)) (by simp [strValues, hje]) ⟨rfl, rfl, rfl⟩).of J.into fun v h' tk' m' σ' J' q => ?_)
    obtain ⟨rfl, rfl, rfl⟩ := q
    refine wpAny_pure (hR h' tk' vs c J'.back ?_)
    rwa [hje, List.take_of_length_le (by simp)] at hp
  | succ r ih =>
    intro j vs c h tk hr hj hp J
    have hlt : j < l.length := by omega
    have hvs : vs.length = j := by rw [hp.len, List.length_take]; simp; omega
    refine codeAny_builtin PySem.F.entry_extend_loop ?_
    rw [Around.under_plainId PySem.F.plain_extend_loop _]
    show wpAny _ C.A.in1 (pyNext (.ref M) >>= _) _ _ _
    refine wpAny_bind ((ev_nextMap (C := C.in C.A.in1) (x := l[j].1) (u := l[j].2) (Q := fun r m' σ' => ∃ u, r = some (.str (Txt.strip l[j].1) u) ∧ m' = m ∧ σ' = (i, itOf L (j + 1)) :: (S, lstOf vs c) :: σ)
      (.tail _ hM) (.tail _ ht) (hl _ _ fun p hp => .tail _ (.tail _ hp)) (by simp [strValues, hlt]) (hx _ (List.getElem_mem hlt)) fun u => ⟨u, rfl, rfl, rfl⟩).of J.into fun v h' tk' m' σ' J' q => ?_)
    obtain ⟨u, rfl, rfl, rfl⟩ := q
    have J₂ := J'.back.perm pb1
    show wpAny _ C.A.in1 (updateSeq S (·.push (Value.str (Txt.strip l[j].1) u)) >>= _) _ _ _
    refine wpAny_bind (wpAny_updateSeq (J₂.get (.head _)) rfl (wpAny_pure ⟨plainId_quiet PySem.F.plain_extend_loop _, ?_⟩) (by simp [hvs]; rw [sizeLine_eq]; omega) (by simp [hvs]; rw [sizeLine_eq]; omega))
    have J₃ := J₂.update (Obj.mapSeq (·.push (Value.str (Txt.strip l[j].1) u))) rfl
    obtain ⟨c', ec⟩ := mapSeq_lst (·.push (Value.str (Txt.strip l[j].1) u)) vs.toArray c
    rw [show (lstOf vs c) = PySem.W.listOf vs.toArray c from rfl, ec, show vs.toArray.push (Value.str (Txt.strip l[j].1) u) = (vs ++ [Value.str (Txt.strip l[j].1) u]).toArray by simp] at J₃
    refine ih (j + 1) (vs ++ [.str (Txt.strip l[j].1) u]) c' _ tk' (by omega) (by omega) ?_ (J₃.perm pb1)
    rw [List.take_succ_eq_append_getElem (by simpa using hlt), List.getElem_map]
    exact hp.snoc _ _
theorem map_len : typeLookup (.type "map") "__len__" = pure none := by rw [typeLookup_type, builtinLookup_eq_fast]; kernel_rfl
theorem map_hint : typeLookup (.type "map") "__length_hint__" = pure none := by rw [typeLookup_type, builtinLookup_eq_fast]; kernel_rfl
theorem ev_collectMap {M t i L : Addr} {l : List (PySem.Str × Tok)} {k₀ : Nat} {Q : List Value → Loc → Led → Prop} (hh : C.A.handled = none) (hM : (M, mapOf t (.builtin "str.strip")) ∈ σ) (ht : (t, tupOf #[.ref i]) ∈ σ) (hL : (L, lstOf (strValues l) k₀) ∈ σ) (hsz : l.length ≤ 1000) (hx : ∀ p ∈ l, p.1.length ≤ sizeLine)
    (q : ∀ vs, Strips vs (l.map (·.1)) → Q vs m σ) : Ev C (collect (.ref M)) m ((i, itOf L 0) :: σ) Q := fun E h tk I => by
  unfold collect
  refine wpAny_bind (wpAny_runValue (codeAny_builtin entry_proto_collect' ?_))
  rw [Around.under_plainId PySem.F.plain_proto_collect _]
  show wpAny _ C.A.in1 (newList [] >>= fun l => again (.builtin "list.__iadd__" ⟨[l, .ref M], []⟩)) _ _ _
  refine wpAny_bind (wpAny_newObj_type ?_)
  refine wpAny_pure ⟨plainId_quiet PySem.F.plain_list_iadd _, codeAny_builtin entry_list_iadd' ?_⟩
  rw [Around.under_plainId PySem.F.plain_list_iadd _]
  have J := I.push { cls := .type "list", data := .seq #[] } rfl
  show wpAny _ C.A.in1 (Builtin.List.listExtendWith (.ref h.objs.size) (.ref M) (.ref h.objs.size)) _ _ (C.sh (h.push { cls := .type "list", data := .seq #[] }) tk)
  generalize h.objs.size = S at *
  generalize h.push { cls := .type "list", data := .seq #[] } = h₁ at *
  have hm := J.get (.tail _ (.tail _ hM))
  have hSM : S ≠ M := fun e => J.ne_head _ (.tail _ hM) e.symm
  have t1 : Looks C.M h₁ (typeOf (.ref M)) (.type "map") := (Looks.ld hm).andThen .now
  have t2 : Looks C.M h₁ (typeLookup (.type "map") "__len__") none := Looks.of_pure map_len
  have t3 : Looks C.M h₁ (typeLookup (.type "map") "__length_hint__") none := Looks.of_pure map_hint
  unfold List.listExtendWith
  refine wpAny_bind (t1.here ?_)
  have e1 : List.listSameRef (.ref S) (.ref M) = false := by simp [List.listSameRef, hSM]
  simp only [e1, show (Value.type "map" == Value.type "list") = false by decide, show (Value.type "map" == Value.type "tuple") = false by decide, Bool.or_false, Bool.false_eq_true, if_false]
  refine wpAny_bind ((ev_iterMap (C := C.in C.A.in1) (Q := fun r m' σ' => r = .ref M ∧ m' = m ∧ σ' = (S, lstOf [] 0) :: (i, itOf L 0) :: σ) (.tail _ (.tail _ hM)) ⟨rfl, rfl, rfl⟩).of J.into fun r h' tk' m' σ' J' q => ?_)
  obtain ⟨rfl, rfl, rfl⟩ := q
  have K := J'.back
  have hm := K.get (.tail _ (.tail _ hM))
  have t1 : Looks C.M h' (typeOf (.ref M)) (.type "map") := (Looks.ld hm).andThen .now
  have t2 : Looks C.M h' (typeLookup (.type "map") "__len__") none := Looks.of_pure map_len
  have t3 : Looks C.M h' (typeLookup (.type "map") "__length_hint__") none := Looks.of_pure map_hint
  unfold List.listLengthHint
  repeat ((fail_if_success (with_reducible refine at_update ?_)); lk)
  obtain ⟨c₁, e₁⟩ := mapSeq_lst (·.push Value.none) #[] 0
  obtain ⟨c₂, e₂⟩ := mapSeq_lst (·.pop) #[.none] c₁
  refine wpAny_updateSeq (K.get (.head _)) rfl ?_
  have K₂ := K.update (Obj.mapSeq (·.push Value.none)) rfl
  show wpAny _ _ _ _ _ (C.sh (h'.update S (Obj.mapSeq (·.push Value.none))) tk')
  generalize h'.update S (Obj.mapSeq (·.push Value.none)) = h₂ at *
  repeat ((fail_if_success (with_reducible refine at_update ?_)); lk)
  refine wpAny_updateSeq (hz := by seq_fits) (K₂.get (.head _)) rfl ?_
  have K₃ := K₂.update (Obj.mapSeq (·.pop)) rfl
  rw [show lstOf [] 0 = PySem.W.listOf #[] 0 from rfl, e₁, show (#[] : Array Value).push .none = #[Value.none] from rfl, e₂] at K₃
  show wpAny _ _ _ _ _ (C.sh (h₂.update S (Obj.mapSeq (·.pop))) tk')
  generalize h₂.update S (Obj.mapSeq (·.pop)) = h₃ at *
  refine wpAny_pure ⟨plainId_quiet PySem.F.plain_extend_loop _, ?_⟩
  refine map_loop (C := C) (c := c₂) hh hM ht hL hsz hx (fun h₄ tk₄ vs c J₄ hp => ?_) l.length 0 [] h₃ tk' (by omega) (by omega) (by simpa using Strips.nil) (K₃.perm pb1)
  refine wpAny_bind (wpAny_load (J₄.get (.head _)) (wpAny_pure ?_))
  exact Ends.intro (C := C) (J₄.sub (List.sublist_cons_self _ _)) (by simpa using q vs hp)
end
end

section
open PySem PySem.W PySem.Spec PySem.Calls PyProof.Rows PySem.SeqAt Builtin Builtin.ObjectAttr

section
variable {α : Type} {C : Cx} {m : Loc} {σ : Led} {env : Env} {n : Nat}
theorem fc_new (w : World) : findCls (KK w) (.ref 210) (.type "type") (PySem.Str.ofString "__new__") = some (.get (.builtin "staticmethod.__get__") (.ref 188) .none (.ref 210)) := by kernel_rfl
theorem init_pair (w : World) : findIn (KK w) (.ref 210) "__init__" = some (some (.builtin "object.__init__")) := by kernel_rfl
theorem at_getAttr {M : Model} {A : Around} {a : Value} {x : PySem.Str} {b : Bool} {Q : Value → Shared → Prop} {E : Value → Shared → Prop} {s : Shared} (h : wpAny M A (getAttr a x b) Q E s) : wpAny M A (getAttr a x b) Q E s := h
theorem rc_new (w : World) : recIn (KK w) 188 "staticmethod" = some (.ref 137 :: []) := by kernel_rfl
theorem tc_args2 (a b c : Value) : argsOk "type.__call__" ⟨[a, b, c], []⟩ := by unfold argsOk; kernel_rfl
theorem tc_args1 (a b : Value) : argsOk "type.__call__" ⟨[a, b], []⟩ := by unfold argsOk; kernel_rfl
theorem oi_kind : builtinKind "object.__init__" = some .slot := by decide +kernel
theorem oi_split : splitId "object.__init__" = some ("object", "__init__") := by decide +kernel
theorem oi_plain : "object.__init__".startsWith "lifetime." = false := by decide +kernel
theorem pair_open {v₁ : Value} {vs : List Value} {E : Value → Shared → Prop} {R : Value → Shared → Prop} (G : Gd n C env) {h : Heap} {tk : Nat} (I : Inv C h m σ) (ha : argsOk "type.__call__" ⟨.ref 210 :: v₁ :: vs, []⟩) (ho : ∀ p, argsOk "object.__init__" ⟨[.ref p] ++ v₁ :: vs, []⟩)
    (H : ∀ tk, wpAny C.M (C.A.under (Code.builtin "type.__call__" ⟨.ref 210 :: v₁ :: vs, []⟩)) (call (.ref 137) (.ref 210 :: v₁ :: vs)) (fun v s' => ∃ h' tk' m' σ' p o, v = .ref p ∧ s' = C.sh h' tk' ∧ Inv C h' m' σ' ∧ (p, o) ∈ σ' ∧ o.cls = .ref 210 ∧ R (.ref p) s') E (C.sh h tk)) : wpAny C.M C.A (call (.ref 210) (v₁ :: vs)) R E (C.sh h tk) := by
  have X := G.X.keeps I.keep
  have hC := X 210 _ rfl
  have hcall : Looks C.M h (specialOf (.ref 210) "__call__") (some (.builtin "type.__call__")) := looks_specialIn X (by kernel_rfl)
  have htyp : Looks C.M h (isInstance (.ref 210) (.type "type")) true := looks_instIn X (by kernel_rfl)
  refine wpAny_call ?_
  refine codeAny_of_tree ?_
  show wpAny _ _ (callAny (.ref 210) _) _ _ _
  refine nd_load hC ?_
  show wpAny _ _ (callAny.viaDunder (.ref 210) _) _ _ _
  unfold callAny.viaDunder
  refine wpAny_bind (hcall.at ?_)
  dsimp only
  rw [tc_bind]
  refine wpAny_bind (wpAny_pure (wpAny_bind (wpAny_pure ?_)))
  refine wpAny_pure (a := Fin.again (.call (.builtin "type.__call__") ⟨.ref 210 :: v₁ :: vs, []⟩)) (And.intro rfl ?_)
  refine codeAny_call_builtin_at (Code.quiet_builtin _ (by decide +kernel)) entry_typeCall (check_slot tc_kind tc_split htyp ha ?_)
  unfold Builtin.«type.__call__»
  have hm : Looks C.M h (mroOf (.ref 210)) _ := ((Looks.ld (part := none) hC).andThen .now).andThen .now
  repeat ((fail_if_success (with_reducible refine at_getAttr ?_)); (first | with_reducible refine wpAny_call ?_ | lk))
  refine cls_bind (s := C.sh h tk) X (rd_pair _) (fc_new _) (wpAny_call (sm_get X (rc_new _) (handed_on (by kernel_rfl) ?_)))
  refine wpAny_bind (wpAny_holding (wpAny_mono (H _) (fun v s' z => ?_) fun _ _ e => e))
  obtain ⟨h', tk', m', σ', p, o, rfl, rfl, J, hp, hc, r⟩ := z
  have X' := G.X.keeps J.keep
  have hP := J.get hp
  have t1 : Looks C.M h' (typeOf (.ref p)) (.ref 210) := by
    have := (Looks.ld (M := C.M) (part := some headPart) hP).andThen (f := fun o => pure o.cls) .now
    rw [hc] at this
    exact this
  have t2 : Looks C.M h' (isSubtype (.ref 210) (.ref 210)) true := looks_subIn X' (by kernel_rfl)
  have t4 : Looks C.M h' (typeLookup (.ref 210) "__init__") (some (.builtin "object.__init__")) := looks_findIn X' (by kernel_rfl)
  repeat (first | with_reducible refine wpAny_call ?_ | lk)
  have hC' := X' 210 _ rfl
  have hm : Looks C.M h' (mroOf (.ref 210)) _ := ((Looks.ld (part := none) hC').andThen .now).andThen .now
  have t5 : Looks C.M h' (isSubtype (.ref 210) (.type "object")) true := looks_subIn X' (by kernel_rfl)
  refine call_slotB "object.__init__" "object" "__init__" oi_plain PySem.F.entry_object_init oi_kind oi_split (t1.andThen t5) (ho p) ?_
  unfold Builtin.«object.__init__»
  repeat lk
  exact r
end
end

section
open PySem PySem.W PySem.Spec PySem.Calls PyProof.Rows PySem.SeqAt Builtin Builtin.ObjectAttr

section
variable {α : Type} {C : Cx} {m : Loc} {σ : Led} {env : Env} {n : Nat}
theorem fc_tnew (w : World) : findCls (KK w) (.type "tuple") (.type "type") (PySem.Str.ofString "__new__") = some (.val (.builtin "tuple.__new__")) := by kernel_rfl
theorem type_tuple : typeOf (.type "tuple") = pure (.type "type") := by first | rfl | kernel_rfl
theorem special_tuple : specialOf (.type "tuple") "__getattribute__" = pure (some (.builtin "type.__getattribute__")) := by unfold specialOf; rw [type_tuple]; show typeLookup (.type "type") "__getattribute__" = _; rw [typeLookup_type, builtinLookup_eq_fast]; kernel_rfl
theorem ev_tupleNew {pl : Sem Bool} {Q : Value × List Value → Loc → Led → Prop} (G : Gd n C env) (q : Q (.builtin "tuple.__new__", []) m σ) : Ev C (getMethod (.type "tuple") "__new__" pl) m σ Q := fun E h tk I => by
  have X := G.X.keeps I.keep
  unfold getMethod
  refine wpAny_bind (wpAny_of_eq special_tuple ?_)
  dsimp only
  rw [if_pos canon_tga]
  have hstub : opaqueClassAbove (.type "tuple") = pure none := by unfold opaqueClassAbove; dsimp only; rw [show Manifest.isStub "tuple" = false by decide +kernel]; rfl
  refine wpAny_bind (cls_open (s := C.sh h tk) X (Looks.of_pure hstub) (Looks.of_pure type_tuple) (tga_find _) (looks_hook X (r := none) (by rfl)) (sub_type _) (fc_tnew _) ?_)
  refine wpAny_pure ?_
  refine handed_on (by kernel_rfl) ?_
  exact wpAny_pure (Ends.intro (C := C) (tk := tk + 1) I q)
abbrev pairObj (dx : Addr) (a b : Value) : Obj := { cls := .ref 210, dict := some dx, data := .seq #[a, b] }
theorem tn_entry : entryFor table "tuple.__new__" = some Builtin.«tuple.__new__» := entryFor_of_tree (by kernel_rfl)
theorem tn_plain : plainId "tuple.__new__" = true := by decide +kernel
theorem tn_quiet : Code.quiet (.builtin "tuple.__new__" ⟨[.ref 210, .ref 0], []⟩) = true := by decide +kernel
theorem at_collect {M : Model} {A : Around} {a : Value} {Q : List Value → Shared → Prop} {E : Value → Shared → Prop} {s : Shared} (h : wpAny M A (collect a) Q E s) : wpAny M A (collect a) Q E s := h
theorem tn_kind : builtinKind "tuple.__new__" = some .builtinFn := by decide +kernel
theorem tn_split : splitId "tuple.__new__" = some ("tuple", "__new__") := by decide +kernel
theorem mro_tup : mroOf (.type "tuple") = pure [.type "tuple", .type "object"] := by rw [mroOf_type]; kernel_rfl
theorem made_tuple : Bind.madeBy (.type "tuple") = pure (some "tuple.__new__") := madeBy_type mro_tup (by rw [typeLookup_type, builtinLookup_eq_fast]; kernel_rfl) (by decide +kernel)
theorem ev_makePair {t : Addr} {a b : Value} {Q : Value → Loc → Led → Prop} (G : Gd n C env) (ht : (t, tupOf #[a, b]) ∈ σ) (q : ∀ p dx, Q (.ref p) m ((p, pairObj dx a b) :: (dx, emptyDict) :: σ)) : Ev C (call (.builtin "tuple.__new__") [.ref 210, .ref t]) m σ Q := fun E h tk I => by
  have X := G.X.keeps I.keep
  have hC := X 210 _ rfl
  have t1 : Looks C.M h (isInstance (.ref 210) (.type "type")) true := looks_instIn X (by kernel_rfl)
  have t2 : Looks C.M h (isSubtype (.ref 210) (.type "tuple")) true := looks_subIn X (by kernel_rfl)
  have hm : Looks C.M h (mroOf (.ref 210)) _ := ((Looks.ld (part := none) hC).andThen .now).andThen .now
  have t3 : Looks C.M h (typeLookup (.ref 210) "__init__") (some (.builtin "object.__init__")) := looks_findIn X (by kernel_rfl)
  have t6 : Looks C.M h (Bind.madeBy (.type "tuple")) (some "tuple.__new__") := Looks.of_pure made_tuple
  have hC2 := X 187 _ rfl
  have hm2 : Looks C.M h (mroOf (.ref 187)) _ := ((Looks.ld (part := none) hC2).andThen .now).andThen .now
  refine wpAny_call ?_
  refine codeAny_call_builtin_at (Code.quiet_builtin _ (by decide +kernel)) tn_entry ?_
  simp only [checkBuiltinCall, tn_kind, tn_split]
  repeat ((fail_if_success (with_reducible refine at_collect ?_)); lk)
  refine wpAny_collect_seq t (.inr rfl) (I.get ht) rfl rfl (fun h' hk => ?_) (by show 2 ≤ sizeLine; decide)
  have J := I.kept hk
  show wpAny _ _ _ _ _ (C.sh h' tk)
  have J₂ := (J.push { cls := .type "dict", data := .dict #[] } rfl).push { cls := .ref 210, dict := some h'.objs.size, data := .seq #[a, b] } rfl
  have hC' := (G.X.keeps J₂.keep) 210 _ rfl
  repeat lk
  exact Ends.intro (C := C) J₂ (q _ _)
theorem gn_tuple (w : World) : nsIn (KK w) mainGlobals "tuple" = some none := by kernel_rfl
theorem new_ok {a b : Value} {Q : Value → Loc → Led → Prop} (G : Gd (n + 1) C env) (q : ∀ p dx t, Q (.ref p) m ((p, pairObj dx a b) :: (dx, emptyDict) :: (t, tupOf #[a, b]) :: σ)) : Ev C (call (.ref 137) [.ref 210, a, b]) m σ Q := by
  refine ev_def (binds := [(Str.ofString "_cls", .ref 210), (Str.ofString "name", a), (Str.ofString "value", b)]) G rfl (by kernel_rfl) (fun _ => BindsTo.of_eq rfl) (locs rfl) fun C' G' U => ?_
  refine ev_cons (ev_Expr (ev_str fun _ => ?_))
  refine ev_cons ?_
  refine ev_Return ?_
  refine ev_MethodCall ?_
  refine ev_builtin G' (gn_tuple _) (by with_unfolding_all rfl) ?_
  refine ev_tupleNew G' ?_
  refine ev_callB1 ?_
  refine ev_args_cons ?_
  refine ev_local G' (by with_unfolding_all rfl) ?_
  refine ev_args_cons ?_
  refine ev_Tuple ?_
  refine ev_args_cons ?_
  refine ev_local G' (by with_unfolding_all rfl) ?_
  refine ev_args_cons ?_
  refine ev_local G' (by with_unfolding_all rfl) ?_
  refine ev_args_nil ?_
  refine ev_newTuple (fun t _ => ?_) (by show 2 ≤ sizeLine; decide)
  refine ev_args_nil ?_
  exact ev_makePair G' (.head _) fun p dx => q p dx t
theorem under_frames (A : Around) (a : Args) : (A.under (Code.builtin "type.__call__" a)).frames = A.frames := by first | rfl | simp [Around.under]
theorem under_handled (A : Around) (a : Args) : (A.under (Code.builtin "type.__call__" a)).handled = A.handled := by first | rfl | simp [Around.under]
theorem under_weight (v : Value) (vs : List Value) : (Code.builtin "type.__call__" ⟨.ref 210 :: v :: vs, []⟩).weight = 1 := rfl
theorem under_units (v : Value) (vs : List Value) : (Code.builtin "type.__call__" ⟨.ref 210 :: v :: vs, []⟩).cUnits = 1 := rfl
theorem Gd.made {v : Value} {vs : List Value} (G : Gd (n + 1) C env) : Gd n (C.in (C.A.under (Code.builtin "type.__call__" ⟨.ref 210 :: v :: vs, []⟩))) env :=
  G.in (under_frames _ _) (under_handled _ _) (by show C.A.depth + _ ≤ _; rw [under_weight]; exact Nat.le_refl _) (by show C.A.units + _ ≤ _; rw [under_units]; omega)
theorem Gd.in1 (G : Gd (n + 1) C env) : Gd n (C.in C.A.in1) env := G.in rfl rfl (Nat.le_succ _) (by show _ + 1 ≤ _ + 8; omega)
theorem pair_ok {a b : Value} {Q : Value → Loc → Led → Prop} (G : Gd (n + 2) C env) (q : ∀ p dx t, Q (.ref p) m ((p, pairObj dx a b) :: (dx, emptyDict) :: (t, tupOf #[a, b]) :: σ)) : Ev C (call (.ref 210) [a, b]) m σ Q := fun E h tk I => by
  refine pair_open G I (tc_args2 _ _ _) (fun p => PySem.F.args_object_init_3 _ _ _) fun tk' => ?_
  refine (new_ok (C := C.in (C.A.under (Code.builtin "type.__call__" ⟨.ref 210 :: a :: [b], []⟩))) (n := n) (Q := fun v m' σ' => ∃ p dx t, v = .ref p ∧ m' = m ∧ σ' = (p, pairObj dx a b) :: (dx, emptyDict) :: (t, tupOf #[a, b]) :: σ) G.made fun p dx t => ⟨p, dx, t, rfl, rfl, rfl⟩).of I.into fun v h' tk' m' σ' J q' => ?_
  obtain ⟨p, dx, t, rfl, rfl, rfl⟩ := q'
  exact ⟨h', tk', _, _, p, _, rfl, rfl, J.back, .head _, rfl, Ends.intro (C := C) J.back (q p dx t)⟩
end
end

section
open PySem.Sem (wp)
open PySem PySem.W PySem.Spec PySem.Calls PyProof.Rows PySem.SeqAt Builtin Builtin.ObjectAttr
section
variable {α β : Type} {M : Model} {A : Around} {E : Value → Shared → Prop} {s : Shared}
/-- the claim's caller stands below, or runs -/
def CalB (Γ : PySem.Ctx) : Prop := (Γ.below.map (·.1)).any Code.isCaller = true
def Cal (Γ : PySem.Ctx) : Prop := Γ.code.isCaller = true ∨ CalB Γ
theorem CalB.cal {Γ : PySem.Ctx} (h : CalB Γ) : Cal Γ := .inr h
theorem Cal.enter {Γ : PySem.Ctx} (h : Cal Γ) (c : Code) (hd : Option Value) (p : Pos) : CalB (Γ.enter c hd p) := by
  show (((Γ.code, p) :: Γ.below).map (·.1)).any Code.isCaller = true
  rw [List.map_cons, List.any_cons]
  rcases h with h | h
  · rw [h]; rfl
  · rw [show (Γ.below.map (·.1)).any Code.isCaller = true from h, Bool.or_true]
/-- as wpAny, of the stacks on which the caller stands -/
def wpC {α : Type} (M : Model) (A : Around) (t : Sem α) (Q : α → Shared → Prop) (E : Value → Shared → Prop) (s : Shared) : Prop :=
  ∀ Γ p, Γ.In A → Cal Γ → wp M Γ t (fun a _ s' => Q a s') (fun e _ s' => E e s') p s
def codeC (M : Model) (A : Around) (c : Code) (R : Result → Shared → Prop) (s : Shared) : Prop :=
  ∀ Γ p, Γ.code = c → Γ.Below A → CalB Γ → wpCode M Γ R p s
theorem wpC_of {t : Sem α} {Q : α → Shared → Prop} (h : wpAny M A t Q E s) : wpC M A t Q E s := fun Γ p hΓ _ => h Γ p hΓ
theorem codeC_of {c : Code} {R : Result → Shared → Prop} (h : codeAny M A c R s) : codeC M A c R s := fun Γ p hc hΓ _ => h Γ p hc hΓ
theorem wpC_mono {t : Sem α} {Q Q' : α → Shared → Prop} {E' : Value → Shared → Prop} (h : wpC M A t Q E s) (hQ : ∀ a s, Q a s → Q' a s) (hE : ∀ e s, E e s → E' e s) : wpC M A t Q' E' s :=
  fun Γ p hΓ c => Sem.wp_mono M Γ t (fun a _ s => hQ a s) (fun e _ s => hE e s) p s (h Γ p hΓ c)
theorem codeC_mono {c : Code} {R R' : Result → Shared → Prop} (h : codeC M A c R s) (hR : ∀ r s, R r s → R' r s) : codeC M A c R' s := fun Γ p hc hΓ k => wpCode_mono hR (h Γ p hc hΓ k)
theorem wpC_pure {a : α} {Q : α → Shared → Prop} (h : Q a s) : wpC M A (pure a) Q E s := fun _ _ _ _ => h
theorem wpC_bind {m : Sem α} {f : α → Sem β} {Q : β → Shared → Prop} (h : wpC M A m (fun a s' => wpC M A (f a) Q E s') E s) : wpC M A (m >>= f) Q E s := fun Γ p hΓ c => by
  rw [Sem.wp_bind']
  exact Sem.wp_mono M Γ m (fun a p' s' h' => h' Γ p' hΓ c) (fun _ _ _ h' => h') p s (h Γ p hΓ c)
theorem wpC_holding {vs : List Value} {m : Sem α} {Q : α → Shared → Prop} (h : wpC M A m Q E s) : wpC M A (holding vs m) Q E s := fun Γ p hΓ c => by rw [Sem.wp_holding]; exact h Γ p hΓ c
theorem wpC_keep {vs : List Value} {m : Sem α} {Q : α → Shared → Prop} (h : wpC M A m Q E s) : wpC M A (m.keep vs) Q E s := fun Γ p hΓ c => by rw [Sem.wp_keep]; exact h Γ p hΓ c
theorem wpC_onRaise {m : Sem α} {k : Value → Sem Unit} {Q : α → Shared → Prop} (h : wpC M A m Q (fun e s' => wpC M A (k e) (fun _ s'' => E e s'') E s') s) : wpC M A (m.onRaise k) Q E s := fun Γ p hΓ c => by
  rw [Sem.wp_onRaise]
  exact Sem.wp_mono M Γ m (fun _ _ _ h' => h') (fun e p' s' h' => h' Γ p' hΓ c) p s (h Γ p hΓ c)
theorem wpC_attempt {m : Sem α} {Q : Except Value α → Shared → Prop} (h : wpC M A m (fun a => Q (.ok a)) (fun e => Q (.error e)) s) : wpC M A m.attempt Q E s := fun Γ p hΓ c => by rw [Sem.wp_attempt]; exact h Γ p hΓ c
theorem wpC_tryCatch {m : Sem α} {k : Value → Sem α} {Q : α → Shared → Prop} (h : wpC M A m Q (fun e s' => wpC M A (k e) Q E s') s) : wpC M A (tryCatch m k) Q E s := fun Γ p hΓ c => by
  rw [Sem.wp_tryCatch']
  exact Sem.wp_mono M Γ m (fun _ _ _ h' => h') (fun e p' s' h' => h' Γ p' hΓ c) p s (h Γ p hΓ c)
theorem wpC_ite {c : Prop} [Decidable c] {a b : Sem α} {Q : α → Shared → Prop} (h : if c then wpC M A a Q E s else wpC M A b Q E s) : wpC M A (if c then a else b) Q E s := by split <;> simp_all
theorem codeC_of_tree {c : Code} {R : Result → Shared → Prop}
    (h : wpC M (A.under c) (M.den c) (fun fin s' => match fin with | .done f => R (.ok f) s' | .again c' => c'.quiet = true ∧ codeC M A c' R s') (fun e s' => R (.error e) s') s) : codeC M A c R s := fun Γ p hc hΓ k => by
  rw [wpCode_iff_wp, hc]
  refine Sem.wp_mono M Γ _ (fun fin p' s' h' => ?_) (fun _ _ _ h' => h') p s (h Γ p (hc ▸ hΓ.in) k.cal)
  cases fin with
  | done f => exact h'
  | again c' => exact ⟨h'.1, h'.2 (Γ.goto c') p' rfl (hΓ.goto c') k⟩
theorem wpC_of_eq {t : Sem α} {a : α} {Q : α → Shared → Prop} (e : t = pure a) (h : Q a s) : wpC M A t Q E s := by rw [e]; exact wpC_pure h
theorem wpC_standAt {pos : Pos} {Q : Unit → Shared → Prop} (h : Q () s) : wpC M A (standAt pos) Q E s := wpC_of (wpAny_standAt h)
theorem wpC_run {c : Code} {h : Option Value} {Q : Flow → Shared → Prop} (hc : codeC M (A.mark h) c (fun r s' => match r with | .ok f => Q f s' | .error e => E e s') s) (hnb : h ≠ some byPass := by intro x; cases x) : wpC M A (run c h) Q E s :=
  fun Γ p hΓ k => by rw [Sem.wp_run]; exact hc _ p rfl (hΓ.enter c h p hnb) (k.enter c h p)
theorem wpC_call {f : Value} {pos : List Value} {kw : List (Str × Value)} {Q : Value → Shared → Prop} (hc : codeC M A (.call f ⟨pos, kw⟩) (fun r s' => match r with | .ok (.ret v) => Q v s' | .ok _ => False | .error e => E e s') s) : wpC M A (call f pos kw) Q E s :=
  fun Γ p hΓ k => by
    show wp M Γ (runValue _) _ _ p s
    rw [Sem.wp_runValue]; exact hc _ p rfl (hΓ.enter _ none p (by intro x; cases x)) (k.enter _ none p)
theorem wpC_runOwn {env : Env} {c : Code} {h : Option Value} {Q : Flow → Shared → Prop} (hc : codeC M (A.mark h) c (fun r s' => match r with | .ok f => Q f s' | .error e => cameBackBy M A env E e s') s) (hnb : h ≠ some byPass := by intro x; cases x) : wpC M A (runOwn c env h) Q E s := by
  unfold runOwn
  exact wpC_onRaise (wpC_mono (wpC_run hc hnb) (fun _ _ x => x) fun _ _ x => wpC_of x)
theorem wpC_noted {env : Env} {m : Sem α} {Q : α → Shared → Prop} (h : wpC M A m Q (notedBy M A env E) s) : wpC M A (m.onRaise fun x => do noteFrame x env; theTreesLotGoes x) Q E s :=
  wpC_onRaise (wpC_mono h (fun _ _ q => q) fun _ _ hx => wpC_of (wpAny_bind (wpAny_mono hx (fun _ _ e => wpAny_theTreesLotGoes e) fun _ _ e => e)))
theorem codeC_loop {c : Code} {R : Result → Shared → Prop} (hq : c.quiet = true) (I : Nat → Shared → Prop)
    (turn : ∀ n s, I n s → wpC M (A.under c) (M.den c) (fun fin s' => match fin with
        | .done f => R (.ok f) s'
        | .again c' => (c' = c ∧ ∃ m, m < n ∧ I m s') ∨ (c'.quiet = true ∧ codeC M A c' R s')) (fun e s' => R (.error e) s') s) (n : Nat) (h : I n s) : codeC M A c R s := by
  induction n using Nat.strongRecOn generalizing s with
  | ind n ih =>
    refine codeC_of_tree (wpC_mono (turn n s h) (fun fin s' hf => ?_) fun _ _ x => x)
    cases fin with
    | done f => exact hf
    | again c' =>
      rcases hf with ⟨rfl, m, hm, hI⟩ | hf
      · exact ⟨hq, ih m hm hI⟩
      · exact hf
end
section
variable {α β : Type} {prog : Program} {w : World} {A : Around} {E : Value → Shared → Prop} {s : Shared} {env : Env}
theorem wpC_cons {st : Stmt} {rest : List Stmt} {Q : Flow → Shared → Prop} (h : wpC (model prog w) A (exec st env) (fun f s' => match f with | .next => wpC (model prog w) A (execs rest env) Q E s' | f => Q f s') E s) : wpC (model prog w) A (execs (st :: rest) env) Q E s := by
  rw [execs_cons]
  refine wpC_bind (wpC_mono h (fun f s' h' => ?_) fun _ _ x => x)
  cases f with
  | next => exact h'
  | _ => exact wpC_pure h'
theorem codeC_func {body : List Stmt} {R : Result → Shared → Prop} (h : wpC (model prog w) (A.deeper env) (execs body env) (fun f s' => R (.ok (.ret (match f with | .ret v => v | _ => .none))) s')
      (fun e s' => wpAny (model prog w) (A.deeper env) (leaving env e) (fun _ s'' => R (.error e) s'') (fun e' s'' => R (.error e') s'') s') s) : codeC (model prog w) A (.func body env) R s := by
  refine codeC_of_tree ?_
  show wpC _ (A.deeper env) (do point; match ← (execs body env).onRaise (leaving env) with | .ret v => ret v | _ => ret .none) _ _ s
  refine wpC_bind (wpC_of (wpAny_point (wpC_bind (wpC_onRaise (wpC_mono h (fun f s' h' => ?_) fun _ _ x => wpC_of x)))))
  cases f <;> exact wpC_pure h'
theorem codeC_function {a : Addr} {args : Args} {o : Obj} {fd : FuncData} {body : List Stmt} {R : Result → Shared → Prop} (hroom : A.depth < recursionLimit) (ho : s.heap.get? a = some o)
    (hd' : o.data = .func fd) (hco : fd.scope.isCoroutine = false) (hgen : fd.scope.isGenerator = false) (hbody : fd.body = .stmts body) (hcd : s.heap.CodeRec fd.code fd.qualname)
    (h : wpC (model prog w) A.in1 (bindArgs fd args) (fun binds s₁ =>
      wpAny (model prog w) A.in1 (newFunctionEnv fd.scope fd.globals fd.closure binds (fd.qualname ++ ".<locals>.") (some a) fd.code none fd.builtins)
        (fun env s₂ => s₂.heap.NoLimit ∧ codeC (model prog w) A (.func body env) R s₂) (fun e s' => R (.error e) s') s₁) (fun e s' => R (.error e) s') s) :
    codeC (model prog w) A (.call (.ref a) args) R s := by
  refine codeC_of_tree ?_
  show wpC _ A.in1 (callAny (.ref a) args) _ _ s
  simp only [callAny]
  refine wpC_bind (wpC_of (wpAny_load ho ?_))
  obtain ⟨c, oc, vs, tq, hc, hoc, hdc, hq⟩ := hcd
  simp only [hd', callFunction, hco, hgen, hbody, hc]
  rw [hc] at h
  refine wpC_bind (m := field (.ref c) 1) (wpC_of (wpAny_field hoc hdc hq (wpC_bind (wpC_pure ?_))))
  exact wpC_bind (wpC_mono h (fun binds s₁ h₁ => wpC_bind (wpC_of (wpAny_mono h₁ (fun env s₂ h₂ => wpC_bind (wpC_of (wpAny_enterFrame h₂.1 hroom
    (wpC_pure (And.intro rfl h₂.2))))) fun _ _ x => x))) fun _ _ x => x)
theorem codeC_def {R : Result → Shared → Prop} {a : Addr} {o : Obj} {fd : FuncData} {body : List Stmt} {args : Args} {binds : List (Str × Value)}
    (hroom : A.depth < recursionLimit) (ho : s.heap.get? a = some o) (hdata : o.data = .func fd) (hlim : s.heap.NoLimit) (hcd : s.heap.CodeRec fd.code fd.qualname)
    (hbody : fd.body = .stmts body) (hbind : BindsTo s fd args binds)
    (hcell : ∀ x ∈ fd.scope.names, x.2 ≠ .cell) (hloc : ∀ x ∈ binds, fd.scope.names.lookup x.1 = some .local)
    (h : ∀ h₀, h₀.Ns s.heap.objs.size (fun x => binds.reverse.lookup x) → (∀ b o, s.heap.get? b = some o → h₀.get? b = some o) →
      wpC (model prog w) (A.deeper (callEnv fd s.heap.objs.size a)) (execs body (callEnv fd s.heap.objs.size a)) (fun f s' => R (.ok (.ret (match f with | .ret v => v | _ => .none))) s')
        (fun e s' => wpAny (model prog w) (A.deeper (callEnv fd s.heap.objs.size a)) (leaving (callEnv fd s.heap.objs.size a) e) (fun _ s'' => R (.error e) s'') (fun e' s'' => R (.error e') s'') s')
        { s with heap := h₀, toks := s.toks + binds.length })
    (hco : fd.scope.isCoroutine = false := by rfl) (hgen : fd.scope.isGenerator = false := by rfl) (hk : fd.scope.kind = .function := by rfl) :
    codeC (model prog w) A (.call (.ref a) args) R s := by
  refine codeC_function hroom ho hdata hco hgen hbody hcd (wpC_of (hbind _ _ _ _ ?_))
  refine wpAny_newFunctionEnv hcell hloc (fun h₀ hns₀ hsb₀ => ⟨hlim.fresh _ hsb₀, codeC_func (h h₀ hns₀ fun b o e => ?_)⟩) hk
  exact hsb₀.extBut b o (Nat.ne_of_lt (Heap.lt_size e)) (Heap.get?_push_of_some _ e)
theorem codeC_forLoop {R : Result → Shared → Prop} {target : Expr} {it : Value} {body orelse : List Stmt} (I : Nat → Shared → Prop)
    (turn : ∀ n s, I n s → wpAny (model prog w) A (pyNext it) (fun r s₁ => match r with
      | none => wpAny (model prog w) A (execs orelse env) (fun f s₃ => R (.ok f) s₃) (notedBy (model prog w) A env fun e s' => R (.error e) s') s₁
      | some v => wpAny (model prog w) A (letOwnedTupleGo target it v) (fun _ s₁' =>
          wpAny (model prog w) A (assign target env v) (fun _ s₂ => wpC (model prog w) A (execs body env) (fun f s₃ => match f with
            | .next | .cont => ∃ m, m < n ∧ I m s₃
            | .brk => R (.ok .next) s₃
            | .ret v => R (.ok (.ret v)) s₃) (notedBy (model prog w) A env fun e s' => R (.error e) s') s₂) (notedBy (model prog w) A env fun e s' => R (.error e) s') s₁') (notedBy (model prog w) A env fun e s' => R (.error e) s') s₁) (notedBy (model prog w) A env fun e s' => R (.error e) s') s)
    (n : Nat) (h : I n s) : codeC (model prog w) A (.forLoop target it body orelse env) R s := by
  refine codeC_loop rfl I (fun n s hI => ?_) n h
  show wpC _ A ((forTurn target it body orelse env).onRaise (fun x => do noteFrame x env; theTreesLotGoes x)) _ _ s
  refine wpC_noted ?_
  simp only [forTurn]
  refine wpC_bind (wpC_standAt (wpC_bind (wpC_onRaise (wpC_mono (wpC_of (turn n s hI)) (fun r s₁ h₁ => ?_) fun _ _ x => wpC_standAt x))))
  cases r with
  | none => exact wpC_pure (.inr ⟨rfl, codeC_of (codeAny_block h₁)⟩)
  | some v =>
    refine wpC_bind (wpC_mono (wpC_of h₁) (fun _ s₁' h₁' => ?_) fun _ _ x => x)
    refine wpC_bind (wpC_mono (wpC_of h₁') (fun _ s₂ h₂ => wpC_bind (wpC_mono h₂ (fun f s₃ h₃ => ?_) fun _ _ x => x)) fun _ _ x => x)
    cases f with
    | next => exact wpC_pure (.inl ⟨rfl, h₃⟩)
    | cont => exact wpC_pure (.inl ⟨rfl, h₃⟩)
    | brk => exact wpC_pure h₃
    | ret v => exact wpC_pure h₃
theorem wpC_For {target iter : Expr} {body orelse : List Stmt} {pos : Pos} {Q : Flow → Shared → Prop}
    (h : wpAny (model prog w) A (eval iter env) (fun x s₁ => wpAny (model prog w) A (pyIter x) (fun it s₂ =>
      codeC (model prog w) A (.forLoop target it body orelse env) (fun r s' => match r with | .ok f => Q f s' | .error e => cameBackBy (model prog w) A env E e s') s₂) E s₁) E s)
    (hs : ∀ x, foldedSetIterable iter env x = pure x := by intro _; rfl) : wpC (model prog w) A (exec (.For target iter body orelse pos) env) Q E s := by
  rw [exec_For]
  refine wpC_bind (wpC_standAt (wpC_bind (wpC_mono (wpC_of h) (fun x s₁ h₁ => wpC_bind (wpC_of_eq (hs x) (wpC_bind (wpC_standAt (wpC_bind (wpC_holding (wpC_mono (wpC_of h₁) (fun it s₂ h₂ => wpC_runOwn h₂) fun _ _ x => x))))))) fun _ _ x => x)))
theorem wpC_Try {body : List Stmt} {h₀ : ExceptHandler} {hs : List ExceptHandler} {pos : Pos} {Q : Flow → Shared → Prop}
    (h : wpC (model prog w) A (execs body env) Q
      (fun e s₁ => wpAny (model prog w) A (noteFrame e env) (fun _ s₂ => wpAny (model prog w) A (setFlight e none) (fun _ s₃ => wpAny (model prog w) A (handleBy e env (h₀ :: hs)) Q E s₃) E s₂) E s₁) s) :
    wpC (model prog w) A (exec (.Try body (h₀ :: hs) [] [] pos) env) Q E s := by
  rw [arm_exec_Try]
  refine wpC_bind (wpC_standAt ?_)
  unfold tryStmt
  simp only [List.isEmpty_nil, if_true, List.isEmpty_cons, Bool.false_and, Bool.false_eq_true, if_false]
  refine wpC_bind (wpC_attempt (wpC_mono h (fun f s₁ h₁ => ?_) fun e s₁ h₁ => ?_))
  · cases f with
    | next => exact wpC_of (wpAny_execs_nil h₁)
    | _ => exact wpC_pure h₁
  · exact wpC_bind (wpC_of (wpAny_mono h₁ (fun _ _ h₂ => wpC_bind (wpC_of (wpAny_mono h₂ (fun _ _ h₃ => wpC_of h₃) fun _ _ x => x))) fun _ _ x => x))
theorem wpC_AssignName {x : Str} {pos' pos : Pos} {value : Expr} {Q : Flow → Shared → Prop} (h : wpC (model prog w) A (eval value env) (fun v s₁ => wpAny (model prog w) A (storeName env x v) (fun _ => Q .next) E s₁) E s)
    (hs : swapsWith value (some (.Name x pos')) pos.line env = pure false := by rfl) : wpC (model prog w) A (exec (.Assign [.Name x pos'] value pos) env) Q E s := fun Γ p hΓ k => by
  simp only [exec_Assign_Name env x pos' value pos hs, Sem.wp_bind', Sem.wp_cmd_standAt, Sem.wp_bindName, Sem.wp_pure']
  exact Sem.wp_mono _ Γ _ (fun v _ s₁ h₁ => h₁ Γ _ hΓ) (fun _ _ _ h' => h') _ _ (h Γ _ hΓ k)
theorem wpC_AssignTuple {elts : List Expr} {k : Nat} {tpos pos : Pos} {value : Expr} {Q : Flow → Shared → Prop}
    (h : wpC (model prog w) A (eval value env) (fun v s₁ => wpAny (model prog w) A (assign (.Tuple elts k tpos) env v) (fun _ => Q .next) E s₁) E s)
    (hs : swapsWithSole [.Tuple elts k tpos] value pos.line env = pure false := by rfl) (hw : swappedStores [.Tuple elts k tpos] value env = pure none := by rfl) :
    wpC (model prog w) A (exec (.Assign [.Tuple elts k tpos] value pos) env) Q E s := by
  rw [exec_Assign]
  refine wpC_bind (wpC_standAt ?_)
  rw [hs]
  refine wpC_bind (wpC_pure ?_)
  rw [if_neg (by decide)]
  refine wpC_bind (wpC_mono h (fun v s₁ h₁ => ?_) fun _ _ x => x)
  rw [hw]
  refine wpC_bind (wpC_pure ?_)
  show wpC _ A (do assignAll v [assign (.Tuple elts k tpos) env]; pure .next) Q E s₁
  exact wpC_bind (wpC_of (wpAny_mono h₁ (fun _ _ x => wpC_pure x) fun _ _ x => x))
theorem wpC_Return {e : Expr} {pos : Pos} {Q : Flow → Shared → Prop} (h : wpC (model prog w) A (eval e env) (fun v => Q (.ret v)) E s) : wpC (model prog w) A (exec (.Return (some e) pos) env) Q E s := fun Γ p hΓ k => by
  simp only [exec_Return_some, Sem.wp_bind', Sem.wp_cmd_standAt, Sem.wp_pure']; exact h Γ _ hΓ k
theorem wpC_MethodCall {o : Expr} {name : Str} {apos pos : Pos} {args : List Expr} {pl : Sem Bool} {Q : Value → Shared → Prop}
    (h : wpAny (model prog w) A (eval o env) (fun ov s₁ => wpAny (model prog w) A (getMethod ov name pl) (fun fx s₂ => wpC (model prog w) A (callWith pos fx.1 fx.2 (backTo pos (starEach args env)) []) Q E s₂) E s₁) E s)
    (he : eval (.Call (.Attribute o name apos) args [] pos) env = (do
      let ov ← eval o env
      standAt apos.atName
      let (f, first) ← holding [ov] (getMethod ov name pl)
      callWith pos f first (backTo pos (starEach args env)) []) := by rfl) :
    wpC (model prog w) A (eval (.Call (.Attribute o name apos) args [] pos) env) Q E s := by
  rw [he]
  exact wpC_bind (wpC_of (wpAny_mono h (fun ov s₁ h₁ => wpC_bind (wpC_standAt (wpC_bind (wpC_holding (wpC_of (wpAny_mono h₁ (fun fx s₂ h₂ => h₂) fun _ _ x => x)))))) fun _ _ x => x))
theorem wpC_Call {func : Expr} {args : List Expr} {pos : Pos} {Q : Value → Shared → Prop}
    (h : wpAny (model prog w) A (eval func env) (fun f s₁ => wpC (model prog w) A (callWith pos f [] (backTo pos (starEach args env)) []) Q E s₁) E s)
    (he : eval (.Call func args [] pos) env = (do callWith pos (← eval func env) [] (backTo pos (starEach args env)) (backToKw pos (keywordEach [] env))) := by rfl) :
    wpC (model prog w) A (eval (.Call func args [] pos) env) Q E s := by
  rw [he]; exact wpC_bind (wpC_of h)
theorem wpC_callWith {f : Value} {first : List Value} {pos : Pos} {Q : Value → Shared → Prop} {P : Heap → Prop} {args : List (Bool × Sem Value)}
    (hk : ∀ h, P h → ∃ k, (k = Keeper.frame ∨ k = Keeper.machine ∨ k = Keeper.boundFrame) ∧ Looks (model prog w) h (keeperOf f) k)
    (h : wpAny (model prog w) A (evalArgs f true args []) (fun a s₁ => P s₁.heap ∧ wpC (model prog w) A (call f (first ++ a.pos) a.kw) Q E s₁) E s) : wpC (model prog w) A (callWith pos f first args []) Q E s := by
  unfold callWith
  refine wpC_bind (wpC_holding (wpC_of (wpAny_mono h (fun a s₁ h₁ => wpC_bind (wpC_standAt ?_)) fun _ _ x => x)))
  obtain ⟨k, hk', L⟩ := hk _ h₁.1
  have tail : ∀ {t : Sem Value}, wpC (model prog w) A t Q E s₁ → wpC (model prog w) A (t >>= fun r => holding [r] point >>= fun _ => pure r) Q E s₁ :=
    fun ht => wpC_bind (wpC_mono ht (fun r s₂ hr => wpC_bind (wpC_of (wpAny_holding (wpAny_point (wpC_pure hr))))) fun _ _ x => x)
  have marked (mk : Value) : wpC (model prog w) A (callMarked mk f (first ++ a.pos) a.kw) Q E s₁ := by unfold callMarked; exact wpC_keep h₁.2
  have oper (l : List Value) : wpC (model prog w) A (operate l (call f (first ++ a.pos) a.kw)) Q E s₁ := by
    intro Γ p hΓ c
    rw [Sem.wp_operate]
    exact h₁.2 Γ p hΓ c
  cases hst : args.any (·.1) <;> simp only [hst, Bool.false_or, Bool.true_or, List.any_nil] <;> refine wpC_bind (wpC_of (L.here ?_)) <;>
    rcases hk' with rfl | rfl | rfl <;> dsimp only <;> first | exact tail h₁.2 | exact tail (marked _) | exact tail (oper _) | (split <;> first | exact tail h₁.2 | exact tail (marked _))
end
end

section
open PySem.Sem (wp)
open PySem PySem.W PySem.Spec PySem.Calls PyProof.Rows
abbrev calCtx : PySem.Ctx := ⟨.builtin "claim.caller" {}, none, none, [], none⟩
theorem cal_cal : Cal calCtx := .inl rfl
section
variable {prog : Program} {w : World} {s : Shared}
theorem halts_cal {t : Sem Fin} {R : Result → Shared → Prop} (hreg : s.asleep)
    (h : wpC (model prog w) callerA t (fun fin s' => ∃ f, fin = .done f ∧ (R (.ok f) s' ∧ leftWithCleanup s'.gens = false)) (fun e s' => R (.error e) s' ∧ leftWithCleanup s'.gens = false) s) :
    ∃ n r s' s'', runN (denote table) prog w n s ⟨t, .builtin "claim.caller" {}, default, []⟩ = .halted (outcomeOf r) s' ∧
      schedN (denote table) prog w n (.single s ⟨t, .builtin "claim.caller" {}, default, []⟩) = .halted (outcomeOf r) s' ∧ s'.forget = s''.forget ∧ R r s'' := by
  have hw : wp (model prog w) calCtx t (Sem.finPost (model prog w) calCtx fun r s' => R r s' ∧ leftWithCleanup s'.gens = false) (fun e _ s' => (fun r s' => R r s' ∧ leftWithCleanup s'.gens = false) (.error e) s') default s := by
    refine Sem.wp_mono _ calCtx t (fun fin p' s' h' => ?_) (fun _ _ _ h' => h') default s (h calCtx default caller_in cal_cal)
    obtain ⟨f, rfl, hf⟩ := h'
    exact hf
  obtain ⟨n, r, s₁, s₂, hs, hn, hfo, hR⟩ := wp_halts_full (M := model prog w) (R := R) hreg hw
  exact ⟨n, r, s₂, s₁, hn, hs, hfo, hR⟩
end
theorem call_from {c : ClaimW} {tree : List Value → Sem Fin} {w : World} {s : Shared} {free : Addr → Prop} {gens : Prop} {kept : Heap → Prop} (hz : s.asleep) (hgens : s.gens = #[])
    (hspec : ∀ args, c.pre args = true → WData.layableAll args = true → ∀ ord : List DictEntry → List DictEntry, (∀ l, (ord l).Perm l) →
      ∃ vs s₁, layAllW c.records (classAt s.heap) w.params ord args s = some (vs, s₁) ∧
        wpC (model c.prog w) callerA (tree vs) (fun fin s' => ∃ f, fin = .done f ∧ (c.Ends s args vs s₁ (.ok f) s' ∧ s'.os = s.os ∧ AllBare s'.gens ∧ kept s'.heap))
          (fun e s' => c.Ends s args vs s₁ (.error e) s' ∧ s'.os = s.os ∧ AllBare s'.gens ∧ kept s'.heap) s₁) :
    c.CallFrom (fun vs => ⟨tree vs, .builtin "claim.caller" {}, default, []⟩) w free gens kept s := fun args hpre hlay ord hord => by
  obtain ⟨vs, s₁, hlaid, hcode⟩ := hspec args hpre hlay ord hord
  have hal := layAllW_rest _ _ _ hlaid
  obtain ⟨k, r, s', s'', hrun, hsched, hfo, hcase, hos, hkp⟩ := halts_cal (prog := c.prog) (w := w) (t := tree vs) (s := s₁) (R := fun r s' => c.Ends s args vs s₁ r s' ∧ s'.os = s.os ∧ kept s'.heap)
    (Shared.asleep_of_life hal.2.2.2 hz)
    (wpC_mono hcode (fun _ _ ⟨f, e, h1, h2, h3, h4⟩ => ⟨f, e, ⟨h1, h2, h4⟩, leftWithCleanup_false_of_bare h3⟩) fun _ _ ⟨h1, h2, h3, h4⟩ => ⟨⟨h1, h2, h4⟩, leftWithCleanup_false_of_bare h3⟩)
  obtain ⟨eh, _, _, eo, _⟩ := Shared.forget_eq hfo
  have hcase := hcase.congr eh
  have hkp : kept s'.heap := by rw [eh]; exact hkp
  rw [← eo] at hos
  have hlife : s'.heap.life = s.heap.life := (runN_life _ _ _ hrun).trans hal.2.2.2
  refine ⟨vs, s₁, hlaid, k, _, s', hsched, ?_, (fun _ i x hx => by rw [hgens] at hx; simp at hx), hkp, by rw [hlife], Shared.rest_eq hos⟩
  rcases hcase with ⟨v, rfl, d1, d2, d3, d4, d5⟩ | ⟨e, ob, cls, rfl, d1, d2, d3, d4, d5⟩
  · exact .inl ⟨v, rfl, d1, d2, d3, fun b o y _ => d4 b o y, d5⟩
  · exact .inr ⟨e, ob, cls, rfl, d1, d2, d3, d4, fun b o y _ => d5 b o y⟩

abbrev WalkC (q : Program) (loose : List Str) (XP : (Str → Option Value) → Heap → Prop) (YP : World → Heap → Prop) (r : RowW) (d : DefRec) (kwd : List (Str × PySem.Expr)) : Prop :=
  ∀ (w : World) (s₀ s₁ : Shared) (mg mb : Str → Option Value), Ground q loose r.records XP w s₀ mg mb s₁.heap → YP w s₁.heap → ∀ (a : Addr) (o : Obj) (pm cd doc dV kV : Value), s₁.heap.get? a = some o →
    o.data = .func { docDef d.name d.params d.body d.scope pm cd doc with defaults := dV, kwdefaults := kV } → s₁.heap.CodeRec cd d.name → Dflts mg s₁.heap d.params kwd dV kV → mg d.name = some (.ref a) → s₁.gens = #[] →
    ∀ (args : List WData) (vals : List Value) (as : List Addr), r.claim.pre args = true → WData.layableAll args = true → ReadsAllW r.records (classAt s₀.heap) s₁.heap vals args as → WellAll w.params s₁.heap vals args → (∀ a ∈ as, (a == sysModules) = false) →
      wpC (model r.prog w) callerA (PySem.call (.ref a) vals) (fun v s' => GoodWG r.claim (classAt s₀.heap) (ExcName.means s₀.heap) args s₁ (.ok (.ret v)) s')
        (fun e s' => GoodWG r.claim (classAt s₀.heap) (ExcName.means s₀.heap) args s₁ (.error e) s') s₁

theorem holds_cal {r : OpenRow} {q : Program} {loose : List Str} {Xt : Shared → Bool} {XP : (Str → Option Value) → Heap → Prop} {α : Type} {Yf : Shared → α} {Ya : World → α} {YP : World → Heap → Prop} {d : DefRec} {kwd : List (Str × PySem.Expr)} {N : Nat}
    (left : LeftO r.prog q loose Xt Yf Ya N) (hY : ∀ w s, Yf s = Ya w → YP w s.heap) (hYk : ∀ w h h', YP w h → (∀ b o, h.get? b = some o → h'.get? b = some o) → YP w h')
    (hX : ∀ s, Xt s = true → XP (s.heap.nsMap mainGlobals) s.heap) (hXk : ∀ mg h h', XP mg h → (∀ b o, h.get? b = some o → h'.get? b = some o) → XP mg h')
    (hdef : defOf q r.name = some (d, kwd)) (hp : r.prog.theDef r.name = some (d.params, d.body, d.scope)) (hk : kwWritten? d.params.kwonlyargs d.params.kw_defaults = some kwd) (hRf : ∀ s, Xt s = true → RecFacts r.records s.heap) (hwr : (!r.writes || r.records.isEmpty) = true)
    (k1 : r.wellSaid = true) (ok : (chainsOk q && opensWell r.prog && (frees r.toRowW && r.within.isEmpty)) = true) (hb : r.prog.bare) (hw : r.toRowW.promised)
    (call : WalkC q loose XP YP r.toRowW d kwd) : r.Holds := by
  obtain ⟨ok, k5⟩ := Bool.and_eq_true_iff.mp ok
  obtain ⟨hch, o1⟩ := Bool.and_eq_true_iff.mp ok
  obtain ⟨k5, k6⟩ := Bool.and_eq_true_iff.mp k5
  obtain ⟨hsame, hu, ha, hap, hm⟩ := frees_parts k5
  refine ⟨k1, hw, ⟨hb, o1, by show r.toRowW.makers.map _ = []; rw [hm]; rfl⟩, hw.witness, fun w => ⟨(left.behind hX hch w).1, fun s' hs' => ?_⟩⟩
  obtain ⟨s₀, hf, hg0, s, hT, hz, hgens, hg, G00, y⟩ := (left.behind (XP := fun mg h => XP mg h ∧ RecFacts r.records h) (fun s hs => ⟨hX s hs, hRf s hs⟩) hch w).2 s' hs'
  have G0 : Ground q loose [] XP w s (s.heap.nsMap mainGlobals) (s.heap.nsMap builtinsNs) s.heap := ⟨G00.T, G00.B, G00.D, G00.TE, G00.TD, G00.W, G00.X.1, G00.cls, G00.has, G00.apart, G00.once, G00.K⟩
  have RF := G00.X.2
  have hT' := hT
  have hgens : s.gens = #[] := Array.eq_empty_of_size_eq_zero (beq_iff_eq.mp hgens)
  have G : Ground q loose r.records XP w s _ _ s.heap := RF.ground G0
  refine ⟨s₀, hf, hg0, s, hT, fun n hn => ?_, RF.1, RF.2.1, ?_⟩
  · obtain rfl : n = r.name := by split at hn <;> simp_all
    exact pinned_of_view hg G0 hdef hp hk
  refine call_from (c := r.toRowW.claim) hz hgens fun args hpre hlay ord hord => ?_
  obtain ⟨⟨vs, s₁⟩, hlaid⟩ := Option.isSome_iff_exists.mp (layAllW_isSome (P := w.params) (ord := ord) G.has args r.toRowW.args s (pre_splitW hpre).1)
  have keeps := layAllW_keeps _ _ _ hlaid
  have hal := layAllW_rest _ _ _ hlaid
  obtain ⟨as, hrd, hin, hold⟩ := reads_layAllW hord _ _ _ hlaid hlay s₁.heap (fun _ _ e => e)
  have L : Laid r.records w s s₁ args vs as := ⟨⟨ord, hord, hlaid⟩, hrd, hin, hold, keeps, hal.1.trans hgens, hal.2.2.1⟩
  have G₁ := G.keeps hXk keeps
  obtain ⟨a, o, pm, cd, doc, dV, kV, h1, h2, h3, h4, h5⟩ := G₁.fn hdef
  have h := call w s s₁ _ _ G₁ (hYk _ _ _ (hY w s y) keeps) a o pm cd doc dV kV h2 h3 h4 h5 (defOf_name hdef ▸ h1) L.gens args vs as hpre hlay L.reads L.well (L.low G.low)
  have hi := ident_freeW hu ha hap
  have hwi : r.toRowW.claim.within = [] := List.isEmpty_iff.mp k6
  refine ⟨vs, s₁, hlaid, wpC_bind (wpC_of (wpAny_nsGet G₁.T.g (by
    rw [h1]
    refine wpC_bind (wpC_mono h (fun v s' g => wpC_pure ?_) fun e s' g => ?_)
    · exact ⟨_, rfl, have z := g.laid (c := r.toRowW.claim) hsame hwi hi L; ⟨z.1, z.2.1, z.2.2, fun q => ⟨namesKept_of hT' hg _ keeps g.2.1.old, noTable hwr q⟩⟩⟩
    · exact have z := g.laid (c := r.toRowW.claim) hsame hwi hi L; ⟨z.1, z.2.1, z.2.2, fun q => ⟨namesKept_of hT' hg _ keeps g.2.1.old, noTable hwr q⟩⟩)))⟩
end

section
open PySem PySem.W PySem.Spec PySem.Calls PyProof.Rows PySem.SeqAt Builtin Builtin.ObjectAttr
section
variable {α : Type} {M : Model} {A : Around} {E : Value → Shared → Prop} {s : Shared}
theorem mark_not {own : List String} {codes : List Code} (h : codes.any Code.isCaller = true) : pythonCodeMadeTheCall own codes = false := by
  unfold pythonCodeMadeTheCall
  show (!(codes.any Code.isCaller) && _ && _) = false
  rw [h]
  rfl
/-- the caller stands on the stack: the refusal is not marked -/
theorem wpC_mark {own : List String} {e : Value} {Q : Unit → Shared → Prop} (h : Q () s) : wpC M A (markTheRefusal own e) Q E s := fun Γ p hΓ c => by
  unfold markTheRefusal
  rw [Sem.wp_bind']
  unfold stack
  rw [Sem.wp_stack]
  have hp : pythonCodeMadeTheCall own (((Γ.code, p) :: Γ.below).map (·.1)) = false := mark_not (by
    rw [List.map_cons, List.any_cons]
    rcases c with c | c
    · rw [c]; rfl
    · rw [show (Γ.below.map (·.1)).any Code.isCaller = true from c, Bool.or_true])
  show PySem.Sem.wp M Γ (if pythonCodeMadeTheCall own (((Γ.code, p) :: Γ.below).map (·.1)) = true then _ else _) _ _ p s
  rw [if_neg (by rw [hp]; exact Bool.false_ne_true)]
  exact h
theorem wpC_refuses {msg : String} {Q : α → Shared → Prop} (hh : A.handled = none) (h : ∀ h' tk e, Heap.NewExc s.heap h' e "TypeError" → E (.ref e) { s with heap := h', toks := tk }) (hm : (msg : PySem.Str).length ≤ sizeLine) :
    wpC M A (theBinderRefuses msg : Sem α) Q E s := by
  unfold theBinderRefuses
  refine wpC_bind (wpC_of (wpAny_mkStr (wpC_bind (wpC_of ?_)) hm))
  unfold newExc newTuple
  refine wpAny_bind (wpAny_newObj_type ?_)
  refine wpAny_bind (m := firstArgMember _ _) (wpAny_of_eq (a := Value.none) (by simp only [firstArgMember, plainExc_TypeError.first]; rfl) ?_)
  rw [plainExc_TypeError.own]
  refine wpAny_newObj_type (wpC_bind (wpC_mark ?_))
  unfold raiseNew
  refine wpC_bind (wpC_of (wpAny_handled ?_))
  rw [hh]
  refine wpC_of ?_
  first
    | refine wpAny_throw ?_
    | refine wpAny_bind (wpAny_pure (wpAny_throw ?_))
  exact h _ _ _ ⟨fun b o hb => Heap.get?_push_of_some _ (Heap.get?_push_of_some _ hb), Heap.get?_none_of_le (by simp), _, .ref s.heap.objs.size, Heap.get?_push_size _ rfl, rfl, by simp⟩
end
theorem bind_short {fd : FuncData} {x y z : PySem.Arg} {v a : Value} (hp : fd.params = { posonlyargs := [], args := [x, y, z], vararg := none, kwonlyargs := [], kw_defaults := [], kwarg := none, defaults := [] }) (hd : fd.defaults = .none)
  (h1 : (z.arg == x.arg) = false) (h2 : (z.arg == y.arg) = false) (h3 : (y.arg == x.arg) = false) :
  ∃ (k : PUnit → Sem (List (PySem.Str × Value))), bindArgs fd ⟨[v, a], []⟩ = (rule "call.bind.missing-positional" >>= fun _ => theBinderRefuses (toString fd.qualname.toString ++ toString "() missing " ++ (List.length [z.arg]).repr ++ toString " required positional " ++ toString "argument" ++ toString ": " ++ toString s!"'{z.arg.toString}'") >>= k) := by
  unfold bindArgs
  rw [hp, hd]
  dsimp only
  simp [List.lookup, h1, h2, h3, show seqItems? Value.none = pure none from rfl]
  exact ⟨_, rfl⟩
theorem bind_refuses {M : Model} {A : Around} {E : Value → Shared → Prop} {Q : List (PySem.Str × Value) → Shared → Prop} {s : Shared} {fd : FuncData} {x y z : PySem.Arg} {v a : Value} (hp : fd.params = { posonlyargs := [], args := [x, y, z], vararg := none, kwonlyargs := [], kw_defaults := [], kwarg := none, defaults := [] }) (hd : fd.defaults = .none)
    (h1 : (z.arg == x.arg) = false) (h2 : (z.arg == y.arg) = false) (h3 : (y.arg == x.arg) = false)
    (hm : ((toString fd.qualname.toString ++ toString "() missing " ++ (List.length [z.arg]).repr ++ toString " required positional " ++ toString "argument" ++ toString ": " ++ toString s!"'{z.arg.toString}'" : String) : PySem.Str).length ≤ sizeLine)
    (hh : A.handled = none) (hE : ∀ h' tk e, Heap.NewExc s.heap h' e "TypeError" → E (.ref e) { s with heap := h', toks := tk }) : wpC M A (bindArgs fd ⟨[v, a], []⟩) Q E s := by
  obtain ⟨k, e⟩ := bind_short (v := v) (a := a) hp hd h1 h2 h3
  rw [e]
  exact wpC_bind (wpC_of (wpAny_rule (wpC_bind (wpC_refuses hh (fun h' tk e x => hE _ _ _ x) hm))))
section
variable {α : Type} {C : Cx} {m : Loc} {σ : Led} {env : Env} {n : Nat}
theorem new_fail {a : Value} {E : Value → Shared → Prop} {R : Value → Shared → Prop} (G : Gd (n + 1) C env) {h : Heap} {tk : Nat} (I : Inv C h m σ)
    (hE : ∀ h' tk e, Heap.NewExc h h' e "TypeError" → E (.ref e) (C.sh h' tk)) : wpC C.M C.A (call (.ref 137) [.ref 210, a]) R E (C.sh h tk) := by
  have X := G.X.keeps I.keep
  have hF := X 137 _ rfl
  refine wpC_call ?_
  refine codeC_function (by have := G.hd; show C.A.depth < _; omega) hF rfl rfl rfl rfl (codeRec_of X (by kernel_rfl)) ?_
  refine bind_refuses rfl rfl ?_ ?_ ?_ ?_ G.hh hE
  · decide +kernel
  · decide +kernel
  · decide +kernel
  · rw [PyProof.Rows.ofString_length, sizeLine_eq]
    decide +kernel
end
end

section
open PySem PySem.W PySem.Spec PySem.Calls PyProof.Rows PySem.SeqAt Builtin Builtin.ObjectAttr
theorem ndc_load {α : Type} {M : Model} {A : Around} {Q : α → Shared → Prop} {E : Value → Shared → Prop} {s : Shared} {a : Addr} {p : Option Value} {k : Obj → Sem α} {o : Obj} (ho : s.heap.get? a = some o) (h : wpC M A (k o) Q E s) : wpC M A (.load a p k) Q E s := fun Γ q hΓ c => ⟨o, ho, h Γ q hΓ c⟩
theorem codeC_builtin {prog : Program} {w : World} {A : Around} {R : Result → Shared → Prop} {s : Shared} {id : String} {args : Args} {b : Builtin} (hb : entryFor table id = some b)
    (h : wpC (model prog w) (A.under (.builtin id args)) (b args) (fun fin s' => match fin with | .done f => R (.ok f) s' | .again c' => c'.quiet = true ∧ codeC (model prog w) A c' R s') (fun e s' => R (.error e) s') s) :
    codeC (model prog w) A (.builtin id args) R s := by
  refine codeC_of_tree ?_
  show wpC _ _ (match entryFor table id with | some b => b args | none => unsupported ((withoutEnding? id "#data").getD id)) _ _ s
  rw [hb]; exact h
section
variable {α : Type} {C : Cx} {m : Loc} {σ : Led} {env : Env} {n : Nat}
theorem pair_fail {v₁ : Value} {vs : List Value} {E : Value → Shared → Prop} {R : Value → Shared → Prop} (G : Gd n C env) {h : Heap} {tk : Nat} (I : Inv C h m σ) (ha : argsOk "type.__call__" ⟨.ref 210 :: v₁ :: vs, []⟩)
    (H : ∀ tk, wpC C.M (C.A.under (Code.builtin "type.__call__" ⟨.ref 210 :: v₁ :: vs, []⟩)) (call (.ref 137) (.ref 210 :: v₁ :: vs)) (fun _ _ => False) E (C.sh h tk)) : wpC C.M C.A (call (.ref 210) (v₁ :: vs)) R E (C.sh h tk) := by
  have X := G.X.keeps I.keep
  have hC := X 210 _ rfl
  have hcall : Looks C.M h (specialOf (.ref 210) "__call__") (some (.builtin "type.__call__")) := looks_specialIn X (by kernel_rfl)
  have htyp : Looks C.M h (isInstance (.ref 210) (.type "type")) true := looks_instIn X (by kernel_rfl)
  refine wpC_call ?_
  refine codeC_of_tree ?_
  show wpC _ _ (callAny (.ref 210) _) _ _ _
  refine ndc_load hC ?_
  show wpC _ _ (callAny.viaDunder (.ref 210) _) _ _ _
  unfold callAny.viaDunder
  refine wpC_bind (wpC_of (hcall.at ?_))
  dsimp only
  rw [tc_bind]
  refine wpC_bind (wpC_pure (wpC_bind (wpC_pure ?_)))
  refine wpC_pure (a := Fin.again (.call (.builtin "type.__call__") ⟨.ref 210 :: v₁ :: vs, []⟩)) (And.intro rfl ?_)
  refine codeC_of_tree ?_
  show wpC _ _ (do checkBuiltinCall "type.__call__" ⟨.ref 210 :: v₁ :: vs, []⟩; again (.builtin "type.__call__" ⟨.ref 210 :: v₁ :: vs, []⟩)) _ _ _
  refine wpC_bind (wpC_of (check_slot tc_kind tc_split htyp ha (wpC_pure (And.intro (Code.quiet_builtin _ (by decide +kernel)) (codeC_builtin entry_typeCall ?_)))))
  unfold Builtin.«type.__call__»
  have hm : Looks C.M h (mroOf (.ref 210)) _ := ((Looks.ld (part := none) hC).andThen .now).andThen .now
  dsimp only
  rw [if_neg (by decide)]
  refine wpC_bind (wpC_of (hm.at ?_))
  rw [if_neg (by decide)]
  refine wpC_bind (wpC_of ?_)
  repeat lk
  refine wpC_bind (wpC_of (cls_bind (s := C.sh h tk) X (rd_pair _) (fc_new _) (wpAny_call (sm_get X (rc_new _) (handed_on (by kernel_rfl) ?_)))))
  dsimp only
  refine wpC_bind (wpC_holding (wpC_mono (H _) (fun v s' z => z.elim) fun _ _ e => e))
theorem pair_fail1 {a : Value} {E : Value → Shared → Prop} {R : Value → Shared → Prop} (G : Gd (n + 2) C env) {h : Heap} {tk : Nat} (I : Inv C h m σ)
    (hE : ∀ h' tk e, Heap.NewExc h h' e "TypeError" → E (.ref e) (C.sh h' tk)) : wpC C.M C.A (call (.ref 210) [a]) R E (C.sh h tk) :=
  pair_fail G I (tc_args1 _ _) fun _ => new_fail (C := C.in (C.A.under (Code.builtin "type.__call__" ⟨.ref 210 :: a :: [], []⟩))) (n := n) G.made I.into hE
end
end

section
open PySem PySem.W PySem.Spec PySem.Calls PyProof.Rows PySem.SeqAt Builtin Builtin.ObjectAttr
section
variable {α β : Type} {C : Cx} {m : Loc} {σ : Led} {env : Env} {n : Nat} {E : Value → Shared → Prop}
/-- as EvG, with the claim's caller on the stack -/
def EvC (C : Cx) (E : Value → Shared → Prop) (t : Sem α) (m : Loc) (σ : Led) (Q : α → Loc → Led → Prop) : Prop :=
  ∀ h tk, Inv C h m σ → wpC C.M C.A t (Ends C Q) E (C.sh h tk)
theorem EvC.of {t : Sem α} {Q : α → Loc → Led → Prop} (H : EvC C E t m σ Q) {h : Heap} {tk : Nat} (I : Inv C h m σ) {R : α → Shared → Prop}
    (k : ∀ v h' tk' m' σ', Inv C h' m' σ' → Q v m' σ' → R v (C.sh h' tk')) : wpC C.M C.A t R E (C.sh h tk) :=
  wpC_mono (H h tk I) (fun v s' ⟨h', tk', m', σ', e, I', q⟩ => by subst e; exact k v h' tk' m' σ' I' q) fun _ _ x => x
theorem Ev.c {t : Sem α} {Q : α → Loc → Led → Prop} (H : Ev C t m σ Q) : EvC C E t m σ Q := fun _ _ I => wpC_of (H E _ _ I)
theorem EvC.mono {t : Sem α} {Q Q' : α → Loc → Led → Prop} (H : EvC C E t m σ Q) (k : ∀ v m' σ', Q v m' σ' → Q' v m' σ') : EvC C E t m σ Q' :=
  fun _ _ I => H.of I fun _ _ _ _ _ I' q => Ends.intro I' (k _ _ _ q)
theorem EvC.perm {t : Sem α} {σ' : Led} {Q : α → Loc → Led → Prop} (p : σ.Perm σ') (H : EvC C E t m σ' Q) : EvC C E t m σ Q := fun _ _ I => H _ _ (I.perm p)
theorem EvC.sub {t : Sem α} {σ' : Led} {Q : α → Loc → Led → Prop} (p : σ'.Sublist σ) (H : EvC C E t m σ' Q) : EvC C E t m σ Q := fun _ _ I => H _ _ (I.sub p)
theorem EvC.forget {t : Sem α} {Q : α → Loc → Led → Prop} (H : EvC C E t m σ fun v m' σ' => ∃ σ'', Sp σ'' σ' ∧ Q v m' σ'') : EvC C E t m σ Q := fun _ _ I => H.of I fun _ _ _ _ _ I' ⟨_, s, q⟩ => Ends.intro (I'.sp s) q
theorem cx_nil {Q : Flow → Loc → Led → Prop} (q : Q .next m σ) : EvC C E (execs [] env) m σ Q := (ev_nil q).c
theorem cx_cons {st : Stmt} {rest : List Stmt} {Q : Flow → Loc → Led → Prop}
    (H : EvC C E (exec st env) m σ fun f m' σ' => match f with | .next => EvC C E (execs rest env) m' σ' Q | f => Q f m' σ') : EvC C E (execs (st :: rest) env) m σ Q :=
  fun _ _ I => wpC_cons (H.of I fun f _ _ _ _ I' q => by cases f <;> first | exact q _ _ I' | exact Ends.intro I' q)
theorem cx_AssignName {x : PySem.Str} {pos' pos : Pos} {value : Expr} {Q : Flow → Loc → Led → Prop} (H : EvC C E (eval value env) m σ fun v m' σ' => Ev C (storeName env x v) m' σ' fun _ => Q .next)
    (hs : swapsWith value (some (.Name x pos')) pos.line env = pure false := by with_unfolding_all rfl) : EvC C E (exec (.Assign [.Name x pos'] value pos) env) m σ Q :=
  fun _ _ I => wpC_AssignName (H.of I fun _ _ _ _ _ I' q => q.of I' fun _ _ _ _ _ I'' q => Ends.intro I'' q) hs
theorem cx_AssignTuple {elts : List Expr} {k : Nat} {tpos pos : Pos} {value : Expr} {Q : Flow → Loc → Led → Prop} (H : EvC C E (eval value env) m σ fun v m' σ' => Ev C (assign (.Tuple elts k tpos) env v) m' σ' fun _ => Q .next)
    (hs : swapsWithSole [.Tuple elts k tpos] value pos.line env = pure false := by with_unfolding_all rfl) (hw : swappedStores [.Tuple elts k tpos] value env = pure none := by with_unfolding_all rfl) :
    EvC C E (exec (.Assign [.Tuple elts k tpos] value pos) env) m σ Q :=
  fun _ _ I => wpC_AssignTuple (H.of I fun _ _ _ _ _ I' q => q.of I' fun _ _ _ _ _ I'' q => Ends.intro I'' q) hs hw
theorem cx_Return {e : Expr} {pos : Pos} {Q : Flow → Loc → Led → Prop} (H : EvC C E (eval e env) m σ fun v => Q (.ret v)) : EvC C E (exec (.Return (some e) pos) env) m σ Q :=
  fun _ _ I => wpC_Return (H.of I fun _ _ _ _ _ I' q => Ends.intro I' q)
theorem cx_MethodCall {o : Expr} {name : PySem.Str} {apos pos : Pos} {args : List Expr} {pl : Sem Bool} {Q : Value → Loc → Led → Prop}
    (H : Ev C (eval o env) m σ fun ov m' σ' => Ev C (getMethod ov name pl) m' σ' fun fx m'' σ'' => EvC C E (callWith pos fx.1 fx.2 (backTo pos (starEach args env)) []) m'' σ'' Q)
    (he : eval (.Call (.Attribute o name apos) args [] pos) env = (do
      let ov ← eval o env
      standAt apos.atName
      let (f, first) ← holding [ov] (getMethod ov name pl)
      callWith pos f first (backTo pos (starEach args env)) []) := by with_unfolding_all rfl) : EvC C E (eval (.Call (.Attribute o name apos) args [] pos) env) m σ Q := fun _ _ I =>
  wpC_MethodCall (H.of I fun _ _ _ _ _ I' q => q.of I' fun _ _ _ _ _ I'' q => q _ _ I'') he
theorem cx_Call {func : Expr} {args : List Expr} {pos : Pos} {Q : Value → Loc → Led → Prop} (H : Ev C (eval func env) m σ fun f m' σ' => EvC C E (callWith pos f [] (backTo pos (starEach args env)) []) m' σ' Q)
    (he : eval (.Call func args [] pos) env = (do callWith pos (← eval func env) [] (backTo pos (starEach args env)) (backToKw pos (keywordEach [] env))) := by with_unfolding_all rfl) : EvC C E (eval (.Call func args [] pos) env) m σ Q := fun _ _ I => wpC_Call (H.of I fun _ _ _ _ _ I' q => q _ _ I') he
/-- one of the text's own called -/
theorem cx_callK1 {pos : Pos} {f : Value} {first : List Value} {e : Expr} {rest : List Expr} {Q : Value → Loc → Led → Prop} (G : Gd n C env) (hk : keepIn (KK C.w) f = true)
    {env' : Env} (H : Ev C (spliced (backTo pos (starEach (e :: rest) env'))) m σ fun vs m' σ' => EvC C E (call f (first ++ vs)) m' σ' Q)
    (he : starEach (e :: rest) env' = (false, eval e env') :: starEach rest env' := by with_unfolding_all rfl) :
    EvC C E (callWith pos f first (backTo pos (starEach (e :: rest) env')) []) m σ Q := fun _ _ I => by
  rw [he]
  rw [he] at H
  exact wpC_callWith (P := (KK C.w).In) (keeps_K hk) (evalArgs_plain (H.of I fun _ _ _ _ _ I' q => ⟨G.X.keeps I'.keep, q _ _ I'⟩))
/-- a bound method called -/
theorem cx_callM1 {pos : Pos} {q g : Addr} {self : Value} {first : List Value} {e : Expr} {rest : List Expr} {Q : Value → Loc → Led → Prop} (G : Gd n C env) (hf : fnIn (KK C.w) g = true)
    {env' : Env} (H : Ev C (spliced (backTo pos (starEach (e :: rest) env'))) m σ fun vs m' σ' => (q, methodObj (.ref g) self) ∈ σ' ∧ EvC C E (call (.ref q) (first ++ vs)) m' σ' Q)
    (he : starEach (e :: rest) env' = (false, eval e env') :: starEach rest env' := by with_unfolding_all rfl) :
    EvC C E (callWith pos (.ref q) first (backTo pos (starEach (e :: rest) env')) []) m σ Q := fun _ _ I => by
  rw [he]
  rw [he] at H
  exact wpC_callWith (P := MethP (KK C.w) q g self) (keeps_M hf) (evalArgs_plain (H.of I fun _ _ _ _ _ I' q => ⟨⟨I'.get q.1, G.X.keeps I'.keep⟩, q.2 _ _ I'⟩))
/-- a call with one starred argument -/
theorem cx_callS {pos p : Pos} {f : Value} {first : List Value} {e : Expr} {Q : Value → Loc → Led → Prop} (G : Gd n C env) (hk : keepIn (KK C.w) f = true)
    {env' : Env} (H : Ev C (eval e env') m σ fun v m' σ' => Ev C (notIterableAtAll v) m' σ' fun b m'' σ'' => b = false ∧ Ev C (collect v) m'' σ'' fun vs m₃ σ₃ => EvC C E (call f (first ++ vs)) m₃ σ₃ Q)
    (he : starEach [.Starred e p] env' = [(true, eval e env')] := by with_unfolding_all rfl) :
    EvC C E (callWith pos f first (backTo pos (starEach [.Starred e p] env')) []) m σ Q := fun _ _ I => by
  rw [he]
  refine wpC_callWith (P := (KK C.w).In) (keeps_K hk) (ks_lone (H.of I fun v _ _ _ _ I' q => ?_))
  unfold StarOf
  exact q.of I' fun b _ _ _ _ I'' q => ⟨q.1, q.2.of I'' fun vs _ _ _ _ I₃ q => ⟨G.X.keeps I₃.keep, q _ _ I₃⟩⟩
theorem codeC_method {prog : Program} {w : World} {A : Around} {R : Result → Shared → Prop} {s : Shared} {p : Addr} {f self : Value} {pos : List Value} {kw : List (PySem.Str × Value)} (ho : s.heap.get? p = some (methodObj f self))
    (h : codeC (model prog w) A (.call f ⟨self :: pos, kw⟩) R s) : codeC (model prog w) A (.call (.ref p) ⟨pos, kw⟩) R s := by
  obtain ⟨hh, g, dr, t, os⟩ := s
  refine codeC_of_tree ?_
  show wpC _ _ (callAny (.ref p) _) _ _ _
  dsimp only at ho
  refine ndc_load ho ?_
  cases f <;> exact wpC_pure ⟨rfl, h⟩
theorem wpC_uncall {M : Model} {A : Around} {f : Value} {pos : List Value} {kw : List (PySem.Str × Value)} {Q : Value → Shared → Prop} {s : Shared} (h : wpC M A (call f pos kw) Q E s) : wpC M A (call f pos kw) Q E s := h
/-- a call of a plain def that may raise an exception of its own making -/
theorem cx_defR {X : String} {S : Led → Prop} {name qual : PySem.Str} {params : Arguments} {body : List Stmt} {scope : Scope} {dV kV doc pm cdv ct oc : Value} {an od : Option Addr} {osl : Array (Option Value)} {f : Addr} {vs : List Value} {binds : List (PySem.Str × Value)} {R : Value → Shared → Prop}
    (G : Gd (n + 1) C env) (hE : ∀ σ' e s', Thr C env X m σ' e s' → S σ' → E e s')
    (ho : (KK C.w).lookup f = some ⟨oc, od, .func (fnOf name qual params body scope dV kV doc pm an cdv ct), osl⟩) (hcd : codeIn (KK C.w) cdv qual = true)
    (hbind : ∀ s, BindsTo s (fnOf name qual params body scope dV kV doc pm an cdv ct) ⟨vs, []⟩ binds) (hloc : ∀ y ∈ binds, scope.names.lookup y.1 = some .local) {h : Heap} {tk : Nat} (I : Inv C h m σ)
    (H : ∀ (C' : Cx) (E' : Value → Shared → Prop), (∀ m' σ' hB h a tk, Inv C' hB m' σ' → Heap.NewExc hB h a X → S σ' → E' (.ref a) (C'.sh h tk)) → Gd n C' (envOf qual scope C'.L f cdv) → Up C C' → EvC C' E' (execs body (envOf qual scope C'.L f cdv)) (fun y => binds.reverse.lookup y) σ fun fl _ σ' => ∀ h tk, Inv C h m σ' → R (match fl with | .ret v => v | _ => .none) (C.sh h tk))
    (hco : scope.isCoroutine = false := by with_unfolding_all rfl) (hgen : scope.isGenerator = false := by with_unfolding_all rfl) (hk : scope.kind = .function := by with_unfolding_all rfl) (hcell : ∀ x ∈ scope.names, x.2 ≠ .cell := by with_unfolding_all decide) :
    codeC C.M C.A (.call (.ref f) ⟨vs, []⟩) (fun r s' => match r with | .ok (.ret v) => R v s' | .ok _ => False | .error e => E e s') (C.sh h tk) := by
  obtain ⟨outer, hA, hl, B, D, back, turn⟩ := ground G I
  obtain ⟨p, loose, mean, mg, mb, T⟩ := G.T
  have X' : (KK C.w).In h := G.X.keeps I.keep
  have hfs : C.fs = outer.filterMap (·.frame) := by
    rw [List.filterMap_cons, G.hf] at hl
    exact (List.cons.inj hl).2.symm
  refine codeC_def (fd := fnOf name qual params body scope dV kV doc pm an cdv ct) (body := body) (binds := binds) (by have := G.hd; show C.A.depth < _; omega) (X' _ _ ho) rfl (T.nolimit.keeps I.keep) (codeRec_of X' hcd) rfl (hbind _) hcell hloc (fun h₁ hns hk₁ => ?_) hco hgen hk
  have e := (H ⟨C.w, C.A.deeper (envOf qual scope h.objs.size f cdv), C.Z, C.bs, hideAll h (σ.map (·.1)), C.L :: C.fs, h.objs.size⟩
    (fun e s' => wpAny (model pw C.w) (C.A.deeper (envOf qual scope h.objs.size f cdv)) (leaving (envOf qual scope h.objs.size f cdv) e) (fun _ s'' => E e s'') (fun e' s'' => E e' s'') s')
    (fun m' σ' hB h₂ a tk₂ I' x hS => by
      obtain ⟨g', bg', T', J'⟩ := I'.x
      obtain ⟨A₀, g₂, bg₂, T₂, F₂, K₂⟩ := turn g' T'
      exact leave_newS (A := C.A) (outer := env :: outer) ⟨B.stack, bg', B.frames.of_keeps fun a o e _ => let ⟨_, hs⟩ := T'.up e; ⟨_, hs, rfl⟩⟩ x J'.F J'.N
        (fun h' R _ u => hE σ' _ _ (.came hA hfs K₂ T₂ F₂ R u J'.D) hS) hk)
    (G.def hA hl B D rfl rfl hk rfl rfl) ⟨rfl, rfl⟩) h₁ (tk + binds.length)
    ⟨_, B.stays, KtsTurn.refl, I.enter rfl hns hk₁⟩
  refine wpC_mono e (fun fl s' ⟨h', tk', m', σ', es, I', q⟩ => ?_) fun _ _ x => x
  subst es
  obtain ⟨g', _, T', J'⟩ := I'.x
  have r := q h' tk' (back _ _ _ _ _ T' J')
  cases fl <;> exact r
/-- try: what is thrown is taken by the one clause -/
theorem cx_Try {X T' : String} {x : PySem.Str} {Q : Flow → Loc → Led → Prop} {S : Loc → Led → Prop} {body : List Stmt} {b₀ : Stmt} {suite : List Stmt} {np pos hpos : Pos} (G : Gd n C env)
    (H : ∀ E : Value → Shared → Prop, (∀ m' σ' e s', Thr C env X m' σ' e s' → S m' σ' → E e s') → EvC C E (execs body env) m σ Q)
    (hS : ∀ m' σ', S m' σ' → ∀ a, Ev (C.on a) (execs (b₀ :: suite) env) m' σ' Q)
    (ex : nsIn (KK C.w) mainGlobals x = some none) (hv : bootBuiltins x = some (.type T'))
    (hexc : isSubtype (.type T') (.type "BaseException") = pure true) (hnt : isSubtype (.type ((Manifest.find? T').elim "type" fun y => y.metatype)) (.type "tuple") = pure false) (hsub : isSubtype (.type X) (.type T') = pure true)
    (hn' : x ≠ "__name__" := by with_unfolding_all decide) (hx : env.kindOf x = some .globalImplicit := by with_unfolding_all rfl) (hd : (x == ("__debug__" : PySem.Str)) = false := by with_unfolding_all decide) :
    EvC C E (exec (.Try body [.ExceptHandler (some (.Name x np)) none (b₀ :: suite) hpos] [] [] pos) env) m σ Q := fun h tk I => by
  refine wpC_Try ?_
  exact H _ (fun m' σ' e s' y q => thr_caught G y ex hv hn' hexc hnt hsub (hS m' σ' q) hx hd) h tk I
theorem cx_ForList {target iter : Expr} {body : List Stmt} {pos : Pos} {vs : List Value} {l : Addr} {R : Led} {Q : Flow → Loc → Led → Prop} (J : Nat → Loc → Led → Prop)
    (hh : C.A.handled = none)
    (H : Ev C (eval iter env) m σ fun x m' σ' => x = .ref l ∧ ∃ P, σ' = P ++ R ∧ J 0 m' P)
    (hl : ∀ i m P, J i m P → LAt C (P ++ R) l vs.toArray)
    (ht : (∃ x p, target = .Name x p) ∨ ((∃ es k p, target = .Tuple es k p) ∧ ∀ v ∈ vs, ∃ t, v = .ref t))
    (turn : ∀ i v m P R', vs[i]? = some v → (∀ p ∈ R, p ∈ R') → R.Sublist R' → J i m P →
      Ev C (assign target env v) m (P ++ R') fun _ m' σ' => ∀ E, EvC C E (execs body env) m' σ' fun f m'' σ'' => match f with
        | .next | .cont => ∃ P', σ'' = P' ++ R' ∧ J (i + 1) m'' P'
        | .brk => Q .next m'' σ''
        | .ret v => Q (.ret v) m'' σ'')
    (done : ∀ m P, J vs.length m P → Q .next m (P ++ R))
    (hs : ∀ x, foldedSetIterable iter env x = pure x := by intro _; with_unfolding_all rfl) : EvC C E (exec (.For target iter body [] pos) env) m σ Q := fun h tk I => by
  refine wpC_For ?_ hs
  refine H.of I ?_
  rintro _ h₁ tk₁ m₁ _ I₁ ⟨rfl, P₀, rfl, hJ₀⟩
  refine (ev_iterList (m := m₁) (Q := fun it m' σ' => ∃ a, it = .ref a ∧ m₁ = m' ∧ (a, itOf l 0) :: (P₀ ++ R) = σ') (hl 0 m₁ P₀ hJ₀) fun a => ⟨a, rfl, rfl, rfl⟩).of I₁ ?_
  rintro _ h₂ tk₂ _ _ I₂ ⟨a, rfl, rfl, rfl⟩
  refine codeC_forLoop (fun k s => ∃ i m P h tk, k = vs.length - i ∧ i ≤ vs.length ∧ s = C.sh h tk ∧ Inv C h m ((a, itOf l i) :: (P ++ R)) ∧ J i m P) ?_ vs.length ⟨0, m₁, P₀, h₂, tk₂, by omega, Nat.zero_le _, rfl, I₂, hJ₀⟩
  rintro k s ⟨i, m₃, P, h₃, tk₃, rfl, hi, rfl, I₃, hJ⟩
  have hL : LAt C ((a, itOf l i) :: (P ++ R)) l vs.toArray := (hl i m₃ P hJ).cons
  by_cases hlt : i < vs.length
  · have hv : vs[i]? = some vs[i] := by simp [hlt]
    have e1 := (ev_nextList (Q := fun r m' σ' => r = some vs[i] ∧ m₃ = m' ∧ (a, itOf l (i + 1)) :: (P ++ R) = σ') hL (x := vs[i]) (by simp [hlt]) ⟨rfl, rfl, rfl⟩)
    refine e1.of I₃ ?_
    rintro _ h₄ tk₄ _ _ I₄ ⟨rfl, rfl, rfl⟩
    dsimp only
    have e2 : Ev C (letOwnedTupleGo target (.ref a) vs[i]) m₃ ((a, itOf l (i + 1)) :: (P ++ R)) (fun _ m' σ' => m₃ = m' ∧ (a, itOf l (i + 1)) :: (P ++ R) = σ') := ev_owned (by
      rcases ht with h | ⟨⟨es, k, p, h⟩, h2⟩
      · exact .inl h
      · obtain ⟨t, e⟩ := h2 vs[i] (List.getElem_mem hlt)
        exact .inr ⟨es, k, p, t, h, e⟩) (.head _) ⟨rfl, rfl⟩
    refine e2.of I₄ ?_
    rintro _ h₅ tk₅ _ _ I₅ ⟨rfl, rfl⟩
    have I₆ := I₅.perm (List.perm_middle (l₁ := P) (a := (a, itOf l (i + 1))) (l₂ := R)).symm
    refine (turn i vs[i] m₃ P ((a, itOf l (i + 1)) :: R) hv (fun p hp => .tail _ hp) (List.sublist_cons_self _ _) hJ).of I₆ fun _ h₇ tk₇ m₇ σ₇ I₇ q => ?_
    refine (q _).of I₇ fun f h₈ tk₈ m₈ σ₈ I₈ q => ?_
    have fin : (∃ P', σ₈ = P' ++ ((a, itOf l (i + 1)) :: R) ∧ J (i + 1) m₈ P') → ∃ k', k' < vs.length - i ∧ ∃ i' m P h tk, k' = vs.length - i' ∧ i' ≤ vs.length ∧ C.sh h₈ tk₈ = C.sh h tk ∧ Inv C h m ((a, itOf l i') :: (P ++ R)) ∧ J i' m P := by
      rintro ⟨P', rfl, hJ'⟩
      exact ⟨vs.length - (i + 1), by omega, i + 1, m₈, P', h₈, tk₈, rfl, hlt, rfl, I₈.perm List.perm_middle, hJ'⟩
    cases f with
    | next => exact fin q
    | cont => exact fin q
    | brk => exact Ends.intro I₈ q
    | ret v => exact Ends.intro I₈ q
  · have hi' : i = vs.length := by omega
    subst hi'
    refine (ev_nextEnd (Q := fun r m' σ' => r = none ∧ m₃ = m' ∧ P ++ R = σ') hh hL (by simp) ⟨rfl, rfl, rfl⟩).of I₃ ?_
    rintro _ h₄ tk₄ _ _ I₄ ⟨rfl, rfl, rfl⟩
    exact wpAny_execs_nil (Ends.intro I₄ (done _ _ hJ))
end
end

section
open PySem PySem.W PySem.Spec PySem.Calls PyProof.Rows PySem.SeqAt Builtin Builtin.ObjectAttr
section
variable {α : Type} {C : Cx} {m : Loc} {σ : Led} {env : Env} {n : Nat} {E : Value → Shared → Prop}
theorem fn_parse (w : World) : fnIn (KK w) 204 = true := by kernel_rfl
theorem looks_mapIter {M : Model} {h : Heap} {a t : Addr} {f : Value} (e : h.get? a = some (mapOf t f)) : Looks M h (specialOf (.ref a) "__iter__") (some (.builtin "map.__iter__")) :=
  ((Looks.ld e).andThen .now).andThen (Looks.of_pure slot_map_iter.lookup)
theorem ev_iterable {M t : Addr} {f : Value} {Q : Bool → Loc → Led → Prop} (hM : (M, mapOf t f) ∈ σ) (q : Q false m σ) : Ev C (notIterableAtAll (.ref M)) m σ Q := fun E h tk I => by
  unfold notIterableAtAll
  exact wpAny_bind ((looks_mapIter (I.get hM)).here (wpAny_pure (Ends.intro I q)))
theorem ev_baseName {x attr : PySem.Str} {pos : Pos} {Q : Value → Loc → Led → Prop} (H : Ev C (eval (.Name x pos) env) m σ Q) : Ev C (attributeBase (.Name x pos) attr env (eval (.Name x pos) env)) m σ Q := H
theorem eqs_len : ((Str.ofString "=").length == 0) = false := by decide +kernel
theorem lim1 : (decide ((1 : Int) < -(2 ^ 63 : Int)) || decide ((1 : Int) ≥ 2 ^ 63)) = false := by decide
theorem line_len (x turn : Int) : (lineI x turn).length ≤ 100 := by
  cases h : rowI x with
  | none => rw [line_none h]; have := head_len (bI (pickI x turn)) (bI ((pickI x turn).fdiv 4)) (nI x); omega
  | some r =>
    obtain ⟨a, b, c, d, e⟩ := line_some (turn := turn) h
    have h1 := head_len a b r.1
    have h2 := tail_len c d r.2
    have h3 := eq_len
    rw [e]
    simp only [Str.length_append]
    omega
/-- the parts of a line, without their blanks -/
theorem parts_none {x turn : Int} (h : rowI x = none) : ∃ y, y.length ≤ 100 ∧ Txt.splitMax (lineI x turn) "=" 1 = [y] := by
  rw [line_none h, split_no _ (head_ne _ _ _)]
  exact ⟨_, Nat.le_trans (head_len _ _ _) (by decide), rfl⟩
theorem parts_some {x turn : Int} {r : Row} (h : rowI x = some r) : ∃ y z, y.length ≤ 100 ∧ z.length ≤ 100 ∧ Txt.splitMax (lineI x turn) "=" 1 = [y, z] ∧ Txt.strip y = nm r.1 ∧ Txt.strip z = vl r.2 := by
  obtain ⟨a, b, c, d, e⟩ := line_some (turn := turn) h
  rw [e, split_eq _ _ (head_ne _ _ _)]
  exact ⟨_, _, Nat.le_trans (head_len _ _ _) (by decide), Nat.le_trans (tail_len _ _ _) (by decide), rfl, eq_of_beq (head_strip _ _ _), eq_of_beq (tail_strip _ _ _)⟩
theorem parse_ok {x turn : Int} {t : Tok} {M : Addr} {Q : Value → Loc → Led → Prop} (G : Gd (n + 4) C env) (hM : (M, methodObj (.ref 204) (.ref 210)) ∈ σ)
    (hE : ∀ σ' e s', Thr C env "TypeError" m σ' e s' → Sp σ σ' → rowI x = none → E e s')
    (q : ∀ r, rowI x = some r → ∀ p dx t u, Q (.ref p) m ((p, pairObj dx (.str (nm r.1) t) (.str (vl r.2) u)) :: (dx, emptyDict) :: σ)) : EvC C E (call (.ref M) [.str (lineI x turn) t]) m σ Q := fun h tk I => by
  refine wpC_call (codeC_method (I.get hM) ?_)
  refine cx_defR (n := n + 3) (binds := [(Str.ofString "cls", .ref 210), (Str.ofString "text", .str (lineI x turn) t)]) (X := "TypeError") (S := fun σ' => Sp σ σ' ∧ rowI x = none) (R := Ends C Q) G (fun σ' e s' y hs => hE σ' e s' y hs.1 hs.2) rfl (by kernel_rfl) (fun _ => BindsTo.of_eq rfl) (locs rfl) I fun C' E' hE' G' U => ?_
  refine cx_cons (cx_Return (cx_Call (ev_local G' (by with_unfolding_all rfl) (cx_callS G' (keep_pair _) ?_))))
  refine ev_Call ?_
  refine ev_builtin G' (gn_map _) (by with_unfolding_all rfl) ?_
  refine ev_callT1 ?_
  refine ev_args_cons ?_
  refine ev_Attribute (ev_baseName ?_)
  refine ev_builtin G' (gn_str _) (by with_unfolding_all rfl) ?_
  refine ev_strStrip G' ?_
  refine ev_args_cons ?_
  refine ev_MethodCall ?_
  refine ev_local G' (by with_unfolding_all rfl) ?_
  refine ev_strSplit ?_
  refine ev_callB1 ?_
  walk_at "go"
  have hz : sizeLine = 16777216 := rfl
  have hl := line_len x turn
  refine ev_split eqs_len lim1 (by omega) fun l L hsp => ?_
  walk_at "go"
  refine ev_map (LAt.led (.head _)) fun i t M => ?_
  refine ev_iterable (.head _) ⟨rfl, ?_⟩
  refine Ev.front (l := [(M, mapOf t (.builtin "str.strip")), (t, tupOf #[.ref i])]) ?_
  have hlen : l.length = (Txt.splitMax (lineI x turn) "=" 1).length := by rw [← hsp]; simp
  have hp : ∀ p ∈ l, p.1 ∈ Txt.splitMax (lineI x turn) "=" 1 := fun p hp => by rw [← hsp]; exact List.mem_map_of_mem hp
  cases hr : rowI x with
  | none =>
    obtain ⟨y, hy, ey⟩ := parts_none (turn := turn) hr
    rw [ey] at hsp hlen hp
    refine ev_collectMap (k₀ := 0) G'.hh (.head _) (.tail _ (.head _)) (.tail _ (.tail _ (.head _))) (by rw [hlen]; exact Nat.le_of_ble_eq_true rfl) (fun p h' => ?_) fun vs hst => ?_
    · rw [List.mem_singleton.mp (hp p h')]; omega
    rw [hsp] at hst
    cases hst with
    | cons h0 =>
      cases h0
      exact fun h₂ tk₂ I₂ => pair_fail1 (n := n + 1) G' I₂ fun h' tk' e x => hE' _ _ _ _ _ _ I₂ x ⟨by walk_at "sub", hr⟩
  | some r =>
    obtain ⟨y, z, hy, hz', ey, e1, e2⟩ := parts_some (turn := turn) hr
    rw [ey] at hsp hlen hp
    refine ev_collectMap (k₀ := 0) G'.hh (.head _) (.tail _ (.head _)) (.tail _ (.tail _ (.head _))) (by rw [hlen]; exact Nat.le_of_ble_eq_true rfl) (fun p h' => ?_) fun vs hst => ?_
    · rcases List.mem_cons.mp (hp p h') with e | h'
      · rw [e]; omega
      · rw [List.mem_singleton.mp h']; omega
    rw [hsp] at hst
    cases hst with
    | cons h0 =>
      cases h0 with
      | cons h0 =>
        cases h0
        rw [e1, e2]
        exact (pair_ok (n := n + 1) G' fun p dx t h tk I => Ends.intro (I.sp (Sp.of (.cons_cons _ (.cons_cons _ (.cons _ (.cons _ (.cons _ (.cons _ (.refl _)))))))))  (q r hr p dx _ _)).c
end
end

section
open PySem PySem.W PySem.Spec PySem.Calls PyProof.Rows PySem.SeqAt Builtin Builtin.ObjectAttr
section
variable {α : Type} {C : Cx} {m : Loc} {σ : Led} {env : Env} {n : Nat}
/-- a call of a plain def whose defaults stand in the heap -/
theorem ev_defD {name qual : PySem.Str} {params : Arguments} {body : List Stmt} {scope : Scope} {dV kV doc pm cdv ct oc : Value} {an od : Option Addr} {osl : Array (Option Value)} {f : Addr} {vs : List Value} {binds : List (PySem.Str × Value)} {Q : Value → Loc → Led → Prop}
    (G : Gd (n + 1) C env)
    (ho : (KK C.w).lookup f = some ⟨oc, od, .func (fnOf name qual params body scope dV kV doc pm an cdv ct), osl⟩) (hcd : codeIn (KK C.w) cdv qual = true)
    (hbind : ∀ s, (KK C.w).In s.heap → BindsTo s (fnOf name qual params body scope dV kV doc pm an cdv ct) ⟨vs, []⟩ binds) (hloc : ∀ y ∈ binds, scope.names.lookup y.1 = some .local)
    (H : ∀ C' : Cx, Gd n C' (envOf qual scope C'.L f cdv) → Up C C' → Ev C' (execs body (envOf qual scope C'.L f cdv)) (fun y => binds.reverse.lookup y) σ fun fl _ σ' => Q (match fl with | .ret v => v | _ => .none) m σ')
    (hco : scope.isCoroutine = false := by with_unfolding_all rfl) (hgen : scope.isGenerator = false := by with_unfolding_all rfl) (hk : scope.kind = .function := by with_unfolding_all rfl) (hcell : ∀ x ∈ scope.names, x.2 ≠ .cell := by with_unfolding_all decide) :
    Ev C (call (.ref f) vs) m σ Q := fun E h tk I => by
  obtain ⟨outer, hA, hl, B, D, back, _⟩ := ground G I
  obtain ⟨p, loose, mean, mg, mb, T⟩ := G.T
  have X : (KK C.w).In h := G.X.keeps I.keep
  refine wpAny_call ?_
  refine codeAny_call_def (fd := fnOf name qual params body scope dV kV doc pm an cdv ct) (body := body) (binds := binds) (by have := G.hd; show C.A.depth < _; omega) (X _ _ ho) rfl (T.nolimit.keeps I.keep) (codeRec_of X hcd) rfl (hbind _ X) hcell hloc (fun h₁ hns hk₁ => ?_) hco hgen hk
  have e := (H ⟨C.w, C.A.deeper (envOf qual scope h.objs.size f cdv), C.Z, C.bs, hideAll h (σ.map (·.1)), C.L :: C.fs, h.objs.size⟩ (G.def hA hl B D rfl rfl hk rfl rfl) ⟨rfl, rfl⟩
    (fun e s' => wpAny (model pw C.w) (C.A.deeper (envOf qual scope h.objs.size f cdv)) (leaving (envOf qual scope h.objs.size f cdv) e) (fun _ s'' => E e s'') (fun e' s'' => E e' s'') s') h₁ (tk + binds.length)
    ⟨_, B.stays, KtsTurn.refl, I.enter rfl hns hk₁⟩)
  refine wpAny_mono e (fun fl s' ⟨h', tk', m', σ', es, I', q⟩ => ?_) fun _ _ x => x
  subst es
  obtain ⟨g', _, T', J'⟩ := I'.x
  exact ⟨h', tk', m, σ', rfl, back _ _ _ _ _ T' J', q⟩

theorem fo_name (w : World) : findObj (KK w) 210 (some emptyDict) (Str.ofString "name") = some (.bind (.ref 68) (.ref 179)) := by kernel_rfl
theorem fo_value (w : World) : findObj (KK w) 210 (some emptyDict) (Str.ofString "value") = some (.bind (.ref 68) (.ref 182)) := by kernel_rfl
theorem ga_pair (w : World) : findIn (KK w) (.ref 210) "__getattribute__" = some (some (.builtin "tuple.__getattribute__")) := by kernel_rfl
theorem gh_pair (w : World) : findIn (KK w) (.ref 210) "__getattr__" = some none := by kernel_rfl
theorem ga_getter (w : World) : findIn (KK w) (.ref 85) "__getattribute__" = some (some (.builtin "object.__getattribute__")) := by kernel_rfl
theorem gn_type (w : World) : nsIn (KK w) mainGlobals "type" = some none := by kernel_rfl
theorem gn_issub (w : World) : nsIn (KK w) mainGlobals "issubclass" = some none := by kernel_rfl
theorem fc_tget (w : World) : findCls (KK w) (.type "tuple") (.type "type") (PySem.Str.ofString "__getitem__") = some (.val (.builtin "tuple.__getitem__")) := by kernel_rfl
theorem tg_kind : builtinKind "tuple.__getitem__" = some .slot := by decide +kernel
theorem tg_split : splitId "tuple.__getitem__" = some ("tuple", "__getitem__") := by decide +kernel
theorem tg_plain : "tuple.__getitem__".startsWith "lifetime." = false := by decide +kernel
theorem ev_tupleGet {pl : Sem Bool} {Q : Value × List Value → Loc → Led → Prop} (G : Gd n C env) (q : Q (.builtin "tuple.__getitem__", []) m σ) : Ev C (getMethod (.type "tuple") "__getitem__" pl) m σ Q := fun E h tk I => by
  have X := G.X.keeps I.keep
  unfold getMethod
  refine wpAny_bind (wpAny_of_eq special_tuple ?_)
  dsimp only
  rw [if_pos canon_tga]
  have hstub : opaqueClassAbove (.type "tuple") = pure none := by unfold opaqueClassAbove; dsimp only; rw [show Manifest.isStub "tuple" = false by decide +kernel]; rfl
  refine wpAny_bind (cls_open (s := C.sh h tk) X (Looks.of_pure hstub) (Looks.of_pure type_tuple) (tga_find _) (looks_hook X (r := none) (by rfl)) (sub_type _) (fc_tget _) ?_)
  refine wpAny_pure ?_
  refine handed_on (by kernel_rfl) ?_
  exact wpAny_pure (Ends.intro (C := C) (tk := tk + 1) I q)
theorem inst_pair {h : Heap} {p dx : Addr} {a b : Value} (I : Inv C h m σ) (hp : (p, pairObj dx a b) ∈ σ) (hd : (dx, emptyDict) ∈ σ) : InstAt h p (pairObj dx a b) 210 (some emptyDict) := ⟨I.get hp, rfl, rfl, I.get hd⟩
theorem ev_typePair {p dx : Addr} {a b : Value} {Q : Value → Loc → Led → Prop} (hp : (p, pairObj dx a b) ∈ σ) (hd : (dx, emptyDict) ∈ σ) (q : Q (.ref 210) m σ) : Ev C (call (.type "type") [.ref p]) m σ Q := fun E h tk I =>
  kto_own (s := C.sh h tk) (inst_pair I hp hd) (Ends.intro I q)
theorem ev_issub {Q : Value → Loc → Led → Prop} (G : Gd n C env) (q : Q (.bool true) m σ) : Ev C (call (.builtin "issubclass") [.ref 210, .type "tuple"]) m σ Q := fun E h tk I => by
  have X := G.X.keeps I.keep
  have hC := X 210 _ rfl
  have t1 : ∀ M : Model, Looks M h (isSubtype (.ref 210) (.type "tuple")) true := fun M => looks_subIn X (by kernel_rfl)
  have t2 : ∀ M : Model, Looks M h (isInstance (.ref 210) (.type "type")) true := fun M => looks_instIn X (by kernel_rfl)
  have t3 : ∀ M : Model, Looks M h (isInstance (.type "tuple") (.type "type")) true := fun M => Looks.of_pure (by kernel_rfl)
  have t4 : ∀ M : Model, Looks M h (typeOf (.type "tuple")) (.type "type") := fun M => Looks.of_pure type_tuple
  refine call_issubclass (S := fun _ R s => s = C.sh h tk ∧ R (.ok (.ret (.bool true))) s) (fun prog w A R s hs => ?_) ⟨rfl, Ends.intro I q⟩
  obtain ⟨rfl, hs⟩ := hs
  refine issubclass_outer ?_
  have t1 := t1 (model prog w)
  have t2 := t2 (model prog w)
  have t3 := t3 (model prog w)
  have t4 := t4 (model prog w)
  unfold Builtin.«issubclass.nested»
  repeat lk
  exact hs
theorem ev_tupleItem {p dx : Addr} {a b v : Value} {k : Nat} {t : Tok} {Q : Value → Loc → Led → Prop} (G : Gd n C env) (hp : (p, pairObj dx a b) ∈ σ) (hd : (dx, emptyDict) ∈ σ) (hv : #[a, b][k]? = some v) (q : Q v m σ) : Ev C (call (.builtin "tuple.__getitem__") [.ref p, .int k t]) m σ Q := fun E h tk I => by
  have X := G.X.keeps I.keep
  have hP := I.get hp
  have t1 : Looks C.M h (typeOf (.ref p)) (.ref 210) := (Looks.ld hP).andThen .now
  have t2 : Looks C.M h (isSubtype (.ref 210) (.type "tuple")) true := looks_subIn X (by kernel_rfl)
  refine wpAny_call ?_
  refine call_slotB "tuple.__getitem__" "tuple" "__getitem__" tg_plain PySem.F.entry_tuple_getitem tg_kind tg_split (t1.andThen t2) (PySem.F.args_tuple_getitem_2 _ _) ?_
  unfold Builtin.«tuple.__getitem__»
  repeat lk
  rw [if_neg (by
    have hk : k < 2 := by
      rcases k with _ | _ | k
      · decide
      · decide
      · simp at hv
    rw [Bool.or_eq_true, decide_eq_true_eq, decide_eq_true_eq]
    omega)]
  have hk : (seqIndex? (k : Int) (#[a, b] : Array Value).size).bind (fun x => (#[a, b] : Array Value)[x]?) = some v := by
    rcases k with _ | _ | k
    · exact hv
    · exact hv
    · simp at hv
  rw [hk]
  exact wpAny_pure (Ends.intro I q)
theorem tga_kind : builtinKind "tuple.__getattribute__" = some .slot := by decide +kernel
theorem tga_split : splitId "tuple.__getattribute__" = some ("tuple", "__getattribute__") := by decide +kernel
theorem tga_entry : entryFor table "tuple.__getattribute__" = some Builtin.«object.__getattribute__» :=
  entryFor_alias (id' := "object.__getattribute__") (by kernel_rfl) (by first | rfl | decide +kernel) (by decide +kernel) (by kernel_rfl)
theorem tga_args (a b : Value) : argsOk "tuple.__getattribute__" ⟨[a, b], []⟩ := by unfold argsOk; kernel_rfl
theorem tga_bind (self : Value) : bindSpecial (.builtin "tuple.__getattribute__") self = pure (.builtin "tuple.__getattribute__", [self]) :=
  (Slot.of (T := "tuple") (name := "__getattribute__") (owner := "tuple") (n := "__getattribute__") (by rw [typeLookup_type, builtinLookup_eq_fast]; kernel_rfl) (by decide +kernel) (by decide +kernel) (by decide +kernel)
    (.inl (by decide +kernel)) (by rw [isSubtype_type]; kernel_rfl)).bind self
theorem tga_plain : plainId "tuple.__getattribute__" = true := by decide +kernel
theorem attr_pair {p dx g : Addr} {a b : Value} {name : PySem.Str} {Q : Value → Loc → Led → Prop} (hf : ∀ w, findObj (KK w) 210 (some emptyDict) name = some (.bind (.ref 68) (.ref g))) (G : Gd n C env) (hp : (p, pairObj dx a b) ∈ σ) (hd : (dx, emptyDict) ∈ σ)
    (H : Ev (C.in C.A.in1) (call (.ref 68) [.ref g, .ref p, .ref 210]) m σ fun v m' σ' => (∃ x t, v = .str x t) ∧ Q v m' σ') : Ev C (getAttr (.ref p) name true) m σ Q := fun E h tk I => by
  have X := G.X.keeps I.keep
  have hP := I.get hp
  have hC := X 210 _ rfl
  have I0 := inst_pair I hp hd
  have t1 : Looks C.M h (typeOf (.ref p)) (.ref 210) := (Looks.ld hP).andThen .now
  have t3 : Looks C.M h (typeLookup (.ref 210) "__getattribute__") (some (.builtin "tuple.__getattribute__")) := looks_findIn X (ga_pair _)
  have t4 : Looks C.M h (find (.ref p) (.ref 210) name) (.bind (.ref 68) (.ref g)) := looks_find X I0 (hf _)
  have t5 : Looks C.M h (typeLookup (.ref 210) "__getattr__") none := looks_findIn X (gh_pair _)
  have t6 : Looks C.M h (bindSpecial (.builtin "tuple.__getattribute__") (.ref p)) (.builtin "tuple.__getattribute__", [.ref p]) := Looks.of_pure (tga_bind _)
  have t7 : Looks C.M h (isSubtype (.ref 210) (.type "tuple")) true := looks_subIn X (by kernel_rfl)
  unfold getAttr
  refine wpAny_bind (wpAny_mkText ?_)
  unfold getAttrBy
  iterate 7 lk
  unfold getAttrByItsOwn hookBefore
  iterate 3 lk
  refine wpAny_bind (wpAny_attempt ?_)
  repeat (first | with_reducible refine wpAny_call ?_ | lk)
  refine call_slotB "tuple.__getattribute__" "tuple" "__getattribute__" (by decide +kernel) tga_entry tga_kind tga_split (t1.andThen t7) (tga_args _ _) ?_
  unfold Builtin.«object.__getattribute__»
  rw [Around.under_plainId tga_plain _]
  repeat ((fail_if_success (with_reducible refine at_strip ?_)); lk)
  refine H.of I.into fun v h' tk' m' σ' J q' => ?_
  obtain ⟨⟨x, t, rfl⟩, q'⟩ := q'
  exact wpAny_pure (handed_on rfl (Ends.intro J.back q'))
end
end

section
open PySem PySem.W PySem.Spec PySem.Calls PyProof.Rows PySem.SeqAt Builtin Builtin.ObjectAttr
section
variable {α : Type} {C : Cx} {m : Loc} {σ : Led} {env : Env} {n : Nat}
theorem ev_isNone {a : Addr} {Q : Value → Loc → Led → Prop} (q : Q (.bool false) m σ) : Ev C (compareOp .Is (.ref a) .none) m σ Q := fun E h tk I => is_ref_none (Ends.intro I q)
theorem ev_isNot {x : Expr} {pos : Pos} {whole : Sem Value} {Q : Bool → Loc → Led → Prop} (H : Ev C (isTrue x env (eval x env)) m σ fun c => Q (!c)) : Ev C (isTrue (.UnaryOp .Not x pos) env whole) m σ Q := fun E h tk I =>
  isTrue_not (H.of I fun _ _ _ _ _ I' q => Ends.intro I' q)
/-- a getter of the class: its place -/
structure Getter (g : Addr) (k : Nat) : Prop where
  at_ : ∀ w h, (KK w).In h → ∃ og d od, InstAt h g og 85 (some od) ∧ og.dict = some d ∧ ∃ t, findObj (KK w) 85 (some od) (Str.ofString "index") = some (.value (.int k t))
theorem getter_name : Getter 179 0 := ⟨fun w h X => by
  have h1 := X 179 _ rfl
  have h2 := X 178 _ rfl
  exact ⟨_, _, _, ⟨h1, rfl, rfl, h2⟩, rfl, 491, by kernel_rfl⟩⟩
theorem getter_value : Getter 182 1 := ⟨fun w h X => by
  have h1 := X 182 _ rfl
  have h2 := X 181 _ rfl
  exact ⟨_, _, _, ⟨h1, rfl, rfl, h2⟩, rfl, 501, by kernel_rfl⟩⟩
theorem ev_index {g : Addr} {k : Nat} {Q : Value → Loc → Led → Prop} (G : Gd n C env) (hg : Getter g k) (q : ∀ t, Q (.int k t) m σ) : Ev C (getAttr (.ref g) "index" true) m σ Q := fun E h tk I => by
  have X := G.X.keeps I.keep
  obtain ⟨og, d, od, I0, _, t, hf⟩ := hg.at_ C.w h X
  exact get_value (s := C.sh h tk) X I0 (ga_getter _) hf rfl (Ends.intro (C := C) (tk := tk + 1) I (q t))
theorem getter_ok {g p dx : Addr} {a b v : Value} {k : Nat} {Q : Value → Loc → Led → Prop} (G : Gd (n + 1) C env) (hg : Getter g k) (hp : (p, pairObj dx a b) ∈ σ) (hd : (dx, emptyDict) ∈ σ) (hv : (#[a, b] : Array Value)[k]? = some v) (q : Q v m σ) :
    Ev C (call (.ref 68) [.ref g, .ref p, .ref 210]) m σ Q := by
  refine ev_defD (binds := [(Str.ofString "self", .ref g), (Str.ofString "obj", .ref p), (Str.ofString "objtype", .ref 210)]) G rfl (by kernel_rfl) (fun s X => ?_) (locs rfl) fun C' G' U => ?_
  · have h1 := X 61 _ rfl
    exact BindsTo.of_defaults rfl h1 rfl rfl rfl
  refine ev_cons (ev_If (ev_isCompare ?_))
  refine ev_local G' (by with_unfolding_all rfl) ?_
  refine ev_none ?_
  refine ev_isNone ?_
  refine ev_truthy_bool ?_
  rw [if_neg (by decide)]
  refine ev_nil ?_
  refine ev_cons (ev_If (ev_isNot (ev_isPlain ?_)))
  refine ev_Call ?_
  refine ev_builtin G' (gn_issub _) (by with_unfolding_all rfl) ?_
  refine ev_callB1 ?_
  refine ev_args_cons ?_
  refine ev_Call ?_
  refine ev_builtin G' (gn_type _) (by with_unfolding_all rfl) ?_
  refine ev_callT1 ?_
  refine ev_args_cons ?_
  refine ev_local G' (by with_unfolding_all rfl) ?_
  refine ev_args_nil ?_
  refine ev_typePair hp hd ?_
  refine ev_args_cons ?_
  refine ev_builtin G' (gn_tuple _) (by with_unfolding_all rfl) ?_
  refine ev_args_nil ?_
  refine ev_issub G' ?_
  refine ev_truthy_bool ?_
  rw [if_neg (by decide)]
  refine ev_nil ?_
  refine ev_cons (ev_Return (ev_MethodCall ?_))
  refine ev_builtin G' (gn_tuple _) (by with_unfolding_all rfl) ?_
  refine ev_tupleGet G' ?_
  refine ev_callB1 ?_
  refine ev_args_cons ?_
  refine ev_local G' (by with_unfolding_all rfl) ?_
  refine ev_args_cons ?_
  refine ev_Attribute (ev_baseName ?_)
  refine ev_local G' (by with_unfolding_all rfl) ?_
  refine ev_index G' hg fun t => ?_
  refine ev_args_nil ?_
  exact ev_tupleItem G' hp hd hv q
theorem ev_pairName {p dx : Addr} {x y : PySem.Str} {t u : Tok} {Q : Value → Loc → Led → Prop} (G : Gd (n + 2) C env) (hp : (p, pairObj dx (.str x t) (.str y u)) ∈ σ) (hd : (dx, emptyDict) ∈ σ) (q : Q (.str x t) m σ) : Ev C (getAttr (.ref p) "name" true) m σ Q :=
  attr_pair fo_name G hp hd (getter_ok G.in1 getter_name hp hd rfl ⟨⟨_, _, rfl⟩, q⟩)
theorem ev_pairValue {p dx : Addr} {x y : PySem.Str} {t u : Tok} {Q : Value → Loc → Led → Prop} (G : Gd (n + 2) C env) (hp : (p, pairObj dx (.str x t) (.str y u)) ∈ σ) (hd : (dx, emptyDict) ∈ σ) (q : Q (.str y u) m σ) : Ev C (getAttr (.ref p) "value" true) m σ Q :=
  attr_pair fo_value G hp hd (getter_ok G.in1 getter_value hp hd rfl ⟨⟨_, _, rfl⟩, q⟩)
end
end

section
open PySem PySem.W PySem.Spec PySem.Calls PyProof.Rows PySem.SeqAt Builtin Builtin.ObjectAttr
/-- one entry of a book: the name, its list's address, what the list holds -/
structure BkE where
  y : Nm
  l : Addr
  vs : List (Value × Vl)
  k : Nat
abbrev Bk := List BkE
def BkE.led (e : BkE) : Addr × Obj := (e.l, lstOf (e.vs.map (·.1)) e.k)
def bkLed (b : Bk) : Led := b.map BkE.led
def bkBP (b : Bk) : BP := b.map fun e => (e.y, e.l)
/-- what a book says -/
abbrev BkD := List (Nm × List Vl)
def bkD (b : Bk) : BkD := b.map fun e => (e.y, e.vs.map (·.2))
def bkOk (b : Bk) : Prop := ∀ e ∈ b, ∀ p ∈ e.vs, VlAt p.1 p.2
def addP (b : BkD) (r : Row) : BkD := if r.1 ∈ b.map (·.1) then b.map (fun e => if e.1 = r.1 then (e.1, e.2 ++ [r.2]) else e) else b ++ [(r.1, [r.2])]
def readP (rs : List Row) : BkD := rs.foldl addP []
theorem readP_snoc (rs : List Row) (r : Row) : readP (rs ++ [r]) = addP (readP rs) r := by simp [readP]
theorem bkLed_app (a b : Bk) : bkLed (a ++ b) = bkLed a ++ bkLed b := List.map_append
theorem bkBP_app (a b : Bk) : bkBP (a ++ b) = bkBP a ++ bkBP b := List.map_append
theorem bget_none {b : Bk} {y : Nm} (h : bget (bkBP b) y = none) : y ∉ (bkD b).map (·.1) := by
  intro hm
  unfold bget at h
  rw [Option.map_eq_none_iff, List.find?_eq_none] at h
  simp only [bkD, List.map_map, List.mem_map, Function.comp] at hm
  obtain ⟨e, he, rfl⟩ := hm
  exact h (e.y, e.l) (List.mem_map.mpr ⟨e, he, rfl⟩) (by simp)
theorem bget_some {b : Bk} {y : Nm} {l : Addr} (h : bget (bkBP b) y = some l) : ∃ b1 e b2, b = b1 ++ e :: b2 ∧ e.y = y ∧ e.l = l ∧ y ∉ b1.map (·.y) := by
  induction b with
  | nil => cases h
  | cons e b ih =>
    by_cases he : e.y = y
    · refine ⟨[], e, b, rfl, he, ?_, by simp⟩
      simp only [bget, bkBP, List.map_cons, List.find?_cons, he] at h
      simpa using h
    · have h' : bget (bkBP b) y = some l := by
        simp only [bget, bkBP, List.map_cons, List.find?_cons] at h ⊢
        rw [show (e.y == y) = false by simpa using he] at h
        exact h
      obtain ⟨b1, e', b2, rfl, h1, h2, h3⟩ := ih h'
      exact ⟨e :: b1, e', b2, rfl, h1, h2, by simp [h3, Ne.symm he]⟩
/-- the names are apart -/
def bkNd (b : Bk) : Prop := (b.map (·.y)).Nodup
theorem addP_new {b : Bk} {r : Row} (h : r.1 ∉ (bkD b).map (·.1)) {l : Addr} {v : Value} {k : Nat} : bkD (b ++ [⟨r.1, l, [(v, r.2)], k⟩]) = addP (bkD b) r := by
  unfold addP
  rw [if_neg h]
  simp [bkD]
theorem addP_old {b1 b2 : Bk} {e : BkE} {r : Row} (hy : e.y = r.1) (hn : bkNd (b1 ++ e :: b2)) {v : Value} {k : Nat} : bkD (b1 ++ ⟨e.y, e.l, e.vs ++ [(v, r.2)], k⟩ :: b2) = addP (bkD (b1 ++ e :: b2)) r := by
  unfold addP
  rw [if_pos (by simp [bkD, hy])]
  unfold bkNd at hn
  rw [List.map_append, List.map_cons, List.nodup_append] at hn
  obtain ⟨h1, h2, h3⟩ := hn
  rw [List.nodup_cons] at h2
  have a1 : ∀ x ∈ b1, x.y ≠ r.1 := fun x hx e' => h3 _ (List.mem_map_of_mem hx) _ (.head _) (by rw [e', hy])
  have a2 : ∀ x ∈ b2, x.y ≠ r.1 := fun x hx e' => h2.1 (by rw [hy, ← e']; exact List.mem_map_of_mem hx)
  simp only [bkD, List.map_append, List.map_cons, List.map_map, hy, if_pos]
  congr 1
  · exact List.map_congr_left fun x hx => by simp [a1 x hx]
  · congr 1
    · simp
      exact a2
section
variable {α : Type} {C : Cx} {m : Loc} {σ : Led} {env : Env} {n : Nat}
theorem ga_typ (w : World) : specialIn (KK w) (.ref 210) "__getattribute__" = some (some (.builtin "type.__getattribute__")) := by kernel_rfl
theorem ev_getParse {pl : Sem Bool} {Q : Value × List Value → Loc → Led → Prop} (G : Gd n C env) (q : ∀ M, Q (.ref M, []) m ((M, methodObj (.ref 204) (.ref 210)) :: σ)) : Ev C (getMethod (.ref 210) "parse" pl) m σ Q := fun E h tk I => by
  have X := G.X.keeps I.keep
  refine method_cls (s := C.sh h tk) X (ga_typ _) (cls_bind (s := C.sh h tk) X (rd_pair _) (fc_parse _) (wpAny_call (cm_get X (rc_parse _) (handed_on rfl ?_))))
  exact Ends.intro (C := C) (tk := tk + 1) (I.push (methodObj (.ref 204) (.ref 210)) rfl) (q _)
theorem gn_listN (w : World) : nsIn (KK w) mainGlobals "FreezableDefaultDict" = some (some (.ref 115)) := by kernel_rfl
theorem kp_book (w : World) : keepIn (KK w) (.ref 115) = true := by kernel_rfl
theorem pA {δ : Type} {e x : δ} {B1 B2 σ : List δ} : (e :: x :: (B1 ++ (B2 ++ σ))).Perm (x :: ((B1 ++ e :: B2) ++ σ)) := by
  rw [List.append_assoc, List.cons_append]
  exact (List.Perm.swap ..).trans (List.perm_middle.symm.cons x)
theorem bk_sp {b1 b2 : Bk} {e : BkE} {x : Addr × Obj} : Sp (e.led :: x :: (bkLed b1 ++ (bkLed b2 ++ σ))) (x :: (bkLed (b1 ++ e :: b2) ++ σ)) := by
  rw [bkLed_app]
  exact ⟨_, .refl _, pA⟩
theorem bk_sp' {b1 b2 : Bk} {e : BkE} {x : Addr × Obj} : Sp (x :: (bkLed (b1 ++ e :: b2) ++ σ)) (e.led :: x :: (bkLed b1 ++ (bkLed b2 ++ σ))) := by
  rw [bkLed_app]
  exact ⟨_, .refl _, pA.symm⟩
/-- the list under a name, made where there is none -/
theorem ev_bookAt {x dx : Addr} {es : Array DictEntry} {k : Nat} {b : Bk} {y : Nm} {t : Tok} {value slice : Expr} {Q : Value → Loc → Led → Prop} (G : Gd (n + 2) C env) (hd : (dx, emptyDict) ∈ σ) (h3 : 3 < x) (B : BE es.toList (bkBP b)) (hsz : es.size ≤ 1000)
    (q0 : ∀ b1 e b2, b = b1 ++ e :: b2 → e.y = y → Q (.ref e.l) m (e.led :: (x, bookObj dx es k) :: (bkLed b1 ++ (bkLed b2 ++ σ))))
    (q1 : ∀ l e, bget (bkBP b) y = none → BE (es.push e).toList (bkBP (b ++ [⟨y, l, [], 0⟩])) → Q (.ref l) m ((l, lstOf [] 0) :: (x, bookObj dx (es.push e) (k + 1)) :: (bkLed b ++ σ)))
    (hs : subscripted slice false (.ref x) (.str (nm y) t) = operate [.ref x, .str (nm y) t] (getItem (.ref x) (.str (nm y) t)) := by with_unfolding_all rfl) :
    Ev C (subscriptTail value slice (.ref x) (.str (nm y) t)) m ((x, bookObj dx es k) :: (bkLed b ++ σ)) Q := by
  refine Ev.forget ?_
  refine ev_book (n := n + 2) (dx := dx) (es := es) (k := k) G (.head _) B h3 (fun l hl => ?_) (fun hl => ?_) hs
  · obtain ⟨b1, e, b2, rfl, hy, rfl, _⟩ := bget_some hl
    exact ⟨_, bk_sp, q0 _ _ _ rfl hy⟩
  · refine missing_open G.in1 (List.mem_append_right _ hd) h3 B hl hsz fun l e hB => ⟨_, Sp.refl _, q1 l e hl ?_⟩
    rw [bkBP_app]
    exact hB
end
end

section
open PySem PySem.W PySem.Spec PySem.Calls PyProof.Rows PySem.SeqAt Builtin Builtin.ObjectAttr
def rowsD (f : List Dr) : List Row := f.filterMap fun e => rowI e.2.1
theorem rowsD_snoc (f : List Dr) (e : Dr) : rowsD (f ++ [e]) = rowsD f ++ (rowI e.2.1).toList := by
  unfold rowsD
  rw [List.filterMap_append]
  cases h : rowI e.2.1 <;> simp [h]
section
variable {α : Type} {C : Cx} {m : Loc} {σ : Led} {env : Env} {n : Nat} {E : Value → Shared → Prop}
theorem EvC.sp {t : Sem α} {σ' : Led} {Q : α → Loc → Led → Prop} (s : Sp σ' σ) (H : EvC C E t m σ' Q) : EvC C E t m σ Q := fun _ _ I => H _ _ (I.sp s)
theorem drs_at {f : List Dr} {i : Nat} {v : Value} (h : (drs f)[i]? = some v) : ∃ e, f[i]? = some e ∧ v = .ref e.1 := by
  rw [List.getElem?_map] at h
  cases e : f[i]? with
  | none => rw [e] at h; cases h
  | some p => rw [e] at h; exact ⟨p, rfl, (Option.some.inj h).symm⟩
/-- a file read: the book and the rows -/
def ReadL (x dx rl : Addr) (es : Array DictEntry) (kb kr : Nat) (b : Bk) (rs : List (Value × Row)) (T : Led) : Led := (x, bookObj dx es kb) :: (bkLed b ++ ((rl, lstOf (rs.map (·.1)) kr) :: T))
structure ReadOk (ws : List Row) (es : Array DictEntry) (b : Bk) (rs : List (Value × Row)) (T : Led) : Prop where
  be : BE es.toList (bkBP b)
  ok : bkOk b
  nd : bkNd b
  d : bkD b = readP ws
  r : rs.map (·.2) = ws
  at_ : ∀ p ∈ rs, RowAt T p.1 p.2
theorem ReadOk.size {ws : List Row} {es : Array DictEntry} {b : Bk} {rs : List (Value × Row)} {T : Led} (h : ReadOk ws es b rs T) : rs.length = ws.length := by rw [← h.r]; simp
def readJ (x dx rl : Addr) (f : List Dr) (i : Nat) (m : Loc) (P : Led) : Prop :=
  m "book" = some (.ref x) ∧ m "rows" = some (.ref rl) ∧ ∃ es kb kr b rs T, P = ReadL x dx rl es kb kr b rs T ∧ ReadOk (rowsD (f.take i)) es b rs T ∧ es.size ≤ i ∧ rs.length ≤ i ∧ ∀ e ∈ b, e.vs.length ≤ i
theorem bkOk_app {a b : Bk} (h1 : bkOk a) (h2 : bkOk b) : bkOk (a ++ b) := fun e he => by
  rcases List.mem_append.mp he with he | he
  · exact h1 e he
  · exact h2 e he
theorem pB {δ : Type} {a b : δ} {A R : List δ} : (A ++ a :: b :: R).Perm (a :: b :: (A ++ R)) := List.perm_middle.trans (List.perm_middle.cons a)
theorem pC {δ : Type} {r a x : δ} {B S : List δ} : (r :: a :: x :: (B ++ S)).Perm (a :: x :: (B ++ r :: S)) :=
  (List.Perm.swap ..).trans (((List.Perm.swap ..).trans (List.perm_middle.symm.cons x)).cons a)
theorem pD {δ : Type} {r a x : δ} {B S : List δ} : (x :: (B ++ (r :: a :: S))).Perm (r :: a :: x :: (B ++ S)) :=
  ((pB (a := r) (b := a) (A := B) (R := S)).cons x).trans ((List.Perm.swap ..).trans ((List.Perm.swap ..).cons r))
theorem readL_app {x dx rl : Addr} {es : Array DictEntry} {kb kr : Nat} {b : Bk} {rs : List (Value × Row)} {T R : Led} : ReadL x dx rl es kb kr b rs T ++ R = (x, bookObj dx es kb) :: (bkLed b ++ ((rl, lstOf (rs.map (·.1)) kr) :: (T ++ R))) := by
  simp [ReadL, List.append_assoc]
theorem bkNd_new {b : Bk} {y : Nm} {l : Addr} {vs : List (Value × Vl)} {k : Nat} (h : bkNd b) (hn : y ∉ (bkD b).map (·.1)) : bkNd (b ++ [⟨y, l, vs, k⟩]) := by
  unfold bkNd at *
  rw [List.map_append, List.nodup_append]
  refine ⟨h, by simp, fun a ha c hc e => ?_⟩
  rw [List.map_cons, List.map_nil, List.mem_singleton] at hc
  subst hc e
  exact hn (by simpa [bkD] using ha)
theorem be_len {es : List DictEntry} {bs : BP} (h : BE es bs) : es.length = bs.length := by
  induction h with
  | nil => rfl
  | cons _ _ _ ih => simp [ih]
theorem read_ok {l : Addr} {f : List Dr} {k : Nat} {Q : Value → Loc → Led → Prop} (G : Gd (n + 6) C env) (hl : (l, lstOf (drs f) k) ∈ σ) (hf : Tups f σ) (hz : f.length ≤ 32)
    (q : ∀ t x dx rl es kb kr b rs T, 3 < x → ReadOk (rowsD f) es b rs T → es.size ≤ 32 → rs.length ≤ 32 → (∀ e ∈ b, e.vs.length ≤ 32) → Q (.ref t) m ((t, tupOf #[.ref x, .ref rl]) :: (ReadL x dx rl es kb kr b rs T ++ (dx, emptyDict) :: σ))) :
    EvC C E (call (.ref 241) [.ref l]) m σ Q := fun h tk I => by
  refine wpC_call (cx_defR (X := "TypeError") (S := fun _ => False) (R := Ends C Q) (n := n + 5) (binds := [(Str.ofString "lines", .ref l)]) G (fun _ _ _ _ h => h.elim) rfl (by kernel_rfl) (fun _ => BindsTo.of_eq rfl) (locs rfl) I fun C' E' _ G' U => ?_)
  have hz' : sizeLine = 16777216 := rfl
  refine cx_cons (Ev.c ?_)
  refine ev_AssignName (ev_Call ?_)
  refine ev_global G' (gn_listN _) ?_
  refine ev_callK1 G' (kp_book _) ?_
  refine ev_args_cons ?_
  refine ev_builtin G' (gn_list _) (by with_unfolding_all rfl) ?_
  refine ev_args_nil ?_
  refine ev_newBook G' fun x dx h3 h3' => ?_
  refine ev_store G' ?_
  refine cx_cons (Ev.c ?_)
  walk_at "go"
  rename_i rl _
  refine cx_cons ?_
  refine EvC.sp (σ' := ReadL x dx rl #[] 0 0 [] [] [] ++ ((dx, emptyDict) :: σ)) ⟨_, .refl _, .swap ..⟩ ?_
  refine cx_ForList (l := l) (vs := drs f) (R := (dx, emptyDict) :: σ) (fun i m' P => readJ x dx rl f i m' P) G'.hh ?_ ?_ ?_ ?_ ?_
  · walk_at "go"
    refine ⟨rfl, _, rfl, rfl, rfl, #[], 0, 0, [], [], [], rfl, ⟨.nil, (fun _ h => nomatch h), List.nodup_nil, rfl, rfl, fun _ h => nomatch h⟩, Nat.zero_le _, Nat.zero_le _, fun _ h => nomatch h⟩
  · intro i m' P _
    exact .led (List.mem_append_right _ (.tail _ hl))
  · refine .inr ⟨⟨_, _, _, rfl⟩, fun v hv => ?_⟩
    obtain ⟨e, _, rfl⟩ := List.mem_map.mp hv
    exact ⟨_, rfl⟩
  · rintro i v m' P R' hi hR hS ⟨hB, hRw, es, kb, kr, b, rs, T, rfl, ok, hes, hrs⟩
    obtain ⟨e, hfe, rfl⟩ := drs_at hi
    obtain ⟨t, u, ht⟩ := hf e (mem_at hfe)
    have hi' : i < f.length := (List.getElem?_eq_some_iff.mp hfe).1
    refine ev_unpackT G'.hh (List.mem_append_right _ (hR _ (.tail _ ht))) ?_
    refine ev_inOrder_cons (ev_assignName (ev_store G' ?_))
    refine ev_inOrder_cons (ev_assignName (ev_store G' ?_))
    refine ev_inOrder_nil fun E₁ => ?_
    refine cx_cons ?_
    refine cx_Try (X := "TypeError") (T' := "TypeError") (S := fun m₂ σ₂ => m₂ = upd (upd m' (Str.ofString "x") (.int e.2.1 t)) (Str.ofString "turn") (.int e.2.2 u) ∧ Sp (ReadL x dx rl es kb kr b rs T ++ R') σ₂ ∧ rowI e.2.1 = none) G' (fun E₂ hE => ?_) ?_ (gn_TypeError _) (by with_unfolding_all rfl) PySem.F.isExc_TypeError PySem.F.notTuple_TypeError (by rw [isSubtype_type]; kernel_rfl)
    · refine cx_cons (cx_AssignName (cx_MethodCall ?_))
      refine ev_global G' (gl_pair _) ?_
      refine ev_getParse G' fun M => ?_
      refine cx_callM1 (self := .ref 210) G' (fn_parse _) ?_
      refine ev_args_cons ?_
      refine ev_Call ?_
      refine ev_global G' (gl_line _) ?_
      refine ev_callK1 G' (kp_line _) ?_
      refine ev_args_cons ?_
      refine ev_local G' (by with_unfolding_all rfl) ?_
      refine ev_args_cons ?_
      refine ev_local G' (by with_unfolding_all rfl) ?_
      refine ev_args_nil ?_
      refine line_ok (n := n + 3) G' fun u₂ => ?_
      refine ev_args_nil ⟨.head _, ?_⟩
      refine parse_ok (n := n + 1) G' (.head _) (fun σ' e₂ s' y hs hr => hE _ _ _ _ y ⟨rfl, let ⟨τ, h1, h2⟩ := hs; ⟨τ, (List.sublist_cons_self _ _).trans h1, h2⟩, hr⟩) fun r hr p dxp t₂ u₂ => ?_
      refine ev_store G' ?_
      refine cx_nil ?_
      have hsn : rowsD (f.take (i + 1)) = rowsD (f.take i) ++ [r] := by
        rw [take_snoc hfe, rowsD_snoc, hr]
        rfl
      refine EvC.sp (σ' := ReadL x dx rl es kb kr b rs T ++ ((p, pairObj dxp (.str (nm r.1) t₂) (.str (vl r.2) u₂)) :: (dxp, emptyDict) :: R')) ⟨_, .cons _ (.refl _), (pB.cons _).trans pb2.symm⟩ ?_
      have dxm : (dx, emptyDict) ∈ R' := hR _ (.head _)
      -- the value into the book
      refine cx_cons (EvC.mono (Q := fun fl m₂ σ₂ => fl = .next ∧ m₂ = upd (upd (upd m' (Str.ofString "x") (.int e.2.1 t)) (Str.ofString "turn") (.int e.2.2 u)) (Str.ofString "pair") (.ref p) ∧ ∃ es₂ kb₂ b₂,
        σ₂ = ReadL x dx rl es₂ kb₂ kr b₂ rs T ++ ((p, pairObj dxp (.str (nm r.1) t₂) (.str (vl r.2) u₂)) :: (dxp, emptyDict) :: R') ∧ BE es₂.toList (bkBP b₂) ∧ bkOk b₂ ∧ bkNd b₂ ∧ bkD b₂ = addP (bkD b) r ∧ es₂.size ≤ i + 1 ∧ ∀ e ∈ b₂, e.vs.length ≤ i + 1) (Ev.c (Ev.forget ?_)) ?_)
      · rw [readL_app]
        refine ev_Expr (ev_MethodCall (ev_Subscript ?_))
        refine ev_local G' (v := .ref x) (by with_unfolding_all exact hB) ?_
        refine ev_Attribute (ev_baseName ?_)
        refine ev_local G' (v := .ref p) (by with_unfolding_all rfl) ?_
        have mp : ∀ {A₁ : Led} {y : Addr × Obj}, (p, pairObj dxp (.str (nm r.1) t₂) (.str (vl r.2) u₂)) ∈ A₁ ++ (y :: (T ++ (p, pairObj dxp (.str (nm r.1) t₂) (.str (vl r.2) u₂)) :: (dxp, emptyDict) :: R')) := fun {A₁ y} => List.mem_append_right _ (.tail _ (List.mem_append_right _ (.head _)))
        have md : ∀ {A₁ : Led} {y : Addr × Obj}, (dxp, emptyDict) ∈ A₁ ++ (y :: (T ++ (p, pairObj dxp (.str (nm r.1) t₂) (.str (vl r.2) u₂)) :: (dxp, emptyDict) :: R')) := fun {A₁ y} => List.mem_append_right _ (.tail _ (List.mem_append_right _ (.tail _ (.head _))))
        refine ev_pairName (n := n + 3) G' (.tail _ mp) (.tail _ md) ?_
        refine ev_bookAt (n := n + 3) G' (List.mem_cons_of_mem _ (List.mem_append_right _ (.tail _ (.tail _ dxm)))) h3 ok.be (by omega) (fun b1 e₁ b2 hb hy => ?_) (fun l₁ en hnew hBE => ?_)
        · subst hb
          have hle : e₁.vs.length ≤ i := hrs.2 e₁ (List.mem_append_right _ (.head _))
          refine ev_methodList (its := (e₁.vs.map (·.1)).toArray) (k := e₁.k) (.head _) PySem.F.slot_list_append (by with_unfolding_all rfl) ?_
          refine ev_callB1 ?_
          refine ev_args_cons ?_
          refine ev_Attribute (ev_baseName ?_)
          refine ev_local G' (v := .ref p) (by with_unfolding_all rfl) ?_
          refine ev_pairValue (n := n + 3) G' (.tail _ (.tail _ (List.mem_append_right _ mp))) (.tail _ (.tail _ (List.mem_append_right _ md))) ?_
          refine ev_args_nil ?_
          refine ev_append (its := (e₁.vs.map (·.1)).toArray) (k := e₁.k) (by simp; omega) ?_
          have hld : BkE.led ⟨e₁.y, e₁.l, e₁.vs ++ [(.str (vl r.2) u₂, r.2)], e₁.k + 1⟩ = (e₁.l, PySem.W.listOf ((e₁.vs.map (·.1)).toArray.push (.str (vl r.2) u₂)) (e₁.k + 1)) := by simp [BkE.led, lstOf]
          refine ⟨ReadL x dx rl es kb kr (b1 ++ ⟨e₁.y, e₁.l, e₁.vs ++ [(.str (vl r.2) u₂, r.2)], e₁.k + 1⟩ :: b2) rs T ++ ((p, pairObj dxp (.str (nm r.1) t₂) (.str (vl r.2) u₂)) :: (dxp, emptyDict) :: R'), ?_, rfl, rfl, es, kb, _, rfl, ?_, ?_, ?_, ?_, by omega, ?_⟩
          · rw [readL_app, ← hld]
            exact bk_sp'
          · have e0 : bkBP (b1 ++ ⟨e₁.y, e₁.l, e₁.vs ++ [(.str (vl r.2) u₂, r.2)], e₁.k + 1⟩ :: b2) = bkBP (b1 ++ e₁ :: b2) := by simp [bkBP]
            rw [e0]; exact ok.be
          · intro e' he' p' hp'
            rcases List.mem_append.mp he' with he' | he'
            · exact ok.ok e' (List.mem_append_left _ he') p' hp'
            · rcases List.mem_cons.mp he' with rfl | he'
              · rcases List.mem_append.mp hp' with hp' | hp'
                · exact ok.ok e₁ (List.mem_append_right _ (.head _)) p' hp'
                · obtain rfl := List.mem_singleton.mp hp'; exact ⟨_, rfl⟩
              · exact ok.ok e' (List.mem_append_right _ (.tail _ he')) p' hp'
          · have := ok.nd
            unfold bkNd at *
            simpa using this
          · exact addP_old hy ok.nd
          · intro e' he'
            rcases List.mem_append.mp he' with he' | he'
            · have := hrs.2 e' (List.mem_append_left _ he'); omega
            · rcases List.mem_cons.mp he' with rfl | he'
              · simp; omega
              · have := hrs.2 e' (List.mem_append_right _ (.tail _ he')); omega
        · refine ev_methodList (its := #[]) (k := 0) (.head _) PySem.F.slot_list_append (by with_unfolding_all rfl) ?_
          refine ev_callB1 ?_
          refine ev_args_cons ?_
          refine ev_Attribute (ev_baseName ?_)
          refine ev_local G' (v := .ref p) (by with_unfolding_all rfl) ?_
          refine ev_pairValue (n := n + 3) G' (.tail _ (.tail _ mp)) (.tail _ (.tail _ md)) ?_
          refine ev_args_nil ?_
          refine ev_append (its := #[]) (k := 0) (by show 0 ≤ _; omega) ?_
          refine ⟨ReadL x dx rl (es.push en) (kb + 1) kr (b ++ [⟨r.1, l₁, [(.str (vl r.2) u₂, r.2)], 1⟩]) rs T ++ ((p, pairObj dxp (.str (nm r.1) t₂) (.str (vl r.2) u₂)) :: (dxp, emptyDict) :: R'), ?_, rfl, rfl, es.push en, kb + 1, _, rfl, ?_, ?_, ?_, ?_, ?_, ?_⟩
          · rw [readL_app]
            exact bk_sp' (b1 := b) (b2 := []) (e := ⟨r.1, l₁, [(.str (vl r.2) u₂, r.2)], 1⟩)
          · rw [bkBP_app] at hBE ⊢
            exact hBE
          · exact bkOk_app ok.ok fun e' he' p' hp' => by
              obtain rfl := List.mem_singleton.mp he'
              obtain rfl := List.mem_singleton.mp hp'
              exact ⟨_, rfl⟩
          · exact bkNd_new ok.nd (bget_none hnew)
          · exact addP_new (bget_none hnew)
          · rw [Array.size_push]; omega
          · intro e' he'
            rcases List.mem_append.mp he' with he' | he'
            · have := hrs.2 e' he'; omega
            · obtain rfl := List.mem_singleton.mp he'; simp
      · rintro _ _ _ ⟨rfl, rfl, es₂, kb₂, b₂, rfl, g1, g2, g3, g4, g5, g6⟩
        refine cx_cons (Ev.c (Ev.forget ?_))
        rw [readL_app]
        have mp : ∀ {A₁ : Led} {y : Addr × Obj}, (p, pairObj dxp (.str (nm r.1) t₂) (.str (vl r.2) u₂)) ∈ A₁ ++ (y :: (T ++ (p, pairObj dxp (.str (nm r.1) t₂) (.str (vl r.2) u₂)) :: (dxp, emptyDict) :: R')) := fun {A₁ y} => List.mem_append_right _ (.tail _ (List.mem_append_right _ (.head _)))
        have md : ∀ {A₁ : Led} {y : Addr × Obj}, (dxp, emptyDict) ∈ A₁ ++ (y :: (T ++ (p, pairObj dxp (.str (nm r.1) t₂) (.str (vl r.2) u₂)) :: (dxp, emptyDict) :: R')) := fun {A₁ y} => List.mem_append_right _ (.tail _ (List.mem_append_right _ (.tail _ (.head _))))
        refine ev_Expr (ev_MethodCall ?_)
        refine ev_local G' (v := .ref rl) (by with_unfolding_all exact hRw) ?_
        refine ev_methodList (its := (rs.map (·.1)).toArray) (k := kr) (.tail _ (List.mem_append_right _ (.head _))) PySem.F.slot_list_append (by with_unfolding_all rfl) ?_
        refine ev_callB1 ?_
        refine ev_args_cons ?_
        refine ev_List ?_
        refine ev_args_cons ?_
        refine ev_Attribute (ev_baseName ?_)
        refine ev_local G' (v := .ref p) (by with_unfolding_all rfl) ?_
        refine ev_pairName (n := n + 3) G' (.tail _ mp) (.tail _ md) ?_
        refine ev_args_cons ?_
        refine ev_Attribute (ev_baseName ?_)
        refine ev_local G' (v := .ref p) (by with_unfolding_all rfl) ?_
        refine ev_pairValue (n := n + 3) G' (.tail _ mp) (.tail _ md) ?_
        refine ev_args_nil ?_
        refine ev_newList (hsz := by show 2 ≤ sizeLine; omega) fun a _ => ?_
        refine ev_args_nil ?_
        refine Ev.sp ⟨_, .refl _, pC⟩ ?_
        refine ev_append (its := (rs.map (·.1)).toArray) (k := kr) (by simp; omega) ?_
        refine ⟨ReadL x dx rl es₂ kb₂ (kr + 1) b₂ (rs ++ [(.ref a, r)]) ((a, PySem.W.listOf #[.str (nm r.1) t₂, .str (vl r.2) u₂] 0) :: T) ++ R', ?_, cx_nil ⟨_, rfl, by with_unfolding_all exact hB, by with_unfolding_all exact hRw, es₂, kb₂, kr + 1, b₂, rs ++ [(.ref a, r)], _, rfl, ?_, g5, by simp; omega, g6⟩⟩
        · rw [readL_app, show (rl, lstOf ((rs ++ [(Value.ref a, r)]).map (·.1)) (kr + 1)) = (rl, PySem.W.listOf ((rs.map (·.1)).toArray.push (.ref a)) (kr + 1)) by simp [lstOf]]
          refine ⟨_, ?_, pD⟩
          exact .cons_cons _ (List.Sublist.append (.refl _) (.cons_cons _ (.cons_cons _ (List.Sublist.append (.refl _) (.cons _ (.cons _ (.refl _)))))))
        · rw [hsn]
          refine ⟨g1, g2, g3, by rw [g4, ok.d, readP_snoc], by rw [List.map_append, ok.r]; rfl, fun z hz => ?_⟩
          rcases List.mem_append.mp hz with hz | hz
          · exact (ok.at_ z hz).mono fun _ h => .tail _ h
          · obtain rfl := List.mem_singleton.mp hz
            exact ⟨a, t₂, u₂, 0, rfl, .head _⟩
    · rintro _ σ₂ ⟨rfl, hs, hr⟩ a
      refine Ev.forget (ev_cons (ev_Continue ?_))
      refine ⟨_, hs, _, rfl, by with_unfolding_all exact hB, by with_unfolding_all exact hRw, es, kb, kr, b, rs, T, rfl, ?_, by omega, by omega, fun e he => by have := hrs.2 e he; omega⟩
      have hsn : rowsD (f.take (i + 1)) = rowsD (f.take i) := by
        rw [take_snoc hfe, rowsD_snoc, hr]
        simp
      rw [hsn]
      exact ok
  · rintro m' P ⟨hB, hRw, es, kb, kr, b, rs, T, rfl, ok, hes, hrs, hvs⟩
    rw [show (drs f).length = f.length by simp [drs]] at *
    rw [List.take_of_length_le (Nat.le_refl _)] at ok
    refine cx_cons (Ev.c ?_)
    refine ev_Return (ev_Tuple ?_)
    refine ev_args_cons ?_
    refine ev_local G' (v := .ref x) (by with_unfolding_all exact hB) ?_
    refine ev_args_cons ?_
    refine ev_local G' (v := .ref rl) (by with_unfolding_all exact hRw) ?_
    refine ev_args_nil ?_
    refine ev_newTuple (hsz := by show 2 ≤ sizeLine; omega) fun t _ => ?_
    intro h tk I
    exact Ends.intro I (q t x dx rl es kb kr b rs T h3 ok (by omega) (by omega) fun e he => by have := hvs e he; omega)
end
end

section
open PySem PySem.W PySem.Spec PySem.Calls PyProof.Rows PySem.SeqAt
section
variable {δ : Type} [BEq δ] [LawfulBEq δ]
abbrev eqB : δ → δ → Bool := fun p q => p == q
theorem difR_cons (e : δ → δ → Bool) (x : δ) (r qs : List δ) : difR e (x :: r) qs = if (qs.any fun p => e p x) = true then difR e r (qs.eraseP fun p => e p x) else (x :: (difR e r qs).1, (difR e r qs).2) := rfl
theorem missF_cons (e : δ → δ → Bool) (x : δ) (r qs : List δ) : missF e qs (x :: r) = if qs.countP (fun p => e p x) < (x :: r).countP (fun p => e p x) then x :: missF e qs r else missF e qs r := rfl
theorem leftF_cons (e : δ → δ → Bool) (ps pre : List δ) (y : δ) (r : List δ) : leftF e ps pre (y :: r) = if ps.countP (fun p => e p y) < (pre ++ [y]).countP (fun p => e p y) then y :: leftF e ps (pre ++ [y]) r else leftF e ps (pre ++ [y]) r := rfl
theorem difR_append (e : δ → δ → Bool) : ∀ (u v qs : List δ), difR e (u ++ v) qs = ((difR e u qs).1 ++ (difR e v (difR e u qs).2).1, (difR e v (difR e u qs).2).2)
  | [], v, qs => rfl
  | x :: u, v, qs => by
    rw [List.cons_append, difR_cons, difR_cons]
    split
    · exact difR_append e u v _
    · rw [difR_append e u v qs]; rfl
theorem cnt_snoc (x : δ) (l : List δ) : (l ++ [x]).countP (fun p => eqB p x) = l.countP (fun p => eqB p x) + 1 := by rw [List.countP_append]; simp
theorem cnt_cons (x : δ) (l : List δ) : (x :: l).countP (fun p => eqB p x) = l.countP (fun p => eqB p x) + 1 := by simp
theorem cnt_snoc_ne {x y : δ} (h : ¬ x = y) (l : List δ) : (l ++ [y]).countP (fun p => eqB p x) = l.countP (fun p => eqB p x) := by rw [List.countP_append]; simp [Ne.symm h]
theorem cnt_cons_ne {x y : δ} (h : ¬ x = y) (l : List δ) : (y :: l).countP (fun p => eqB p x) = l.countP (fun p => eqB p x) := by simp [Ne.symm h]
theorem leftF_same (x : δ) (r : List δ) : ∀ (qs pre : List δ), r.countP (fun p => eqB p x) < pre.countP (fun p => eqB p x) → leftF eqB (x :: r) pre qs = leftF eqB r pre qs
  | [], _, _ => rfl
  | y :: qs, pre, h => by
    have ih := leftF_same x r qs (pre ++ [y]) (by rw [List.countP_append]; omega)
    rw [leftF_cons, leftF_cons, ih]
    by_cases hxy : x = y
    · subst hxy
      rw [cnt_cons, cnt_snoc, if_pos (by omega), if_pos (by omega)]
    · rw [cnt_cons_ne (fun e => hxy e.symm)]
theorem leftF_more (x : δ) (r : List δ) : ∀ (qs pre : List δ), pre.countP (fun p => eqB p x) ≤ r.countP (fun p => eqB p x) → leftF eqB (x :: r) pre qs = (leftF eqB r pre qs).eraseP fun p => eqB p x
  | [], _, _ => rfl
  | y :: qs, pre, h => by
    rw [leftF_cons, leftF_cons]
    by_cases hxy : x = y
    · subst hxy
      rw [cnt_cons, cnt_snoc]
      by_cases hk : pre.countP (fun p => eqB p x) = r.countP (fun p => eqB p x)
      · rw [if_neg (by omega), if_pos (by omega), leftF_same x r qs _ (by rw [cnt_snoc]; omega), List.eraseP_cons_of_pos (by simp)]
      · rw [if_neg (by omega), if_neg (by omega)]
        exact leftF_more x r qs _ (by rw [cnt_snoc]; omega)
    · have ih := leftF_more x r qs (pre ++ [y]) (by rw [cnt_snoc_ne hxy]; exact h)
      rw [cnt_cons_ne (fun e => hxy e.symm), ih]
      split
      · rw [List.eraseP_cons_of_neg (by simp [Ne.symm hxy])]
      · rfl
theorem leftF_any (x : δ) (r : List δ) : ∀ (qs pre : List δ), pre.countP (fun p => eqB p x) ≤ r.countP (fun p => eqB p x) → ((leftF eqB r pre qs).any (fun p => eqB p x) = true ↔ r.countP (fun p => eqB p x) < pre.countP (fun p => eqB p x) + qs.countP (fun p => eqB p x))
  | [], pre, h => by
    rw [List.countP_nil, Nat.add_zero]
    exact ⟨fun z => (nomatch z), fun z => absurd z (Nat.not_lt.mpr h)⟩
  | y :: qs, pre, h => by
    rw [leftF_cons]
    by_cases hxy : x = y
    · subst hxy
      rw [cnt_snoc, cnt_cons]
      by_cases hk : pre.countP (fun p => eqB p x) = r.countP (fun p => eqB p x)
      · rw [if_pos (by omega), List.any_cons]
        simp only [beq_self_eq_true, Bool.true_or, true_iff]
        omega
      · rw [if_neg (by omega), leftF_any x r qs _ (by rw [cnt_snoc]; omega), cnt_snoc]
        omega
    · have ih := leftF_any x r qs (pre ++ [y]) (by rw [cnt_snoc_ne hxy]; exact h)
      rw [cnt_snoc_ne hxy] at ih
      rw [cnt_cons_ne hxy, ← ih]
      split
      · rw [List.any_cons, show (eqB y x) = false by simpa using Ne.symm hxy, Bool.false_or]
      · rfl
theorem leftF_nil : ∀ (qs pre : List δ), leftF eqB [] pre qs = qs
  | [], _ => rfl
  | y :: qs, pre => by
    rw [leftF_cons, if_pos (by rw [cnt_snoc, List.countP_nil]; omega), leftF_nil qs]
/-- the difference tells just what is due -/
theorem difR_due : ∀ (A B : List δ), difR eqB A.reverse B = ((missF eqB B A).reverse, leftF eqB A [] B)
  | [], B => by rw [leftF_nil]; rfl
  | x :: r, B => by
    have ih := difR_due r B
    rw [List.reverse_cons, difR_append, ih]
    have ha := leftF_any x r B [] (by simp)
    rw [leftF_more x r B [] (by simp), difR_cons, missF_cons, cnt_cons]
    simp only [List.countP_nil, Nat.zero_add] at ha
    dsimp only
    by_cases h : r.countP (fun p => eqB p x) < B.countP (fun p => eqB p x)
    · rw [if_pos (ha.mpr h), if_neg (by omega)]
      simp [difR]
    · have h' : ¬ (leftF eqB r [] B).any (fun p => eqB p x) = true := fun z => h (ha.mp z)
      rw [if_neg h', if_pos (by omega), List.eraseP_of_forall_not (fun a ha' hb => h' (List.any_eq_true.mpr ⟨a, ha', hb⟩))]
      simp [difR]
end
theorem under_any (y : Nm) (v : Vl) (B : List Row) : ((underF y B).any fun p => eqB p v) = B.any fun p => eqB p (y, v) := by
  induction B with
  | nil => rfl
  | cons b B ih =>
    obtain ⟨z, w⟩ := b
    unfold underF at *
    by_cases h : z = y
    · subst h
      simp [List.filter_cons, ih]
      rw [show eqB (z, w) (z, v) = ((z == z) && (w == v)) from rfl]
      simp
    · simp [List.filter_cons, h, ih]
theorem under_erase (y : Nm) (x : Row) (B : List Row) : underF y (B.eraseP fun p => eqB p x) = if x.1 = y then (underF y B).eraseP (fun p => eqB p x.2) else underF y B := by
  induction B with
  | nil => simp [underF]
  | cons b B ih =>
    obtain ⟨z, w⟩ := b
    obtain ⟨xn, xv⟩ := x
    by_cases hb : ((z, w) : Row) = (xn, xv)
    · cases hb
      rw [List.eraseP_cons_of_pos (by simp)]
      unfold underF
      by_cases h : z = y
      · subst h; simp [List.filter_cons]
      · simp [List.filter_cons, h]
    · rw [List.eraseP_cons_of_neg (by simpa using hb)]
      unfold underF at *
      by_cases h : z = y
      · subst h
        simp only [List.filter_cons, beq_self_eq_true, if_true, List.map_cons, ih]
        by_cases hx : xn = z
        · subst hx
          have : w ≠ xv := fun e => hb (by rw [e])
          simp [List.eraseP_cons_of_neg, this]
        · simp [hx]
      · simp only [List.filter_cons, show (z == y) = false by simpa using h, Bool.false_eq_true, if_false, ih]
theorem under_cons (y : Nm) (x : Row) (B : List Row) : underF y (x :: B) = if x.1 = y then x.2 :: underF y B else underF y B := by
  unfold underF
  by_cases h : x.1 = y
  · simp [List.filter_cons, h]
  · simp [List.filter_cons, h]
theorem difR_under (y : Nm) : ∀ (A B : List Row), difR eqB (underF y A) (underF y B) = (underF y (difR eqB A B).1, underF y (difR eqB A B).2)
  | [], B => rfl
  | x :: A, B => by
    rw [under_cons]
    by_cases h : x.1 = y
    · rw [if_pos h]
      have hx : x = (y, x.2) := by rw [← h]
      rw [difR_cons, difR_cons, under_any, ← hx]
      split
      · have ih := difR_under y A (B.eraseP fun p => eqB p x)
        rw [under_erase, if_pos h] at ih
        exact ih
      · have ih := difR_under y A B
        rw [ih, under_cons, if_pos h]
    · rw [if_neg h]
      rw [show difR eqB (x :: A) B = if (B.any fun p => eqB p x) = true then difR eqB A (B.eraseP fun p => eqB p x) else (x :: (difR eqB A B).1, (difR eqB A B).2) from rfl]
      split
      · have ih := difR_under y A (B.eraseP fun p => eqB p x)
        rw [under_erase, if_neg h] at ih
        exact ih
      · rw [under_cons, if_neg h]
        exact difR_under y A B
theorem under_rev (y : Nm) (l : List Row) : underF y l.reverse = (underF y l).reverse := by simp [underF, List.filter_reverse]
theorem difR_map {γ δ : Type} (g : γ → δ) (e : δ → δ → Bool) : ∀ (l r : List γ), difR e (l.map g) (r.map g) = ((difR (fun a b => e (g a) (g b)) l r).1.map g, (difR (fun a b => e (g a) (g b)) l r).2.map g)
  | [], r => rfl
  | x :: l, r => by
    rw [List.map_cons, show difR e (g x :: l.map g) (r.map g) = if ((r.map g).any fun p => e p (g x)) = true then difR e (l.map g) ((r.map g).eraseP fun p => e p (g x)) else (g x :: (difR e (l.map g) (r.map g)).1, (difR e (l.map g) (r.map g)).2) from rfl,
      show difR (fun a b => e (g a) (g b)) (x :: l) r = if (r.any fun p => e (g p) (g x)) = true then difR (fun a b => e (g a) (g b)) l (r.eraseP fun p => e (g p) (g x)) else (x :: (difR (fun a b => e (g a) (g b)) l r).1, (difR (fun a b => e (g a) (g b)) l r).2) from rfl, List.any_map]
    simp only [Function.comp_def]
    split
    · rw [show (r.map g).eraseP (fun p => e p (g x)) = (r.eraseP fun p => e (g p) (g x)).map g from by rw [List.eraseP_map]; rfl]
      exact difR_map g e l _
    · rw [difR_map g e l r]; rfl
theorem mem_foldF : ∀ (xs acc : List Nm) (z : Nm), z ∈ xs.foldl addF acc ↔ z ∈ acc ∨ z ∈ xs
  | [], acc, z => by simp
  | x :: xs, acc, z => by
    rw [List.foldl_cons, mem_foldF xs]
    unfold addF
    split
    · rename_i h
      rw [List.mem_cons]
      constructor
      · rintro (h1 | h1)
        · exact .inl h1
        · exact .inr (.inr h1)
      · rintro (h1 | rfl | h1)
        · exact .inl h1
        · exact .inl h
        · exact .inr h1
    · rw [List.mem_append, List.mem_singleton, List.mem_cons]
      constructor
      · rintro ((h1 | h1) | h1)
        · exact .inl h1
        · exact .inr (.inl h1)
        · exact .inr (.inr h1)
      · rintro (h1 | h1 | h1)
        · exact .inl (.inl h1)
        · exact .inl (.inr h1)
        · exact .inr h1
theorem mem_namesF (xs : List Nm) (z : Nm) : z ∈ namesF xs ↔ z ∈ xs := by unfold namesF; rw [mem_foldF]; simp
theorem under_none {y : Nm} {P : List Row} (h : y ∉ P.map (·.1)) : underF y P = [] := by
  unfold underF
  rw [List.filter_eq_nil_iff.mpr (fun r hr => by
    have : r.1 ≠ y := fun e => h (by rw [← e]; exact List.mem_map_of_mem hr)
    simpa using this)]
  rfl
/-- a book's content, by its names and what each has -/
abbrev cont (ns : List Nm) (g : Nm → List Vl) : BkD := ns.map fun z => (z, g z)
theorem cont_names (ns : List Nm) (g : Nm → List Vl) : (cont ns g).map (·.1) = ns := by
  unfold cont
  rw [List.map_map]
  exact List.map_id' ns
theorem addP_cont (Q : List Row) (r : Row) : addP (cont (namesF (Q.map (·.1))) fun z => underF z Q) r = cont (namesF ((Q ++ [r]).map (·.1))) fun z => underF z (Q ++ [r]) := by
  rw [List.map_append, List.map_singleton, namesF_snoc]
  unfold addP
  rw [cont_names]
  unfold addF
  by_cases h : r.1 ∈ namesF (Q.map (·.1))
  · rw [if_pos h, if_pos h]
    unfold cont
    rw [List.map_map]
    refine List.map_congr_left fun z _ => ?_
    simp only [Function.comp]
    rw [underF_snoc]
    by_cases hz : z = r.1
    · subst hz; simp
    · rw [if_neg hz, if_neg (by simpa using Ne.symm hz)]; simp
  · rw [if_neg h, if_neg h]
    unfold cont
    rw [List.map_append, List.map_singleton]
    congr 1
    · refine List.map_congr_left fun z hz => ?_
      show (z, underF z Q) = (z, underF z (Q ++ [r]))
      rw [underF_snoc, if_neg (by
        have : r.1 ≠ z := fun e => h (by rw [e]; exact hz)
        simpa using this), List.append_nil]
    · show [(r.1, [r.2])] = [(r.1, underF r.1 (Q ++ [r]))]
      rw [underF_snoc, under_none (fun hm => h ((mem_namesF _ _).mpr hm))]
      simp
theorem foldP_cont : ∀ (P Q : List Row), P.foldl addP (cont (namesF (Q.map (·.1))) fun z => underF z Q) = cont (namesF ((Q ++ P).map (·.1))) fun z => underF z (Q ++ P)
  | [], Q => by simp
  | r :: P, Q => by
    rw [List.foldl_cons, addP_cont, foldP_cont P (Q ++ [r])]
    simp
theorem readP_eq (P : List Row) : readP P = cont (namesF (P.map (·.1))) fun z => underF z P := by
  have := foldP_cont P []
  simpa [readP, cont, namesF] using this

/-- a book says -/
theorem says_at {b1 b2 : Bk} {e : BkE} {ns : List Nm} {g : Nm → List Vl} (h : bkD (b1 ++ e :: b2) = cont ns g) : e.vs.map (·.2) = g e.y ∧ e.y ∈ ns := by
  have hm : (e.y, e.vs.map (·.2)) ∈ cont ns g := by rw [← h]; simp [bkD]
  obtain ⟨z, hz, e1⟩ := List.mem_map.mp hm
  have h1 := (Prod.mk.inj e1).1
  have h2 := (Prod.mk.inj e1).2
  subst h1
  exact ⟨h2.symm, hz⟩
theorem cont_upd (ns : List Nm) (g : Nm → List Vl) (y : Nm) (ws : List Vl) : cont ns (fun z => if z = y then ws else g z) = (cont ns g).map fun p => if p.1 = y then (p.1, ws) else p := by
  unfold cont
  rw [List.map_map]
  refine List.map_congr_left fun z _ => ?_
  simp only [Function.comp]
  split <;> rfl
theorem says_set {b1 b2 : Bk} {e e' : BkE} {ns : List Nm} {g : Nm → List Vl} {ws : List Vl} (h : bkD (b1 ++ e :: b2) = cont ns g) (hn : bkNd (b1 ++ e :: b2)) (hy : e'.y = e.y) (hw : e'.vs.map (·.2) = ws) :
    bkD (b1 ++ e' :: b2) = cont ns (fun z => if z = e.y then ws else g z) := by
  rw [cont_upd, ← h]
  unfold bkNd at hn
  rw [List.map_append, List.map_cons, List.nodup_append] at hn
  obtain ⟨h1, h2, h3⟩ := hn
  rw [List.nodup_cons] at h2
  have a1 : ∀ x ∈ b1, x.y ≠ e.y := fun x hx e' => h3 _ (List.mem_map_of_mem hx) _ (.head _) e'
  have a2 : ∀ x ∈ b2, x.y ≠ e.y := fun x hx e' => h2.1 (by rw [← e']; exact List.mem_map_of_mem hx)
  simp only [bkD, List.map_append, List.map_cons, List.map_map]
  congr 1
  · exact List.map_congr_left fun x hx => by simp [a1 x hx]
  · congr 1
    · simp [hy, hw]
    · exact List.map_congr_left fun x hx => by simp [a2 x hx]
theorem says_not {b : Bk} {y : Nm} {ns : List Nm} {g : Nm → List Vl} {ws : List Vl} (h : bkD b = cont ns g) (hn : y ∉ ns) : bkD b = cont ns (fun z => if z = y then ws else g z) := by
  rw [h]
  refine List.map_congr_left fun z hz => ?_
  show (z, g z) = (z, if z = y then ws else g z)
  rw [if_neg (fun e : z = y => hn (e ▸ hz))]
theorem says_new {b : Bk} {e' : BkE} {ns : List Nm} {g : Nm → List Vl} {ws : List Vl} (h : bkD b = cont ns g) (hn : e'.y ∉ ns) (hw : e'.vs.map (·.2) = ws) : bkD (b ++ [e']) = cont (ns ++ [e'.y]) (fun z => if z = e'.y then ws else g z) := by
  unfold cont
  rw [List.map_append, List.map_singleton]
  show bkD (b ++ [e']) = cont ns (fun z => if z = e'.y then ws else g z) ++ [(e'.y, if e'.y = e'.y then ws else g e'.y)]
  rw [if_pos rfl, ← says_not h hn]
  simp [bkD, hw]

/-- plain data of a bounded depth -/
def Sh (k : Nat) (d : PyData) : Prop := d.canLay0 = true ∧ d.depth ≤ k
theorem Sh.le {k j : Nat} {d : PyData} (h : Sh k d) (hk : k ≤ j) : Sh j d := ⟨h.1, Nat.le_trans h.2 hk⟩
theorem sh_all {k : Nat} : ∀ {ds : List PyData}, (∀ d ∈ ds, Sh k d) → PyData.canLayAll0 ds = true ∧ PyData.depthAll ds ≤ k
  | [], _ => ⟨by rw [PyData.canLayAll0], by rw [PyData.depthAll]; exact Nat.zero_le _⟩
  | d :: ds, h => by
    have h1 := h d (.head _)
    have h2 := sh_all fun x hx => h x (.tail _ hx)
    exact ⟨by rw [PyData.canLayAll0, h1.1, h2.1]; rfl, by rw [PyData.depthAll]; exact Nat.max_le.mpr ⟨h1.2, h2.2⟩⟩
theorem sh_list {k : Nat} {ds : List PyData} (h : ∀ d ∈ ds, Sh k d) : Sh (k + 1) (.list ds) := ⟨by rw [PyData.canLay0]; exact (sh_all h).1, by rw [PyData.depth]; exact Nat.succ_le_succ (sh_all h).2⟩
theorem sh_tuple {k : Nat} {ds : List PyData} (h : ∀ d ∈ ds, Sh k d) : Sh (k + 1) (.tuple ds) := ⟨by rw [PyData.canLay0]; exact (sh_all h).1, by rw [PyData.depth]; exact Nat.succ_le_succ (sh_all h).2⟩
theorem Sh.shaped {k : Nat} {d : PyData} (h : Sh k d) (hk : k ≤ 64 := by decide) : PySem.SeqAt.shaped d = true := by
  first
    | (unfold PySem.SeqAt.shaped; rw [h.1, decide_eq_true (Nat.le_trans h.2 hk)]; rfl)
    | exact Bool.and_eq_true_iff.mpr ⟨h.1, decide_eq_true (Nat.le_trans h.2 hk)⟩
theorem Sh.refl {k : Nat} {d : PyData} (h : Sh k d) : PyData.eqv d d = true := PySem.SeqAt.eqv_refl d h.1
theorem sh_N (y : Nm) : Sh 0 (dN y) := by revert y; unfold Sh; decide +kernel
theorem sh_V (y : Vl) : Sh 0 (dV y) := by revert y; unfold Sh; decide +kernel
theorem sh_R : ∀ r : Row, Sh 1 (dR r) := fun ⟨a, b⟩ => sh_list fun d hd => by
  rcases List.mem_cons.mp hd with rfl | hd
  · exact sh_N a
  · obtain rfl := List.mem_singleton.mp hd; exact sh_V b
end

section
open PySem PySem.W PySem.Spec PySem.Calls PyProof.Rows PySem.SeqAt Builtin Builtin.ObjectAttr
/-- the law's own body and scope, as the view has them -/
noncomputable def lawBody : List Stmt := match defOf Mine.view0 (PySem.Str.ofString "law") with | some (d, _) => d.body | none => []
noncomputable def lawScope : Scope := match defOf Mine.view0 (PySem.Str.ofString "law") with | some (d, _) => d.scope | none => { kind := .function, names := [], isGenerator := false, isCoroutine := false }
noncomputable abbrev lawEnv (C : Cx) : Env := envOfC "law" lawScope C.L 263 (.ref 262)
theorem missF_map {γ δ : Type} (g : γ → δ) (e : δ → δ → Bool) (qs : List γ) : ∀ ps : List γ, missF e (qs.map g) (ps.map g) = (missF (fun a b => e (g a) (g b)) qs ps).map g
  | [] => rfl
  | x :: r => by
    have e1 : (qs.map g).countP (fun p => e p (g x)) = qs.countP fun p => e (g p) (g x) := by rw [List.countP_map]; rfl
    have e2 : (g x :: r.map g).countP (fun p => e p (g x)) = (x :: r).countP fun p => e (g p) (g x) := by rw [← List.map_cons, List.countP_map]; rfl
    rw [List.map_cons, show missF e (qs.map g) (g x :: r.map g) = if (qs.map g).countP (fun p => e p (g x)) < (g x :: r.map g).countP (fun p => e p (g x)) then g x :: missF e (qs.map g) (r.map g) else missF e (qs.map g) (r.map g) from rfl, e1, e2, missF_map g e qs r,
      show missF (fun a b => e (g a) (g b)) qs (x :: r) = if qs.countP (fun p => e (g p) (g x)) < (x :: r).countP (fun p => e (g p) (g x)) then x :: missF (fun a b => e (g a) (g b)) qs r else missF (fun a b => e (g a) (g b)) qs r from rfl]
    split <;> rfl
theorem leftF_map {γ δ : Type} (g : γ → δ) (e : δ → δ → Bool) (ps : List γ) : ∀ (qs pre : List γ), leftF e (ps.map g) (pre.map g) (qs.map g) = (leftF (fun a b => e (g a) (g b)) ps pre qs).map g
  | [], _ => rfl
  | y :: r, pre => by
    have e0 : pre.map g ++ [g y] = (pre ++ [y]).map g := by simp
    have e1 : (ps.map g).countP (fun p => e p (g y)) = ps.countP fun p => e (g p) (g y) := by rw [List.countP_map]; rfl
    have e2 : ((pre ++ [y]).map g).countP (fun p => e p (g y)) = (pre ++ [y]).countP fun p => e (g p) (g y) := by rw [List.countP_map]; rfl
    rw [List.map_cons, show leftF e (ps.map g) (pre.map g) (g y :: r.map g) = if (ps.map g).countP (fun p => e p (g y)) < (pre.map g ++ [g y]).countP (fun p => e p (g y)) then g y :: leftF e (ps.map g) (pre.map g ++ [g y]) (r.map g) else leftF e (ps.map g) (pre.map g ++ [g y]) (r.map g) from rfl, e0, e1, e2, leftF_map g e ps r (pre ++ [y]),
      show leftF (fun a b => e (g a) (g b)) ps pre (y :: r) = if ps.countP (fun p => e (g p) (g y)) < (pre ++ [y]).countP (fun p => e (g p) (g y)) then y :: leftF (fun a b => e (g a) (g b)) ps (pre ++ [y]) r else leftF (fun a b => e (g a) (g b)) ps (pre ++ [y]) r from rfl]
    split <;> rfl
/-- equal by what they say -/
abbrev eq2 {δ : Type} [BEq δ] : Value × δ → Value × δ → Bool := fun p q => p.2 == q.2
theorem eqE_ents {δ : Type} [BEq δ] {D : δ → PyData} (hD : ∀ a b, PyData.eqv (D a) (D b) = (a == b)) : (fun a b : Value × δ => eqE (a.1, D a.2) (b.1, D b.2)) = eq2 := by
  funext a b
  exact hD _ _
theorem missF_ents {δ : Type} [BEq δ] {D : δ → PyData} (hD : ∀ a b, PyData.eqv (D a) (D b) = (a == b)) (qs ps : List (Value × δ)) : missF eqE (ents D qs) (ents D ps) = ents D (missF eq2 qs ps) := by
  rw [← eqE_ents hD]; exact missF_map (fun p : Value × δ => (p.1, D p.2)) eqE qs ps
theorem leftF_ents {δ : Type} [BEq δ] {D : δ → PyData} (hD : ∀ a b, PyData.eqv (D a) (D b) = (a == b)) (ps qs : List (Value × δ)) : leftF eqE (ents D ps) [] (ents D qs) = ents D (leftF eq2 ps [] qs) := by
  rw [← eqE_ents hD]; exact leftF_map (fun p : Value × δ => (p.1, D p.2)) eqE ps qs []
theorem difR_ents {δ : Type} [BEq δ] {D : δ → PyData} (hD : ∀ a b, PyData.eqv (D a) (D b) = (a == b)) (ps qs : List (Value × δ)) : difR eqE (ents D ps).reverse (ents D qs) = (ents D (difR eq2 ps.reverse qs).1, ents D (difR eq2 ps.reverse qs).2) := by
  have e : (ents D ps).reverse = ents D ps.reverse := by simp [ents]
  rw [e, ← eqE_ents hD]; exact difR_map (fun p : Value × δ => (p.1, D p.2)) eqE ps.reverse qs
theorem missF_snd {δ : Type} [BEq δ] (qs ps : List (Value × δ)) : (missF eq2 qs ps).map (·.2) = missF eqB (qs.map (·.2)) (ps.map (·.2)) := (missF_map (fun p : Value × δ => p.2) (fun p q => p == q) qs ps).symm
theorem leftF_snd {δ : Type} [BEq δ] (ps qs : List (Value × δ)) : (leftF eq2 ps [] qs).map (·.2) = leftF eqB (ps.map (·.2)) [] (qs.map (·.2)) := (leftF_map (fun p : Value × δ => p.2) (fun p q => p == q) ps qs []).symm
theorem difR_snd {δ : Type} [BEq δ] (ps qs : List (Value × δ)) : ((difR eq2 ps qs).1.map (·.2), (difR eq2 ps qs).2.map (·.2)) = difR eqB (ps.map (·.2)) (qs.map (·.2)) := (difR_map (fun p : Value × δ => p.2) (fun p q => p == q) ps qs).symm
section
variable {α : Type} {C : Cx} {m : Loc} {σ : Led} {env : Env} {n : Nat} {E : Value → Shared → Prop}
theorem ev_storeCell {x : PySem.Str} {v : Value} {c : Addr} {oc : Obj} {v₀ : Option Value} {Q : Unit → Loc → Led → Prop} (G : Gd n C env) (hc : env.cells.lookup x = some c) (ho : oc.data = .cell v₀) (q : ∀ oc', oc'.data = .cell (some v) → Q () m ((c, oc') :: σ))
    (hx : env.kindOf x = some .cell := by with_unfolding_all rfl) : Ev C (storeName env x v) m ((c, oc) :: σ) Q := fun E h tk I =>
  wpAny_storeName_cell G.hk hx hc ⟨oc, I.get (.head _), ho⟩ fun h' hv hs => by
    obtain ⟨oc', e, ho'⟩ := hv
    exact Ends.intro (C := C) (tk := tk) (I.setHead hs e) (q oc' ho')
theorem ev_freeC {x : PySem.Str} {pos : Pos} {v : Value} {scope : Scope} {cl : List (PySem.Str × Addr)} {a c : Addr} {oc : Obj} {Q : Value → Loc → Led → Prop} (hc : cl.lookup x = some c) (hm : (c, oc) ∈ σ) (ho : oc.data = .cell (some v)) (q : Q v m σ)
    (hk : (compEnvC scope cl a env).scope.kind = .function := by with_unfolding_all rfl) (hx : (compEnvC scope cl a env).kindOf x = some .free := by with_unfolding_all rfl) (hd : (x == ("__debug__" : PySem.Str)) = false := by with_unfolding_all decide) (hn : (x == ("__classdict__" : PySem.Str)) = false := by with_unfolding_all decide) :
    Ev C (eval (.Name x pos) (compEnvC scope cl a env)) m σ Q := fun _ _ _ I =>
  wpAny_Name (wpAny_loadName_free hk hx hc ⟨oc, I.get hm, ho⟩ (Ends.intro I q) hn) hd
end
end

section
open PySem PySem.W PySem.Spec PySem.Calls PyProof.Rows PySem.SeqAt Builtin Builtin.ObjectAttr
section
variable {α : Type} {C : Cx} {m : Loc} {σ : Led} {env : Env} {n : Nat} {E : Value → Shared → Prop}
theorem ev_any {t : Sem α} {Q Q' : α → Loc → Led → Prop} (H : Ev C t m σ Q) (k : ∀ v m' σ', Q v m' σ' → Q' v m' σ') : Ev C t m σ Q' := H.mono k
/-- a list that is empty or a row -/
def LrAt (σ : Led) (v : Value) (r : Option Row) : Prop := match r with
  | none => ∃ a k, v = .ref a ∧ (a, PySem.W.listOf #[] k) ∈ σ
  | some r => RowAt σ v r
theorem LrAt.mono {σ σ' : Led} {v : Value} {r : Option Row} (h : LrAt σ v r) (hs : ∀ p ∈ σ, p ∈ σ') : LrAt σ' v r := by
  cases r with
  | none => obtain ⟨a, k, e, hm⟩ := h; exact ⟨a, k, e, hs _ hm⟩
  | some r => exact RowAt.mono h hs
theorem law_1 {l : Addr} {vs : List Value} {ns : List Int} {Q : Flow → Loc → Led → Prop} (G : Gd (n + 9) C (lawEnv C)) (hl : C.bs.IsList l vs.toArray) (hi : IntsAre vs ns) (hsz : vs.length ≤ 63) (hm : m "script" = some (.ref l))
    (H : ∀ F a0 a1 k0 k1 f0 f1 T, f0.length + f1.length ≤ 32 → Tups f0 T → Tups f1 T → EvC C E (execs (lawBody.drop 1) (lawEnv C)) (upd m "files" (.ref F)) (FP F a0 a1 k0 k1 f0 f1 T ++ σ) Q) : EvC C E (execs lawBody (lawEnv C)) m σ Q := by
  refine cx_cons (Ev.c (ev_AssignName (ev_Call ?_)))
  refine ev_global G (gl_files _) ?_
  refine ev_callK1 G (kp_files _) ?_
  refine ev_args_cons ?_
  refine ev_local G (v := .ref l) (by with_unfolding_all exact hm) ?_
  refine ev_args_nil ?_
  refine files_ok (n := n + 8) G hl hi hsz fun F a0 a1 k0 k1 f0 f1 T h1 h2 h3 => ?_
  refine ev_store G ?_
  exact H F a0 a1 k0 k1 f0 f1 T h1 h2 h3
theorem law_2 {F a0 a1 : Addr} {k0 k1 : Nat} {f0 f1 : List Dr} {Q : Flow → Loc → Led → Prop} (G : Gd (n + 9) C (lawEnv C)) (hF : (F, lstOf [.ref a0, .ref a1] 0) ∈ σ) (h0 : (a0, lstOf (drs f0) k0) ∈ σ) (h1 : (a1, lstOf (drs f1) k1) ∈ σ) (t0 : Tups f0 σ) (t1 : Tups f1 σ) (hz : f0.length + f1.length ≤ 32)
    (hm : m "files" = some (.ref F))
    (H : ∀ c0 c1 j0 j1 (rs0 rs1 : List (Value × Row)) T, (c0, lstOf (rs0.map (·.1)) j0) ∈ T → (c1, lstOf (rs1.map (·.1)) j1) ∈ T → rs0.map (·.2) = rowsD f0 → rs1.map (·.2) = rowsD f1 → (∀ p ∈ rs0, RowAt T p.1 p.2) → (∀ p ∈ rs1, RowAt T p.1 p.2) →
      EvC C E (execs (lawBody.drop 2) (lawEnv C)) (upd (upd m "mine" (.ref c0)) "other" (.ref c1)) (T ++ σ) Q) : EvC C E (execs (lawBody.drop 1) (lawEnv C)) m σ Q := by
  refine cx_cons (Ev.c (ev_AssignTuple ?_))
  have hsl : sizeLine = 16777216 := rfl
  refine ev_ListComp (l := F) (vs := [.ref a0, .ref a1]) (R := σ) (fun i ys P => ∃ (cs : List (Addr × List (Value × Row) × Nat)), ys = (cs.map fun c => Value.ref c.1) ∧ (∀ c ∈ cs, (c.1, lstOf (c.2.1.map (·.1)) c.2.2) ∈ P) ∧
    (cs.map fun c => c.2.1.map (·.2)) = ([f0, f1].take i).map rowsD ∧ ∀ c ∈ cs, ∀ p ∈ c.2.1, RowAt P p.1 p.2) G.hh (by show 2 ≤ sizeLine; decide) ?_ ?_ ?_ ?_ ?_
  · refine ev_local G (v := .ref F) (by with_unfolding_all exact hm) ?_
    exact ⟨rfl, rfl, [], rfl, [], rfl, (fun _ h => nomatch h), rfl, fun _ h => nomatch h⟩
  · rintro i ys P -
    exact .led (List.mem_append_right _ hF)
  · exact .inl ⟨_, _, rfl⟩
  · rintro i v ys P R' a oc mc hi hR hS ⟨cs, rfl, hcm, hcs, hat⟩ hys ho
    obtain ⟨ai, ki, fi, hv, hai, hti, hfi, hli⟩ : ∃ ai ki fi, v = .ref ai ∧ (ai, lstOf (drs fi) ki) ∈ σ ∧ Tups fi σ ∧ [f0, f1][i]? = some fi ∧ fi.length ≤ 32 := by
      match i, hi with
      | 0, hi => exact ⟨a0, k0, f0, (Option.some.inj hi).symm, h0, t0, rfl, by omega⟩
      | 1, hi => exact ⟨a1, k1, f1, (Option.some.inj hi).symm, h1, t1, rfl, by omega⟩
      | i + 2, hi => exact absurd hi (by simp)
    subst hv
    refine ev_assignName (ev_storeC ho fun oc₁ ho₁ => ?_)
    refine ev_tests_nil ?_
    rw [if_pos rfl]
    refine Ev.forget ?_
    refine ev_CompAny G.hh ?_
    refine ev_ListComp (l := ai) (vs := drs fi) (R := (a, oc₁) :: (P ++ R')) (fun j ys P₂ => ∃ ds : List (Value × Option Row), ys = ds.map (·.1) ∧ ds.map (·.2) = (fi.take j).map (fun e => rowI e.2.1) ∧ ∀ p ∈ ds, LrAt P₂ p.1 p.2) G.hh (by simp [drs]; omega) ?_ ?_ ?_ ?_ ?_
    · refine ev_localC (.head _) ho₁ (by with_unfolding_all rfl) ?_
      exact ⟨rfl, rfl, [], rfl, [], rfl, rfl, fun _ h => nomatch h⟩
    · rintro j ys P₂ -
      exact .led (List.mem_append_right _ (.tail _ (List.mem_append_right _ (hR _ hai))))
    · refine .inr ⟨⟨_, _, _, rfl⟩, fun v hv => ?_⟩
      obtain ⟨e, _, rfl⟩ := List.mem_map.mp hv
      exact ⟨_, rfl⟩
    · rintro j v ys P₂ R₂ a₂ oc₂ mc₂ hj hR₂ hS₂ ⟨ds, rfl, hds, hat₂⟩ hys₂ ho₂
      obtain ⟨e, hfe, rfl⟩ := drs_at hj
      obtain ⟨t, u, ht⟩ := hti e (mem_at hfe)
      refine ev_unpackT G.hh (.tail _ (List.mem_append_right _ (hR₂ _ (.tail _ (List.mem_append_right _ (hR _ ht)))))) ?_
      refine ev_inOrder_cons (ev_assignName (ev_storeC ho₂ fun oc₃ ho₃ => ?_))
      refine ev_inOrder_cons (ev_assignName (ev_storeC ho₃ fun oc₄ ho₄ => ?_))
      refine ev_inOrder_nil ?_
      refine ev_tests_nil ?_
      rw [if_pos rfl]
      refine Ev.forget ?_
      refine ev_Call ?_
      refine ev_globalC G (gl_row _) ?_
      refine ev_callK1 G (kp_row _) ?_
      refine ev_args_cons ?_
      refine ev_localC (.head _) ho₄ (by with_unfolding_all rfl) ?_
      refine ev_args_nil ?_
      have hsn : ∀ (b : Addr) (r : Option Row), rowI e.2.1 = r → (ds ++ [(Value.ref b, r)]).map (·.2) = (fi.take (j + 1)).map (fun e => rowI e.2.1) := fun b r hr => by
        rw [take_snoc hfe, List.map_append, List.map_append, hds, List.map_singleton, List.map_singleton, hr]
      refine row_ok (n := n + 8) G (fun hr b => ?_) (fun r hr b t u => ?_)
      · refine ⟨(a₂, oc₄) :: (((b, PySem.W.listOf #[] 0) :: P₂) ++ R₂), ⟨_, .refl _, .swap ..⟩, rfl, oc₄, _, (b, PySem.W.listOf #[] 0) :: P₂, ho₄, rfl, ds ++ [(.ref b, none)], by simp, hsn b none hr, fun p hp => ?_⟩
        rcases List.mem_append.mp hp with hp | hp
        · exact (hat₂ p hp).mono fun _ h => .tail _ h
        · obtain rfl := List.mem_singleton.mp hp
          exact ⟨b, 0, rfl, .head _⟩
      · refine ⟨(a₂, oc₄) :: (((b, PySem.W.listOf #[.str (nm r.1) t, .str (vl r.2) u] 0) :: P₂) ++ R₂), ⟨_, .refl _, .swap ..⟩, rfl, oc₄, _, (b, PySem.W.listOf #[.str (nm r.1) t, .str (vl r.2) u] 0) :: P₂, ho₄, rfl, ds ++ [(.ref b, some r)], by simp, hsn b (some r) hr, fun p hp => ?_⟩
        rcases List.mem_append.mp hp with hp | hp
        · exact (hat₂ p hp).mono fun _ h => .tail _ h
        · obtain rfl := List.mem_singleton.mp hp
          exact ⟨b, t, u, 0, rfl, .head _⟩
    · rintro b k ys P₂ ⟨ds, rfl, hds, hat₂⟩ hys₂
      rw [show (drs fi).length = fi.length by simp [drs], List.take_of_length_le (Nat.le_refl _)] at hds
      have hdl : ds.length ≤ 32 := by have := congrArg List.length hds; simp at this; omega
      refine ⟨b, ds.map (·.1), (b, lstOf (ds.map (·.1)) k) :: (P₂ ++ (a, oc₁) :: (P ++ R')), [], fun j ys P₃ => P₃ = [] ∧ ∃ rs : List (Value × Row), ys = rs.map (·.1) ∧ rs.map (·.2) = (ds.take j).filterMap (·.2) ∧ ∀ p ∈ rs, RowAt P₂ p.1 p.2, rfl, rfl, rfl, ⟨rfl, [], rfl, rfl, fun _ h => nomatch h⟩, by simp; omega, ?_, .inl ⟨_, _, rfl⟩, ?_, ?_⟩
      · rintro j ys P₃ ⟨rfl, -⟩
        exact .led (.head _)
      · rintro j v ys P₃ R₃ a₃ oc₃ mc₃ hj hR₃ hS₃ ⟨rfl, rs, rfl, hrs, hrat⟩ hys₃ ho₃
        obtain ⟨d, hd, rfl⟩ := fst_at hj
        have hLr := hat₂ d (mem_at hd)
        obtain ⟨dv, dr⟩ := d
        refine ev_assignName (ev_storeC ho₃ fun oc₅ ho₅ => ?_)
        refine Ev.forget (ev_tests_one (ev_isCompare ?_))
        refine ev_localC (.head _) ho₅ (by with_unfolding_all rfl) ?_
        refine ev_List ?_
        refine ev_args_nil ?_
        refine ev_newList (hsz := by exact Nat.zero_le _) fun z _ => ?_
        have hin : ∀ p ∈ P₂, p ∈ (z, PySem.W.listOf #[] 0) :: (a₃, oc₅) :: ([] ++ R₃) := fun p hp => .tail _ (.tail _ (hR₃ _ (.tail _ (List.mem_append_left _ hp))))
        cases dr with
        | none =>
          obtain ⟨c, kc, rfl, hc⟩ := hLr
          refine ev_ne (by have := G.hu; omega) (rd_nil (hin _ hc)) (rd_nil (.head _)) (by decide) (by decide) ?_
          refine ev_truthy_bool ?_
          refine ⟨_, ⟨_, List.sublist_cons_self _ _, .refl _⟩, ?_⟩
          rw [if_neg (by decide)]
          refine ⟨rfl, oc₅, _, [], ho₅, rfl, rfl, rs, rfl, ?_, hrat⟩
          rw [take_snoc hd, List.filterMap_append, hrs]
          simp
        | some r =>
          refine ev_ne (by have := G.hu; omega) (rd_Row (hLr.mono hin)).1 (rd_nil (.head _)) (shaped_row r) (by decide) ?_
          refine ev_truthy_bool ?_
          refine ⟨_, ⟨_, List.sublist_cons_self _ _, .refl _⟩, ?_⟩
          rw [if_pos (by unfold dR; rw [PyData.eqv]; simp [PyData.eqvAll])]
          refine ev_localC (.head _) ho₅ (by with_unfolding_all rfl) ?_
          refine ⟨rfl, oc₅, _, [], ho₅, rfl, rfl, rs ++ [(dv, r)], by simp, ?_, fun p hp => ?_⟩
          · rw [take_snoc hd, List.filterMap_append, List.map_append, hrs]
            simp
          · rcases List.mem_append.mp hp with hp | hp
            · exact hrat p hp
            · obtain rfl := List.mem_singleton.mp hp; exact hLr
      · rintro b₂ k₂ ys P₃ ⟨rfl, rs, rfl, hrs, hrat⟩ hys₃
        rw [List.length_map, List.take_of_length_le (Nat.le_refl _)] at hrs
        have hrd : rs.map (·.2) = rowsD fi := by
          rw [hrs]
          have : ds.filterMap (·.2) = (ds.map (·.2)).filterMap id := by rw [List.filterMap_map]; rfl
          rw [this, hds, List.filterMap_map]
          rfl
        refine ⟨(a, oc₁) :: (((b₂, lstOf (rs.map (·.1)) k₂) :: (P₂ ++ P)) ++ R'), ?_, rfl, oc₁, _, (b₂, lstOf (rs.map (·.1)) k₂) :: (P₂ ++ P), ho₁, rfl, cs ++ [(b₂, rs, k₂)], by simp, ?_, ?_, ?_⟩
        · refine Sp.b1 (Sp.skip ?_)
          rw [List.cons_append, List.append_assoc]
          exact ⟨_, .refl _, (List.Perm.swap ..).trans (List.perm_middle.symm.cons _)⟩
        · intro c hc
          rcases List.mem_append.mp hc with hc | hc
          · exact .tail _ (List.mem_append_right _ (hcm c hc))
          · obtain rfl := List.mem_singleton.mp hc; exact .head _
        · rw [List.map_append, hcs, List.map_singleton, hrd, take_snoc hfi, List.map_append, List.map_singleton]
        · intro c hc p hp
          rcases List.mem_append.mp hc with hc | hc
          · exact (hat c hc p hp).mono fun _ h => .tail _ (List.mem_append_right _ h)
          · obtain rfl := List.mem_singleton.mp hc
            exact (hrat p hp).mono fun _ h => .tail _ (List.mem_append_left _ h)
  · rintro a k ys P ⟨cs, rfl, hcm, hcs, hat⟩ hys
    obtain ⟨c0, c1, rfl⟩ : ∃ c0 c1, cs = [c0, c1] := by
      match cs, hcs with
      | [c0, c1], _ => exact ⟨c0, c1, rfl⟩
      | [], hcs => exact absurd (congrArg List.length hcs) (by simp)
      | [_], hcs => exact absurd (congrArg List.length hcs) (by simp)
      | _ :: _ :: _ :: _, hcs => exact absurd (congrArg List.length hcs) (by simp)
    have e0 : c0.2.1.map (·.2) = rowsD f0 := (List.cons.inj hcs).1
    have e1 : c1.2.1.map (·.2) = rowsD f1 := (List.cons.inj (List.cons.inj hcs).2).1
    refine ev_unpackL G.hh (.led (.head _)) ?_
    refine ev_inOrder_cons (ev_assignName (ev_store G ?_))
    refine ev_inOrder_cons (ev_assignName (ev_store G ?_))
    refine ev_inOrder_nil ?_
    exact H c0.1 c1.1 c0.2.2 c1.2.2 c0.2.1 c1.2.1 ((a, lstOf ([c0, c1].map fun c => Value.ref c.1) k) :: P) (.tail _ (hcm c0 (.head _))) (.tail _ (hcm c1 (.tail _ (.head _)))) e0 e1 (fun p hp => (hat c0 (.head _) p hp).mono fun _ h => .tail _ h) fun p hp => (hat c1 (.tail _ (.head _)) p hp).mono fun _ h => .tail _ h
end
end

section
open PySem PySem.W PySem.Spec PySem.Calls PyProof.Rows PySem.SeqAt Builtin Builtin.ObjectAttr
theorem perm_of_count {δ : Type} {l₁ l₂ : List δ} (h : ∀ [BEq δ] [LawfulBEq δ] (a : δ), l₁.count a = l₂.count a) : l₁.Perm l₂ := by
  classical
  exact List.perm_iff_count.mpr fun a => h a
theorem Sp.ofP {σ' σ : Led} (ρ : Led) (p : (σ' ++ ρ).Perm σ) : Sp σ' σ := ⟨_, List.sublist_append_left _ _, p⟩
end
local macro_rules | `(tactic| walk_at "perm") => `(tactic| (refine perm_of_count fun a => ?_; simp only [List.count_append, List.count_cons, List.count_nil, List.cons_append, List.append_assoc, List.nil_append]; omega))
section
open PySem PySem.W PySem.Spec PySem.Calls PyProof.Rows PySem.SeqAt Builtin Builtin.ObjectAttr
section
variable {α : Type} {C : Cx} {m : Loc} {σ : Led} {env : Env} {n : Nat} {E : Value → Shared → Prop}
theorem law_3 {c0 c1 : Addr} {j0 j1 : Nat} {rs0 rs1 : List (Value × Row)} {co : Obj} {Q : Flow → Loc → Led → Prop} (G : Gd (n + 9) C (lawEnv C)) (hc0 : (c0, lstOf (rs0.map (·.1)) j0) ∈ σ) (hc1 : (c1, lstOf (rs1.map (·.1)) j1) ∈ σ) (r0 : ∀ p ∈ rs0, RowAt σ p.1 p.2) (r1 : ∀ p ∈ rs1, RowAt σ p.1 p.2)
    (hz0 : rs0.length ≤ 100) (hz1 : rs1.length ≤ 100) (hm0 : m "mine" = some (.ref c0)) (hm1 : m "other" = some (.ref c1)) (hco : co.data = .cell none)
    (H : ∀ aM aL kM kL (ms ls : List (Value × Row)) co' t ot, co'.data = .cell (some (.ref aL)) → ms.map (·.2) = (missF eqB (rs1.map (·.2)) (rs0.map (·.2))).reverse → ls.map (·.2) = leftF eqB (rs0.map (·.2)) [] (rs1.map (·.2)) → (∀ p ∈ ms, p ∈ rs0) → (∀ p ∈ ls, p ∈ rs1) → ms.length ≤ 100 → ls.length ≤ 100 →
      EvC C E (execs (lawBody.drop 3) (lawEnv C)) (upd m "missing" (.ref aM)) ((C.L + 1, co') :: (t, ot) :: (aM, lstOf (ms.map (·.1)) kM) :: (aL, lstOf (ls.map (·.1)) kL) :: σ) Q) : EvC C E (execs (lawBody.drop 2) (lawEnv C)) m ((C.L + 1, co) :: σ) Q := by
  refine cx_cons (Ev.c (ev_AssignTuple (ev_Call ?_)))
  refine ev_global G (gl_due _) ?_
  refine ev_callK1 G (kp_due _) ?_
  refine ev_args_cons ?_
  refine ev_local G (v := .ref c0) (by with_unfolding_all exact hm0) ?_
  refine ev_args_cons ?_
  refine ev_local G (v := .ref c1) (by with_unfolding_all exact hm1) ?_
  refine ev_args_nil ?_
  refine due_ok (n := n + 8) (ps := ents dR rs0) (qs := ents dR rs1) G (by rw [ents_fst]; exact .tail _ hc0) (by rw [ents_fst]; exact .tail _ hc1) (rd_ents fun p hp => rd_Row ((r0 p hp).mono fun _ h => .tail _ h)) (rd_ents fun p hp => rd_Row ((r1 p hp).mono fun _ h => .tail _ h)) (by rw [ents_len]; exact hz0) (by rw [ents_len]; exact hz1) fun aM aL t kM kL => ?_
  rw [missF_ents eqv_R, leftF_ents eqv_R, show (ents dR (missF eq2 rs1 rs0)).reverse = ents dR (missF eq2 rs1 rs0).reverse by simp [ents], ents_fst, ents_fst]
  refine ev_unpackT G.hh (.head _) ?_
  refine ev_inOrder_cons (ev_assignName (ev_store G ?_))
  refine ev_inOrder_cons (ev_assignName ?_)
  refine Ev.sp (σ' := (C.L + 1, co) :: (t, tupOf #[.ref aM, .ref aL]) :: (aM, lstOf ((missF eq2 rs1 rs0).reverse.map (·.1)) kM) :: (aL, lstOf ((leftF eq2 rs0 [] rs1).map (·.1)) kL) :: σ) (Sp.ofP [] (by walk_at "perm")) ?_
  refine ev_storeCell G (c := C.L + 1) (by with_unfolding_all rfl) hco fun co' hco' => ?_
  refine ev_inOrder_nil ?_
  have m1 := missF_mem eq2 rs1 rs0
  have m2 := leftF_mem eq2 rs0 rs1 []
  exact H aM aL kM kL (missF eq2 rs1 rs0).reverse (leftF eq2 rs0 [] rs1) co' t _ hco' (by rw [List.map_reverse, missF_snd]) (leftF_snd rs0 rs1) (fun p hp => m1.1 p (List.mem_reverse.mp hp)) (fun p hp => m2.1 p hp) (by rw [List.length_reverse]; omega) (by omega)
theorem law_4 {F a0 a1 : Addr} {k0 : Nat} {f0 : List Dr} {Q : Flow → Loc → Led → Prop} (G : Gd (n + 9) C (lawEnv C)) (hF : (F, lstOf [.ref a0, .ref a1] 0) ∈ σ) (h0 : (a0, lstOf (drs f0) k0) ∈ σ) (t0 : Tups f0 σ) (hz : f0.length ≤ 32) (hm : m "files" = some (.ref F))
    (H : ∀ x dx rl es kb kr b rs T, 3 < x → ReadOk (rowsD f0) es b rs T → es.size ≤ 32 → rs.length ≤ 32 → (∀ e ∈ b, e.vs.length ≤ 32) →
      EvC C E (execs (lawBody.drop 4) (lawEnv C)) (upd (upd m "first" (.ref x)) "heads" (.ref rl)) (ReadL x dx rl es kb kr b rs T ++ (dx, emptyDict) :: σ) Q) : EvC C E (execs (lawBody.drop 3) (lawEnv C)) m σ Q := by
  refine cx_cons (cx_AssignTuple (cx_Call ?_))
  refine ev_global G (gl_read _) ?_
  refine cx_callK1 G (kp_read _) ?_
  refine ev_args_cons ?_
  refine ev_Subscript ?_
  refine ev_local G (v := .ref F) (by with_unfolding_all exact hm) ?_
  refine ev_int fun _ => ?_
  refine ev_item (.led hF) (by decide) (by decide) rfl ?_
  refine ev_args_nil ?_
  refine read_ok (n := n + 3) G h0 t0 hz fun t x dx rl es kb kr b rs T h3 ok h4 h5 h6 => ?_
  refine ev_unpackT G.hh (.head _) ?_
  refine ev_inOrder_cons (ev_assignName (ev_store G ?_))
  refine ev_inOrder_cons (ev_assignName (ev_store G ?_))
  refine ev_inOrder_nil ?_
  exact EvC.sub (List.sublist_cons_self _ _) (H x dx rl es kb kr b rs T h3 ok h4 h5 h6)
theorem law_5 {F a0 a1 : Addr} {k1 : Nat} {f1 : List Dr} {Q : Flow → Loc → Led → Prop} (G : Gd (n + 9) C (lawEnv C)) (hF : (F, lstOf [.ref a0, .ref a1] 0) ∈ σ) (h1 : (a1, lstOf (drs f1) k1) ∈ σ) (t1 : Tups f1 σ) (hz : f1.length ≤ 32) (hm : m "files" = some (.ref F))
    (H : ∀ x dx rl es kb kr b rs T, 3 < x → ReadOk (rowsD f1) es b rs T → es.size ≤ 32 → rs.length ≤ 32 → (∀ e ∈ b, e.vs.length ≤ 32) →
      EvC C E (execs (lawBody.drop 5) (lawEnv C)) (upd (upd m "second" (.ref x)) "tails" (.ref rl)) (ReadL x dx rl es kb kr b rs T ++ (dx, emptyDict) :: σ) Q) : EvC C E (execs (lawBody.drop 4) (lawEnv C)) m σ Q := by
  refine cx_cons (cx_AssignTuple (cx_Call ?_))
  refine ev_global G (gl_read _) ?_
  refine cx_callK1 G (kp_read _) ?_
  refine ev_args_cons ?_
  refine ev_Subscript ?_
  refine ev_local G (v := .ref F) (by with_unfolding_all exact hm) ?_
  refine ev_int fun _ => ?_
  refine ev_item (.led hF) (by decide) (by decide) rfl ?_
  refine ev_args_nil ?_
  refine read_ok (n := n + 3) G h1 t1 hz fun t x dx rl es kb kr b rs T h3 ok h4 h5 h6 => ?_
  refine ev_unpackT G.hh (.head _) ?_
  refine ev_inOrder_cons (ev_assignName (ev_store G ?_))
  refine ev_inOrder_cons (ev_assignName (ev_store G ?_))
  refine ev_inOrder_nil ?_
  exact EvC.sub (List.sublist_cons_self _ _) (H x dx rl es kb kr b rs T h3 ok h4 h5 h6)
end
end

section
open PySem PySem.W PySem.Spec PySem.Calls PyProof.Rows PySem.SeqAt Builtin Builtin.ObjectAttr
theorem bkLed_cons (e : BkE) (b : Bk) : bkLed (e :: b) = (e.l, lstOf (e.vs.map (·.1)) e.k) :: bkLed b := rfl
/-- a book's hook: none, or the frozen one -/
def StOk (w : World) (R : Led) (x dx : Addr) (fr : Bool) : Prop := match fr with
  | false => (dx, emptyDict) ∈ R
  | true => ∃ hs t f, (dx, frozDict hs t f) ∈ R ∧ Lam w R f x
theorem StOk.mono {w : World} {R R' : Led} {x dx : Addr} {fr : Bool} (h : StOk w R x dx fr) (hs : ∀ p ∈ R, p ∈ R') : StOk w R' x dx fr := by
  cases fr with
  | false => exact hs _ h
  | true => obtain ⟨a, t, f, h1, h2⟩ := h; exact ⟨a, t, f, hs _ h1, h2.mono hs⟩
structure Back (x dx : Addr) (fr : Bool) (es : Array DictEntry) (b : Bk) (y : Nm) (l : Addr) (rest : Led) (ws : List (Value × Vl)) (kk : Nat) (es' : Array DictEntry) (k' : Nat) (b' : Bk) : Prop where
  sp : Sp ((x, bookObj dx es' k') :: bkLed b') ((l, lstOf (ws.map (·.1)) kk) :: rest)
  be : BE es'.toList (bkBP b')
  ok : bkOk b'
  nd : bkNd b'
  sz : es'.size ≤ es.size + 1
  d : ∀ ns g, bkD b = cont ns g → bkD b' = cont (if fr = true then ns else addF ns y) (fun z => if z = y then ws.map (·.2) else g z)
  get : bget (bkBP b') y = if fr = true ∧ bget (bkBP b) y = none then none else some l
  len : (∀ e ∈ b, e.vs.length ≤ 100) → ws.length ≤ 100 → ∀ e ∈ b', e.vs.length ≤ 100
structure AskOk (x dx : Addr) (fr : Bool) (es : Array DictEntry) (b : Bk) (y : Nm) (l : Addr) (vs : List (Value × Vl)) (rest : Led) : Prop where
  ok : ∀ p ∈ vs, VlAt p.1 p.2
  back : ∀ ws kk, (∀ p ∈ ws, VlAt p.1 p.2) → ∃ es' k' b', Back x dx fr es b y l rest ws kk es' k' b'
  says : ∀ ns g, bkD b = cont ns g → vs.map (·.2) = if y ∈ ns then g y else []
  len : (∀ e ∈ b, e.vs.length ≤ 100) → vs.length ≤ 100
theorem bget_new {b : Bk} {y : Nm} {l : Addr} {vs : List (Value × Vl)} {k : Nat} (h : bget (bkBP b) y = none) : bget (bkBP (b ++ [⟨y, l, vs, k⟩])) y = some l := by
  unfold bget at *
  rw [bkBP_app, List.find?_append, Option.map_eq_none_iff.mp h]
  simp [bkBP]
theorem bget_same {b1 b2 : Bk} {e e' : BkE} {y : Nm} (h1 : e'.y = e.y) (h2 : e'.l = e.l) : bget (bkBP (b1 ++ e' :: b2)) y = bget (bkBP (b1 ++ e :: b2)) y := by
  simp [bkBP, h1, h2]
theorem bget_names {b : Bk} {y : Nm} {ns : List Nm} {g : Nm → List Vl} (h : bkD b = cont ns g) : bget (bkBP b) y = none ↔ y ∉ ns := by
  constructor
  · intro hn hm
    exact bget_none hn (by rw [h, cont_names]; exact hm)
  · intro hn
    cases hg : bget (bkBP b) y with
    | none => rfl
    | some l =>
      obtain ⟨b1, e, b2, rfl, rfl, _, _⟩ := bget_some hg
      exact absurd (says_at h).2 hn
theorem bget_at {b1 b2 : Bk} {e : BkE} (hn : bkNd (b1 ++ e :: b2)) : bget (bkBP (b1 ++ e :: b2)) e.y = some e.l := by
  unfold bkNd at hn
  rw [List.map_append, List.map_cons, List.nodup_append] at hn
  obtain ⟨h1, h2, h3⟩ := hn
  unfold bget
  rw [bkBP_app, List.find?_append]
  have : (bkBP b1).find? (fun b => b.1 == e.y) = none := by
    rw [List.find?_eq_none]
    intro p hp
    obtain ⟨e', he', rfl⟩ := List.mem_map.mp hp
    have := h3 _ (List.mem_map_of_mem he') e.y (.head _)
    simpa using this
  rw [this]
  simp [bkBP]
section
variable {α : Type} {C : Cx} {m : Loc} {σ : Led} {env : Env} {n : Nat} {E : Value → Shared → Prop}
theorem ask_found {x dx : Addr} {fr : Bool} {es : Array DictEntry} {k : Nat} {b1 b2 : Bk} {e : BkE} (B : BE es.toList (bkBP (b1 ++ e :: b2))) (ok : bkOk (b1 ++ e :: b2)) (nd : bkNd (b1 ++ e :: b2)) :
    AskOk x dx fr es (b1 ++ e :: b2) e.y e.l e.vs ((x, bookObj dx es k) :: (bkLed b1 ++ bkLed b2)) where
  ok := ok e (List.mem_append_right _ (.head _))
  back := fun ws kk hws => ⟨es, k, b1 ++ ⟨e.y, e.l, ws, kk⟩ :: b2, {
    sp := by
      rw [bkLed_app, bkLed_cons]
      exact Sp.ofP [] (by walk_at "perm")
    be := by
      have e0 : bkBP (b1 ++ ⟨e.y, e.l, ws, kk⟩ :: b2) = bkBP (b1 ++ e :: b2) := by simp [bkBP]
      rw [e0]; exact B
    ok := fun e' he' => by
      rcases List.mem_append.mp he' with he' | he'
      · exact ok e' (List.mem_append_left _ he')
      · rcases List.mem_cons.mp he' with rfl | he'
        · exact hws
        · exact ok e' (List.mem_append_right _ (.tail _ he'))
    nd := by
      unfold bkNd at *
      simpa using nd
    sz := Nat.le_succ _
    d := fun ns g h => by
      have hin := (says_at h).2
      have e1 : (if fr = true then ns else addF ns e.y) = ns := by
        split
        · rfl
        · unfold addF; rw [if_pos hin]
      rw [e1]
      exact says_set h nd rfl rfl
    get := by
      rw [bget_same (e := e) (e' := ⟨e.y, e.l, ws, kk⟩) rfl rfl, bget_at nd, if_neg (by rintro ⟨_, h⟩; cases h)]
    len := fun h hw e' he' => by
      rcases List.mem_append.mp he' with he' | he'
      · exact h e' (List.mem_append_left _ he')
      · rcases List.mem_cons.mp he' with rfl | he'
        · exact hw
        · exact h e' (List.mem_append_right _ (.tail _ he')) }⟩
  says := fun ns g h => by rw [if_pos (says_at h).2]; exact (says_at h).1
  len := fun h => h e (List.mem_append_right _ (.head _))
theorem ask_new {x dx : Addr} {es : Array DictEntry} {k : Nat} {b : Bk} {y : Nm} {l : Addr} {en : DictEntry} (B : BE (es.push en).toList (bkBP (b ++ [⟨y, l, [], 0⟩]))) (hn : bget (bkBP b) y = none) (ok : bkOk b) (nd : bkNd b) :
    AskOk x dx false es b y l [] ((x, bookObj dx (es.push en) (k + 1)) :: bkLed b) where
  ok := fun _ h => nomatch h
  back := fun ws kk hws => ⟨es.push en, k + 1, b ++ [⟨y, l, ws, kk⟩], {
    sp := by
      rw [bkLed_app, bkLed_cons]
      exact Sp.ofP [] (by rw [show bkLed [] = [] from rfl]; walk_at "perm")
    be := by
      rw [bkBP_app] at B ⊢
      exact B
    ok := bkOk_app ok fun e' he' => by
      obtain rfl := List.mem_singleton.mp he'
      exact hws
    nd := bkNd_new nd (bget_none hn)
    sz := by rw [Array.size_push]; exact Nat.le_refl _
    d := fun ns g h => by
      have hy := (bget_names h).mp hn
      rw [if_neg (by decide), show addF ns y = ns ++ [y] from by unfold addF; rw [if_neg hy]]
      exact says_new (e' := ⟨y, l, ws, kk⟩) h hy rfl
    get := by
      rw [bget_new hn, if_neg (by rintro ⟨h, _⟩; cases h)]
    len := fun h hw e' he' => by
      rcases List.mem_append.mp he' with he' | he'
      · exact h e' he'
      · obtain rfl := List.mem_singleton.mp he'; exact hw }⟩
  says := fun ns g h => by rw [if_neg ((bget_names h).mp hn)]; rfl
  len := fun _ => Nat.zero_le _
theorem ask_froz {x dx : Addr} {es : Array DictEntry} {k : Nat} {b : Bk} {y : Nm} {l : Addr} (B : BE es.toList (bkBP b)) (hn : bget (bkBP b) y = none) (ok : bkOk b) (nd : bkNd b) :
    AskOk x dx true es b y l [] ((x, bookObj dx es k) :: bkLed b) where
  ok := fun _ h => nomatch h
  back := fun ws kk hws => ⟨es, k, b, {
    sp := ⟨_, List.sublist_cons_self _ _, .refl _⟩
    be := B
    ok := ok
    nd := nd
    sz := Nat.le_succ _
    d := fun ns g h => by
      rw [if_pos rfl]
      exact says_not h ((bget_names h).mp hn)
    get := by rw [if_pos ⟨rfl, hn⟩]; exact hn
    len := fun h _ => h }⟩
  says := fun ns g h => by rw [if_neg ((bget_names h).mp hn)]; rfl
  len := fun _ => Nat.zero_le _
/-- what a book hands out under a name -/
theorem ev_ask {x dx : Addr} {fr : Bool} {es : Array DictEntry} {k : Nat} {b : Bk} {y : Nm} {t : Tok} {value slice : Expr} {Q : Value → Loc → Led → Prop} (G : Gd (n + 3) C env) (S : StOk C.w σ x dx fr) (h3 : 3 < x) (B : BE es.toList (bkBP b)) (ok : bkOk b) (nd : bkNd b) (hsz : es.size ≤ 1000)
    (q : ∀ l vs kk rest, AskOk x dx fr es b y l vs rest → Q (.ref l) m ((l, lstOf (vs.map (·.1)) kk) :: (rest ++ σ)))
    (hs : subscripted slice false (.ref x) (.str (nm y) t) = operate [.ref x, .str (nm y) t] (getItem (.ref x) (.str (nm y) t)) := by with_unfolding_all rfl) :
    Ev C (subscriptTail value slice (.ref x) (.str (nm y) t)) m ((x, bookObj dx es k) :: (bkLed b ++ σ)) Q := by
  refine Ev.forget ?_
  refine ev_book (n := n + 3) (dx := dx) (es := es) (k := k) G (.head _) B h3 (fun l hl => ?_) (fun hl => ?_) hs
  · obtain ⟨b1, e, b2, rfl, rfl, rfl, _⟩ := bget_some hl
    refine ⟨_, ?_, q e.l e.vs e.k ((x, bookObj dx es k) :: (bkLed b1 ++ bkLed b2)) (ask_found B ok nd)⟩
    rw [bkLed_app, bkLed_cons]
    exact Sp.ofP [] (by walk_at "perm")
  · cases fr with
    | false =>
      refine missing_open G.in1 (List.mem_append_right _ S) h3 B hl hsz fun l e hB => ?_
      refine ⟨_, ?_, q l [] 0 ((x, bookObj dx (es.push e) (k + 1)) :: bkLed b) (ask_new (by rw [bkBP_app]; exact hB) hl ok nd)⟩
      exact Sp.refl _
    | true =>
      obtain ⟨hh, tt, f, hd, hL⟩ := S
      refine missing_froz (n := n) (dx := dx) (es := es) (k := k) G.in1 (.head _) (.tail _ (List.mem_append_right _ hd)) (hL.mono fun p hp => .tail _ (List.mem_append_right _ hp)) fun l => ?_
      exact ⟨_, Sp.refl _, q l [] 0 ((x, bookObj dx es k) :: bkLed b) (ask_froz B hl ok nd)⟩
end
end

section
open PySem PySem.W PySem.Spec PySem.Calls PyProof.Rows PySem.SeqAt Builtin Builtin.ObjectAttr
section
variable {α : Type} {C : Cx} {m : Loc} {σ : Led} {env : Env} {n : Nat} {E : Value → Shared → Prop}
theorem rd_lst {δ : Type} {D : δ → PyData} {a : Addr} {l : List (Value × δ)} {k : Nat} (hm : (a, lstOf (l.map (·.1)) k) ∈ σ) (H : ∀ p ∈ l, Rd C σ p.1 (D p.2)) : Rd C σ (.ref a) (.list ((l.map (·.2)).map D)) := by
  have := Rd.list (C := C) (l := ents D l) (a := a) (k := k) (by rw [ents_fst]; exact hm) (fun p hp => by
    obtain ⟨q, hq, rfl⟩ := List.mem_map.mp hp
    exact H q hq)
  rw [show (ents D l).map (·.2) = (l.map (·.2)).map D by simp [ents, List.map_map]] at this
  exact this
theorem rd_tup2 {t : Addr} {a b : Value} {da db : PyData} (hm : (t, tupOf #[a, b]) ∈ σ) (ha : Rd C σ a da) (hb : Rd C σ b db) : Rd C σ (.ref t) (.tuple [da, db]) :=
  Rd.tuple (C := C) (l := [(a, da), (b, db)]) hm fun p hp => by
    rcases List.mem_cons.mp hp with rfl | hp
    · exact ha
    · obtain rfl := List.mem_singleton.mp hp; exact hb
theorem sh_lst {δ : Type} {D : δ → PyData} {k : Nat} (l : List δ) (h : ∀ x, Sh k (D x)) : Sh (k + 1) (.list (l.map D)) := sh_list fun d hd => by
  obtain ⟨x, _, rfl⟩ := List.mem_map.mp hd
  exact h x
theorem sh_tup2 {a b : PyData} {k : Nat} (ha : Sh k a) (hb : Sh k b) : Sh (k + 1) (.tuple [a, b]) := sh_tuple fun d hd => by
  rcases List.mem_cons.mp hd with rfl | hd
  · exact ha
  · obtain rfl := List.mem_singleton.mp hd; exact hb
theorem ev_isNotSelf {a : Addr} {Q : Value → Loc → Led → Prop} (q : Q (.bool false) m σ) : Ev C (compareOp .IsNot (.ref a) (.ref a)) m σ Q := fun E h tk I => wpAny_isNot_ref_self (Ends.intro I q)
theorem ev_isSelf {a : Addr} {Q : Value → Loc → Led → Prop} (q : Q (.bool true) m σ) : Ev C (compareOp .Is (.ref a) (.ref a)) m σ Q := fun E h tk I => wpAny_is_ref_self (Ends.intro I q)
theorem ev_isNotNone {Q : Value → Loc → Led → Prop} (q : Q (.bool false) m σ) : Ev C (compareOp .IsNot .none .none) m σ Q := fun E h tk I => isnot_none_none (Ends.intro I q)
theorem ev_eqBool {a b : Bool} {Q : Value → Loc → Led → Prop} (q : Q (.bool (a == b)) m σ) : Ev C (compareOp .Eq (.bool a) (.bool b)) m σ Q := fun E h tk I => PyProof.Rows.eq_bool (Ends.intro I q)
theorem law_6 {r1 r2 aM aL : Addr} {rh rt ms ls : List (Value × Row)} {k1 k2 kM kL : Nat} {co : Obj} {Q : Flow → Loc → Led → Prop} (G : Gd (n + 9) C (lawEnv C)) (hrh : ∀ p ∈ rh, RowAt σ p.1 p.2) (hrt : ∀ p ∈ rt, RowAt σ p.1 p.2) (hz1 : rh.length ≤ 100) (hz2 : rt.length ≤ 100)
    (hM : (aM, lstOf (ms.map (·.1)) kM) ∈ σ) (hL : (aL, lstOf (ls.map (·.1)) kL) ∈ σ) (hms : ∀ p ∈ ms, RowAt σ p.1 p.2) (hls : ∀ p ∈ ls, RowAt σ p.1 p.2) (hc : (C.L + 1, co) ∈ σ) (hco : co.data = .cell (some (.ref aL)))
    (e1 : ms.map (·.2) = (missF eqB (rt.map (·.2)) (rh.map (·.2))).reverse) (e2 : ls.map (·.2) = leftF eqB (rh.map (·.2)) [] (rt.map (·.2))) (m1 : m "heads" = some (.ref r1)) (m2 : m "tails" = some (.ref r2)) (m3 : m "missing" = some (.ref aM))
    (H : ∀ t, EvC C E (execs (lawBody.drop 7) (lawEnv C)) (upd m "whole" (.ref t)) σ Q) : EvC C E (execs (lawBody.drop 5) (lawEnv C)) m ((r1, lstOf (rh.map (·.1)) k1) :: (r2, lstOf (rt.map (·.1)) k2) :: σ) Q := by
  refine cx_cons (Ev.c (ev_AssignName (ev_Call ?_)))
  refine ev_global G (gl_diff _) ?_
  refine ev_callK1 G (kp_diff _) ?_
  refine ev_args_cons ?_
  refine ev_local G (v := .ref r1) (by with_unfolding_all exact m1) ?_
  refine ev_args_cons ?_
  refine ev_local G (v := .ref r2) (by with_unfolding_all exact m2) ?_
  refine ev_args_nil ?_
  have f1 : (ents dR rh).map (·.1) = rh.map (·.1) := ents_fst _ _
  have f2 : (ents dR rt).map (·.1) = rt.map (·.1) := ents_fst _ _
  have key := diff_ok (n := n + 8) (C := C) (m := m) (σ := σ) (le := r1) (la := r2) (ps := ents dR rh) (qs := ents dR rt) (kE := k1) (kA := k2) (Q := fun v m' σ' => ∃ t a kE kA kM, v = .ref t ∧ m' = m ∧ σ' = (t, tupOf #[.ref a, .ref r2]) :: (a, lstOf ((difR eq2 rh.reverse rt).1.map (·.1)) kM) :: (r1, lstOf [] kE) :: (r2, lstOf ((difR eq2 rh.reverse rt).2.map (·.1)) kA) :: σ) G
    (rd_ents fun p hp => rd_Row (hrh p hp)) (rd_ents fun p hp => rd_Row (hrt p hp)) (by rw [ents_len]; exact hz1) (by rw [ents_len]; exact hz2) (fun a t kE kA kM => ⟨t, a, kE, kA, kM, rfl, rfl, by rw [difR_ents eqv_R, ents_fst, ents_fst]⟩)
  rw [f1, f2] at key
  refine key.mono ?_
  rintro _ _ _ ⟨t, a, kE, kA, kM', rfl, rfl, rfl⟩
  refine ev_store G ?_
  have hd := difR_snd rh.reverse rt
  rw [List.map_reverse, difR_due] at hd
  obtain ⟨d1, d2⟩ := Prod.mk.inj hd
  have mem := difR_mem eq2 rh.reverse rt
  generalize difR eq2 rh.reverse rt = D at *
  refine cx_cons (Ev.c (Ev.forget ?_))
  refine ev_If ?_
  refine ev_isOr (ev_isCompare ?_)
  refine ev_local G (v := .ref t) (by with_unfolding_all rfl) ?_
  refine ev_Tuple ?_
  refine ev_args_cons ?_
  refine ev_local G (v := .ref aM) (by with_unfolding_all exact m3) ?_
  refine ev_args_cons ?_
  refine ev_cell G (c := C.L + 1) (oc := co) (by with_unfolding_all rfl) (.tail _ (.tail _ (.tail _ (.tail _ hc)))) hco ?_
  refine ev_args_nil ?_
  refine ev_newTuple (hsz := by show 2 ≤ sizeLine; decide) fun t2 _ => ?_
  have up : ∀ {y1 y2 y3 y4 y5 : Addr × Obj}, ∀ p ∈ σ, p ∈ y1 :: y2 :: y3 :: y4 :: y5 :: σ := fun p hp => .tail _ (.tail _ (.tail _ (.tail _ (.tail _ hp))))
  have sh : Sh 3 (.tuple [.list (((missF eqB (rt.map (·.2)) (rh.map (·.2))).reverse).map dR), .list ((leftF eqB (rh.map (·.2)) [] (rt.map (·.2))).map dR)]) := sh_tup2 (sh_lst _ sh_R) (sh_lst _ sh_R)
  refine ev_ne (da := .tuple [.list (((missF eqB (rt.map (·.2)) (rh.map (·.2))).reverse).map dR), .list ((leftF eqB (rh.map (·.2)) [] (rt.map (·.2))).map dR)]) (db := .tuple [.list (((missF eqB (rt.map (·.2)) (rh.map (·.2))).reverse).map dR), .list ((leftF eqB (rh.map (·.2)) [] (rt.map (·.2))).map dR)]) (by have := G.hu; omega) ?_ ?_ sh.shaped sh.shaped ?_
  · rw [← d1, ← d2]
    exact rd_tup2 (.tail _ (.head _)) (rd_lst (.tail _ (.tail _ (.head _))) fun p hp => (rd_Row ((hrh p (List.mem_reverse.mp (mem.1 p hp))).mono up)).1) (rd_lst (.tail _ (.tail _ (.tail _ (.tail _ (.head _))))) fun p hp => (rd_Row ((hrt p (mem.2 p hp)).mono up)).1)
  · rw [← e1, ← e2]
    exact rd_tup2 (.head _) (rd_lst (up _ hM) fun p hp => (rd_Row ((hms p hp).mono up)).1) (rd_lst (up _ hL) fun p hp => (rd_Row ((hls p hp).mono up)).1)
  rw [sh.refl]
  refine ev_truthy_bool ?_
  rw [if_neg (by decide)]
  refine ev_isOr (ev_isCompare ?_)
  refine ev_local G (v := .ref r1) (by with_unfolding_all exact m1) ?_
  refine ev_List ?_
  refine ev_args_nil ?_
  refine ev_newList (hsz := by exact Nat.zero_le _) fun z _ => ?_
  refine ev_ne (by have := G.hu; omega) (rd_nil (k := kE) (.tail _ (.tail _ (.tail _ (.tail _ (.head _)))))) (rd_nil (.head _)) (by decide) (by decide) ?_
  refine ev_truthy_bool ?_
  rw [if_neg (by decide)]
  refine ev_isOr (ev_isCompare ?_)
  refine ev_Subscript ?_
  refine ev_local G (v := .ref t) (by with_unfolding_all rfl) ?_
  refine ev_int fun _ => ?_
  refine ev_itemT (its := #[.ref a, .ref r2]) (.tail _ (.tail _ (.head _))) (by decide) (by decide) (j := 1) rfl rfl ?_
  refine ev_local G (v := .ref r2) (by with_unfolding_all exact m2) ?_
  refine ev_isNotSelf ?_
  refine ev_truthy_bool ?_
  rw [if_neg (by decide)]
  refine ev_isOrNil ?_
  rw [if_neg (by decide)]
  refine ev_nil ⟨σ, Sp.of (.cons _ (.cons _ (.cons _ (.cons _ (.cons _ (.cons _ (.refl _))))))), H t⟩
end
end

section
open PySem PySem.W PySem.Spec PySem.Calls PyProof.Rows PySem.SeqAt Builtin Builtin.ObjectAttr
section
variable {α : Type} {C : Cx} {m : Loc} {σ : Led} {env : Env} {n : Nat} {E : Value → Shared → Prop}
theorem fmod2 (x : Int) : ∃ fz : Bool, x.fmod 2 = if fz = true then 1 else 0 := by
  have := fmod_lt x (b := 2) (by decide)
  rcases (by omega : x.fmod 2 = 0 ∨ x.fmod 2 = 1) with h | h
  · exact ⟨false, by rw [h]; rfl⟩
  · exact ⟨true, by rw [h]; rfl⟩
theorem law_7 {l : Addr} {vs : List Value} {ns : List Int} {Q : Flow → Loc → Led → Prop} (G : Gd (n + 9) C (lawEnv C)) (hl : C.bs.IsList l vs.toArray) (hi : IntsAre vs ns) (hm : m "script" = some (.ref l))
    (H : ∀ (fz : Bool) t, EvC C E (execs (lawBody.drop 8) (lawEnv C)) (upd m "frozen" (.int (if fz = true then 1 else 0) t)) σ Q) : EvC C E (execs (lawBody.drop 7) (lawEnv C)) m σ Q := by
  refine cx_cons (Ev.c (ev_AssignName (ev_BinOp (ev_Call ?_))))
  refine ev_builtin G (gn_sum _) (by with_unfolding_all rfl) ?_
  refine ev_callB1 ?_
  refine ev_args_cons ?_
  refine ev_local G (v := .ref l) (by with_unfolding_all exact hm) ?_
  refine ev_args_nil ?_
  refine ev_sum G.hh (LAt.base hl) (IntsAre.allInts hi) fun x t => ?_
  refine ev_int fun _ => ?_
  refine ev_mod (by decide) fun t => ?_
  refine ev_store G ?_
  obtain ⟨fz, e⟩ := fmod2 x
  rw [e]
  exact H fz t
theorem kp_freeze (w : World) : keepIn (KK w) (.ref 112) = true := by kernel_rfl
theorem law_8 {fz : Bool} {t : Tok} {x1 x2 dx1 dx2 : Addr} {es1 es2 : Array DictEntry} {k1 k2 : Nat} {Q : Flow → Loc → Led → Prop} (G : Gd (n + 9) C (lawEnv C)) (hc : CodeHd C.bs 111 107) (hx1 : (x1, bookObj dx1 es1 k1) ∈ σ) (hx2 : (x2, bookObj dx2 es2 k2) ∈ σ)
    (m1 : m "first" = some (.ref x1)) (m2 : m "second" = some (.ref x2)) (m3 : m "frozen" = some (.int (if fz = true then 1 else 0) t))
    (H : ∀ ws R, StOk C.w R x1 dx1 (!fz) → StOk C.w R x2 dx2 fz → EvC C E (execs (lawBody.drop 9) (lawEnv C)) m ((107, tabObj ws) :: (R ++ σ)) Q) :
    EvC C E (execs (lawBody.drop 8) (lawEnv C)) m ((107, tabObj #[]) :: (dx1, emptyDict) :: (dx2, emptyDict) :: σ) Q := by
  refine cx_cons (Ev.c (Ev.forget ?_))
  refine ev_If (ev_isCompare (ev_MethodCall (ev_Subscript (ev_List ?_))))
  refine ev_args_cons ?_
  refine ev_local G (v := .ref x1) (by with_unfolding_all exact m1) ?_
  refine ev_args_cons ?_
  refine ev_local G (v := .ref x2) (by with_unfolding_all exact m2) ?_
  refine ev_args_nil ?_
  refine ev_newList (hsz := by show 2 ≤ sizeLine; decide) fun z _ => ?_
  refine ev_local G (v := .int (if fz = true then 1 else 0) t) (by with_unfolding_all exact m3) ?_
  cases fz with
  | false =>
    rw [if_neg (by decide)]
    refine ev_item (.led (.head _)) (by decide) (by decide) rfl ?_
    refine get_freeze (es := es1) (k := k1) G (.tail _ (.tail _ (.tail _ (.tail _ hx1)))) (.tail _ (.tail _ (.head _))) ?_
    refine ev_callK0 G (kp_freeze _) ?_
    refine Ev.sp (σ' := (107, tabObj #[]) :: (dx1, emptyDict) :: ((dx2, emptyDict) :: σ)) (Sp.of (List.sublist_cons_self _ _)) ?_
    refine freeze_ok (n := n + 8) G hc (.tail _ hx1) fun f τ hs tf ws hL => ?_
    refine ev_none ?_
    refine ev_isNotNone ?_
    refine ev_truthy_bool ?_
    rw [if_neg (by decide)]
    refine ev_nil ⟨(107, tabObj ws) :: (((dx1, frozDict hs tf f) :: (dx2, emptyDict) :: τ) ++ σ), Sp.ofP [] (by walk_at "perm"), ?_⟩
    exact H ws _ ⟨hs, tf, f, .head _, hL.mono fun _ h => .tail _ (.tail _ h)⟩ (.tail _ (.head _))
  | true =>
    rw [if_pos rfl]
    refine ev_item (.led (.head _)) (by decide) (by decide) rfl ?_
    refine get_freeze (es := es2) (k := k2) G (.tail _ (.tail _ (.tail _ (.tail _ hx2)))) (.tail _ (.tail _ (.tail _ (.head _)))) ?_
    refine ev_callK0 G (kp_freeze _) ?_
    refine Ev.sp (σ' := (107, tabObj #[]) :: (dx2, emptyDict) :: ((dx1, emptyDict) :: σ)) ⟨_, List.sublist_cons_self _ _, (((List.Perm.swap ..).cons _).cons _)⟩ ?_
    refine freeze_ok (n := n + 8) G hc (.tail _ hx2) fun f τ hs tf ws hL => ?_
    refine ev_none ?_
    refine ev_isNotNone ?_
    refine ev_truthy_bool ?_
    rw [if_neg (by decide)]
    refine ev_nil ⟨(107, tabObj ws) :: (((dx1, emptyDict) :: (dx2, frozDict hs tf f) :: τ) ++ σ), Sp.ofP [] (by walk_at "perm"), ?_⟩
    exact H ws _ (.head _) ⟨hs, tf, f, .tail _ (.head _), hL.mono fun _ h => .tail _ (.tail _ h)⟩
def askedN : List Nm := [3, 4, 1, 2, 0]
theorem askedN_nd : askedN.Nodup := by decide
theorem askedN_all : ∀ y : Nm, y ∈ askedN := by decide
theorem law_9 {Q : Flow → Loc → Led → Prop} (G : Gd (n + 9) C (lawEnv C))
    (H : ∀ aA (zs : List (Value × Nm)), zs.map (·.2) = askedN → (∀ p ∈ zs, NmAt p.1 p.2) → EvC C E (execs (lawBody.drop 10) (lawEnv C)) (upd m "asked" (.ref aA)) ((aA, lstOf (zs.map (·.1)) 0) :: σ) Q) : EvC C E (execs (lawBody.drop 9) (lawEnv C)) m σ Q := by
  refine cx_cons (Ev.c (ev_AssignName (ev_List ?_)))
  walk_at "go"
  rename_i t1 t2 t3 t4 t5 aA _
  exact H aA [(.str (nm 3) t1, 3), (.str (nm 4) t2, 4), (.str (nm 1) t3, 1), (.str (nm 2) t4, 2), (.str (nm 0) t5, 0)] rfl (fun p hp => by
    simp only [List.mem_cons, List.not_mem_nil, or_false] at hp
    rcases hp with rfl | rfl | rfl | rfl | rfl <;> exact ⟨_, rfl⟩)
end
end

section
open PySem PySem.W PySem.Spec PySem.Calls PyProof.Rows PySem.SeqAt Builtin Builtin.ObjectAttr
theorem Sp.iff {σ' σ : Led} : Sp σ' σ ↔ ∃ ρ, (σ' ++ ρ).Perm σ := by
  constructor
  · rintro ⟨τ, h1, h2⟩
    obtain ⟨ρ, h3⟩ := h1.exists_perm_append
    exact ⟨ρ, h3.symm.trans h2⟩
  · rintro ⟨ρ, h⟩
    exact Sp.ofP ρ h
theorem Sp.trans {a b c : Led} (h1 : Sp a b) (h2 : Sp b c) : Sp a c := by
  obtain ⟨r1, p1⟩ := Sp.iff.mp h1
  obtain ⟨r2, p2⟩ := Sp.iff.mp h2
  refine Sp.iff.mpr ⟨r1 ++ r2, ?_⟩
  rw [← List.append_assoc]
  exact (p1.append_right r2).trans p2
theorem Sp.app {a a' b b' : Led} (h1 : Sp a' a) (h2 : Sp b' b) : Sp (a' ++ b') (a ++ b) := by
  obtain ⟨t1, s1, p1⟩ := h1
  obtain ⟨t2, s2, p2⟩ := h2
  exact ⟨t1 ++ t2, s1.append s2, p1.append p2⟩
def nsA (P : List Row) (A : List Nm) : List Nm := namesF (P.map (·.1) ++ A)
theorem nsA_snoc (P : List Row) (A : List Nm) (y : Nm) : nsA P (A ++ [y]) = addF (nsA P A) y := by unfold nsA; rw [← List.append_assoc, namesF_snoc]
def gA (P L : List Row) (A : List Nm) (z : Nm) : List Vl := if z ∈ A then underF z L else underF z P
theorem gA_snoc (P L : List Row) (A : List Nm) (y : Nm) : (fun z => if z = y then underF y L else gA P L A z) = gA P L (A ++ [y]) := by
  funext z
  unfold gA
  by_cases h : z = y
  · subst h; simp
  · by_cases h2 : z ∈ A <;> simp [h, h2]
theorem asked_take : ∀ i : Fin 5, ∀ y : Nm, askedN[i.val]? = some y → y ∉ askedN.take i.val := by decide
theorem says_under {P L : List Row} {A A' : List Nm} {y : Nm} {vs : List Vl} (hy : y ∉ A) (hv : vs = if y ∈ nsA P A' then gA P L A y else []) : vs = underF y P := by
  rw [hv]
  split
  · unfold gA; rw [if_neg hy]
  · rename_i h
    refine (under_none fun hm => h ?_).symm
    unfold nsA
    rw [mem_namesF]
    exact List.mem_append_left _ hm
theorem diff_under {vs1 vs2 : List (Value × Vl)} {P₁ P₂ : List Row} {y : Nm} (h1 : vs1.map (·.2) = underF y P₁) (h2 : vs2.map (·.2) = underF y P₂) :
    (difR eq2 vs1.reverse vs2).1.map (·.2) = underF y (missF eqB P₂ P₁).reverse ∧ (difR eq2 vs1.reverse vs2).2.map (·.2) = underF y (leftF eqB P₁ [] P₂) := by
  have hd := difR_snd vs1.reverse vs2
  rw [List.map_reverse, h1, h2, ← under_rev, difR_under, difR_due] at hd
  exact Prod.mk.inj hd
theorem StOk.od {w : World} {R : Led} {x dx : Addr} {fr : Bool} (h : StOk w R x dx fr) : ∃ od, (dx, od) ∈ R ∧ (od = emptyDict ∨ ∃ hs t f, od = frozDict hs t f) := by
  cases fr with
  | false => exact ⟨_, h, .inl rfl⟩
  | true => obtain ⟨hs, t, f, h1, _⟩ := h; exact ⟨_, h1, .inr ⟨hs, t, f, rfl⟩⟩
theorem under_some {P : List Row} {y : Nm} (h : y ∈ P.map (·.1)) : ∃ v r, underF y P = v :: r := by
  cases e : underF y P with
  | cons v r => exact ⟨v, r, rfl⟩
  | nil =>
    obtain ⟨q, hq, rfl⟩ := List.mem_map.mp h
    unfold underF at e
    rw [List.map_eq_nil_iff, List.filter_eq_nil_iff] at e
    exact absurd (e q hq) (by simp)
structure BkSt (es : Array DictEntry) (b : Bk) (D : BkD) (s : Nat) : Prop where
  be : BE es.toList (bkBP b)
  ok : bkOk b
  nd : bkNd b
  d : bkD b = D
  sz : es.size ≤ s
  len : ∀ e ∈ b, e.vs.length ≤ 100
theorem BkSt.next {x dx l : Addr} {fr : Bool} {es es' : Array DictEntry} {b b' : Bk} {y : Nm} {rest : Led} {ws : List (Value × Vl)} {kk k' : Nat} {P L : List Row} {A A' : List Nm} {s : Nat} (h : BkSt es b (cont (nsA P A') (gA P L A)) s) (B : Back x dx fr es b y l rest ws kk es' k' b') (hw : ws.map (·.2) = underF y L) (hwl : ws.length ≤ 100) :
    BkSt es' b' (cont (nsA P (if fr = true then A' else A' ++ [y])) (gA P L (A ++ [y]))) (s + 1) where
  be := B.be
  ok := B.ok
  nd := B.nd
  d := by
    rw [B.d _ _ h.d, ← gA_snoc, hw]
    cases fr with
    | true => rfl
    | false => rw [if_neg (by decide), if_neg (by decide), nsA_snoc]
  sz := by have := B.sz; have := h.sz; omega
  len := B.len h.len hwl
section
variable {α : Type} {C : Cx} {m : Loc} {σ : Led} {env : Env} {n : Nat} {E : Value → Shared → Prop}
/-- what stands between the turns -/
def askJ (m₀ : Loc) (x1 dx1 x2 dx2 : Addr) (fz : Bool) (P₁ P₂ L : List Row) (i : Nat) (m : Loc) (P : Led) : Prop :=
  (∀ v : PySem.Str, v ≠ "name" → v ≠ "told" → m v = m₀ v) ∧ ∃ es1 k1 b1 es2 k2 b2, P = ((x1, bookObj dx1 es1 k1) :: bkLed b1) ++ ((x2, bookObj dx2 es2 k2) :: bkLed b2) ∧
    BkSt es1 b1 (cont (nsA P₁ (if fz = true then askedN.take i else [])) (gA P₁ [] (askedN.take i))) (32 + i) ∧ BkSt es2 b2 (cont (nsA P₂ (if fz = true then [] else askedN.take i)) (gA P₂ L (askedN.take i))) (32 + i)
theorem law_10 {x1 dx1 x2 dx2 aA aM aL c1 : Addr} {zs : List (Value × Nm)} {ms ls rs1 : List (Value × Row)} {kA kM kL j1 : Nat} {fz : Bool} {P₁ P₂ : List Row} {co : Obj} {tf : Tok} {P : Led} {Q : Flow → Loc → Led → Prop} (G : Gd (n + 9) C (lawEnv C))
    (hA : (aA, lstOf (zs.map (·.1)) kA) ∈ σ) (hzs : zs.map (·.2) = askedN) (hzn : ∀ p ∈ zs, NmAt p.1 p.2) (S1 : StOk C.w σ x1 dx1 (!fz)) (S2 : StOk C.w σ x2 dx2 fz) (h31 : 3 < x1) (h32 : 3 < x2)
    (hM : (aM, lstOf (ms.map (·.1)) kM) ∈ σ) (hL : (aL, lstOf (ls.map (·.1)) kL) ∈ σ) (hO : (c1, lstOf (rs1.map (·.1)) j1) ∈ σ) (hms : ∀ p ∈ ms, RowAt σ p.1 p.2) (hls : ∀ p ∈ ls, RowAt σ p.1 p.2) (hrs : ∀ p ∈ rs1, RowAt σ p.1 p.2) (hc : (C.L + 1, co) ∈ σ) (hco : co.data = .cell (some (.ref aL)))
    (lM : ms.length ≤ 100) (lL : ls.length ≤ 100) (lO : rs1.length ≤ 100)
    (e1 : ms.map (·.2) = (missF eqB P₂ P₁).reverse) (e2 : ls.map (·.2) = leftF eqB P₁ [] P₂) (e3 : rs1.map (·.2) = P₂)
    (m1 : m "first" = some (.ref x1)) (m2 : m "second" = some (.ref x2)) (m3 : m "missing" = some (.ref aM)) (m4 : m "other" = some (.ref c1)) (m5 : m "frozen" = some (.int (if fz = true then 1 else 0) tf)) (m6 : m "asked" = some (.ref aA))
    (h0 : askJ m x1 dx1 x2 dx2 fz P₁ P₂ (leftF eqB P₁ [] P₂) 0 m P)
    (H : ∀ m' P', askJ m x1 dx1 x2 dx2 fz P₁ P₂ (leftF eqB P₁ [] P₂) 5 m' P' → EvC C E (execs (lawBody.drop 11) (lawEnv C)) m' (P' ++ σ) Q) : EvC C E (execs (lawBody.drop 10) (lawEnv C)) m (P ++ σ) Q := by
  refine cx_cons (Ev.c ?_)
  have hsl : sizeLine = 16777216 := rfl
  have hu := G.hu
  have zl : zs.length = 5 := by have := congrArg List.length hzs; simpa [askedN] using this
  refine ev_ForList (l := aA) (vs := zs.map (·.1)) (R := σ) (askJ m x1 dx1 x2 dx2 fz P₁ P₂ (leftF eqB P₁ [] P₂)) G.hh ?_ ?_ (.inl ⟨_, _, rfl⟩) ?_ ?_
  · refine ev_local G (v := .ref aA) (by with_unfolding_all exact m6) ?_
    exact ⟨rfl, P, rfl, h0⟩
  · intro i m' P' _
    exact .led (List.mem_append_right _ hA)
  · rintro i v m' P' R' hi hR hS ⟨hm', es1, k1, b1, es2, k2, b2, rfl, s1, s2⟩
    obtain ⟨p, hpi, rfl⟩ := fst_at hi
    obtain ⟨tn, hpn⟩ := hzn p (mem_at hpi)
    obtain ⟨pv, y⟩ := p
    dsimp only at hpn
    subst hpn
    have hyi : askedN[i]? = some y := by rw [← hzs, List.getElem?_map, hpi]; rfl
    have hi5 : i < 5 := by have := (List.getElem?_eq_some_iff.mp hpi).1; omega
    have hyn : y ∉ askedN.take i := asked_take ⟨i, hi5⟩ y hyi
    have hyt : askedN.take (i + 1) = askedN.take i ++ [y] := take_snoc hyi
    have q1 : m' "first" = some (.ref x1) := by rw [hm' _ (by decide) (by decide)]; exact m1
    have q2 : m' "second" = some (.ref x2) := by rw [hm' _ (by decide) (by decide)]; exact m2
    have q3 : m' "missing" = some (.ref aM) := by rw [hm' _ (by decide) (by decide)]; exact m3
    have q4 : m' "other" = some (.ref c1) := by rw [hm' _ (by decide) (by decide)]; exact m4
    have q5 : m' "frozen" = some (.int (if fz = true then 1 else 0) tf) := by rw [hm' _ (by decide) (by decide)]; exact m5
    have sz1 := s1.sz
    have sz2 := s2.sz
    refine ev_assignName (ev_store G ?_)
    refine ev_cons (ev_AssignName (ev_Call ?_))
    refine ev_global G (gl_diff _) ?_
    refine ev_callK1 G (kp_diff _) ?_
    refine ev_args_cons ?_
    refine ev_Subscript ?_
    refine ev_local G (v := .ref x1) (by with_unfolding_all exact q1) ?_
    refine ev_local G (v := .str (nm y) tn) (by with_unfolding_all rfl) ?_
    refine Ev.sp (σ' := (x1, bookObj dx1 es1 k1) :: (bkLed b1 ++ ((x2, bookObj dx2 es2 k2) :: (bkLed b2 ++ R')))) (Sp.ofP [] (by walk_at "perm")) ?_
    refine ev_ask (n := n + 6) (fr := !fz) G (S1.mono fun p hp => .tail _ (List.mem_append_right _ (hR p hp))) h31 s1.be s1.ok s1.nd (by omega) (fun l1 vs1 kk1 rest1 A1 => ?_)
    refine ev_args_cons ?_
    refine ev_Subscript ?_
    refine ev_local G (v := .ref x2) (by with_unfolding_all exact q2) ?_
    refine ev_local G (v := .str (nm y) tn) (by with_unfolding_all rfl) ?_
    refine Ev.sp (σ' := (x2, bookObj dx2 es2 k2) :: (bkLed b2 ++ ((l1, lstOf (vs1.map (·.1)) kk1) :: (rest1 ++ R')))) (Sp.ofP [] (by walk_at "perm")) ?_
    refine ev_ask (n := n + 6) (fr := fz) G (S2.mono fun p hp => .tail _ (List.mem_append_right _ (hR p hp))) h32 s2.be s2.ok s2.nd (by omega) (fun l2 vs2 kk2 rest2 A2 => ?_)
    refine ev_args_nil ?_
    refine Ev.sp (σ' := (l1, lstOf (vs1.map (·.1)) kk1) :: (l2, lstOf (vs2.map (·.1)) kk2) :: (rest1 ++ (rest2 ++ R'))) (Sp.ofP [] (by walk_at "perm")) ?_
    have u1 : vs1.map (·.2) = underF y P₁ := says_under hyn (A1.says _ _ s1.d)
    have u2 : vs2.map (·.2) = underF y P₂ := says_under hyn (A2.says _ _ s2.d)
    have v1 := A1.len s1.len
    have v2 := A2.len s2.len
    have f1 : (ents dV vs1).map (·.1) = vs1.map (·.1) := ents_fst _ _
    have f2 : (ents dV vs2).map (·.1) = vs2.map (·.1) := ents_fst _ _
    have key := diff_ok (n := n + 8) (C := C) (m := upd m' (PySem.Str.ofString "name") (.str (nm y) tn)) (σ := rest1 ++ (rest2 ++ R')) (le := l1) (la := l2) (ps := ents dV vs1) (qs := ents dV vs2) (kE := kk1) (kA := kk2)
      (Q := fun v m₂ σ' => ∃ t a kE kA kM, v = .ref t ∧ m₂ = upd m' (PySem.Str.ofString "name") (.str (nm y) tn) ∧ σ' = (t, tupOf #[.ref a, .ref l2]) :: (a, lstOf ((difR eq2 vs1.reverse vs2).1.map (·.1)) kM) :: (l1, lstOf [] kE) :: (l2, lstOf ((difR eq2 vs1.reverse vs2).2.map (·.1)) kA) :: (rest1 ++ (rest2 ++ R'))) G
      (rd_ents fun p hp => rd_Vl (A1.ok p hp)) (rd_ents fun p hp => rd_Vl (A2.ok p hp)) (by rw [ents_len]; exact v1) (by rw [ents_len]; exact v2) (fun a t kE kA kM => ⟨t, a, kE, kA, kM, rfl, rfl, by rw [difR_ents eqv_V, ents_fst, ents_fst]⟩)
    rw [f1, f2] at key
    refine key.mono ?_
    rintro _ _ _ ⟨t, a, kE, kA', kM', rfl, rfl, rfl⟩
    obtain ⟨w1, w2⟩ := diff_under u1 u2
    have mem := difR_mem eq2 vs1.reverse vs2
    have len := difR_len eq2 vs1.reverse vs2
    generalize difR eq2 vs1.reverse vs2 = D at *
    obtain ⟨es1', k1', b1', B1⟩ := A1.back [] kE (fun _ h => nomatch h)
    obtain ⟨es2', k2', b2', B2⟩ := A2.back D.2 kA' (fun p hp => A2.ok p (mem.2 p hp))
    have B1sp : Sp ((x1, bookObj dx1 es1' k1') :: bkLed b1') ((l1, lstOf [] kE) :: rest1) := B1.sp
    have B2sp := B2.sp
    have w2l : D.2.length ≤ 100 := Nat.le_trans len.2 v2
    refine ev_store G ?_
    refine ev_cons (Ev.forget (ev_If (ev_isCompare ?_)))
    refine ev_local G (v := .ref t) (by with_unfolding_all rfl) ?_
    refine ev_Tuple ?_
    refine ev_args_cons ?_
    refine ev_Call ?_
    refine ev_global G (gl_under _) ?_
    refine ev_callK1 G (kp_under _) ?_
    refine ev_args_cons ?_
    refine ev_local G (v := .ref aM) (by with_unfolding_all exact q3) ?_
    refine ev_args_cons ?_
    refine ev_local G (v := .str (nm y) tn) (by with_unfolding_all rfl) ?_
    refine ev_args_nil ?_
    have up4 : ∀ {y1 y2 y3 y4 : Addr × Obj}, ∀ p ∈ σ, p ∈ y1 :: y2 :: y3 :: y4 :: (rest1 ++ (rest2 ++ R')) := fun p hp => .tail _ (.tail _ (.tail _ (.tail _ (List.mem_append_right _ (List.mem_append_right _ (hR p hp))))))
    refine under_ok (n := n + 8) (rs := ms) (kr := kM) G (up4 _ hM) (fun p hp => (hms p hp).mono up4) ⟨tn, rfl⟩ (by omega) fun a3 k3 z3 hz3 hv3 => ?_
    refine ev_args_cons ?_
    refine ev_Call ?_
    refine ev_global G (gl_under _) ?_
    refine ev_callK1 G (kp_under _) ?_
    refine ev_args_cons ?_
    refine ev_cell G (c := C.L + 1) (oc := co) (by with_unfolding_all rfl) (.tail _ (up4 _ hc)) hco ?_
    refine ev_args_cons ?_
    refine ev_local G (v := .str (nm y) tn) (by with_unfolding_all rfl) ?_
    refine ev_args_nil ?_
    refine under_ok (n := n + 8) (rs := ls) (kr := kL) G (.tail _ (up4 _ hL)) (fun p hp => (hls p hp).mono fun p hp => .tail _ (up4 p hp)) ⟨tn, rfl⟩ (by omega) fun a4 k4 z4 hz4 hv4 => ?_
    refine ev_args_nil ?_
    refine ev_newTuple (hsz := by show 2 ≤ sizeLine; decide) fun t4 _ => ?_
    have sh : Sh 2 (.tuple [.list ((underF y (missF eqB P₂ P₁).reverse).map dV), .list ((underF y (leftF eqB P₁ [] P₂)).map dV)]) := sh_tup2 (sh_lst _ sh_V) (sh_lst _ sh_V)
    refine ev_ne (da := .tuple [.list ((underF y (missF eqB P₂ P₁).reverse).map dV), .list ((underF y (leftF eqB P₁ [] P₂)).map dV)]) (db := .tuple [.list ((underF y (missF eqB P₂ P₁).reverse).map dV), .list ((underF y (leftF eqB P₁ [] P₂)).map dV)]) (by omega) ?_ ?_ sh.shaped sh.shaped ?_
    · rw [← w1, ← w2]
      exact rd_tup2 (.tail _ (.tail _ (.tail _ (.head _)))) (rd_lst (.tail _ (.tail _ (.tail _ (.tail _ (.head _))))) fun p hp => (rd_Vl (A1.ok p (List.mem_reverse.mp (mem.1 p hp)))).1) (rd_lst (.tail _ (.tail _ (.tail _ (.tail _ (.tail _ (.tail _ (.head _))))))) fun p hp => (rd_Vl (A2.ok p (mem.2 p hp))).1)
    · rw [← e1, ← e2, ← hz3, ← hz4]
      exact rd_tup2 (.head _) (rd_lst (.tail _ (.tail _ (.head _))) fun p hp => (rd_Vl (hv3 p hp)).1) (rd_lst (.tail _ (.head _)) fun p hp => (rd_Vl (hv4 p hp)).1)
    rw [sh.refl]
    refine ev_truthy_bool ?_
    rw [if_neg (by decide)]
    refine ev_nil ⟨((x1, bookObj dx1 es1' k1') :: bkLed b1') ++ (((x2, bookObj dx2 es2' k2') :: bkLed b2') ++ ((t, tupOf #[.ref a, .ref l2]) :: R')), (Sp.app B1sp (Sp.app B2sp (Sp.refl _))).trans (Sp.ofP [(t4, tupOf #[.ref a3, .ref a4]), (a4, lstOf (z4.map (·.1)) k4), (a3, lstOf (z3.map (·.1)) k3), (a, lstOf (D.1.map (·.1)) kM')] (by walk_at "perm")), ?_⟩
    refine ev_cons (Ev.forget (ev_If (ev_isCompare (ev_Compare ?_))))
    refine ev_Subscript ?_
    refine ev_local G (v := .ref t) (by with_unfolding_all rfl) ?_
    refine ev_int fun _ => ?_
    refine ev_itemT (its := #[.ref a, .ref l2]) (List.mem_append_right _ (List.mem_append_right _ (.head _))) (by decide) (by decide) (j := 1) rfl rfl ?_
    refine ev_MethodCall ?_
    refine ev_local G (v := .ref x2) (by with_unfolding_all exact q2) ?_
    obtain ⟨od, hod, hodf⟩ := S2.od
    have mx2 : (x2, bookObj dx2 es2' k2') ∈ ((x1, bookObj dx1 es1' k1') :: bkLed b1') ++ (((x2, bookObj dx2 es2' k2') :: bkLed b2') ++ ((t, tupOf #[.ref a, .ref l2]) :: R')) := List.mem_append_right _ (List.mem_append_left _ (.head _))
    have mR : ∀ p ∈ σ, p ∈ ((x1, bookObj dx1 es1' k1') :: bkLed b1') ++ (((x2, bookObj dx2 es2' k2') :: bkLed b2') ++ ((t, tupOf #[.ref a, .ref l2]) :: R')) := fun p hp => List.mem_append_right _ (List.mem_append_right _ (.tail _ (hR p hp)))
    refine get_get (n := n + 9) G mx2 (mR _ hod) hodf ?_
    refine ev_callB1 ?_
    refine ev_args_cons ?_
    refine ev_local G (v := .str (nm y) tn) (by with_unfolding_all rfl) ?_
    refine ev_args_nil ?_
    refine ev_dictGet (n := n + 9) G mx2 B2.be h32 ?_
    rw [B2.get]
    have fin : ∃ P'', ((x1, bookObj dx1 es1' k1') :: bkLed b1' ++ ((x2, bookObj dx2 es2' k2') :: bkLed b2')) ++ R' = P'' ++ R' ∧ askJ m x1 dx1 x2 dx2 fz P₁ P₂ (leftF eqB P₁ [] P₂) (i + 1) (upd (upd m' (PySem.Str.ofString "name") (.str (nm y) tn)) (PySem.Str.ofString "told") (.ref t)) P'' := by
      refine ⟨_, rfl, fun v h1 h2 => ?_, es1', k1', b1', es2', k2', b2', rfl, ?_, ?_⟩
      · show (if v = PySem.Str.ofString "told" then _ else if v = PySem.Str.ofString "name" then _ else m' v) = m v
        rw [if_neg h2, if_neg h1]
        exact hm' v h1 h2
      · have := s1.next B1 (L := []) (by rfl) (Nat.zero_le _)
        rw [hyt]
        cases fz <;> exact this
      · have := s2.next B2 w2 w2l
        rw [hyt]
        cases fz <;> exact this
    have hgn := bget_names (y := y) s2.d
    by_cases hq : fz = true ∧ bget (bkBP b2) y = none
    · rw [if_pos hq]
      obtain ⟨hfz, hbn⟩ := hq
      subst hfz
      have hyn2 : y ∉ P₂.map (·.1) := fun h => hgn.mp hbn (by
        rw [if_pos rfl]
        unfold nsA
        rw [mem_namesF]
        exact List.mem_append_left _ h)
      refine ev_isNone ?_
      refine ev_And2 ?_
      refine ev_Compare ?_
      refine ev_local G (v := .int 1 tf) (by with_unfolding_all exact q5) ?_
      refine ev_int fun _ => ?_
      refine ev_eq_int ?_
      refine ev_truthy_bool ?_
      rw [if_pos (by decide)]
      refine ev_Compare ?_
      refine ev_Call ?_
      refine ev_global G (gl_under _) ?_
      refine ev_callK1 G (kp_under _) ?_
      refine ev_args_cons ?_
      refine ev_local G (v := .ref c1) (by with_unfolding_all exact q4) ?_
      refine ev_args_cons ?_
      refine ev_local G (v := .str (nm y) tn) (by with_unfolding_all rfl) ?_
      refine ev_args_nil ?_
      refine under_ok (n := n + 8) (rs := rs1) (kr := j1) G (mR _ hO) (fun p hp => (hrs p hp).mono mR) ⟨tn, rfl⟩ (by omega) fun a5 k5 z5 hz5 hv5 => ?_
      refine ev_List ?_
      refine ev_args_nil ?_
      refine ev_newList (hsz := by exact Nat.zero_le _) fun z _ => ?_
      refine ev_eq (da := .list ((z5.map (·.2)).map dV)) (db := .list []) (by omega) (rd_lst (.tail _ (.head _)) fun p hp => (rd_Vl (hv5 p hp)).1) (rd_nil (.head _)) (sh_lst (D := dV) _ sh_V).shaped (by decide) ?_
      rw [hz5, e3, under_none hyn2]
      refine ev_eqBool ?_
      refine ev_truthy_bool ?_
      rw [if_neg (by rw [List.map_nil, PyData.eqv, PyData.eqvAll]; decide)]
      refine ev_nil ⟨((x1, bookObj dx1 es1' k1') :: bkLed b1' ++ ((x2, bookObj dx2 es2' k2') :: bkLed b2')) ++ R', ?_, ev_nil fin⟩
      exact Sp.ofP [(z, PySem.W.listOf [].toArray 0), (a5, lstOf (z5.map (·.1)) k5), (t, tupOf #[.ref a, .ref l2])] (by walk_at "perm")
    · rw [if_neg hq]
      refine ev_isSelf ?_
      cases fz with
      | false =>
        refine ev_And2 ?_
        refine ev_Compare ?_
        refine ev_local G (v := .int 0 tf) (by with_unfolding_all exact q5) ?_
        refine ev_int fun _ => ?_
        refine ev_eq_int ?_
        refine ev_truthy_bool ?_
        rw [if_neg (by decide)]
        refine ev_eqBool ?_
        refine ev_truthy_bool ?_
        rw [if_neg (by decide)]
        refine ev_nil ⟨((x1, bookObj dx1 es1' k1') :: bkLed b1' ++ ((x2, bookObj dx2 es2' k2') :: bkLed b2')) ++ R', ?_, ev_nil fin⟩
        exact Sp.ofP [(t, tupOf #[.ref a, .ref l2])] (by walk_at "perm")
      | true =>
        have hyn2 : y ∈ P₂.map (·.1) := Classical.byContradiction fun h => hq ⟨rfl, hgn.mpr (by
          rw [if_pos rfl]
          unfold nsA
          rw [mem_namesF, List.append_nil]
          exact h)⟩
        obtain ⟨v0, r0, eu⟩ := under_some hyn2
        refine ev_And2 ?_
        refine ev_Compare ?_
        refine ev_local G (v := .int 1 tf) (by with_unfolding_all exact q5) ?_
        refine ev_int fun _ => ?_
        refine ev_eq_int ?_
        refine ev_truthy_bool ?_
        rw [if_pos (by decide)]
        refine ev_Compare ?_
        refine ev_Call ?_
        refine ev_global G (gl_under _) ?_
        refine ev_callK1 G (kp_under _) ?_
        refine ev_args_cons ?_
        refine ev_local G (v := .ref c1) (by with_unfolding_all exact q4) ?_
        refine ev_args_cons ?_
        refine ev_local G (v := .str (nm y) tn) (by with_unfolding_all rfl) ?_
        refine ev_args_nil ?_
        refine under_ok (n := n + 8) (rs := rs1) (kr := j1) G (mR _ hO) (fun p hp => (hrs p hp).mono mR) ⟨tn, rfl⟩ (by omega) fun a5 k5 z5 hz5 hv5 => ?_
        refine ev_List ?_
        refine ev_args_nil ?_
        refine ev_newList (hsz := by exact Nat.zero_le _) fun z _ => ?_
        refine ev_eq (da := .list ((z5.map (·.2)).map dV)) (db := .list []) (by omega) (rd_lst (.tail _ (.head _)) fun p hp => (rd_Vl (hv5 p hp)).1) (rd_nil (.head _)) (sh_lst (D := dV) _ sh_V).shaped (by decide) ?_
        rw [hz5, e3, eu]
        refine ev_eqBool ?_
        refine ev_truthy_bool ?_
        rw [if_neg (by rw [List.map_cons, PyData.eqv, PyData.eqvAll]; decide)]
        refine ev_nil ⟨((x1, bookObj dx1 es1' k1') :: bkLed b1' ++ ((x2, bookObj dx2 es2' k2') :: bkLed b2')) ++ R', ?_, ev_nil fin⟩
        exact Sp.ofP [(z, PySem.W.listOf [].toArray 0), (a5, lstOf (z5.map (·.1)) k5), (t, tupOf #[.ref a, .ref l2])] (by walk_at "perm")
  · intro m' P' hJ
    rw [List.length_map, zl] at hJ
    exact H m' P' hJ
end
end

section
open PySem PySem.W PySem.Spec PySem.Calls PyProof.Rows PySem.SeqAt Builtin Builtin.ObjectAttr
/-- a book's entry as data -/
def dE (p : Nm × List Vl) : PyData := .tuple [dN p.1, .list (p.2.map dV)]
theorem sh_E (p : Nm × List Vl) : Sh 2 (dE p) := sh_tup2 ((sh_N p.1).le (Nat.zero_le _)) (sh_lst _ sh_V)
section
variable {α : Type} {C : Cx} {m : Loc} {σ : Led} {env : Env} {n : Nat} {E : Value → Shared → Prop}
theorem rd_pairs {σ : Led} : ∀ {b : Bk} {es : List DictEntry} {us : List Value}, BE es (bkBP b) → Prs σ us es → (∀ e ∈ b, e.led ∈ σ) → bkOk b → ∃ l : List (Value × PyData), l.map (·.1) = us ∧ l.map (·.2) = (bkD b).map dE ∧ ∀ p ∈ l, Rd C σ p.1 p.2
  | [], _, _, B, P, _, _ => by
    cases B
    cases P
    exact ⟨[], rfl, rfl, fun _ h => nomatch h⟩
  | e :: b, _, _, B, P, hb, ok => by
    cases B with
    | @cons en x t a es bs hk hv B =>
      cases P with
      | @cons tu _ us _ ht P =>
        obtain ⟨l, l1, l2, l3⟩ := rd_pairs B P (fun e he => hb e (.tail _ he)) (fun e he => ok e (.tail _ he))
        rw [hk, hv] at ht
        refine ⟨(.ref tu, dE (e.y, e.vs.map (·.2))) :: l, by simp [l1], by simp [bkD, ← l2]; exact l2 ▸ by simp [bkD], fun p hp => ?_⟩
        rcases List.mem_cons.mp hp with rfl | hp
        · exact rd_tup2 ht (Rd.str _ _) (rd_lst (hb e (.head _)) fun p hp => (rd_Vl (ok e (.head _) p hp)).1)
        · exact l3 p hp
theorem rd_items {S : Addr} {c : Nat} {us : List Value} {es : Array DictEntry} {b : Bk} (hm : (S, lstOf us c) ∈ σ) (P : Prs σ us es.toList) (B : BE es.toList (bkBP b)) (hb : ∀ e ∈ b, e.led ∈ σ) (ok : bkOk b) : Rd C σ (.ref S) (.list ((bkD b).map dE)) := by
  obtain ⟨l, l1, l2, l3⟩ := rd_pairs (C := C) B P hb ok
  rw [← l2]
  exact Rd.list (C := C) (l := l) (k := c) (by rw [l1]; exact hm) l3
theorem rd_made {S : Addr} {c : Nat} {us : List Value} {l : List (Value × PyData)} {ds : List PyData} (hm : (S, lstOf us c) ∈ σ) (h1 : us = l.map (·.1)) (h2 : l.map (·.2) = ds) (h3 : ∀ p ∈ l, Rd C σ p.1 p.2) : Rd C σ (.ref S) (.list ds) := by
  rw [← h2]
  exact Rd.list (C := C) (l := l) (k := c) (by rw [← h1]; exact hm) h3
end
end

section
open PySem PySem.W PySem.Spec PySem.Calls PyProof.Rows PySem.SeqAt Builtin Builtin.ObjectAttr
theorem Sp.mem {σ' σ : Led} (h : Sp σ' σ) : ∀ p ∈ σ', p ∈ σ := fun p hp => by
  obtain ⟨τ, h1, h2⟩ := h
  exact h2.mem_iff.mp (h1.subset hp)
theorem cont_dE {ns : List Nm} {g h : Nm → List Vl} (e : ∀ z ∈ ns, g z = h z) : (cont ns g).map dE = ns.map fun z => dE (z, h z) := by
  unfold cont
  rw [List.map_map]
  exact List.map_congr_left fun z hz => by simp only [Function.comp]; rw [e z hz]
theorem foldF_len : ∀ (xs acc : List Nm), (xs.foldl addF acc).length ≤ acc.length + xs.length
  | [], acc => Nat.le_refl _
  | x :: xs, acc => by
    rw [List.foldl_cons]
    have h := foldF_len xs (addF acc x)
    have h2 : (addF acc x).length ≤ acc.length + 1 := by
      unfold addF
      split
      · exact Nat.le_succ _
      · simp
    simp only [List.length_cons]
    omega
theorem nsA_len (P : List Row) (A : List Nm) : (nsA P A).length ≤ P.length + A.length := by
  unfold nsA namesF
  have := foldF_len (P.map (·.1) ++ A) []
  simpa using this
theorem sh_lst' {k : Nat} {ds : List PyData} (h : ∀ d ∈ ds, Sh k d) : Sh (k + 1) (.list ds) := sh_list h
section
variable {α : Type} {C : Cx} {m : Loc} {σ : Led} {env : Env} {n : Nat} {E : Value → Shared → Prop}
theorem law_11 {x1 dx1 aA c0 : Addr} {zs : List (Value × Nm)} {rs0 : List (Value × Row)} {kA j0 k1 : Nat} {fz : Bool} {P₁ : List Row} {tf : Tok} {es1 : Array DictEntry} {b1 : Bk} {Q : Flow → Loc → Led → Prop} (G : Gd (n + 9) C (lawEnv C))
    (hx1 : (x1, bookObj dx1 es1 k1) ∈ σ) (hb1 : ∀ e ∈ b1, e.led ∈ σ) (S1 : StOk C.w σ x1 dx1 (!fz)) (h31 : 3 < x1) (s1 : BkSt es1 b1 (cont (nsA P₁ (if fz = true then askedN else [])) (gA P₁ [] askedN)) 37)
    (hc0 : (c0, lstOf (rs0.map (·.1)) j0) ∈ σ) (hrs : ∀ p ∈ rs0, RowAt σ p.1 p.2) (e0 : rs0.map (·.2) = P₁) (l0 : rs0.length ≤ 100) (hA : (aA, lstOf (zs.map (·.1)) kA) ∈ σ) (hzs : zs.map (·.2) = askedN) (hzn : ∀ p ∈ zs, NmAt p.1 p.2)
    (m1 : m "first" = some (.ref x1)) (m2 : m "mine" = some (.ref c0)) (m5 : m "frozen" = some (.int (if fz = true then 1 else 0) tf)) (m6 : m "asked" = some (.ref aA))
    (H : EvC C E (execs (lawBody.drop 12) (lawEnv C)) m σ Q) : EvC C E (execs (lawBody.drop 11) (lawEnv C)) m σ Q := by
  have hu := G.hu
  have hsl : sizeLine = 16777216 := rfl
  have sz := s1.sz
  have zl : zs.length = 5 := by have := congrArg List.length hzs; simpa [askedN] using this
  obtain ⟨od, hod, hodf⟩ := S1.od
  refine cx_cons (Ev.c (Ev.forget (ev_If (ev_isCompare ?_))))
  refine ev_Call ?_
  refine ev_builtin G (gn_list _) (by with_unfolding_all rfl) ?_
  refine ev_callT1 ?_
  refine ev_args_cons ?_
  refine ev_MethodCall ?_
  refine ev_local G (v := .ref x1) (by with_unfolding_all exact m1) ?_
  refine get_items (n := n + 9) G hx1 hod hodf ?_
  refine ev_callB0 ?_
  refine ev_dictItems G hx1 h31 fun v => ?_
  refine ev_args_nil ?_
  refine ev_listView G.hh (.tail _ hx1) (.head _) (by omega) fun S T us c hP => ?_
  refine ev_CompAny G.hh ?_
  have up : ∀ p ∈ σ, p ∈ (S, lstOf us c) :: (T ++ (v, viewOf x1) :: σ) := fun p hp => .tail _ (List.mem_append_right _ (.tail _ hp))
  refine Ev.mono (Q := fun x m' σ' => ∃ (a : Addr) (k : Nat) (zn : List (Value × Nm)), x = .ref a ∧ m = m' ∧ (a, lstOf (zn.map (·.1)) k) ∈ σ' ∧ Sp ((S, lstOf us c) :: (T ++ (v, viewOf x1) :: σ)) σ' ∧ zn.map (·.2) = nsA P₁ (if fz = true then askedN else []) ∧ (∀ p ∈ zn, NmAt p.1 p.2)) ?_ ?_
  · refine ev_Call ?_
    refine ev_global G (gl_names _) ?_
    refine ev_callK1 G (kp_names _) ?_
    refine ev_args_cons ?_
    refine ev_local G (v := .ref c0) (by with_unfolding_all exact m2) ?_
    refine ev_args_cons ?_
    refine ev_Subscript ?_
    refine ev_List ?_
    refine ev_args_cons ?_
    refine ev_List ?_
    refine ev_args_nil ?_
    refine ev_newList (hsz := by exact Nat.zero_le _) fun z1 _ => ?_
    refine ev_args_cons ?_
    refine ev_local G (v := .ref aA) (by with_unfolding_all exact m6) ?_
    refine ev_args_nil ?_
    refine ev_newList (hsz := by show 2 ≤ sizeLine; omega) fun z2 _ => ?_
    refine ev_local G (v := .int (if fz = true then 1 else 0) tf) (by with_unfolding_all exact m5) ?_
    have up2 : ∀ {y1 y2 : Addr × Obj}, ∀ p ∈ σ, p ∈ y1 :: y2 :: (S, lstOf us c) :: (T ++ (v, viewOf x1) :: σ) := fun p hp => .tail _ (.tail _ (up p hp))
    have e0' : rs0.map (·.2.1) = P₁.map (·.1) := by rw [← e0, List.map_map]; rfl
    cases fz with
    | false =>
      rw [if_neg (by decide)]
      refine ev_item (.led (.head _)) (by decide) (by decide) rfl ?_
      refine ev_args_nil ?_
      refine names_ok (n := n + 8) (rs := rs0) (ms := []) (kr := j0) (km := 0) G (up2 _ hc0) (fun p hp => (hrs p hp).mono up2) (.tail _ (.head _)) (fun _ h => nomatch h) (by omega) (Nat.zero_le _) fun a k zn hzn' hvn => ?_
      refine ⟨a, k, zn, rfl, rfl, .head _, Sp.of (.cons _ (.cons _ (.cons _ (.refl _)))), ?_, hvn⟩
      rw [hzn', e0']; rfl
    | true =>
      rw [if_pos rfl]
      refine ev_item (.led (.head _)) (by decide) (by decide) rfl ?_
      refine ev_args_nil ?_
      refine names_ok (n := n + 8) (rs := rs0) (ms := zs) (kr := j0) (km := kA) G (up2 _ hc0) (fun p hp => (hrs p hp).mono up2) (up2 _ hA) hzn (by omega) (by omega) fun a k zn hzn' hvn => ?_
      refine ⟨a, k, zn, rfl, rfl, .head _, Sp.of (.cons _ (.cons _ (.cons _ (.refl _)))), ?_, hvn⟩
      rw [hzn', e0', hzs]; rfl
  · rintro _ _ R ⟨a, k, zn, rfl, rfl, ha, hsp, hzn', hvn⟩
    refine ⟨a, zn.map (·.1), R, [], fun i ys P => ∃ l : List (Value × PyData), ys = l.map (·.1) ∧ l.map (·.2) = ((zn.map (·.2)).take i).map (fun z => dE (z, [])) ∧ ∀ p ∈ l, Rd C P p.1 p.2, rfl, rfl, rfl, ⟨[], rfl, rfl, fun _ h => nomatch h⟩, ?_, ?_, .inl ⟨_, _, rfl⟩, ?_, ?_⟩
    · have h1 := congrArg List.length hzn'
      have h2 := nsA_len P₁ (if fz = true then askedN else [])
      have h3 : (if fz = true then askedN else []).length ≤ 5 := by cases fz <;> decide
      have h4 := congrArg List.length e0
      simp only [List.length_map] at h1 h4 ⊢
      omega
    · rintro i ys P -
      exact .led (List.mem_append_right _ ha)
    · rintro i v ys P R' a oc mc hi hR hS ⟨l, rfl, hl2, hl3⟩ hys ho
      obtain ⟨p, hpi, rfl⟩ := fst_at hi
      obtain ⟨tn, hpn⟩ := hvn p (mem_at hpi)
      obtain ⟨pv, y⟩ := p
      dsimp only at hpn
      subst hpn
      refine ev_assignName (ev_storeC ho fun oc₁ ho₁ => ?_)
      refine ev_tests_nil ?_
      rw [if_pos rfl]
      refine Ev.forget ?_
      refine ev_Tuple ?_
      refine ev_args_cons ?_
      refine ev_localC (.head _) ho₁ (by with_unfolding_all rfl) ?_
      refine ev_args_cons ?_
      refine ev_List ?_
      refine ev_args_nil ?_
      refine ev_newList (hsz := by exact Nat.zero_le _) fun z _ => ?_
      refine ev_args_nil ?_
      refine ev_newTuple (hsz := by show 2 ≤ sizeLine; omega) fun t _ => ?_
      refine ⟨(a, oc₁) :: (((t, tupOf #[.str (nm y) tn, .ref z]) :: (z, PySem.W.listOf #[] 0) :: P) ++ R'), Sp.ofP [] (by walk_at "perm"), rfl, oc₁, _, (t, tupOf #[.str (nm y) tn, .ref z]) :: (z, PySem.W.listOf #[] 0) :: P, ho₁, rfl, l ++ [(.ref t, dE (y, []))], by simp, ?_, fun p hp => ?_⟩
      · have hyi : (zn.map (·.2))[i]? = some y := by rw [List.getElem?_map, hpi]; rfl
        rw [take_snoc hyi, List.map_append, List.map_append, hl2]
        rfl
      · rcases List.mem_append.mp hp with hp | hp
        · exact (hl3 p hp).mono fun _ h => .tail _ (.tail _ h)
        · obtain rfl := List.mem_singleton.mp hp
          exact rd_tup2 (.head _) (Rd.str _ _) (rd_nil (k := 0) (.tail _ (.head _)))
    · rintro b k₂ ys P ⟨l, rfl, hl2, hl3⟩ hys
      rw [List.length_map, List.take_of_length_le (by simp), hzn'] at hl2
      have hin : ∀ p ∈ (S, lstOf us c) :: (T ++ (v, viewOf x1) :: σ), p ∈ (b, lstOf (l.map (·.1)) k₂) :: (P ++ R) := fun p hp => .tail _ (List.mem_append_right _ (hsp.mem p hp))
      have hd : (bkD b1).map dE = (nsA P₁ (if fz = true then askedN else [])).map fun z => dE (z, []) := by
        rw [s1.d]
        exact cont_dE fun z _ => by unfold gA; rw [if_pos (askedN_all z)]; rfl
      have A1 : Rd C ((b, lstOf (l.map (·.1)) k₂) :: (P ++ R)) (.ref S) (.list ((nsA P₁ (if fz = true then askedN else [])).map fun z => dE (z, []))) := by
        rw [← hd]
        exact rd_items (us := us) (c := c) (hin _ (.head _)) (hP.mono fun p hp => hin p (.tail _ (List.mem_append_left _ hp))) s1.be (fun e he => hin _ (up _ (hb1 e he))) s1.ok
      have A2 : Rd C ((b, lstOf (l.map (·.1)) k₂) :: (P ++ R)) (.ref b) (.list ((nsA P₁ (if fz = true then askedN else [])).map fun z => dE (z, []))) :=
        rd_made (.head _) rfl hl2 fun p hp => (hl3 p hp).mono fun _ h => .tail _ (List.mem_append_left _ h)
      have sh : Sh 3 (.list ((nsA P₁ (if fz = true then askedN else [])).map fun z => dE (z, []))) := sh_list fun d hd => by
        obtain ⟨z, _, rfl⟩ := List.mem_map.mp hd
        exact sh_E _
      refine ev_ne (by omega) A1 A2 sh.shaped sh.shaped ?_
      rw [sh.refl]
      refine ev_truthy_bool ?_
      rw [if_neg (by decide)]
      refine ev_nil ⟨σ, (Sp.ofP ((S, lstOf us c) :: (T ++ [(v, viewOf x1)])) (by walk_at "perm") : Sp σ ((S, lstOf us c) :: (T ++ (v, viewOf x1) :: σ))).trans (hsp.trans (Sp.ofP ((b, lstOf (l.map (·.1)) k₂) :: P) (by walk_at "perm"))), H⟩
end
end

section
open PySem PySem.W PySem.Spec PySem.Calls PyProof.Rows PySem.SeqAt Builtin Builtin.ObjectAttr
section
variable {α : Type} {C : Cx} {m : Loc} {σ : Led} {env : Env} {n : Nat} {E : Value → Shared → Prop}
theorem law_12 {x2 dx2 aA aL c1 : Addr} {zs : List (Value × Nm)} {rs1 ls : List (Value × Row)} {kA kL j1 k1 : Nat} {fz : Bool} {P₂ L : List Row} {tf : Tok} {es2 : Array DictEntry} {b2 : Bk} {co : Obj} {Q : Flow → Loc → Led → Prop} (G : Gd (n + 9) C (lawEnv C))
    (hx2 : (x2, bookObj dx2 es2 k1) ∈ σ) (hb2 : ∀ e ∈ b2, e.led ∈ σ) (S2 : StOk C.w σ x2 dx2 fz) (h32 : 3 < x2) (s2 : BkSt es2 b2 (cont (nsA P₂ (if fz = true then [] else askedN)) (gA P₂ L askedN)) 37)
    (hc1 : (c1, lstOf (rs1.map (·.1)) j1) ∈ σ) (hrs : ∀ p ∈ rs1, RowAt σ p.1 p.2) (e1 : rs1.map (·.2) = P₂) (l1 : rs1.length ≤ 100) (hA : (aA, lstOf (zs.map (·.1)) kA) ∈ σ) (hzs : zs.map (·.2) = askedN) (hzn : ∀ p ∈ zs, NmAt p.1 p.2)
    (hL : (aL, lstOf (ls.map (·.1)) kL) ∈ σ) (hls : ∀ p ∈ ls, RowAt σ p.1 p.2) (e2 : ls.map (·.2) = L) (lL : ls.length ≤ 100) (hc : (C.L + 1, co) ∈ σ) (hco : co.data = .cell (some (.ref aL)))
    (m1 : m "second" = some (.ref x2)) (m2 : m "other" = some (.ref c1)) (m5 : m "frozen" = some (.int (if fz = true then 1 else 0) tf)) (m6 : m "asked" = some (.ref aA))
    (H : ∀ σ', Sp σ σ' → Q (.ret (.bool true)) m σ') : EvC C E (execs (lawBody.drop 12) (lawEnv C)) m σ Q := by
  have hu := G.hu
  have hsl : sizeLine = 16777216 := rfl
  have sz := s2.sz
  have zl : zs.length = 5 := by have := congrArg List.length hzs; simpa [askedN] using this
  obtain ⟨od, hod, hodf⟩ := S2.od
  refine cx_cons (Ev.c (ev_Return (ev_Compare ?_)))
  refine ev_Call ?_
  refine ev_builtin G (gn_list _) (by with_unfolding_all rfl) ?_
  refine ev_callT1 ?_
  refine ev_args_cons ?_
  refine ev_MethodCall ?_
  refine ev_local G (v := .ref x2) (by with_unfolding_all exact m1) ?_
  refine get_items (n := n + 9) G hx2 hod hodf ?_
  refine ev_callB0 ?_
  refine ev_dictItems G hx2 h32 fun v => ?_
  refine ev_args_nil ?_
  refine ev_listView G.hh (.tail _ hx2) (.head _) (by omega) fun S T us c hP => ?_
  refine ev_CompAny G.hh ?_
  have up : ∀ p ∈ σ, p ∈ (S, lstOf us c) :: (T ++ (v, viewOf x2) :: σ) := fun p hp => .tail _ (List.mem_append_right _ (.tail _ hp))
  refine Ev.mono (Q := fun x m' σ' => ∃ (a : Addr) (k : Nat) (zn : List (Value × Nm)), x = .ref a ∧ m = m' ∧ (a, lstOf (zn.map (·.1)) k) ∈ σ' ∧ Sp ((S, lstOf us c) :: (T ++ (v, viewOf x2) :: σ)) σ' ∧ zn.map (·.2) = nsA P₂ (if fz = true then [] else askedN) ∧ (∀ p ∈ zn, NmAt p.1 p.2)) ?_ ?_
  · refine ev_Call ?_
    refine ev_global G (gl_names _) ?_
    refine ev_callK1 G (kp_names _) ?_
    refine ev_args_cons ?_
    refine ev_local G (v := .ref c1) (by with_unfolding_all exact m2) ?_
    refine ev_args_cons ?_
    refine ev_Subscript ?_
    refine ev_List ?_
    refine ev_args_cons ?_
    refine ev_local G (v := .ref aA) (by with_unfolding_all exact m6) ?_
    refine ev_args_cons ?_
    refine ev_List ?_
    refine ev_args_nil ?_
    refine ev_newList (hsz := by exact Nat.zero_le _) fun z1 _ => ?_
    refine ev_args_nil ?_
    refine ev_newList (hsz := by show 2 ≤ sizeLine; omega) fun z2 _ => ?_
    refine ev_local G (v := .int (if fz = true then 1 else 0) tf) (by with_unfolding_all exact m5) ?_
    have up2 : ∀ {y1 y2 : Addr × Obj}, ∀ p ∈ σ, p ∈ y1 :: y2 :: (S, lstOf us c) :: (T ++ (v, viewOf x2) :: σ) := fun p hp => .tail _ (.tail _ (up p hp))
    have e1' : rs1.map (·.2.1) = P₂.map (·.1) := by rw [← e1, List.map_map]; rfl
    cases fz with
    | false =>
      rw [if_neg (by decide)]
      refine ev_item (.led (.head _)) (by decide) (by decide) rfl ?_
      refine ev_args_nil ?_
      refine names_ok (n := n + 8) (rs := rs1) (ms := zs) (kr := j1) (km := kA) G (up2 _ hc1) (fun p hp => (hrs p hp).mono up2) (up2 _ hA) hzn (by omega) (by omega) fun a k zn hzn' hvn => ?_
      refine ⟨a, k, zn, rfl, rfl, .head _, Sp.of (.cons _ (.cons _ (.cons _ (.refl _)))), ?_, hvn⟩
      rw [hzn', e1', hzs]; rfl
    | true =>
      rw [if_pos rfl]
      refine ev_item (.led (.head _)) (by decide) (by decide) rfl ?_
      refine ev_args_nil ?_
      refine names_ok (n := n + 8) (rs := rs1) (ms := []) (kr := j1) (km := 0) G (up2 _ hc1) (fun p hp => (hrs p hp).mono up2) (.tail _ (.head _)) (fun _ h => nomatch h) (by omega) (Nat.zero_le _) fun a k zn hzn' hvn => ?_
      refine ⟨a, k, zn, rfl, rfl, .head _, Sp.of (.cons _ (.cons _ (.cons _ (.refl _)))), ?_, hvn⟩
      rw [hzn', e1']; rfl
  · rintro _ _ R ⟨a, k, zn, rfl, rfl, ha, hsp, hzn', hvn⟩
    refine ⟨a, zn.map (·.1), R, [], fun i ys P => ∃ l : List (Value × PyData), ys = l.map (·.1) ∧ l.map (·.2) = ((zn.map (·.2)).take i).map (fun z => dE (z, underF z L)) ∧ ∀ p ∈ l, Rd C P p.1 p.2, rfl, rfl, rfl, ⟨[], rfl, rfl, fun _ h => nomatch h⟩, ?_, ?_, .inl ⟨_, _, rfl⟩, ?_, ?_⟩
    · have h1 := congrArg List.length hzn'
      have h2 := nsA_len P₂ (if fz = true then [] else askedN)
      have h3 : (if fz = true then [] else askedN).length ≤ 5 := by cases fz <;> decide
      have h4 := congrArg List.length e1
      simp only [List.length_map] at h1 h4 ⊢
      omega
    · rintro i ys P -
      exact .led (List.mem_append_right _ ha)
    · rintro i v ys P R' a oc mc hi hR hS ⟨l, rfl, hl2, hl3⟩ hys ho
      obtain ⟨p, hpi, rfl⟩ := fst_at hi
      obtain ⟨tn, hpn⟩ := hvn p (mem_at hpi)
      obtain ⟨pv, y⟩ := p
      dsimp only at hpn
      subst hpn
      have upR : ∀ {y1 : Addr × Obj}, ∀ p ∈ σ, p ∈ y1 :: (P ++ R') := fun p hp => .tail _ (List.mem_append_right _ (hR p (hsp.mem p (up p hp))))
      refine ev_assignName (ev_storeC ho fun oc₁ ho₁ => ?_)
      refine ev_tests_nil ?_
      rw [if_pos rfl]
      refine Ev.forget ?_
      refine ev_Tuple ?_
      refine ev_args_cons ?_
      refine ev_localC (.head _) ho₁ (by with_unfolding_all rfl) ?_
      refine ev_args_cons ?_
      refine ev_Call ?_
      refine ev_globalC G (gl_under _) ?_
      refine ev_callK1 G (kp_under _) ?_
      refine ev_args_cons ?_
      refine ev_cellC (c := C.L + 1) (oc := co) (by with_unfolding_all rfl) (upR _ hc) hco ?_
      refine ev_args_cons ?_
      refine ev_localC (.head _) ho₁ (by with_unfolding_all rfl) ?_
      refine ev_args_nil ?_
      refine under_ok (n := n + 8) (rs := ls) (kr := kL) G (upR _ hL) (fun p hp => (hls p hp).mono upR) ⟨tn, rfl⟩ (by omega) fun z kz zv hzv hzl => ?_
      refine ev_args_nil ?_
      refine ev_newTuple (hsz := by show 2 ≤ sizeLine; omega) fun t _ => ?_
      refine ⟨(a, oc₁) :: (((t, tupOf #[.str (nm y) tn, .ref z]) :: (z, lstOf (zv.map (·.1)) kz) :: P) ++ R'), Sp.ofP [] (by walk_at "perm"), rfl, oc₁, _, (t, tupOf #[.str (nm y) tn, .ref z]) :: (z, lstOf (zv.map (·.1)) kz) :: P, ho₁, rfl, l ++ [(.ref t, dE (y, underF y L))], by simp, ?_, fun p hp => ?_⟩
      · have hyi : (zn.map (·.2))[i]? = some y := by rw [List.getElem?_map, hpi]; rfl
        rw [take_snoc hyi, List.map_append, List.map_append, hl2]
        rfl
      · rcases List.mem_append.mp hp with hp | hp
        · exact (hl3 p hp).mono fun _ h => .tail _ (.tail _ h)
        · obtain rfl := List.mem_singleton.mp hp
          have : Rd C ((t, tupOf #[.str (nm y) tn, .ref z]) :: (z, lstOf (zv.map (·.1)) kz) :: P) (.ref t) (.tuple [dN y, .list ((zv.map (·.2)).map dV)]) := rd_tup2 (.head _) (Rd.str _ _) (rd_lst (.tail _ (.head _)) fun p hp => (rd_Vl (hzl p hp)).1)
          rw [hzv, e2] at this
          exact this
    · rintro b k₂ ys P ⟨l, rfl, hl2, hl3⟩ hys
      rw [List.length_map, List.take_of_length_le (by simp), hzn'] at hl2
      have hin : ∀ p ∈ (S, lstOf us c) :: (T ++ (v, viewOf x2) :: σ), p ∈ (b, lstOf (l.map (·.1)) k₂) :: (P ++ R) := fun p hp => .tail _ (List.mem_append_right _ (hsp.mem p hp))
      have hd : (bkD b2).map dE = (nsA P₂ (if fz = true then [] else askedN)).map fun z => dE (z, underF z L) := by
        rw [s2.d]
        exact cont_dE fun z _ => by unfold gA; rw [if_pos (askedN_all z)]
      have A1 : Rd C ((b, lstOf (l.map (·.1)) k₂) :: (P ++ R)) (.ref S) (.list ((nsA P₂ (if fz = true then [] else askedN)).map fun z => dE (z, underF z L))) := by
        rw [← hd]
        exact rd_items (us := us) (c := c) (hin _ (.head _)) (hP.mono fun p hp => hin p (.tail _ (List.mem_append_left _ hp))) s2.be (fun e he => hin _ (up _ (hb2 e he))) s2.ok
      have A2 : Rd C ((b, lstOf (l.map (·.1)) k₂) :: (P ++ R)) (.ref b) (.list ((nsA P₂ (if fz = true then [] else askedN)).map fun z => dE (z, underF z L))) :=
        rd_made (.head _) rfl hl2 fun p hp => (hl3 p hp).mono fun _ h => .tail _ (List.mem_append_left _ h)
      have sh : Sh 3 (.list ((nsA P₂ (if fz = true then [] else askedN)).map fun z => dE (z, underF z L))) := sh_list fun d hd => by
        obtain ⟨z, _, rfl⟩ := List.mem_map.mp hd
        exact sh_E _
      refine ev_eq (by omega) A1 A2 sh.shaped sh.shaped ?_
      rw [sh.refl]
      exact H _ ((Sp.ofP ((S, lstOf us c) :: (T ++ [(v, viewOf x2)])) (by walk_at "perm") : Sp σ ((S, lstOf us c) :: (T ++ (v, viewOf x2) :: σ))).trans (hsp.trans (Sp.ofP ((b, lstOf (l.map (·.1)) k₂) :: P) (by walk_at "perm"))))
end
end

section
open PySem PySem.W PySem.Spec PySem.Calls PyProof.Rows PySem.SeqAt Builtin Builtin.ObjectAttr
theorem rowsD_len (f : List Dr) : (rowsD f).length ≤ f.length := List.length_filterMap_le _ _
theorem Tups.mono {f : List Dr} {T T' : Led} (h : Tups f T) (hs : ∀ p ∈ T, p ∈ T') : Tups f T' := fun e he => let ⟨t, u, hm⟩ := h e he; ⟨t, u, hs _ hm⟩
theorem ReadOk.start {P L : List Row} {es : Array DictEntry} {b : Bk} {rs : List (Value × Row)} {T : Led} {fz : Bool} {A : List Nm} (h : ReadOk P es b rs T) (h1 : es.size ≤ 32) (h2 : ∀ e ∈ b, e.vs.length ≤ 32) (hA : A = []) : BkSt es b (cont (nsA P A) (gA P L [])) 32 := by
  subst hA
  refine ⟨h.be, h.ok, h.nd, ?_, h1, fun e he => by have := h2 e he; omega⟩
  rw [h.d, readP_eq]
  unfold nsA
  rw [List.append_nil]
  rfl
section
variable {α : Type} {C : Cx} {m : Loc} {σ : Led} {env : Env} {n : Nat} {E : Value → Shared → Prop}
theorem law_all {l : Addr} {vs : List Value} {ns : List Int} {co : Obj} (G : Gd (n + 9) C (lawEnv C)) (hl : C.bs.IsList l vs.toArray) (hi : IntsAre vs ns) (hsz : vs.length ≤ 63) (hm : m "script" = some (.ref l)) (hco : co.data = .cell none) (h107 : CodeHd C.bs 111 107) :
    EvC C E (execs lawBody (lawEnv C)) m ((C.L + 1, co) :: (107, tabObj #[]) :: []) fun f _ σ' => f = .ret (.bool true) ∧ ∃ ws, (107, tabObj ws) ∈ σ' := by
  refine law_1 G hl hi hsz hm fun F a0 a1 k0 k1 f0 f1 T hz ht0 ht1 => ?_
  have iF : (F, lstOf [.ref a0, .ref a1] 0) ∈ FP F a0 a1 k0 k1 f0 f1 T := .head _
  have i0 : (a0, lstOf (drs f0) k0) ∈ FP F a0 a1 k0 k1 f0 f1 T := .tail _ (.head _)
  have i1 : (a1, lstOf (drs f1) k1) ∈ FP F a0 a1 k0 k1 f0 f1 T := .tail _ (.tail _ (.head _))
  have iT : ∀ p ∈ T, p ∈ FP F a0 a1 k0 k1 f0 f1 T := fun p hp => .tail _ (.tail _ (.tail _ hp))
  generalize FP F a0 a1 k0 k1 f0 f1 T = U at *
  have z0 := rowsD_len f0
  have z1 := rowsD_len f1
  refine law_2 G (List.mem_append_left _ iF) (List.mem_append_left _ i0) (List.mem_append_left _ i1) (ht0.mono fun p hp => List.mem_append_left _ (iT p hp)) (ht1.mono fun p hp => List.mem_append_left _ (iT p hp)) hz (by with_unfolding_all rfl) fun c0 c1 j0 j1 rs0 rs1 T2 hc0 hc1 e0 e1 r0 r1 => ?_
  have l0 : rs0.length ≤ 32 := by have := congrArg List.length e0; simp only [List.length_map] at this; omega
  have l1 : rs1.length ≤ 32 := by have := congrArg List.length e1; simp only [List.length_map] at this; omega
  refine EvC.sp (σ' := (C.L + 1, co) :: ((107, tabObj #[]) :: (T2 ++ U))) (Sp.ofP [] (by walk_at "perm")) ?_
  have i2 : ∀ p ∈ T2, p ∈ (107, tabObj #[]) :: (T2 ++ U) := fun p hp => .tail _ (List.mem_append_left _ hp)
  have i3 : ∀ p ∈ U, p ∈ (107, tabObj #[]) :: (T2 ++ U) := fun p hp => .tail _ (List.mem_append_right _ hp)
  refine law_3 G (i2 _ hc0) (i2 _ hc1) (fun p hp => (r0 p hp).mono i2) (fun p hp => (r1 p hp).mono i2) (by omega) (by omega) (by with_unfolding_all rfl) (by with_unfolding_all rfl) hco fun aM aL kM kL ms ls co' t ot hco' ems els hms hls lM lL => ?_
  have up4 : ∀ {y1 y2 y3 y4 : Addr × Obj}, ∀ p ∈ (107, tabObj #[]) :: (T2 ++ U), p ∈ y1 :: y2 :: y3 :: y4 :: (107, tabObj #[]) :: (T2 ++ U) := fun p hp => .tail _ (.tail _ (.tail _ (.tail _ hp)))
  refine law_4 G (up4 _ (i3 _ iF)) (up4 _ (i3 _ i0)) (ht0.mono fun p hp => up4 _ (i3 _ (iT p hp))) (by omega) (by with_unfolding_all rfl) fun x1 dx1 q1 es1 kb1 kr1 b1 rh T4 h31 ok1 sz1 len1 vs1 => ?_
  have up5 : ∀ {y1 y2 y3 y4 : Addr × Obj} {A : Led} {y5 : Addr × Obj}, ∀ p ∈ (107, tabObj #[]) :: (T2 ++ U), p ∈ A ++ y5 :: y1 :: y2 :: y3 :: y4 :: (107, tabObj #[]) :: (T2 ++ U) := fun p hp => List.mem_append_right _ (.tail _ (up4 _ hp))
  refine law_5 G (up5 _ (i3 _ iF)) (up5 _ (i3 _ i1)) (ht1.mono fun p hp => up5 _ (i3 _ (iT p hp))) (by omega) (by with_unfolding_all rfl) fun x2 dx2 q2 es2 kb2 kr2 b2 rt T5 h32 ok2 sz2 len2 vs2 => ?_
  rw [readL_app, readL_app]
  refine EvC.sp (σ' := (q1, lstOf (rh.map (·.1)) kr1) :: (q2, lstOf (rt.map (·.1)) kr2) :: ((107, tabObj #[]) :: (dx1, emptyDict) :: (dx2, emptyDict) :: ((((x1, bookObj dx1 es1 kb1) :: bkLed b1) ++ ((x2, bookObj dx2 es2 kb2) :: bkLed b2)) ++ (T4 ++ (T5 ++ ((C.L + 1, co') :: (t, ot) :: (aM, lstOf (ms.map (·.1)) kM) :: (aL, lstOf (ls.map (·.1)) kL) :: (T2 ++ U))))))) (Sp.ofP [] (by walk_at "perm")) ?_
  have jC : (C.L + 1, co') ∈ (C.L + 1, co') :: (t, ot) :: (aM, lstOf (ms.map (·.1)) kM) :: (aL, lstOf (ls.map (·.1)) kL) :: (T2 ++ U) := .head _
  have jM : (aM, lstOf (ms.map (·.1)) kM) ∈ (C.L + 1, co') :: (t, ot) :: (aM, lstOf (ms.map (·.1)) kM) :: (aL, lstOf (ls.map (·.1)) kL) :: (T2 ++ U) := .tail _ (.tail _ (.head _))
  have jL : (aL, lstOf (ls.map (·.1)) kL) ∈ (C.L + 1, co') :: (t, ot) :: (aM, lstOf (ms.map (·.1)) kM) :: (aL, lstOf (ls.map (·.1)) kL) :: (T2 ++ U) := .tail _ (.tail _ (.tail _ (.head _)))
  have j2 : ∀ p ∈ T2, p ∈ (C.L + 1, co') :: (t, ot) :: (aM, lstOf (ms.map (·.1)) kM) :: (aL, lstOf (ls.map (·.1)) kL) :: (T2 ++ U) := fun p hp => .tail _ (.tail _ (.tail _ (.tail _ (List.mem_append_left _ hp))))
  have hms' : ∀ p ∈ ms, RowAt T2 p.1 p.2 := fun p hp => r0 p (hms p hp)
  have hls' : ∀ p ∈ ls, RowAt T2 p.1 p.2 := fun p hp => r1 p (hls p hp)
  generalize (C.L + 1, co') :: (t, ot) :: (aM, lstOf (ms.map (·.1)) kM) :: (aL, lstOf (ls.map (·.1)) kL) :: (T2 ++ U) = Z at *
  have hr1 : rh.map (·.2) = rowsD f0 := ok1.r
  have hr2 : rt.map (·.2) = rowsD f1 := ok2.r
  have upZ : ∀ {B : Led} {y1 y2 y3 : Addr × Obj}, ∀ p ∈ Z, p ∈ y1 :: y2 :: y3 :: (B ++ (T4 ++ (T5 ++ Z))) := fun p hp => .tail _ (.tail _ (.tail _ (List.mem_append_right _ (List.mem_append_right _ (List.mem_append_right _ hp)))))
  have up6 : ∀ {B : Led} {y1 y2 y3 : Addr × Obj}, ∀ p ∈ T4, p ∈ y1 :: y2 :: y3 :: (B ++ (T4 ++ (T5 ++ Z))) := fun p hp => .tail _ (.tail _ (.tail _ (List.mem_append_right _ (List.mem_append_left _ hp))))
  have up7 : ∀ {B : Led} {y1 y2 y3 : Addr × Obj}, ∀ p ∈ T5, p ∈ y1 :: y2 :: y3 :: (B ++ (T4 ++ (T5 ++ Z))) := fun p hp => .tail _ (.tail _ (.tail _ (List.mem_append_right _ (List.mem_append_right _ (List.mem_append_left _ hp)))))
  rw [e0, e1] at ems els
  refine law_6 G (fun p hp => (ok1.at_ p hp).mono up6) (fun p hp => (ok2.at_ p hp).mono up7) (by omega) (by omega) (upZ _ jM) (upZ _ jL) (fun p hp => (hms' p hp).mono fun p hp => upZ _ (j2 p hp)) (fun p hp => (hls' p hp).mono fun p hp => upZ _ (j2 p hp)) (upZ _ jC) hco' (by rw [hr1, hr2]; exact ems) (by rw [hr1, hr2]; exact els) (by with_unfolding_all rfl) (by with_unfolding_all rfl) (by with_unfolding_all rfl) fun tw => ?_
  refine law_7 G hl hi (by with_unfolding_all exact hm) fun fz tf => ?_
  refine law_8 G h107 (es1 := es1) (es2 := es2) (k1 := kb1) (k2 := kb2) (List.mem_append_left _ (List.mem_append_left _ (.head _))) (List.mem_append_left _ (List.mem_append_right _ (.head _))) (by with_unfolding_all rfl) (by with_unfolding_all rfl) (by with_unfolding_all rfl) fun ws R S1 S2 => ?_
  refine law_9 G fun aA zs hzs hzn => ?_
  refine EvC.sp (σ' := (((x1, bookObj dx1 es1 kb1) :: bkLed b1) ++ ((x2, bookObj dx2 es2 kb2) :: bkLed b2)) ++ ((aA, lstOf (zs.map (·.1)) 0) :: (107, tabObj ws) :: (R ++ (T4 ++ (T5 ++ Z))))) (Sp.ofP [] (by walk_at "perm")) ?_
  have wR : ∀ p ∈ R, p ∈ (aA, lstOf (zs.map (·.1)) 0) :: (107, tabObj ws) :: (R ++ (T4 ++ (T5 ++ Z))) := fun p hp => .tail _ (.tail _ (List.mem_append_left _ hp))
  have wZ : ∀ p ∈ Z, p ∈ (aA, lstOf (zs.map (·.1)) 0) :: (107, tabObj ws) :: (R ++ (T4 ++ (T5 ++ Z))) := fun p hp => .tail _ (.tail _ (List.mem_append_right _ (List.mem_append_right _ (List.mem_append_right _ hp))))
  have w107 : (107, tabObj ws) ∈ (aA, lstOf (zs.map (·.1)) 0) :: (107, tabObj ws) :: (R ++ (T4 ++ (T5 ++ Z))) := .tail _ (.head _)
  have wA : (aA, lstOf (zs.map (·.1)) 0) ∈ (aA, lstOf (zs.map (·.1)) 0) :: (107, tabObj ws) :: (R ++ (T4 ++ (T5 ++ Z))) := .head _
  generalize (aA, lstOf (zs.map (·.1)) 0) :: (107, tabObj ws) :: (R ++ (T4 ++ (T5 ++ Z))) = W at *
  refine law_10 (dx1 := dx1) (dx2 := dx2) (fz := fz) (P₁ := rowsD f0) (P₂ := rowsD f1) G wA hzs hzn (S1.mono wR) (S2.mono wR) h31 h32 (wZ _ jM) (wZ _ jL) (wZ _ (j2 _ hc1)) (fun p hp => (hms' p hp).mono fun p hp => wZ _ (j2 p hp)) (fun p hp => (hls' p hp).mono fun p hp => wZ _ (j2 p hp)) (fun p hp => (r1 p hp).mono fun p hp => wZ _ (j2 p hp)) (wZ _ jC) hco' lM lL (by omega) ems els e1
    (by with_unfolding_all rfl) (by with_unfolding_all rfl) (by with_unfolding_all rfl) (by with_unfolding_all rfl) (by with_unfolding_all rfl) (by with_unfolding_all rfl) ⟨fun _ _ _ => rfl, es1, kb1, b1, es2, kb2, b2, rfl, ok1.start sz1 vs1 (by cases fz <;> rfl) (fz := fz), ok2.start sz2 vs2 (by cases fz <;> rfl) (fz := fz)⟩ fun m' P' hJ => ?_
  obtain ⟨hm', es1', k1', b1', es2', k2', b2', rfl, s1, s2⟩ := hJ
  refine law_11 (fz := fz) (dx1 := dx1) (es1 := es1') (k1 := k1') (b1 := b1') G (List.mem_append_left _ (List.mem_append_left _ (.head _))) (fun e he => List.mem_append_left _ (List.mem_append_left _ (.tail _ (List.mem_map_of_mem he)))) (S1.mono fun p hp => List.mem_append_right _ (wR p hp)) h31 s1 (List.mem_append_right _ (wZ _ (j2 _ hc0))) (fun p hp => (r0 p hp).mono fun p hp => List.mem_append_right _ (wZ _ (j2 p hp))) e0 (by omega) (List.mem_append_right _ wA) hzs hzn
    (by rw [hm' _ (by decide) (by decide)]; with_unfolding_all rfl) (by rw [hm' _ (by decide) (by decide)]; with_unfolding_all rfl) (by rw [hm' _ (by decide) (by decide)]; with_unfolding_all rfl) (by rw [hm' _ (by decide) (by decide)]; with_unfolding_all rfl) ?_
  refine law_12 (fz := fz) (dx2 := dx2) (es2 := es2') (k1 := k2') (b2 := b2') G (List.mem_append_left _ (List.mem_append_right _ (.head _))) (fun e he => List.mem_append_left _ (List.mem_append_right _ (.tail _ (List.mem_map_of_mem he)))) (S2.mono fun p hp => List.mem_append_right _ (wR p hp)) h32 s2 (List.mem_append_right _ (wZ _ (j2 _ hc1))) (fun p hp => (r1 p hp).mono fun p hp => List.mem_append_right _ (wZ _ (j2 p hp))) e1 (by omega) (List.mem_append_right _ wA) hzs hzn
    (List.mem_append_right _ (wZ _ jL)) (fun p hp => (hls' p hp).mono fun p hp => List.mem_append_right _ (wZ _ (j2 p hp))) els lL (List.mem_append_right _ (wZ _ jC)) hco'
    (by rw [hm' _ (by decide) (by decide)]; with_unfolding_all rfl) (by rw [hm' _ (by decide) (by decide)]; with_unfolding_all rfl) (by rw [hm' _ (by decide) (by decide)]; with_unfolding_all rfl) (by rw [hm' _ (by decide) (by decide)]; with_unfolding_all rfl) fun σ' hsp => ⟨rfl, ws, hsp.mem _ (List.mem_append_right _ w107)⟩
end
end

section
open PySem PySem.W PySem.Spec PySem.Calls PyProof.Rows PySem.SeqAt Builtin Builtin.ObjectAttr
section
variable {w : World} {s : Shared} {p : Program} {loose : List PySem.Str} {mean : ExcName → Option Value} {mg mb : PySem.Str → Option Value} {E : Value → Shared → Prop} {Q : Value → Shared → Prop}
theorem ctx_C {w : World} {A : Around} {Z : Shared} {bs h₀ : Heap} {fs : List Addr} {L : Addr} : (⟨w, A, Z, bs, h₀, fs, L⟩ : Cx).L = L := rfl
theorem enter_C {name qual : PySem.Str} {params : Arguments} {body : List Stmt} {scope : Scope} {dV kV doc pm cdv ct oc : Value} {an od : Option Addr} {osl : Array (Option Value)} {f : Addr} {vs : List Value} {binds : List (PySem.Str × Value)} {xc : PySem.Str}
    (X : (KK w).In s.heap) (T : Top p loose mean mg mb s.heap) (hC : CodeHd s.heap 111 107) (h107 : s.heap.get? 107 = some (tabObj #[]))
    (ho : (KK w).lookup f = some ⟨oc, od, .func (fnOf name qual params body scope dV kV doc pm an cdv ct), osl⟩) (hcd : codeIn (KK w) cdv qual = true)
    (hbind : ∀ s, BindsTo s (fnOf name qual params body scope dV kV doc pm an cdv ct) ⟨vs, []⟩ binds) (hkind : (binds.all fun y => scope.names.lookup y.1 == some .local || scope.names.lookup y.1 == some .cell) = true)
    (hone : ∀ n, cellsFrom n scope.names [] = [(xc, n)])
    (H : ∀ C' : Cx, ∀ co : Obj, co.data = .cell (bindC (envOfC qual scope C'.L f cdv).kindOf binds (fun _ => none) xc) → Gd 9 C' (envOfC qual scope C'.L f cdv) → C'.w = w → C'.bs = ghostOf s.heap [(111, 107)] →
      ∀ E', EvC C' E' (execs body (envOfC qual scope C'.L f cdv)) (bindL (envOfC qual scope C'.L f cdv).kindOf binds fun _ => none) ((C'.L + 1, co) :: (107, tabObj #[]) :: []) fun fl _ σ' => fl = .ret (.bool true) ∧ ∃ ws, (107, tabObj ws) ∈ σ')
    (q : ∀ h' tk, (∀ b o, b ≠ 107 → s.heap.get? b = some o → h'.get? b = some o) → (∃ ps, h'.get? 107 = some (tabObj ps)) → Q (.bool true) ⟨h', s.gens, s.drawn, tk, s.os⟩)
    (hco : scope.isCoroutine = false := by with_unfolding_all rfl) (hgen : scope.isGenerator = false := by with_unfolding_all rfl) (hk : scope.kind = .function := by with_unfolding_all rfl) :
    wpC (model pw w) callerA (call (.ref f) vs) Q E s := by
  have hT : TabsAt [(111, 107)] s.heap := List.forall_mem_cons.mpr ⟨⟨hC, h107⟩, fun _ h => nomatch h⟩
  refine wpC_call ?_
  refine codeC_function (fd := fnOf name qual params body scope dV kV doc pm an cdv ct) (body := body) (s := s) (by decide) (X _ _ ho) rfl hco hgen rfl (codeRec_of X hcd) (wpC_of (hbind _ _ _ _ _ ?_))
  refine wpAny_newFunctionEnv_cells hk (kindsX hkind _) fun env' he s' x => ?_
  subst he
  refine ⟨T.nolimit.keeps x.toInCall.keep, codeC_func ?_⟩
  obtain ⟨h₁, tk₁, rfl, _⟩ := x.done
  have hk₁ := x.toInCall.keep
  have hnd : ((cellsFrom 0 scope.names []).map (·.1)).Nodup := by rw [hone]; simp
  obtain ⟨cells, NC, Y⟩ := Cl.news (h₀ := s.heap) (Nat.le_refl _) fun n c hm => ⟨x.cell n c (lookup_of_mem_nodup (cellsFrom_names scope.names 0 (s.heap.objs.size + 1) [] [] rfl ▸ hnd) hm), x.above n c hm⟩
  have Y' : CellsAre (bindC (envOfC qual scope s.heap.objs.size f cdv).kindOf binds fun _ => none) [(xc, s.heap.objs.size + 1)] cells := (hone (s.heap.objs.size + 1)) ▸ Y
  obtain ⟨co, rfl, hco'⟩ := Y'.one
  have sz : (ghostOf s.heap [(111, 107)]).objs.size = s.heap.objs.size := hideAll_size _ _
  have l107 : 107 < s.heap.objs.size := Heap.lt_size h107
  have J : Inv0 (ghostOf s.heap [(111, 107)]) s.heap.objs.size h₁ (bindL (envOfC qual scope s.heap.objs.size f cdv).kindOf binds fun _ => none) ((s.heap.objs.size + 1, co) :: (107, tabObj #[]) :: []) := by
    refine ⟨⟨x.toInCall.ns, fun b o e => hk₁ b o (of_hideAll _ e), Nat.le_of_eq sz⟩, fun p hp => ?_, ?_⟩
    · rcases List.mem_cons.mp hp with rfl | hp
      · refine ⟨(NC _ (.head _)).1, (NC _ (.head _)).2.1, ?_⟩
        cases q : (ghostOf s.heap [(111, 107)]).get? (s.heap.objs.size + 1) with
        | none => rfl
        | some o => have := of_hideAll _ q; rw [(NC _ (.head _)).2.2] at this; cases this
      · rcases List.mem_singleton.mp hp with rfl
        exact ⟨hk₁ _ _ h107, Nat.ne_of_lt l107, hideAll_none _ (.head _)⟩
    · simp only [List.map_cons, List.map_nil, List.nodup_cons, List.mem_singleton, List.not_mem_nil, not_false_eq_true, List.nodup_nil, and_true]
      show ¬ (s.heap.objs.size + 1 = (107 : Nat))
      have l : (107 : Nat) < s.heap.objs.size := l107
      omega
  have G' : Gd 9 ⟨w, callerA.deeper (envOfC qual scope s.heap.objs.size f cdv), s, ghostOf s.heap [(111, 107)], ghostOf s.heap [(111, 107)], [], s.heap.objs.size⟩ (envOfC qual scope s.heap.objs.size f cdv) :=
    ⟨ghost_K hT X (by kernel_rfl), ⟨_, _, _, _, _, ghost_top hT T⟩, ⟨callerA, [], below_caller _, Around.frames_deeper rfl, rfl⟩, ktsDicts_nil, rfl, rfl, hk, rfl, rfl, by show callerA.depth + 1 + 9 < recursionLimit; decide, by show callerA.units + 3 + 8 * 9 + 80 < cLine; decide, rfl⟩
  refine wpC_mono (H _ co hco' G' rfl rfl _ h₁ tk₁ ⟨_, fun _ _ e => e, KtsTurn.refl, J⟩) (fun fl s' ⟨h', tk', m', σ', es, I', e, ws, hm⟩ => ?_) fun _ _ x => x
  subst es e
  exact q h' tk' (fun b o hb e => I'.keep b o (ghost_ne e (by simpa using hb))) ⟨ws, I'.get hm⟩
end
theorem walk0 {d : DefRec} {kwd : List (PySem.Str × PySem.Expr)} (hdef : defOf Mine.view0 rr.name = some (d, kwd)) : WalkC Mine.view0 tops (XL Mine.view0 []) hk0.says rr.toRowW d kwd := by
  intro w s₀ s₁ mg mb G Y fa o pm cd doc dV kV ho hd hcd hD hmg hg args vals as hpre hlay hrd hwl hlo
  have X := km_in_of Y
  have h107 := km_tabs_of Y 107 (.head _)
  have hC := codeHd_of_K (c := 111) (P := 107) X (by kernel_rfl)
  refine Ground.open G ?_
  intro T B D TE TW
  have hnm : d.name = rr.name := defOf_name hdef
  rw [hnm, mg_of (n := rr.name) X T.g (v := .ref 263) (by kernel_rfl)] at hmg
  have hfa : fa = 263 := by cases hmg; rfl
  subst hfa
  wrow_args hpre hlay hrd hwl hlo
  rename_i ns _ _ _ _ _ _ _ l vs _ hL _ _ _ hI _ hsz _
  have hlen : vs.length = ns.length := hI.length
  have hz : vs.length ≤ 63 := by omega
  have hT : TabsAt [(111, 107)] s₁.heap := List.forall_mem_cons.mpr ⟨⟨hC, h107⟩, fun _ h => nomatch h⟩
  refine enter_C (s := s₁) (binds := [(PySem.Str.ofString "script", .ref l)]) (xc := "left") X T hC h107 (body := lawBody) (scope := lawScope) (name := "law") (qual := "law") (cdv := .ref 262) (by with_unfolding_all rfl) (by kernel_rfl) (fun _ => BindsTo.of_eq (by with_unfolding_all rfl)) (by with_unfolding_all rfl) (fun _ => by with_unfolding_all rfl) (fun C' co hco G' hw hb E' => ?_) fun h' tk hk hP => ?_
  · exact law_all (n := 0) G' (hb ▸ ghost_list hT hL) hI hz (by with_unfolding_all rfl) hco (hb ▸ (ghost_code hT).1)
  · obtain ⟨ps, hP⟩ := hP
    refine ⟨.inl ⟨_, .bool true, [], rfl, fun _ => rfl, .bool _, by with_unfolding_all rfl, fun _ => ⟨List.nodup_nil, fun _ h => nomatch h⟩⟩, ⟨fun b o e => ?_, fun b o e => ?_⟩, rfl, ?_⟩
    · by_cases hb : b = 107
      · subst hb
        rw [h107] at e; cases e
        exact .inr (.inl ⟨(hC.tab h107).isCodeTable, rfl, #[], ps, rfl, by rw [Array.empty_append]; exact hP⟩)
      · exact .inl (hk b o hb e)
    · by_cases hb : b = 107
      · subst hb; exact ⟨_, hP⟩
      · exact ⟨o, hk b o hb e⟩
    · exact .of_eq hg
end

end Mine
set_option maxRecDepth 100000
open PySem PySem.W PySem.Spec PySem.Calls PyProof.Rows
theorem PySem.Challenge.cw_il0127_01_holds : PySem.Challenge.rw_il0127_01.Holds := by
  refine holds_law (by
    unfold OpenLaw.wellSaid OpenRow.wellSaid
    rw [Fast.te2436336058641802641, Fast.te2368527892694137696, Fast.named_eq]
    kernel_rfl) fun said => ?_
  refine Mine.holds_cal (r := Mine.rr) Mine.left0 Mine.hk0.of Mine.hk0.keeps (fun s e => xl_of s (Bool.and_eq_true_iff.mp e).1) XL.keeps (by rfl) (by rfl) (by rfl) (fun s e => recFacts_of (Bool.and_eq_true_iff.mp e).2) (by rfl) said (by kernel_rfl) ⟨rfl, rfl, rfl, rfl, rfl, by decide +kernel⟩ ?hw ?hc
  case hw => w_witness2
  case hc => exact Mine.walk0 (by rfl)
