import PyProof.Rows.All
import Wide.All
import OpenK.AllK
import Wide.FinOn
import Lean
import PySem.Challenge.RW_of0092_01
set_option Elab.async false
set_option compiler.extract_closed false
set_option maxRecDepth 100000
set_option maxHeartbeats 8000000
namespace Mine
section
open PySem PySem.W PyProof.Rows
noncomputable abbrev P : Program := PySem.Challenge.pw_of0092_01

/-- the top's run over a tree of objects -/
noncomputable def runT (stp : SharedT → Thread → Option (SharedT × Thread)) (ok : Thread → Bool) : Nat → SharedT → Thread → Option SharedT
  | 0, _, _ => none
  | n + 1, s, t => match through t with
    | true => some s
    | false => match ok t with
      | false => none
      | true => match stp s t with
        | some (s', t') => runT stp ok n s' t'
        | none => none
theorem runT_of {tb : String → Option Builtin} {p : Program} {w : World} {n₀ : Nat} {ann : Option Value} : ∀ {n : Nat} {s s' : SharedT} {t : Thread},
    runT (stepT (denote tb) p w) (stepOk n₀ ann) n s t = some s' → topRun tb p w n₀ ann n s.abs t = some s'.abs
  | 0, _, _, _, h => by cases h
  | n + 1, s, s', t, h => by
    unfold runT at h
    unfold topRun
    cases ht : through t with
    | true => rw [ht] at h; cases h; rfl
    | false =>
      rw [ht] at h
      cases hk : stepOk n₀ ann t with
      | false => rw [hk] at h; cases h
      | true =>
        rw [hk] at h
        cases hs : stepT (denote tb) p w s t with
        | none => rw [hs] at h; cases h
        | some r => obtain ⟨s₂, t₂⟩ := r; rw [hs] at h; dsimp only; rw [stepT_spec hs]; exact runT_of h
noncomputable def impT (stp : SharedT → Thread → Option (SharedT × Thread)) (ex : Thread → Option (List Value)) : Nat → SharedT → Thread → Option SharedT
  | 0, _, _ => none
  | n + 1, s, t => match ex t with
    | some [] => some s
    | some (_ :: _) => none
    | none => match stp s t with
      | some (s', t') => impT stp ex n s' t'
      | none => none

theorem impT_of {tb : String → Option Builtin} {p : Program} {w : World} : ∀ {n : Nat} {s s' : SharedT} {t : Thread},
    impT (stepT (denote tb) p w) Thread.atExitBegin n s t = some s' → importEnds tb p w n s.abs t = some s'.abs
  | 0, _, _, _, h => by cases h
  | n + 1, s, s', t, h => by
    unfold impT at h
    unfold importEnds
    cases he : t.atExitBegin with
    | some l =>
      rw [he] at h
      cases l with
      | nil => cases h; rfl
      | cons _ _ => cases h
    | none =>
      rw [he] at h
      cases hs : stepT (denote tb) p w s t with
      | none => rw [hs] at h; cases h
      | some r => obtain ⟨s₂, t₂⟩ := r; rw [hs] at h; dsimp only; rw [stepT_spec hs]; exact impT_of h
/-- the fence of one module over a tree -/
noncomputable def fenceT (bd : Heap → Addr → Str → Option Value) (tn : Str → Option (List Str)) (fd : Str → List Str → Obj → Option Obj) (m : Str) (s : SharedT) : Option SharedT :=
  match bd s.abs.heap sysModules m, tn m with
  | some (.ref a), some row => (match s.abs.heap.get? a with
    | some o => (match o.dict with
      | some D => (match s.abs.heap.get? D with
        | some od => (match (s.tree.get D).isSome, fd m row od with
          | true, some od' => some { s with tree := s.tree.set D fun _ => od' }
          | _, _ => none)
        | none => none)
      | none => none)
    | none => none)
  | _, _ => none
theorem fenceT_of {m : Str} {s s' : SharedT} (h : fenceT boundIn tameNamesOf? fenceDict? m s = some s') : fenceModule? m s.abs = some s'.abs := by
  unfold fenceT at h
  unfold fenceModule?
  split at h
  · rename_i a row h1 h2
    rw [h1, h2]
    dsimp only
    split at h
    · rename_i o h3
      rw [h3]
      dsimp only
      split at h
      · rename_i D h4
        rw [h4]
        dsimp only
        split at h
        · rename_i od h5
          rw [h5]
          dsimp only
          split at h
          · rename_i od' h6 h7
            cases h
            rw [h7]
            obtain ⟨o', h8⟩ := Option.isSome_iff_exists.mp h6
            show some _ = some _
            rw [SharedT.abs, SharedT.abs, absHeap_set h8]
          · cases h
        · cases h
      · cases h
    · cases h
  · cases h
noncomputable def startT (st : Shared × Thread) : SharedT := ⟨.nil, 0, st.1.heap.life, st.1.gens, st.1.drawn, st.1.toks, st.1.os⟩
noncomputable def headT (imp : World → SharedT → Thread → Option SharedT) (run : World → Nat → Option Value → SharedT → Thread → Option SharedT) (st : Shared × Thread) (fen : SharedT → Option SharedT) (stub : Thread) (nsM : Heap → Addr → Str → Option Value)
    (sok : Heap → Heap → Bool) (nb : Heap → Bool) (lk : Heap → Heap → Bool) {β : Type} (obs : Shared → β) (w : World) : Option β :=
  (imp w (startT st) st.2).bind fun s => (fen s).bind fun s₀ => match s₀.abs.heap.isNs mainGlobals && s₀.gens.size == 0 with
    | true => (run w s₀.n (nsM s₀.abs.heap mainGlobals "__annotations__") s₀ stub).bind fun s₁ => match sok s₀.abs.heap s₁.abs.heap && nb s₁.abs.heap && gensDone s₁.abs && lk s₀.abs.heap s₁.abs.heap with
      | true => some (obs s₁.abs)
      | false => none
    | false => none
theorem left_of {p q : Program} {loose : List Str} {Xt : Shared → Bool} {α : Type} {Yf : Shared → α} {Ya : World → α} {N : Nat} {m : Str}
    (hm : ∀ s, fenceModules? p s = fenceModule? m s)
    (h : ∀ w, headT (fun w s t => impT (stepT (denote treeTable) (opening p) w) Thread.atExitBegin N s t) (fun w n ann s t => runT (stepT (denote treeTable) p w) (stepOk n ann) N s t) (start (opening p)) (fenceT boundIn tameNamesOf? fenceDict? m) (topStub p) Heap.nsMap
      (staticsOk (importedModules p.main.body)) (namesBound p) laidKept (fun s => (openSeen q loose (importedModules p.main.body) Xt true s, Yf s)) w = some (openGood q loose, Ya w)) : LeftO p q loose Xt Yf Ya N := fun w => by
  have h := h w
  unfold headT at h
  obtain ⟨s, h1, h⟩ := Option.bind_eq_some_iff.mp h
  obtain ⟨s₀, h2, h⟩ := Option.bind_eq_some_iff.mp h
  have h1 := impT_of h1
  have h2 := fenceT_of h2
  have e0 : (startT (start (opening p))).abs = (start (opening p)).1 := rfl
  rw [e0] at h1
  unfold openEnds fencedOpening
  rw [h1]
  show ((fenceModules? p s.abs).bind (topFrom treeTable p w N)).map _ = _
  rw [hm, h2]
  show (topFrom treeTable p w N s₀.abs).map _ = _
  unfold topFrom
  split at h
  · rename_i h3
    obtain ⟨s₁, h4, h⟩ := Option.bind_eq_some_iff.mp h
    have h4 := runT_of h4
    have h3' : (s₀.abs.heap.isNs mainGlobals && s₀.abs.gens.size == 0) = true := h3
    rw [h3']
    have hn : s₀.abs.heap.objs.size = s₀.n := absHeap_size _ _ _
    rw [hn]
    dsimp only
    rw [h4]
    split at h
    · rename_i h5
      show ((some s₁.abs).bind _).map _ = _
      dsimp only [Option.bind]
      rw [h5]
      exact h
    · cases h
  · cases h
end
section
open PySem PySem.W PyProof.Rows
noncomputable def q : Program := view P [36]
noncomputable def loose : List Str := ["deque", "_wall", "_raise_serialization_error", "_escape_attrib", "_escape_attrib_html", "_escape_attrib_c14n", "_whence", "_index", "UnsupportedOperation", "IOBase", "BufferedIOBase", "TextIOBase", "BytesIO", "StringIO", "_kind", "_fspath", "_check_arg_types", "isabs", "join", "dirname", "shlex", "split", "unorderable_list_difference", "_law_pairs", "_law_escaped", "_law_plain", "_law_read", "_law_odd", "_law_bare", "_law_words"]
noncomputable def Xt (s : Shared) : Bool := xlAt q [] s && recOk [] s
theorem hmods : importedModules P.main.body = [("_collections" : Str)] := by kernel_rfl
theorem hnp : P.main.body.any namesNumpy = false := by kernel_rfl
theorem hfen (s : Shared) : fenceModules? P s = fenceModule? "_collections" s := by
  unfold fenceModules?
  rw [hmods, hnp]
  unfold fenceAll?
  cases fenceModule? "_collections" s <;> rfl
/-- statements of the text by their places -/
noncomputable def topAt (i : Nat) : Stmt := (P.main.body[i]?).getD default
noncomputable def inAt (i j : Nat) : Stmt := match topAt i with
  | .ClassDef _ _ _ b .. => (b[j]?).getD default
  | _ => default
noncomputable def sArgs : Stmt → Arguments
  | .FunctionDef _ a .. => a
  | _ => default
noncomputable def sBody : Stmt → List Stmt
  | .FunctionDef _ _ b .. => b
  | _ => []
noncomputable def sScope : Stmt → Scope
  | .FunctionDef _ _ _ _ _ _ sc .. => sc
  | _ => default
noncomputable abbrev en (P : Params) (x : Str) (t : Tok) (v : Value) : DictEntry := ⟨PyData.keyHash P x, .str x t, v⟩
noncomputable abbrev ko2 (P : Params) : Obj := ⟨.none, none, .dict (List.toArray [en P "\x69mport.loaded._collections" 185 (.bool true), en P "class._frozen_importlib.BuiltinImporter" 187 (.ref 15), en P "watched.\x69mport" 208 (.ref 19), en P "class._frozen_importlib.ModuleSpec" 218 (.ref 23), en P "sys.modules.booked-epoch" 247 (.int 3 0), en P "sys.modules.landed._collections" 248 (.bool true), en P "\x69mport.later-laid._collections" 263 (.bool true), en P "watched.library" 265 (.ref 28), en P "watched.library-objects" 0 (.str "\r" 0), en P "watched.library-deep._collections" 266 (.str "\x04\x00\x00\x0c\x04\x00\x00\x0c\x04\x00\x00\x03\x04\x00\x00\x0c\x08\x04dict\x02" 0), en P "type.__subclasses__.OSError.0" 352 (.int 91 0), en P "type.__subclasses__.OSError.n" 353 (.int 1 0)]) 12, List.toArray []⟩
noncomputable abbrev ko3 (P : Params) : Obj := ⟨.type "dict", none, .dict (List.toArray [en P "__name__" 165 (.str "law_of0092_01" 1194), en P "__doc__" 166 .none, en P "__package__" 167 .none, en P "__loader__" 168 (.builtin "__main__.__loader__#opaque"), en P "__spec__" 169 .none, en P "__annotations__" 170 (.ref 6), en P "__builtins__" 171 (.ref 4), en P "__file__" 173 (.str "/claim/cut.py" 172), en P "__cached__" 174 .none, en P "deque" 272 (.type "collections.deque"), en P "_wall" 285 (.ref 39), en P "_raise_serialization_error" 294 (.ref 46), en P "_escape_attrib" 301 (.ref 53), en P "_escape_attrib_html" 308 (.ref 60), en P "_escape_attrib_c14n" 315 (.ref 67), en P "_whence" 325 (.ref 74), en P "_index" 333 (.ref 81), en P "UnsupportedOperation" 355 (.ref 91), en P "IOBase" 387 (.ref 111), en P "BufferedIOBase" 405 (.ref 126), en P "TextIOBase" 423 (.ref 138), en P "BytesIO" 685 (.ref 368), en P "StringIO" 972 (.ref 615), en P "_kind" 983 (.ref 624), en P "_fspath" 992 (.ref 631), en P "_check_arg_types" 1002 (.ref 638), en P "isabs" 1009 (.ref 645), en P "join" 1020 (.ref 652), en P "dirname" 1030 (.ref 659), en P "shlex" 1171 (.ref 750), en P "split" 1181 (.ref 762), en P "unorderable_list_difference" 1193 (.ref 769), en P "_law_pairs" 1201 (.ref 774), en P "_law_escaped" 1209 (.ref 781), en P "_law_plain" 1215 (.ref 786), en P "_law_read" 1221 (.ref 791), en P "_law_odd" 1228 (.ref 798), en P "_law_bare" 1237 (.ref 805), en P "_law_words" 1255 (.ref 812), en P "law" 1261 (.ref 817)]) 40, List.toArray []⟩
noncomputable abbrev ko52 (P : Params) : Obj := ⟨.type "code", none, .fields (List.toArray [.str "_escape_attrib" 295, .str "_escape_attrib" 296, .str "/claim/cut.py" 297, .int 8 0, .int 1 0, .int 0 0, .int 0 0, .int 3 0, .ref 47, .bool true, .int 273 0, .ref 48, .none, .ref 49, .ref 50, .ref 51, .int 299 0, .int 8 0, .str "/claim/cut.py" 300]), List.toArray []⟩
noncomputable abbrev ko53 (P : Params) : Obj := ⟨.type "function", none, .func (fnOf "_escape_attrib" "_escape_attrib" (sArgs (topAt 4)) (sBody (topAt 4)) (sScope (topAt 4)) .none .none .none (.str "cpy313.xml.etree.ElementTree" 286) none (.ref 52) .none), List.toArray []⟩
noncomputable abbrev ko59 (P : Params) : Obj := ⟨.type "code", none, .fields (List.toArray [.str "_escape_attrib_html" 302, .str "_escape_attrib_html" 303, .str "/claim/cut.py" 304, .int 27 0, .int 1 0, .int 0 0, .int 0 0, .int 3 0, .ref 54, .bool true, .int 273 0, .ref 55, .none, .ref 56, .ref 57, .ref 58, .int 306 0, .int 27 0, .str "/claim/cut.py" 307]), List.toArray []⟩
noncomputable abbrev ko60 (P : Params) : Obj := ⟨.type "function", none, .func (fnOf "_escape_attrib_html" "_escape_attrib_html" (sArgs (topAt 5)) (sBody (topAt 5)) (sScope (topAt 5)) .none .none .none (.str "cpy313.xml.etree.ElementTree" 286) none (.ref 59) .none), List.toArray []⟩
noncomputable abbrev ko66 (P : Params) : Obj := ⟨.type "code", none, .fields (List.toArray [.str "_escape_attrib_c14n" 309, .str "_escape_attrib_c14n" 310, .str "/claim/cut.py" 311, .int 38 0, .int 1 0, .int 0 0, .int 0 0, .int 3 0, .ref 61, .bool true, .int 273 0, .ref 62, .none, .ref 63, .ref 64, .ref 65, .int 313 0, .int 38 0, .str "/claim/cut.py" 314]), List.toArray []⟩
noncomputable abbrev ko67 (P : Params) : Obj := ⟨.type "function", none, .func (fnOf "_escape_attrib_c14n" "_escape_attrib_c14n" (sArgs (topAt 6)) (sBody (topAt 6)) (sScope (topAt 6)) .none .none .none (.str "cpy313.xml.etree.ElementTree" 286) none (.ref 66) .none), List.toArray []⟩
noncomputable abbrev ko80 (P : Params) : Obj := ⟨.type "code", none, .fields (List.toArray [.str "_index" 326, .str "_index" 327, .str "/claim/cut.py" 328, .int 61 0, .int 2 0, .int 0 0, .int 0 0, .int 3 0, .ref 75, .bool true, .int 273 0, .ref 76, .none, .ref 77, .ref 78, .ref 79, .int 331 0, .int 61 0, .str "/claim/cut.py" 332]), List.toArray []⟩
noncomputable abbrev ko81 (P : Params) : Obj := ⟨.type "function", none, .func (fnOf "_index" "_index" (sArgs (topAt 9)) (sBody (topAt 9)) (sScope (topAt 9)) .none .none .none (.str "io" 316) none (.ref 80) .none), List.toArray []⟩
noncomputable abbrev ko90 (P : Params) : Obj := ⟨.type "dict", none, .dict (List.toArray [en P "__module__" 341 (.str "io" 346), en P "__firstlineno__" 345 (.int 68 344), en P "__static_attributes__" 348 (.ref 89), en P "__weakref__" 350 (.ref 92), en P "__doc__" 351 .none]) 3, List.toArray []⟩
noncomputable abbrev ko91 (P : Params) : Obj := ⟨.type "type", none, .cls ⟨"UnsupportedOperation", [.type "OSError", .type "ValueError"], [.ref 91, .type "OSError", .type "ValueError", .type "Exception", .type "BaseException", .type "object"], 90, "UnsupportedOperation", true, [], [], false, none, false⟩, List.toArray [(some (.ref 82)), none, (some (.str "UnsupportedOperation" 334)), (some (.str "UnsupportedOperation" 342)), (some (.builtin "OSError.__new__")), (some (.bool true))]⟩
noncomputable abbrev ko107 (P : Params) : Obj := ⟨.type "code", none, .fields (List.toArray [.str "__new__" 370, .str "IOBase.__new__" 371, .str "/claim/cut.py" 372, .int 73 0, .int 1 0, .int 1 0, .int 0 0, .int 15 0, .ref 102, .bool true, .int 273 0, .ref 103, .none, .ref 104, .ref 105, .ref 106, .int 376 0, .int 73 0, .str "/claim/cut.py" 377]), List.toArray []⟩
noncomputable abbrev ko108 (P : Params) : Obj := ⟨.type "function", none, .func (fnOf "__new__" "IOBase.__new__" (sArgs (inAt 11 1)) (sBody (inAt 11 1)) (sScope (inAt 11 1)) .none .none .none (.str "io" 316) none (.ref 107) .none), List.toArray []⟩
noncomputable abbrev ko110 (P : Params) : Obj := ⟨.type "dict", none, .dict (List.toArray [en P "__module__" 363 (.str "io" 368), en P "__firstlineno__" 367 (.int 70 366), en P "__new__" 378 (.ref 112), en P "__static_attributes__" 379 (.ref 109), en P "__dict__" 382 (.ref 113), en P "__weakref__" 384 (.ref 114), en P "__doc__" 385 .none]) 4, List.toArray []⟩
noncomputable abbrev ko111 (P : Params) : Obj := ⟨.type "type", none, .cls ⟨"IOBase", [.type "object"], [.ref 111, .type "object"], 110, "IOBase", true, [], [.ref 126, .ref 138], false, none, false⟩, List.toArray [none, none, (some (.str "IOBase" 356)), (some (.str "IOBase" 364)), (some .none), (some (.bool true))]⟩
noncomputable abbrev ko112 (P : Params) : Obj := ⟨.type "staticmethod", none, .fields (List.toArray [.ref 108]), List.toArray []⟩
noncomputable abbrev ko113 (P : Params) : Obj := ⟨.type "getset_descriptor", none, .fields (List.toArray [.str "__dict__" 381, .ref 111, .builtin "function.__dict__", .builtin "function.__dict__#set"]), List.toArray []⟩
noncomputable abbrev ko114 (P : Params) : Obj := ⟨.type "getset_descriptor", none, .fields (List.toArray [.str "__weakref__" 383, .ref 111, .builtin "ExceptionGroup.__weakref__", .none]), List.toArray []⟩
noncomputable abbrev ko137 (P : Params) : Obj := ⟨.type "dict", none, .dict (List.toArray [en P "__module__" 413 (.str "io" 418), en P "__firstlineno__" 417 (.int 79 416), en P "__static_attributes__" 420 (.ref 136), en P "__doc__" 421 .none]) 2, List.toArray []⟩
noncomputable abbrev ko138 (P : Params) : Obj := ⟨.type "type", none, .cls ⟨"TextIOBase", [.ref 111], [.ref 138, .ref 111, .type "object"], 137, "TextIOBase", true, [], [.ref 615], false, none, false⟩, List.toArray [(some (.ref 129)), none, (some (.str "TextIOBase" 406)), (some (.str "TextIOBase" 414)), (some .none), (some (.bool true))]⟩
noncomputable abbrev ko368 (P : Params) : Obj := ⟨.type "type", none, .cls ⟨"BytesIO", [.ref 126], [.ref 368, .ref 126, .ref 111, .type "object"], 367, "BytesIO", true, [], [], false, none, false⟩, List.toArray [(some (.ref 141)), none, (some (.str "BytesIO" 424)), (some (.str "BytesIO" 432)), (some .none), (some (.bool true))]⟩
noncomputable abbrev ko378 (P : Params) : Obj := ⟨.type "tuple", none, .seq (List.toArray [.str "" 700, .str "\n" 701]) 0, List.toArray []⟩
noncomputable abbrev ko384 (P : Params) : Obj := ⟨.type "code", none, .fields (List.toArray [.str "__init__" 702, .str "StringIO.__init__" 703, .str "/claim/cut.py" 704, .int 254 0, .int 3 0, .int 0 0, .int 0 0, .int 3 0, .ref 379, .bool true, .int 273 0, .ref 380, .none, .ref 381, .ref 382, .ref 383, .int 708 0, .int 254 0, .str "/claim/cut.py" 709]), List.toArray []⟩
noncomputable abbrev ko385 (P : Params) : Obj := ⟨.type "function", none, .func (fnOf "__init__" "StringIO.__init__" (sArgs (inAt 15 1)) (sBody (inAt 15 1)) (sScope (inAt 15 1)) (.ref 378) .none .none (.str "io" 316) none (.ref 384) .none), List.toArray []⟩
noncomputable abbrev ko391 (P : Params) : Obj := ⟨.type "code", none, .fields (List.toArray [.str "__translated" 711, .str "StringIO.__translated" 712, .str "/claim/cut.py" 713, .int 267 0, .int 2 0, .int 0 0, .int 0 0, .int 3 0, .ref 386, .bool true, .int 273 0, .ref 387, .none, .ref 388, .ref 389, .ref 390, .int 717 0, .int 267 0, .str "/claim/cut.py" 718]), List.toArray []⟩
noncomputable abbrev ko392 (P : Params) : Obj := ⟨.type "function", none, .func (fnOf "__translated" "StringIO.__translated" (sArgs (inAt 15 2)) (sBody (inAt 15 2)) (sScope (inAt 15 2)) .none .none .none (.str "io" 316) none (.ref 391) .none), List.toArray []⟩
noncomputable abbrev ko398 (P : Params) : Obj := ⟨.type "code", none, .fields (List.toArray [.str "__check" 720, .str "StringIO.__check" 721, .str "/claim/cut.py" 722, .int 275 0, .int 1 0, .int 0 0, .int 0 0, .int 3 0, .ref 393, .bool true, .int 273 0, .ref 394, .none, .ref 395, .ref 396, .ref 397, .int 724 0, .int 275 0, .str "/claim/cut.py" 725]), List.toArray []⟩
noncomputable abbrev ko399 (P : Params) : Obj := ⟨.type "function", none, .func (fnOf "__check" "StringIO.__check" (sArgs (inAt 15 3)) (sBody (inAt 15 3)) (sScope (inAt 15 3)) .none .none .none (.str "io" 316) none (.ref 398) .none), List.toArray []⟩
noncomputable abbrev ko554 (P : Params) : Obj := ⟨.type "tuple", none, .seq (List.toArray [.int (-1) 893]) 0, List.toArray []⟩
noncomputable abbrev ko560 (P : Params) : Obj := ⟨.type "code", none, .fields (List.toArray [.str "read" 894, .str "StringIO.read" 895, .str "/claim/cut.py" 896, .int 397 0, .int 2 0, .int 2 0, .int 0 0, .int 3 0, .ref 555, .bool true, .int 273 0, .ref 556, .none, .ref 557, .ref 558, .ref 559, .int 901 0, .int 397 0, .str "/claim/cut.py" 902]), List.toArray []⟩
noncomputable abbrev ko561 (P : Params) : Obj := ⟨.type "function", none, .func (fnOf "read" "StringIO.read" (sArgs (inAt 15 25)) (sBody (inAt 15 25)) (sScope (inAt 15 25)) (.ref 554) .none .none (.str "io" 316) none (.ref 560) .none), List.toArray []⟩
noncomputable abbrev ko614 (P : Params) : Obj := ⟨.type "dict", none, .dict (List.toArray [en P "__module__" 693 (.str "_io" 698), en P "__firstlineno__" 697 (.int 251 696), en P "__init__" 710 (.ref 385), en P "_StringIO__translated" 719 (.ref 392), en P "_StringIO__check" 726 (.ref 399), en P "_StringIO__check_dot" 733 (.ref 406), en P "_StringIO__line" 748 (.ref 413), en P "closed" 756 (.ref 421), en P "line_buffering" 764 (.ref 429), en P "newlines" 772 (.ref 437), en P "encoding" 780 (.ref 445), en P "errors" 788 (.ref 453), en P "close" 795 (.ref 460), en P "__enter__" 802 (.ref 467), en P "__exit__" 810 (.ref 474), en P "readable" 817 (.ref 481), en P "writable" 824 (.ref 488), en P "seekable" 831 (.ref 495), en P "isatty" 838 (.ref 502), en P "flush" 845 (.ref 509), en P "fileno" 852 (.ref 516), en P "detach" 859 (.ref 523), en P "getvalue" 866 (.ref 530), en P "tell" 873 (.ref 537), en P "seek" 883 (.ref 545), en P "truncate" 891 (.ref 553), en P "read" 903 (.ref 561), en P "readline" 913 (.ref 569), en P "readlines" 923 (.ref 577), en P "__iter__" 930 (.ref 584), en P "__next__" 938 (.ref 591), en P "write" 950 (.ref 598), en P "writelines" 958 (.ref 605), en P "__repr__" 965 (.ref 612), en P "__static_attributes__" 969 (.ref 613), en P "__doc__" 970 .none]) 2, List.toArray []⟩
noncomputable abbrev ko615 (P : Params) : Obj := ⟨.type "type", none, .cls ⟨"StringIO", [.ref 138], [.ref 615, .ref 138, .ref 111, .type "object"], 614, "StringIO", true, [], [], false, none, false⟩, List.toArray [(some (.ref 371)), none, (some (.str "StringIO" 686)), (some (.str "StringIO" 694)), (some .none), (some (.bool true))]⟩
noncomputable abbrev ko667 (P : Params) : Obj := ⟨.type "tuple", none, .seq (List.toArray [.none, .none, .bool false, .bool false]) 0, List.toArray []⟩
noncomputable abbrev ko673 (P : Params) : Obj := ⟨.type "code", none, .fields (List.toArray [.str "__init__" 1045, .str "shlex.__init__" 1046, .str "/claim/cut.py" 1047, .int 522 0, .int 5 0, .int 0 0, .int 0 0, .int 3 0, .ref 668, .bool true, .int 273 0, .ref 669, .none, .ref 670, .ref 671, .ref 672, .int 1054 0, .int 522 0, .str "/claim/cut.py" 1055]), List.toArray []⟩
noncomputable abbrev ko674 (P : Params) : Obj := ⟨.type "function", none, .func (fnOf "__init__" "shlex.__init__" (sArgs (inAt 24 0)) (sBody (inAt 24 0)) (sScope (inAt 24 0)) (.ref 667) .none .none (.str "cpy313.shlex" 1031) none (.ref 673) .none), List.toArray []⟩
noncomputable abbrev ko680 (P : Params) : Obj := ⟨.type "code", none, .fields (List.toArray [.str "punctuation_chars" 1057, .str "shlex.punctuation_chars" 1058, .str "/claim/cut.py" 1059, .int 563 0, .int 1 0, .int 0 0, .int 0 0, .int 3 0, .ref 675, .bool true, .int 273 0, .ref 676, .none, .ref 677, .ref 678, .ref 679, .int 1061 0, .int 563 0, .str "/claim/cut.py" 1062]), List.toArray []⟩
noncomputable abbrev ko681 (P : Params) : Obj := ⟨.type "function", none, .func (fnOf "punctuation_chars" "shlex.punctuation_chars" (sArgs (inAt 24 1)) (sBody (inAt 24 1)) (sScope (inAt 24 1)) .none .none .none (.str "cpy313.shlex" 1031) none (.ref 680) .none), List.toArray []⟩
noncomputable abbrev ko682 (P : Params) : Obj := ⟨.type "property", none, .fields (List.toArray [.ref 681, .none, .none, .none, .str "punctuation_chars" 1064, .bool false]), List.toArray []⟩
noncomputable abbrev ko710 (P : Params) : Obj := ⟨.type "code", none, .fields (List.toArray [.str "get_token" 1089, .str "shlex.get_token" 1090, .str "/claim/cut.py" 1091, .int 590 0, .int 1 0, .int 0 0, .int 0 0, .int 3 0, .ref 705, .bool true, .int 273 0, .ref 706, .none, .ref 707, .ref 708, .ref 709, .int 1098 0, .int 590 0, .str "/claim/cut.py" 1099]), List.toArray []⟩
noncomputable abbrev ko711 (P : Params) : Obj := ⟨.type "function", none, .func (fnOf "get_token" "shlex.get_token" (sArgs (inAt 24 5)) (sBody (inAt 24 5)) (sScope (inAt 24 5)) .none .none .none (.str "cpy313.shlex" 1031) none (.ref 710) .none), List.toArray []⟩
noncomputable abbrev ko717 (P : Params) : Obj := ⟨.type "code", none, .fields (List.toArray [.str "read_token" 1101, .str "shlex.read_token" 1102, .str "/claim/cut.py" 1103, .int 617 0, .int 1 0, .int 0 0, .int 0 0, .int 3 0, .ref 712, .bool true, .int 273 0, .ref 713, .none, .ref 714, .ref 715, .ref 716, .int 1109 0, .int 617 0, .str "/claim/cut.py" 1110]), List.toArray []⟩
noncomputable abbrev ko718 (P : Params) : Obj := ⟨.type "function", none, .func (fnOf "read_token" "shlex.read_token" (sArgs (inAt 24 6)) (sBody (inAt 24 6)) (sScope (inAt 24 6)) .none .none .none (.str "cpy313.shlex" 1031) none (.ref 717) .none), List.toArray []⟩
noncomputable abbrev ko739 (P : Params) : Obj := ⟨.type "code", none, .fields (List.toArray [.str "__iter__" 1129, .str "shlex.__iter__" 1130, .str "/claim/cut.py" 1131, .int 764 0, .int 1 0, .int 0 0, .int 0 0, .int 3 0, .ref 734, .bool true, .int 273 0, .ref 735, .none, .ref 736, .ref 737, .ref 738, .int 1133 0, .int 764 0, .str "/claim/cut.py" 1134]), List.toArray []⟩
noncomputable abbrev ko740 (P : Params) : Obj := ⟨.type "function", none, .func (fnOf "__iter__" "shlex.__iter__" (sArgs (inAt 24 9)) (sBody (inAt 24 9)) (sScope (inAt 24 9)) .none .none .none (.str "cpy313.shlex" 1031) none (.ref 739) .none), List.toArray []⟩
noncomputable abbrev ko746 (P : Params) : Obj := ⟨.type "code", none, .fields (List.toArray [.str "__next__" 1136, .str "shlex.__next__" 1137, .str "/claim/cut.py" 1138, .int 767 0, .int 1 0, .int 0 0, .int 0 0, .int 3 0, .ref 741, .bool true, .int 273 0, .ref 742, .none, .ref 743, .ref 744, .ref 745, .int 1141 0, .int 767 0, .str "/claim/cut.py" 1142]), List.toArray []⟩
noncomputable abbrev ko747 (P : Params) : Obj := ⟨.type "function", none, .func (fnOf "__next__" "shlex.__next__" (sArgs (inAt 24 10)) (sBody (inAt 24 10)) (sScope (inAt 24 10)) .none .none .none (.str "cpy313.shlex" 1031) none (.ref 746) .none), List.toArray []⟩
noncomputable abbrev ko749 (P : Params) : Obj := ⟨.type "dict", none, .dict (List.toArray [en P "__module__" 1040 (.str "cpy313.shlex" 1031), en P "__firstlineno__" 1044 (.int 520 1043), en P "__init__" 1056 (.ref 674), en P "punctuation_chars" 1064 (.ref 682), en P "push_token" 1072 (.ref 689), en P "push_source" 1081 (.ref 697), en P "pop_source" 1088 (.ref 704), en P "get_token" 1100 (.ref 711), en P "read_token" 1111 (.ref 718), en P "sourcehook" 1119 (.ref 725), en P "error_leader" 1128 (.ref 733), en P "__iter__" 1135 (.ref 740), en P "__next__" 1143 (.ref 747), en P "__static_attributes__" 1164 (.ref 748), en P "__dict__" 1166 (.ref 751), en P "__weakref__" 1168 (.ref 752), en P "__doc__" 1169 .none]) 4, List.toArray []⟩
noncomputable abbrev ko750 (P : Params) : Obj := ⟨.type "type", none, .cls ⟨"shlex", [.type "object"], [.ref 750, .type "object"], 749, "shlex", true, [], [], false, none, false⟩, List.toArray [none, none, (some (.str "shlex" 1033)), (some (.str "shlex" 1041)), (some (.builtin "object.__new__")), (some (.bool true))]⟩
noncomputable abbrev ko755 (P : Params) : Obj := ⟨.type "tuple", none, .seq (List.toArray [.bool false, .bool true]) 0, List.toArray []⟩
noncomputable abbrev ko761 (P : Params) : Obj := ⟨.type "code", none, .fields (List.toArray [.str "split" 1172, .str "split" 1173, .str "/claim/cut.py" 1174, .int 772 0, .int 3 0, .int 0 0, .int 0 0, .int 3 0, .ref 756, .bool true, .int 273 0, .ref 757, .none, .ref 758, .ref 759, .ref 760, .int 1179 0, .int 772 0, .str "/claim/cut.py" 1180]), List.toArray []⟩
noncomputable abbrev ko762 (P : Params) : Obj := ⟨.type "function", none, .func (fnOf "split" "split" (sArgs (topAt 25)) (sBody (topAt 25)) (sScope (topAt 25)) (.ref 755) .none .none (.str "cpy313.shlex" 1031) none (.ref 761) .none), List.toArray []⟩
noncomputable abbrev ko768 (P : Params) : Obj := ⟨.type "code", none, .fields (List.toArray [.str "unorderable_list_difference" 1184, .str "unorderable_list_difference" 1185, .str "/claim/cut.py" 1186, .int 781 0, .int 2 0, .int 0 0, .int 0 0, .int 3 0, .ref 763, .bool true, .int 273 0, .ref 764, .none, .ref 765, .ref 766, .ref 767, .int 1191 0, .int 781 0, .str "/claim/cut.py" 1192]), List.toArray []⟩
noncomputable abbrev ko769 (P : Params) : Obj := ⟨.type "function", none, .func (fnOf "unorderable_list_difference" "unorderable_list_difference" (sArgs (topAt 27)) (sBody (topAt 27)) (sScope (topAt 27)) .none .none .none (.str "cpy313.unittest.util" 1182) none (.ref 768) .none), List.toArray []⟩
noncomputable abbrev ko773 (P : Params) : Obj := ⟨.type "code", none, .fields (List.toArray [.str "_law_pairs" 1196, .str "_law_pairs" 1197, .str "/claim/cut.py" 1198, .int 791 0, .int 1 0, .int 0 0, .int 0 0, .int 3 0, .ref 770, .bool true, .int 273 0, .ref 771, .none, .none, .none, .ref 772, .int 1199 0, .int 791 0, .str "/claim/cut.py" 1200]), List.toArray []⟩
noncomputable abbrev ko774 (P : Params) : Obj := ⟨.type "function", none, .func (fnOf "_law_pairs" "_law_pairs" (sArgs (topAt 29)) (sBody (topAt 29)) (sScope (topAt 29)) .none .none .none (.str "law_of0092_01" 1194) none (.ref 773) .none), List.toArray []⟩
noncomputable abbrev ko780 (P : Params) : Obj := ⟨.type "code", none, .fields (List.toArray [.str "_law_escaped" 1202, .str "_law_escaped" 1203, .str "/claim/cut.py" 1204, .int 800 0, .int 2 0, .int 0 0, .int 0 0, .int 3 0, .ref 775, .bool true, .int 273 0, .ref 776, .none, .ref 777, .ref 778, .ref 779, .int 1207 0, .int 800 0, .str "/claim/cut.py" 1208]), List.toArray []⟩
noncomputable abbrev ko781 (P : Params) : Obj := ⟨.type "function", none, .func (fnOf "_law_escaped" "_law_escaped" (sArgs (topAt 30)) (sBody (topAt 30)) (sScope (topAt 30)) .none .none .none (.str "law_of0092_01" 1194) none (.ref 780) .none), List.toArray []⟩
noncomputable abbrev ko785 (P : Params) : Obj := ⟨.type "code", none, .fields (List.toArray [.str "_law_plain" 1210, .str "_law_plain" 1211, .str "/claim/cut.py" 1212, .int 806 0, .int 2 0, .int 0 0, .int 0 0, .int 3 0, .ref 782, .bool true, .int 273 0, .ref 783, .none, .none, .none, .ref 784, .int 1213 0, .int 806 0, .str "/claim/cut.py" 1214]), List.toArray []⟩
noncomputable abbrev ko786 (P : Params) : Obj := ⟨.type "function", none, .func (fnOf "_law_plain" "_law_plain" (sArgs (topAt 31)) (sBody (topAt 31)) (sScope (topAt 31)) .none .none .none (.str "law_of0092_01" 1194) none (.ref 785) .none), List.toArray []⟩
noncomputable abbrev ko790 (P : Params) : Obj := ⟨.type "code", none, .fields (List.toArray [.str "_law_read" 1216, .str "_law_read" 1217, .str "/claim/cut.py" 1218, .int 813 0, .int 2 0, .int 0 0, .int 0 0, .int 3 0, .ref 787, .bool true, .int 273 0, .ref 788, .none, .none, .none, .ref 789, .int 1219 0, .int 813 0, .str "/claim/cut.py" 1220]), List.toArray []⟩
noncomputable abbrev ko791 (P : Params) : Obj := ⟨.type "function", none, .func (fnOf "_law_read" "_law_read" (sArgs (topAt 32)) (sBody (topAt 32)) (sScope (topAt 32)) .none .none .none (.str "law_of0092_01" 1194) none (.ref 790) .none), List.toArray []⟩
noncomputable abbrev ko797 (P : Params) : Obj := ⟨.type "code", none, .fields (List.toArray [.str "_law_odd" 1222, .str "_law_odd" 1223, .str "/claim/cut.py" 1224, .int 819 0, .int 1 0, .int 0 0, .int 0 0, .int 3 0, .ref 792, .bool true, .int 273 0, .ref 793, .none, .ref 794, .ref 795, .ref 796, .int 1226 0, .int 819 0, .str "/claim/cut.py" 1227]), List.toArray []⟩
noncomputable abbrev ko798 (P : Params) : Obj := ⟨.type "function", none, .func (fnOf "_law_odd" "_law_odd" (sArgs (topAt 33)) (sBody (topAt 33)) (sScope (topAt 33)) .none .none .none (.str "law_of0092_01" 1194) none (.ref 797) .none), List.toArray []⟩
noncomputable abbrev ko804 (P : Params) : Obj := ⟨.type "code", none, .fields (List.toArray [.str "_law_bare" 1229, .str "_law_bare" 1230, .str "/claim/cut.py" 1231, .int 821 0, .int 1 0, .int 0 0, .int 0 0, .int 3 0, .ref 799, .bool true, .int 273 0, .ref 800, .none, .ref 801, .ref 802, .ref 803, .int 1235 0, .int 821 0, .str "/claim/cut.py" 1236]), List.toArray []⟩
noncomputable abbrev ko805 (P : Params) : Obj := ⟨.type "function", none, .func (fnOf "_law_bare" "_law_bare" (sArgs (topAt 34)) (sBody (topAt 34)) (sScope (topAt 34)) .none .none .none (.str "law_of0092_01" 1194) none (.ref 804) .none), List.toArray []⟩
noncomputable abbrev ko811 (P : Params) : Obj := ⟨.type "code", none, .fields (List.toArray [.str "_law_words" 1238, .str "_law_words" 1239, .str "/claim/cut.py" 1240, .int 832 0, .int 2 0, .int 0 0, .int 0 0, .int 3 0, .ref 806, .bool true, .int 273 0, .ref 807, .none, .ref 808, .ref 809, .ref 810, .int 1253 0, .int 832 0, .str "/claim/cut.py" 1254]), List.toArray []⟩
noncomputable abbrev ko812 (P : Params) : Obj := ⟨.type "function", none, .func (fnOf "_law_words" "_law_words" (sArgs (topAt 35)) (sBody (topAt 35)) (sScope (topAt 35)) .none .none .none (.str "law_of0092_01" 1194) none (.ref 811) .none), List.toArray []⟩
noncomputable abbrev ko816 (P : Params) : Obj := ⟨.type "code", none, .fields (List.toArray [.str "law" 1256, .str "law" 1257, .str "/claim/cut.py" 1258, .int 857 0, .int 1 0, .int 0 0, .int 0 0, .int 3 0, .ref 813, .bool true, .int 273 0, .ref 814, .none, .none, .none, .ref 815, .int 1259 0, .int 857 0, .str "/claim/cut.py" 1260]), List.toArray []⟩
noncomputable abbrev ko817 (P : Params) : Obj := ⟨.type "function", none, .func (fnOf "law" "law" (sArgs (topAt 36)) (sBody (topAt 36)) (sScope (topAt 36)) .none .none .none (.str "law_of0092_01" 1194) none (.ref 816) .none), List.toArray []⟩
noncomputable def K (P : Params) : Frag :=
  (nat_lit 2, ko2 P) ::
  (nat_lit 3, ko3 P) ::
  (nat_lit 52, ko52 P) ::
  (nat_lit 53, ko53 P) ::
  (nat_lit 59, ko59 P) ::
  (nat_lit 60, ko60 P) ::
  (nat_lit 66, ko66 P) ::
  (nat_lit 67, ko67 P) ::
  (nat_lit 80, ko80 P) ::
  (nat_lit 81, ko81 P) ::
  (nat_lit 90, ko90 P) ::
  (nat_lit 91, ko91 P) ::
  (nat_lit 107, ko107 P) ::
  (nat_lit 108, ko108 P) ::
  (nat_lit 110, ko110 P) ::
  (nat_lit 111, ko111 P) ::
  (nat_lit 112, ko112 P) ::
  (nat_lit 113, ko113 P) ::
  (nat_lit 114, ko114 P) ::
  (nat_lit 137, ko137 P) ::
  (nat_lit 138, ko138 P) ::
  (nat_lit 368, ko368 P) ::
  (nat_lit 378, ko378 P) ::
  (nat_lit 384, ko384 P) ::
  (nat_lit 385, ko385 P) ::
  (nat_lit 391, ko391 P) ::
  (nat_lit 392, ko392 P) ::
  (nat_lit 398, ko398 P) ::
  (nat_lit 399, ko399 P) ::
  (nat_lit 554, ko554 P) ::
  (nat_lit 560, ko560 P) ::
  (nat_lit 561, ko561 P) ::
  (nat_lit 614, ko614 P) ::
  (nat_lit 615, ko615 P) ::
  (nat_lit 667, ko667 P) ::
  (nat_lit 673, ko673 P) ::
  (nat_lit 674, ko674 P) ::
  (nat_lit 680, ko680 P) ::
  (nat_lit 681, ko681 P) ::
  (nat_lit 682, ko682 P) ::
  (nat_lit 710, ko710 P) ::
  (nat_lit 711, ko711 P) ::
  (nat_lit 717, ko717 P) ::
  (nat_lit 718, ko718 P) ::
  (nat_lit 739, ko739 P) ::
  (nat_lit 740, ko740 P) ::
  (nat_lit 746, ko746 P) ::
  (nat_lit 747, ko747 P) ::
  (nat_lit 749, ko749 P) ::
  (nat_lit 750, ko750 P) ::
  (nat_lit 755, ko755 P) ::
  (nat_lit 761, ko761 P) ::
  (nat_lit 762, ko762 P) ::
  (nat_lit 768, ko768 P) ::
  (nat_lit 769, ko769 P) ::
  (nat_lit 773, ko773 P) ::
  (nat_lit 774, ko774 P) ::
  (nat_lit 780, ko780 P) ::
  (nat_lit 781, ko781 P) ::
  (nat_lit 785, ko785 P) ::
  (nat_lit 786, ko786 P) ::
  (nat_lit 790, ko790 P) ::
  (nat_lit 791, ko791 P) ::
  (nat_lit 797, ko797 P) ::
  (nat_lit 798, ko798 P) ::
  (nat_lit 804, ko804 P) ::
  (nat_lit 805, ko805 P) ::
  (nat_lit 811, ko811 P) ::
  (nat_lit 812, ko812 P) ::
  (nat_lit 816, ko816 P) ::
  (nat_lit 817, ko817 P) :: []

noncomputable def Kas : List Addr := nat_lit 2 :: nat_lit 3 :: nat_lit 52 :: nat_lit 53 :: nat_lit 59 :: nat_lit 60 :: nat_lit 66 :: nat_lit 67 :: nat_lit 80 :: nat_lit 81 :: nat_lit 90 :: nat_lit 91 :: nat_lit 107 :: nat_lit 108 :: nat_lit 110 :: nat_lit 111 :: nat_lit 112 :: nat_lit 113 :: nat_lit 114 :: nat_lit 137 :: nat_lit 138 :: nat_lit 368 :: nat_lit 378 :: nat_lit 384 :: nat_lit 385 :: nat_lit 391 :: nat_lit 392 :: nat_lit 398 :: nat_lit 399 :: nat_lit 554 :: nat_lit 560 :: nat_lit 561 :: nat_lit 614 :: nat_lit 615 :: nat_lit 667 :: nat_lit 673 :: nat_lit 674 :: nat_lit 680 :: nat_lit 681 :: nat_lit 682 :: nat_lit 710 :: nat_lit 711 :: nat_lit 717 :: nat_lit 718 :: nat_lit 739 :: nat_lit 740 :: nat_lit 746 :: nat_lit 747 :: nat_lit 749 :: nat_lit 750 :: nat_lit 755 :: nat_lit 761 :: nat_lit 762 :: nat_lit 768 :: nat_lit 769 :: nat_lit 773 :: nat_lit 774 :: nat_lit 780 :: nat_lit 781 :: nat_lit 785 :: nat_lit 786 :: nat_lit 790 :: nat_lit 791 :: nat_lit 797 :: nat_lit 798 :: nat_lit 804 :: nat_lit 805 :: nat_lit 811 :: nat_lit 812 :: nat_lit 816 :: nat_lit 817 :: []

noncomputable abbrev hook : Hook := kmHook K Kas (fun _ => by kernel_rfl) []
theorem left : LeftO P q loose Xt hook.obs hook.val 10400 := by
  refine left_of (m := "_collections") hfen fun w => ?_
  rw [Fast.te10156331382660048174, Fast.te11892475500146522536, Fast.te14364793385576792824, Fast.te6613529449190102663, Fast.te3805553451399329143, Fast.te1435165496053646825, Fast.te4187177175401517315, Fast.te8920871248978507458]
  kernel_rfl
theorem said : PySem.Challenge.rw_of0092_01.wellSaid = true := by
  rw [Fast.te9446332074065402090]
  kernel_rfl
end
section
open PySem PySem.W PyProof.Rows
noncomputable abbrev row : OpenRow := PySem.Challenge.rw_of0092_01.row
noncomputable def sPos : Stmt → Pos
  | .FunctionDef _ _ _ _ _ _ _ _ _ p => p
  | _ => default
noncomputable def lawRec : DefRec × List (Str × Expr) := (⟨"law", sArgs (topAt 36), sBody (topAt 36), sScope (topAt 36), sPos (topAt 36)⟩, [])
theorem hd (walk : WalkO q loose (XL q []) hook.says row.toRowW lawRec.1 lawRec.2 fun f vs => PySem.call f vs) : PySem.Challenge.rw_of0092_01.Holds := by
  refine holds_law said fun said => ?_
  refine holds_open (q := q) (loose := loose) (Xt := Xt) (XP := XL q []) (Yf := hook.obs) (Ya := hook.val) (YP := hook.says) (N := 10400) (d := lawRec.1) (kwd := lawRec.2) left hook.of hook.keeps (fun s e => xl_of s (Bool.and_eq_true_iff.mp e).1) XL.keeps (by kernel_rfl) (by kernel_rfl) (by kernel_rfl) (fun s e => recFacts_of (Bool.and_eq_true_iff.mp e).2) (by kernel_rfl) said (by kernel_rfl) ⟨rfl, rfl, rfl, rfl, rfl, by decide +kernel⟩ ?hw walk
  case hw => w_witness2
end
open PySem PySem.W PyProof.Rows
/-! small facts of numbers, laid ahead of omega: their proofs are a few signs where omega's are thousands -/
theorem mLt {a C n m : Nat} (h : a + n < C) (e : Nat.ble m n = true) : a + m < C := Nat.lt_of_le_of_lt (Nat.add_le_add_left (Nat.le_of_ble_eq_true e) a) h
theorem mLt2 {a C n m k : Nat} (h : a + n < C) (e : Nat.ble (k + m) n = true) : a + k + m < C := by
  have := Nat.le_of_ble_eq_true e
  omega
theorem mLt3 {a C n m k l : Nat} (h : a + n < C) (e : Nat.ble (k + l + m) n = true) : a + k + l + m < C := by
  have := Nat.le_of_ble_eq_true e
  omega
theorem mLt0 {a C n : Nat} (h : a + n < C) : a < C := Nat.lt_of_le_of_lt (Nat.le_add_right a n) h
theorem mLe {a n m : Nat} (h : a ≤ n) (e : Nat.ble n m = true) : a ≤ m := Nat.le_trans h (Nat.le_of_ble_eq_true e)
theorem mLtLe {a n m : Nat} (h : a < n) (e : Nat.ble n (m + 1) = true) : a ≤ m := Nat.le_of_lt_succ (Nat.lt_of_lt_of_le h (Nat.le_of_ble_eq_true e))
theorem mEqLe {a b n m : Nat} (q : a = b) (h : b ≤ n) (e : Nat.ble n m = true) : a ≤ m := q ▸ mLe h e
theorem mAdd {a b n : Nat} (h : a ≤ b) : a ≤ b + n := Nat.le_trans h (Nat.le_add_right b n)
theorem mDec {i n : Nat} (h : i < n) : n + 1 - (i + 1) < n + 1 - i := by omega
theorem mDec2 {i n k : Nat} (q : k = n - i) (h : i < n) : n - (i + 1) < k := by omega
theorem mNe {a b : Nat} (h : a < b) : b ≠ a := Nat.ne_of_gt h
theorem mNeT {a b c : Nat} (h : b < c) (g : a < b) : c ≠ a := Nat.ne_of_gt (Nat.lt_trans g h)
theorem mNeT' {a b c : Nat} (h : b < c) (g : a < b) : a ≠ c := Nat.ne_of_lt (Nat.lt_trans g h)
theorem mLtAdd {a b c : Nat} (h : c < a) : c < a + b := Nat.lt_of_lt_of_le h (Nat.le_add_right a b)
theorem mCh {a b c : Nat} (h : b ≤ c) (g : a < b) : a < c := Nat.lt_of_lt_of_le g h
theorem aM {α : Type} {a : α} {l K : List α} (h : a ∈ K) (t : ∀ p ∈ l, p ∈ K) : ∀ p ∈ a :: l, p ∈ K := List.forall_mem_cons.mpr ⟨h, t⟩
theorem aN {α : Type} {P : α → Prop} {a : α} {l : List α} (h : P a) (t : ∀ p ∈ l, P p) : ∀ p ∈ a :: l, P p := List.forall_mem_cons.mpr ⟨h, t⟩
theorem m2 {p q r : Prop} (h : p ∧ q ∧ r) : q := h.2.1
theorem m3 {p q r s : Prop} (h : p ∧ q ∧ r ∧ s) : r := h.2.2.1
theorem m4 {p q r s t : Prop} (h : p ∧ q ∧ r ∧ s ∧ t) : s := h.2.2.2.1
theorem m5 {p q r s t u : Prop} (h : p ∧ q ∧ r ∧ s ∧ t ∧ u) : t := h.2.2.2.2.1
theorem m6 {p q r s t u v : Prop} (h : p ∧ q ∧ r ∧ s ∧ t ∧ u ∧ v) : u := h.2.2.2.2.2.1
local macro_rules | `(tactic| walk_at "m:lt") => `(tactic| first | assumption | exact And.left (by assumption) | exact m2 (by assumption) | exact m3 (by assumption) | exact m4 (by assumption) | exact m5 (by assumption) | exact m6 (by assumption))
local macro_rules | `(tactic| omega) => `(tactic| first | with_reducible assumption | exact mLt0 (by assumption) | exact mLt (by assumption) rfl | exact mLt2 (by assumption) rfl | exact mLt3 (by assumption) rfl | exact mLe (by assumption) rfl | exact mAdd (by assumption) | exact mLtAdd (by assumption) | (refine mCh (by assumption) ?_; assumption) | exact mDec (by assumption) | exact mDec2 (by assumption) (by assumption) | exact mNe (by walk_at "m:lt") | exact Ne.symm (mNe (by walk_at "m:lt")) | (refine mNeT (by assumption) ?_; walk_at "m:lt") | (refine mNeT' (by assumption) ?_; walk_at "m:lt"))
local macro_rules | `(tactic| walk_at "K") => `(tactic| first | exact rfl | assumption)
local macro_rules | `(tactic| walk_at "kt") => `(tactic| first | assumption | exact Nat.succ_pos _ | omega)
local macro_rules | `(tactic| walk_at "as") => `(tactic| first | assumption | omega)
local macro_rules | `(tactic| walk_at "ds") => `(tactic| try dsimp only)
local macro_rules | `(tactic| walk_at "sw") => `(tactic| ((try k_sweep); (try dsimp only)))
local macro_rules | `(tactic| walk_at "A5") => `(tactic| (case k1 | k2 | k3 | k4 | k5 => k_asm))
local macro_rules | `(tactic| walk_at "FN") => `(tactic| (case F | N => k_asm))
local macro_rules | `(tactic| walk_at "rm") => `(tactic| ((case kK => walk_at "K"); (case kd => ktr_room); (case ku => ktr_units)))
local macro_rules | `(tactic| walk_at "use") => `(tactic| (walk_at "A5"; walk_at "rm"; (case kt => walk_at "kt")))
local macro_rules | `(tactic| walk_at "kn") => `(tactic| first | with_reducible assumption | decide +kernel | exact rfl)
local macro_rules | `(tactic| walk_at "uf") => `(tactic| with_unfolding_all rfl)
local macro_rules | `(tactic| walk_at "uu") => `(tactic| ((case a => walk_at "uf"); (case b => intro _; walk_at "uf")))
local macro_rules | `(tactic| walk_at "p3") => `(tactic| (k_whole; intro r9 n9 h9 tk9 F9 N9 p9; obtain ⟨⟨t9, e9⟩, e8⟩ := p9; subst e9; subst e8; walk_at "ds"))
local macro_rules | `(tactic| walk_at "p2") => `(tactic| (k_whole; intro r9 n9 h9 tk9 F9 N9 p9; obtain ⟨e9, e8⟩ := p9; subst e9; subst e8; walk_at "ds"))
local macro_rules | `(tactic| walk_at "lx") => `(tactic| ((case k1 | k2 | k3 | k6 => k_asm); (case k4 | k5 => k_mem)))
section
open PySem PySem.W PyProof.Rows
/-- the tokens only grow -/
theorem runs_toks {M : Model} {Γ : Ctx} {p : Pos} {t : Sem Fin} {fs : List Frame} {s s' : Shared} {e : End} (h : Runs M Γ p t fs s e s') : s.toks ≤ s'.toks := by
  induction h with
  | done | raise | yield => exact Nat.le_refl _
  | again _ _ ih => exact ih
  | rule _ ih | «at» _ ih | loadIfAlive _ ih | point _ ih | ask _ ih | handled _ ih | stack _ ih | thread _ ih => exact ih
  | load _ _ ih => exact ih
  | update _ _ ih => exact ih
  | alloc _ ih => exact ih
  | fresh _ ih => exact Nat.le_trans (Nat.le_succ _) ih
  | choose _ _ ih => exact ih
  | os _ ih => exact ih
  | genState _ _ ih => exact ih
  | newGen _ ih => exact ih
  | call _ _ a b => exact Nat.le_trans a b
  | callSusp _ a => exact a
  | resumeFresh _ _ _ _ a b => exact Nat.le_trans a b
  | resumeSuspended _ _ _ _ a b => exact Nat.le_trans a b
  | resumeJustStarted _ _ _ a => exact a
  | resumeThrowFresh _ _ a => exact a
  | resumeRunning _ _ a => exact a
  | resumeFinished _ _ a => exact a
  | segRet _ _ a b => exact Nat.le_trans a b
  | segGen _ _ a b => exact Nat.le_trans a b
  | segSuspOut _ _ a => exact a
  | segSuspGen _ _ _ _ a b => exact Nat.le_trans a b
theorem wakes_toks {M : Model} {Γ : Ctx} {p : Pos} {g : Nat} {r : Resume} {s s' : Shared} {res : GenResult} (h : Wakes M Γ p g r s res s') : s.toks ≤ s'.toks := by
  unfold Wakes at h
  split at h
  · exact h.elim
  · split at h
    · obtain ⟨e, s₁, h, _, _, rfl⟩ := h
      have q := runs_toks h
      exact q
    · obtain ⟨_, rfl⟩ := h; exact Nat.le_refl _
    · obtain ⟨_, rfl⟩ := h; exact Nat.le_refl _
  · obtain ⟨e, s₁, h, _, _, rfl⟩ := h
    have q := runs_toks h
    exact q
  · obtain ⟨_, rfl⟩ := h; exact Nat.le_refl _
  · obtain ⟨_, rfl⟩ := h; exact Nat.le_refl _
theorem wp_toks {α : Type} {M : Model} {Γ : Ctx} {n : Nat} {Q : α → Pos → Shared → Prop} {E : Value → Pos → Shared → Prop} : ∀ (t : Sem α) (p : Pos) (s : Shared), n ≤ s.toks →
    Sem.wp M Γ t (fun a p' s' => n ≤ s'.toks → Q a p' s') E p s → Sem.wp M Γ t Q E p s := by
  intro t
  induction t with
  | pure a => intro p s hn h; exact h hn
  | raise e => intro p s hn h; exact h
  | unsupported | finish | register | yield | fork | await => intro p s hn h; exact h.elim
  | rule _ k ih | «at» _ k ih | loadIfAlive _ k ih | point _ k ih | ask k ih | handled _ k ih | stack k ih | thread k ih => intro p s hn h; exact ih _ _ _ hn h
  | load a part k ih => intro p s hn h; obtain ⟨o, ho, h⟩ := h; exact ⟨o, ho, ih _ _ _ hn h⟩
  | update a part f k ih => intro p s hn h; exact ⟨h.1, ih _ _ _ hn h.2⟩
  | alloc o k ih => intro p s hn h; exact ih _ _ _ hn h
  | fresh k ih => intro p s hn h; exact ih _ _ _ (Nat.le_succ_of_le hn) h
  | choose src m k ih => intro p s hn h; exact ⟨h.1, ih _ _ _ hn h.2⟩
  | os q l k ih => intro p s hn h; exact ih _ _ _ hn h
  | call c hd g l k ih =>
    intro p s hn h
    obtain ⟨r, s', hr, h⟩ := h
    exact ⟨r, s', hr, ih _ _ _ (Nat.le_trans hn (runs_toks hr)) h⟩
  | newGen c k ih => intro p s hn h; exact ih _ _ _ hn h
  | genState g k ih => intro p s hn h; obtain ⟨o, ho, h⟩ := h; exact ⟨o, ho, ih _ _ _ hn h⟩
  | resume g r l k ih =>
    intro p s hn h
    obtain ⟨res, s', hr, h⟩ := h
    exact ⟨res, s', hr, ih _ _ _ (Nat.le_trans hn (wakes_toks hr)) h⟩
/-- what is said of the end may lean on the tokens' growth -/
theorem wpAny_toks {α : Type} {M : Model} {A : Around} {E : Value → Shared → Prop} {s : Shared} {t : Sem α} {Q : α → Shared → Prop} (h : wpAny M A t (fun a s' => s.toks ≤ s'.toks → Q a s') E s) : wpAny M A t Q E s :=
  fun Γ p hΓ => wp_toks t p s (Nat.le_refl _) (h Γ p hΓ)
theorem codeAny_toks {M : Model} {A : Around} {s : Shared} {c : Code} {R : Result → Shared → Prop} (h : codeAny M A c (fun r s' => s.toks ≤ s'.toks → R r s') s) : codeAny M A c R s := by
  intro Γ p hc hΓ
  obtain ⟨r, s', hr, h⟩ := h Γ p hc hΓ
  exact ⟨r, s', hr, h (runs_toks hr)⟩
end
section
open PySem PySem.W PyProof.Rows
/-- the sign c written as z -/
noncomputable def subst (c : Nat) (z : List Nat) (l : List Nat) : List Nat := l.flatMap fun k => if k = c then z else [k]
theorem subst_append (c : Nat) (z a b : List Nat) : subst c z (a ++ b) = subst c z a ++ subst c z b := by simp [subst]
theorem subst_free {c : Nat} {z l : List Nat} (h : c ∉ l) : subst c z l = l := by
  induction l with
  | nil => rfl
  | cons k r ih =>
    have h1 : k ≠ c := fun e => h (e ▸ List.mem_cons_self ..)
    have h2 : c ∉ r := fun m => h (List.mem_cons_of_mem _ m)
    have e : subst c z (k :: r) = [k] ++ subst c z r := by simp [subst, h1]
    rw [e, ih h2]; rfl
theorem subst_join (c : Nat) (z : Str) : ∀ parts : List Str, (∀ p ∈ parts, c ∉ p.cps.toList) → subst c z.cps.toList (Str.join ⟨#[c]⟩ parts).cps.toList = (Str.join z parts).cps.toList
  | [], _ => rfl
  | [p], h => subst_free (h p (List.mem_singleton.mpr rfl))
  | p :: q :: r, h => by
    have ih := subst_join c z (q :: r) fun a ha => h a (List.mem_cons_of_mem _ ha)
    show subst c z.cps.toList (p ++ ⟨#[c]⟩ ++ Str.join ⟨#[c]⟩ (q :: r)).cps.toList = (p ++ z ++ Str.join z (q :: r)).cps.toList
    simp only [Str.cps_append, Array.toList_append]
    rw [subst_append, subst_append, ih, subst_free (h p (List.mem_cons_self ..))]
    have e : subst c z.cps.toList [c] = z.cps.toList := by simp [subst]
    rw [e]
theorem replace_subst (x z : Str) (c : Nat) : (Txt.replace x ⟨#[c]⟩ z).cps.toList = subst c z.cps.toList x.cps.toList := by
  rw [StrLaws.replace_one, ← subst_join c z _ (StrLaws.split_free x c), StrLaws.join_split]
theorem subst_length (c : Nat) (z l : List Nat) (n : Nat) (hz : z.length ≤ n) (hn : 1 ≤ n) : (subst c z l).length ≤ n * l.length := by
  induction l with
  | nil => simp [subst]
  | cons k r ih =>
    have e : subst c z (k :: r) = (if k = c then z else [k]) ++ subst c z r := by simp [subst]
    rw [e, List.length_append, List.length_cons, Nat.mul_succ]
    have : (if k = c then z else [k]).length ≤ n := by split <;> (try simp only [List.length_cons, List.length_nil]) <;> omega
    omega
theorem str_ext {a b : Str} (h : a.cps.toList = b.cps.toList) : a = b := Str.ext' (Array.toList_inj.mp h)
end
section
open PySem PySem.W PyProof.Rows
theorem fill : (K, PySem.Challenge.rw_of0092_01) = (K, PySem.Challenge.rw_of0092_01) := by
  k_fill
  rfl
/-- a call of one of the text's defs: what it gives back and leaves, wherever it is called -/
noncomputable def Gives (w : World) (f : Addr) (args : List Value) (dn un : Nat) (news : List (Addr × Obj)) (post : Value → List (Addr × Obj) → Prop) : Prop :=
  ∀ (ps : Program) (loose : List Str) (mean : ExcName → Option Value) (mg mb : Str → Option Value) (dp u : Nat) (gd : Option (List Code)) (cn : Str) (cs : Scope) (a : Addr) (ccd : Value) (cl : List (Str × Addr)) (outer : List Env) (A₀ : Around) (base h₀ : Heap) (L : Addr) (m : Str → Option Value) (s : Shared)
    (Q E : Value → Shared → Prop), Below A₀ base outer h₀ → Fr h₀ L s.heap m → (K w.params).In h₀ → News h₀ L s.heap news → Top ps loose mean mg mb h₀ → cs.kind = .function → dp + dn < recursionLimit → u + un < cLine → 0 < s.toks →
    (∀ r news' h' tk', Fr h₀ L h' m → News h₀ L h' news' → post r news' → Q r { s with heap := h', toks := tk' }) →
    wpAny (model P w) (ktrTop dp u gd cn cs L a ccd cl outer) (call (.ref f) args) Q E s
theorem execs_tok {M : Model} {A : Around} {E : Value → Shared → Prop} {h : Heap} {g : Array GenState} {d : Drawn} {n : Nat} {os : OsState} {env : Env} {st : Stmt} {rest : List Stmt} {Q : Flow → Shared → Prop} (hn : 0 < n)
    (k : ∀ tk, 0 < tk → wpAny M A (exec st env) (fun f s' => tk ≤ s'.toks → match f with | .next => wpAny M A (execs rest env) Q E s' | f => Q f s') E ⟨h, g, d, tk, os⟩) : wpAny M A (execs (st :: rest) env) Q E ⟨h, g, d, n, os⟩ :=
  wpAny_execs_cons (wpAny_toks (k n hn))
noncomputable def oddB (v : Str) : Bool := decide (Int.fmod ((v.length : Int) - ((Txt.rstripChars v (Str.ofString "\\")).length : Int)) 2 = 1)
theorem odd_gives {w : World} {news : List (Addr × Obj)} (v : Str) (tv : Tok) (hv : v.length ≤ 1000) : Gives w 798 [.str v tv] 1 8 news fun r news' => r = .bool (oddB v) ∧ news' = news := by
  intro ps loose mean mg mb dp u gd cn cs a ccd cl outer A₀ base h₀ L m s Q E B F X N T hk hd hu ht ret
  refine wpAny_call ?_
  k_dflt ktr_enter
  k_steps
  exact ret _ _ _ _ (by k_asm) (by k_asm) ⟨rfl, rfl⟩
theorem replace_no {v C R : Str} (h : (Builtin.Str.occurrences v C 0 v.length 1).isEmpty = true) : Txt.replace v C R = v := by
  have hn : Builtin.Str.occurrences v C 0 v.length (v.length + 1) = [] := by
    rcases StrLaws.occ_head v C 1 (Nat.le_refl _) with ⟨_, hn⟩ | ⟨i, r, e, _, _⟩
    · rcases StrLaws.occ_head v C (v.length + 1) (by omega) with ⟨e, _⟩ | ⟨i, r, _, ha, _⟩
      · exact e
      · exact absurd ha (hn i)
    · rw [e] at h; cases h
  unfold Txt.replace
  rw [hn]
  rfl
theorem esc_if {w : World} {A : Around} {E : Value → Shared → Prop} {s : Shared} {h₀ : Heap} {L a : Addr} {m : Str → Option Value} {news : List (Addr × Obj)} {name : Str} {scope : Scope} {cd : Value} {C R : Str} {k1 k2 k3 : Nat} {p1 p2 p3 p4 p5 p6 p7 p8 p9 p10 p11 : Pos} {Q : Flow → Shared → Prop} {v : Str} {t : Tok} {pl : Sem Bool} {b : Nat}
    (F : Fr h₀ L s.heap m) (N : News h₀ L s.heap news) (hm : m "text" = some (.str v t)) (ht : 0 < s.toks) (hvb : v.length ≤ b) (hb : Nat.ble b 1048576 = true) (hC : ∃ c, C = ⟨#[c]⟩) (hR : R.length ≤ 6) (hCR : (C == R) = false)
    (hk : scope.kind = .function) (hl : (envOf name scope L a cd).kindOf "text" = some .local) 
    (he : eval (.Call (.Attribute (.Name "text" p5) "replace" p6) [.Constant (.str C) k2 p7, .Constant (.str R) k3 p8] [] p9) (envOf name scope L a cd) = (do
      let ov ← eval (.Name "text" p5) (envOf name scope L a cd)
      standAt p6.atName
      let (f, first) ← holding [ov] (getMethod ov "replace" pl)
      callWith p9 f first (backTo p9 (starEach [.Constant (.str C) k2 p7, .Constant (.str R) k3 p8] (envOf name scope L a cd))) []))
    (k : ∀ t' h' tk, Fr h₀ L h' (fun y => if y = Str.ofString "text" then some (.str (Txt.replace v C R) t') else m y) → News h₀ L h' news → (Txt.replace v C R).length ≤ 6 * b → Q .next { s with heap := h', toks := tk }) :
    wpAny (model P w) A (exec (.If (.Compare (.Constant (.str C) k1 p1) [.In] [.Name "text" p2] p3) [.Assign [.Name "text" p4] (.Call (.Attribute (.Name "text" p5) "replace" p6) [.Constant (.str C) k2 p7, .Constant (.str R) k3 p8] [] p9) p10] [] p11) (envOf name scope L a cd)) Q E s := by
  have hv : v.length ≤ 1048576 := Nat.le_trans hvb (Nat.le_of_ble_eq_true hb)
  have hlen' : (Txt.replace v C R).length ≤ 6 * v.length := by
    obtain ⟨c, rfl⟩ := hC
    have h := subst_length c R.cps.toList v.cps.toList 6 (by simpa [Str.length] using hR) (by decide)
    rw [← replace_subst] at h
    simpa [Str.length] using h
  have hlen : (Txt.replace v C R).length ≤ 6 * b := Nat.le_trans hlen' (Nat.mul_le_mul_left 6 hvb)
  refine wpAny_If (wpAny_isTrue_Compare1 (Calls.Constant_str (ld F hm (in_str (wpAny_truthy_bool ?_)) hk hl)))
  cases hc : (Builtin.Str.occurrences v C 0 v.length 1).isEmpty with
  | true =>
    refine wpAny_execs_nil ?_
    refine k t s.heap _ ?_ N hlen
    rw [replace_no hc]
    have e : (fun y => if y = Str.ofString "text" then some (Value.str v t) else m y) = m := by
      funext y
      by_cases h : y = Str.ofString "text"
      · subst h; simp [hm]
      · simp [h]
    rw [e]; exact F
  | false =>
    refine wpAny_execs_cons (wpAny_Assign_Name (MethodCall_ (ld F hm (GM.replace (callWith_method1 (args_cons (Calls.Constant_str (args_cons (Calls.Constant_str (args_nil ?_))))))) hk hl) he))
    refine SC.replaceW (Nat.ne_of_gt (Nat.lt_succ_of_lt ht)) (Nat.succ_ne_zero _) (Nat.ne_of_lt (Nat.lt_succ_self _)) hCR hv (Nat.le_trans hR (by decide)) fun t' k' => ?_
    exact stN F N (fun h' F' N' => wpAny_execs_nil (k t' h' _ F' N' hlen)) hk hl
/-- a sign written as another text, where it stands -/
noncomputable def esc (l : List (Str × Str)) (v : Str) : Str := l.foldl (fun v p => Txt.replace v p.1 p.2) v
local macro_rules | `(tactic| walk_at "execs cons") => `(tactic| (k_here; refine execs_tok (by first | omega | (simp only [Nat.add_assoc]; omega)) ?_; intro tk htk))
local macro_rules | `(tactic| walk_at "forall") => `(tactic| ((with_reducible show _ ≤ _ → _); intro hle; (try dsimp only at hle)))
local macro_rules | `(tactic| walk_at "exec If") => `(tactic| (k_here; k_dflt ((with_unfolding_all refine' esc_if ?kF ?kN ?km ?kt ?kv ?kb ?kO ?kR ?kC ?hk ?hl ?he ?_); (case kF => k_asm); (case kN => k_asm); (case km => rfl); (case kt => first | assumption | omega); (case kv => assumption); (case kb => rfl); (case kO => exact ⟨_, rfl⟩); (case kR => decide); (case kC => decide); (case hk => rfl); (case hl => rfl); (case he => with_unfolding_all rfl); k_whole; intro t' h' tk' F' N' hlen hle; (try dsimp only at hle))))
noncomputable def tabA : List (Str × Str) := [("&", "&amp;"), ("<", "&lt;"), (">", "&gt;"), ("\"", "&quot;"), ("\r", "&#13;"), ("\n", "&#10;"), ("\t", "&#09;")]
noncomputable def tabH : List (Str × Str) := [("&", "&amp;"), (">", "&gt;"), ("\"", "&quot;")]
noncomputable def tabC : List (Str × Str) := [("&", "&amp;"), ("<", "&lt;"), ("\"", "&quot;"), ("\t", "&#x9;"), ("\n", "&#xA;"), ("\r", "&#xD;")]
theorem html_gives {w : World} {news : List (Addr × Obj)} (v : Str) (tv : Tok) (hv : v.length ≤ 16) : Gives w 60 [.str v tv] 1 8 news fun r news' => (∃ t, r = .str (esc tabH v) t) ∧ news' = news := by
  intro ps loose mean mg mb dp u gd cn cs a ccd cl outer A₀ base h₀ L m s Q E B F X N T hk hd hu ht ret
  refine wpAny_call ?_
  k_dflt ktr_enter
  k_steps
  exact ret _ _ _ _ (by k_asm) (by k_asm) ⟨⟨_, rfl⟩, rfl⟩
theorem attrib_gives {w : World} {news : List (Addr × Obj)} (v : Str) (tv : Tok) (hv : v.length ≤ 16) : Gives w 53 [.str v tv] 1 8 news fun r news' => (∃ t, r = .str (esc tabA v) t) ∧ news' = news := by
  intro ps loose mean mg mb dp u gd cn cs a ccd cl outer A₀ base h₀ L m s Q E B F X N T hk hd hu ht ret
  refine wpAny_call ?_
  k_dflt ktr_enter
  k_steps
  exact ret _ _ _ _ (by k_asm) (by k_asm) ⟨⟨_, rfl⟩, rfl⟩
theorem c14n_gives {w : World} {news : List (Addr × Obj)} (v : Str) (tv : Tok) (hv : v.length ≤ 16) : Gives w 67 [.str v tv] 1 8 news fun r news' => (∃ t, r = .str (esc tabC v) t) ∧ news' = news := by
  intro ps loose mean mg mb dp u gd cn cs a ccd cl outer A₀ base h₀ L m s Q E B F X N T hk hd hu ht ret
  refine wpAny_call ?_
  k_dflt ktr_enter
  k_steps
  exact ret _ _ _ _ (by k_asm) (by k_asm) ⟨⟨_, rfl⟩, rfl⟩
end
section
open PySem PySem.W PyProof.Rows PyProof.Rows.LCg PySem.Calls
/-- what stands behind a statement: the rest of its block -/
noncomputable abbrev contT (M : Model) (A : Around) (rest : List Stmt) (env : Env) (Q : Flow → Shared → Prop) (E : Value → Shared → Prop) (tk : Nat) : Flow → Shared → Prop := fun f s' => tk ≤ s'.toks → match f with | .next => wpAny M A (execs rest env) Q E s' | f => Q f s'
theorem execs_tokC {M : Model} {A : Around} {E : Value → Shared → Prop} {h : Heap} {g : Array GenState} {d : Drawn} {n : Nat} {os : OsState} {env : Env} {st : Stmt} {rest : List Stmt} {Q : Flow → Shared → Prop} (hn : 0 < n)
    (k : ∀ tk, 0 < tk → wpAny M A (exec st env) (contT M A rest env Q E tk) E ⟨h, g, d, tk, os⟩) : wpAny M A (execs (st :: rest) env) Q E ⟨h, g, d, n, os⟩ :=
  execs_tok hn k
end
section
open PySem PySem.W PyProof.Rows
theorem gives_use {w : World} {f : Addr} {args : List Value} {dn un : Nat} {news : List (Addr × Obj)} {post : Value → List (Addr × Obj) → Prop} {ps : Program} {loose : List Str} {mean : ExcName → Option Value} {mg mb : Str → Option Value} {dp u : Nat} {gd : Option (List Code)} {cn : Str} {cs : Scope} {a : Addr} {ccd : Value} {cl : List (Str × Addr)} {outer : List Env} {A₀ : Around} {base h₀ : Heap} {L : Addr} {m : Str → Option Value} {s : Shared}
    {Q E : Value → Shared → Prop} (C : Gives w f args dn un news post) (B : Below A₀ base outer h₀) (F : Fr h₀ L s.heap m) (X : (K w.params).In h₀) (N : News h₀ L s.heap news) (T : Top ps loose mean mg mb h₀) (hk : cs.kind = .function) (hd : dp + dn < recursionLimit) (hu : u + un < cLine) (ht : 0 < s.toks)
    (ret : ∀ r news' h' tk', Fr h₀ L h' m → News h₀ L h' news' → post r news' → Q r { s with heap := h', toks := tk' }) :
    wpAny (model P w) (ktrTop dp u gd cn cs L a ccd cl outer) (call (.ref f) args) Q E s := C ps loose mean mg mb dp u gd cn cs a ccd cl outer A₀ base h₀ L m s Q E B F X N T hk hd hu ht ret
noncomputable def tabT (turn : Int) : List (Str × Str) := if turn = 0 then tabA else if turn = 1 then tabH else tabC
local macro_rules | `(tactic| walk_at "execs cons") => `(tactic| (k_here; refine execs_tokC (by first | omega | (simp only [Nat.add_assoc]; omega)) ?_; intro tk htk))
local macro_rules | `(tactic| walk_at "forall") => `(tactic| ((with_reducible show _ ≤ _ → _); intro hle; (try dsimp only at hle)))
theorem execs_nil_tok {M : Model} {A : Around} {E : Value → Shared → Prop} {h : Heap} {g : Array GenState} {d : Drawn} {n : Nat} {os : OsState} {env : Env} {Q : Flow → Shared → Prop} (hn : 0 < n) (k : ∀ tk, 0 < tk → n ≤ tk → Q .next ⟨h, g, d, tk, os⟩) : wpAny M A (execs [] env) Q E ⟨h, g, d, n, os⟩ := wpAny_execs_nil (k n hn (Nat.le_refl _))
local macro_rules | `(tactic| walk_at "execs nil") => `(tactic| (k_here; refine execs_nil_tok (by first | omega | (simp only [Nat.add_assoc]; omega)) ?_; intro tk htk hge))
local macro_rules | `(tactic| walk_at "m:use") => `(tactic| walk_at "use")
local macro_rules | `(tactic| walk_at "call ref") => `(tactic| (k_here; (with_reducible show wpAny _ _ (call (Value.ref 53) [Value.str _ _]) _ _ _); k_dflt (refine' gives_use (attrib_gives _ _ ?hv) ?k1 ?k2 ?k3 ?k4 ?k5 ?kK ?kd ?ku ?kt ?_; (case hv => walk_at "as"); (case kt => omega); walk_at "A5"; walk_at "rm"; walk_at "p3")))
local macro_rules | `(tactic| walk_at "call ref") => `(tactic| (k_here; (with_reducible show wpAny _ _ (call (Value.ref 60) [Value.str _ _]) _ _ _); k_dflt (refine' gives_use (html_gives _ _ ?hv) ?k1 ?k2 ?k3 ?k4 ?k5 ?kK ?kd ?ku ?kt ?_; (case hv => walk_at "as"); (case kt => omega); walk_at "A5"; walk_at "rm"; walk_at "p3")))
local macro_rules | `(tactic| walk_at "call ref") => `(tactic| (k_here; (with_reducible show wpAny _ _ (call (Value.ref 67) [Value.str _ _]) _ _ _); k_dflt (refine' gives_use (c14n_gives _ _ ?hv) ?k1 ?k2 ?k3 ?k4 ?k5 ?kK ?kd ?ku ?kt ?_; (case hv => walk_at "as"); (case kt => omega); walk_at "A5"; walk_at "rm"; walk_at "p3")))
theorem escaped_gives {w : World} {news : List (Addr × Obj)} (turn : Int) (tt : Tok) (v : Str) (tv : Tok) (hv : v.length ≤ 16) : Gives w 781 [.int turn tt, .str v tv] 2 16 news fun r news' => (∃ t, r = .str (esc (tabT turn) v) t) ∧ news' = news := by
  intro ps loose mean mg mb dp u gd cn cs a ccd cl outer A₀ base h₀ L m s Q E B F X N T hk hd hu ht ret
  refine wpAny_call ?_
  k_dflt ktr_enter
  k_steps
  · have e : tabT turn = tabA := by simp [tabT, *]
    rw [e] at ret
    exact ret _ _ _ _ (by k_asm) (by k_asm) ⟨⟨_, rfl⟩, rfl⟩
  · have e : tabT turn = tabH := by simp [tabT, *]
    rw [e] at ret
    exact ret _ _ _ _ (by k_asm) (by k_asm) ⟨⟨_, rfl⟩, rfl⟩
  · have e : tabT turn = tabC := by simp [tabT, *]
    rw [e] at ret
    exact ret _ _ _ _ (by k_asm) (by k_asm) ⟨⟨_, rfl⟩, rfl⟩
end
section
open PySem PySem.W PyProof.Rows PySem.Calls Builtin Builtin.ObjectAttr Builtin.Getset_descriptor
section
variable {w : World} {h : Heap}
theorem sio_madeBy (X : (K w.params).In h) : Looks (model P w) h (Bind.madeBy (.ref 615)) none := Looks.of_peek X (by kernel_rfl)
theorem sio_call (X : (K w.params).In h) : Looks (model P w) h (specialOf (.ref 615) "__call__") (some (.builtin "type.__call__")) := Looks.of_peek X (by kernel_rfl)
theorem sio_typ (X : (K w.params).In h) : Looks (model P w) h (isInstance (.ref 615) (.type "type")) true := Looks.of_peek X (by kernel_rfl)
theorem sio_here (X : (K w.params).In h) : Looks (model P w) h (Bind.madeHere "object.__new__" (.ref 615)) () := Looks.of_peek X (by kernel_rfl)
theorem sio_isType (X : (K w.params).In h) : Looks (model P w) h (isType (.ref 615)) true := Looks.of_peek X (by kernel_rfl)
theorem sio_init (X : (K w.params).In h) : Looks (model P w) h (typeLookup (.ref 615) "__init__") (some (.ref 385)) := Looks.of_peek X (by kernel_rfl)
theorem sio_sub (X : (K w.params).In h) : Looks (model P w) h (isSubtype (.ref 615) (.ref 615)) true := Looks.of_peek X (by kernel_rfl)
theorem sio_mro (X : (K w.params).In h) : Looks (model P w) h (mroOf (.ref 615)) [.ref 615, .ref 138, .ref 111, .type "object"] := Looks.of_peek X (by kernel_rfl)
end
/-- making a StringIO: what is left is the walk of __new__ and of __init__ -/
theorem sio_make {w : World} {A : Around} {h : Heap} {g : Array GenState} {d : Drawn} {t : Nat} {os : OsState} {rest : List Value} {R : Result → Shared → Prop} (X : (K w.params).In h)
    (hq : wpAny (model P w) (A.under (.builtin "type.__call__" ⟨.ref 615 :: rest, []⟩)) (getAttr (.ref 615) "__new__") (fun new s₁ => wpAny (model P w) (A.under (.builtin "type.__call__" ⟨.ref 615 :: rest, []⟩)) (call new (.ref 615 :: rest)) (fun obj s₂ =>
      wpAny (model P w) (A.under (.builtin "type.__call__" ⟨.ref 615 :: rest, []⟩)) (isInstance obj (.ref 615)) (fun b s₃ => b = true ∧ wpAny (model P w) (A.under (.builtin "type.__call__" ⟨.ref 615 :: rest, []⟩)) (callSpecial? obj "__init__" rest) (fun r s₄ => r = some .none ∧ R (.ok (.ret obj)) s₄) (fun e s' => R (.error e) s') s₃) (fun e s' => R (.error e) s') s₂) (fun e s' => R (.error e) s') s₁) (fun e s' => R (.error e) s') ⟨h, g, d, t, os⟩) :
    codeAny (model P w) A (.call (.ref 615) ⟨rest, []⟩) R ⟨h, g, d, t, os⟩ := by
  obtain ⟨oc, od, cd, sl, hC⟩ : ∃ oc od cd sl, h.get? 615 = some ⟨oc, od, .cls cd, sl⟩ := ⟨_, _, _, _, X 615 _ (by k_is)⟩
  have call := sio_call X
  have typ := sio_typ X
  have hm := sio_mro X
  have made := sio_madeBy X
  refine codeAny_of_tree ?_
  show wpAny _ _ (callAny (.ref 615) _) _ _ _
  refine nd_load hC ?_
  show wpAny _ _ (callAny.viaDunder (.ref 615) _) _ _ _
  unfold callAny.viaDunder
  refine wpAny_bind (call.at ?_)
  dsimp only
  rw [tc_bind]
  refine wpAny_bind (wpAny_pure (wpAny_bind (wpAny_pure ?_)))
  refine wpAny_pure (a := Fin.again (.call (.builtin "type.__call__") ⟨.ref 615 :: rest, []⟩)) (And.intro rfl ?_)
  refine codeAny_call_builtin_at (Code.quiet_builtin _ (by decide +kernel)) entry_typeCall (check_slot tc_kind tc_split typ (tc_args _ _ _) ?_)
  unfold Builtin.«type.__call__»
  refine wpAny_bind (hm.at ?_)
  show wpAny _ _ (Bind.madeBy (.ref 615) >>= _) _ _ _
  refine wpAny_bind (made.at ?_)
  refine wpAny_bind ?_
  refine wpAny_mono hq (fun new s₁ h1 => ?_) (fun e s' z => z)
  refine wpAny_bind (wpAny_holding ?_)
  refine wpAny_mono h1 (fun obj s₂ h2 => ?_) (fun e s' z => z)
  refine wpAny_bind ?_
  refine wpAny_mono h2 (fun b s₃ h3 => ?_) (fun e s' z => z)
  obtain ⟨rfl, h3⟩ := h3
  refine wpAny_bind (wpAny_holding ?_)
  refine wpAny_mono h3 (fun r s₄ h4 => ?_) (fun e s' z => z)
  obtain ⟨rfl, h4⟩ := h4
  exact wpAny_pure h4
theorem sio_new {w : World} {A : Around} {h : Heap} {g : Array GenState} {d : Drawn} {t : Nat} {os : OsState} {Q : Value → Shared → Prop} {E : Value → Shared → Prop} (X : (K w.params).In h)
    (hq : Q (.ref (h.objs.size + 1)) ⟨(h.push emptyDict).push (instObj 615 h.objs.size), g, d, t, os⟩) :
    wpAny (model P w) A (call (.builtin "object.__new__") [.ref 615]) Q E ⟨h, g, d, t, os⟩ := by
  obtain ⟨oc, od, cd, sl, hC, e1, e2, e3⟩ : ∃ oc od cd sl, h.get? 615 = some ⟨oc, od, .cls cd, sl⟩ ∧ cd.abstract = false ∧ cd.hasDel = false ∧ oc = .type "type" := ⟨_, _, _, _, X 615 _ (by k_is), rfl, rfl, rfl⟩
  have here := sio_here X
  have isT := sio_isType X
  have sub := sio_sub X
  have F := PySem.F.objNew
  have chk : Looks (model P w) h (checkBuiltinCall "object.__new__" ⟨[.ref 615], []⟩) () := Looks.of_peek X (by kernel_rfl)
  refine wpAny_call (codeAny_call_builtin_code (Code.quiet_builtin _ F.quiet) (chk.at ?_))
  refine codeAny_builtin F.entry ?_
  show wpAny _ _ (isType (.ref 615) >>= _) _ _ _
  refine wpAny_bind (isT.at ?_)
  show wpAny _ _ (Bind.madeHere "object.__new__" (.ref 615) >>= _) _ _ _
  refine wpAny_bind (here.at ?_)
  show wpAny _ _ (classData 615 >>= _) _ _ _
  have hcd : Looks (model P w) h (classData 615) cd := (Looks.ld hC).andThen .now
  refine wpAny_bind (hcd.at ?_)
  rw [e1]
  show wpAny _ _ ((alloc emptyDict >>= fun x => pure (some x)) >>= _) _ _ _
  refine wpAny_bind (wpAny_bind (wpAny_alloc (wpAny_pure (wpAny_bind ?_))))
  show wpAny _ _ (newObjAsIs _ _ _) _ _ _
  unfold newObjAsIs classHasDel
  refine wpAny_bind (wpAny_alloc (wpAny_bind (wpAny_bind (wpAny_load (Heap.get?_push_of_some _ (Heap.get?_push_of_some _ hC)) (wpAny_pure ?_)))))
  rw [e2]
  refine wpAny_pure (wpAny_pure ?_)
  show Q _ _
  rw [Heap.size_push]
  exact hq
end
section
open PySem PySem.W PyProof.Rows
theorem sio_newN {w : World} {A : Around} {s : Shared} {h₀ : Heap} {L : Addr} {m : Str → Option Value} {news : List (Addr × Obj)} {Q E : Value → Shared → Prop} (F : Fr h₀ L s.heap m) (N : News h₀ L s.heap news) (X : (K w.params).In h₀)
    (h : ∀ x dx h', Fr h₀ L h' m → News h₀ L h' ((x, instObj 615 dx) :: (dx, emptyDict) :: news) → (∀ p ∈ news, p.1 < dx) → dx < x → Q (.ref x) { s with heap := h' }) : wpAny (model P w) A (call (.builtin "object.__new__") [.ref 615]) Q E s := by
  obtain ⟨hh, g, d, t, os⟩ := s
  refine sio_new (X.keeps F.keep) (h _ hh.objs.size _ ((F.push _).push _) ?_ (fun p hp => Heap.lt_size (N p hp).1) (Nat.lt_succ_self _))
  have := (N.push F emptyDict).push (F.push _) (instObj 615 hh.objs.size)
  rwa [Heap.size_push] at this
theorem News.sub {h₀ h : Heap} {L : Addr} {news news' : List (Addr × Obj)} (N : News h₀ L h news) (hs : ∀ p ∈ news', p ∈ news) : News h₀ L h news' := fun p hp => N p (hs p hp)
theorem nSw {h₀ h : Heap} {L : Addr} {a b : Addr × Obj} {l : List (Addr × Obj)} (N : News h₀ L h (a :: b :: l)) : News h₀ L h (b :: a :: l) := News.sub N (aM (.tail _ (.head _)) (aM (.head _) fun p hp => .tail _ (.tail _ hp)))
local macro_rules | `(tactic| k_room) => `(tactic| ktr_room)
theorem new_gives {w : World} {news : List (Addr × Obj)} (v : Str) (tv : Tok) (hv : v.length ≤ 100000) : Gives w 108 [.ref 615, .str v tv] 1 20 news fun r news' => ∃ x dx, r = .ref x ∧ news' = (x, instObj 615 dx) :: (dx, emptyDict) :: news ∧ (∀ p ∈ news, p.1 < dx) ∧ dx < x := by
  intro ps loose mean mg mb dp u gd cn cs a ccd cl outer A₀ base h₀ L m s Q E B F X N T hk hd hu ht ret
  refine wpAny_call ?_
  k_dflt (refine' kp_both ?k1 ?k2 ?k3 ?k4 ?k5 ?kA ?kF ?kK ?k6 ?k7 ?k8 ?kV ?kX ?kQ ?kM ?kN ?kD ?kR ?kP ?kS ?kT ?kB ?_ ?c2 ?c3 ?c4 ?c5; (case kA => exact rfl); (case kF => exact rfl); (case kK => assumption); (case k1 => k_asm); (case k2 => k_asm); (case k3 => k_asm); (case k4 => k_asm); (case k5 => k_asm); (case k6 => k_is); (case k7 => k_is); (case k8 => ktr_room); (case kV => kp_lit); (case kX => kp_lit); (case kQ => exact rfl); (case kM => exact rfl); (case kN => exact rfl); (case kD => kp_flats); (case kR => exact rfl); (case kP => exact rfl); (case kS => exact fun _ => rfl); (case kT => exact fun _ _ => rfl); (case kB => exact fun _ _ => locs rfl); (case c5 => decide); (case c2 => exact rfl); (case c3 => exact rfl); (case c4 => exact rfl); k_whole; intro C' D' o' g' L' h' tk' l1 l2 lo' hs' fs' FG' F' N' B' X' T'; (try k_lt l1); (try k_lt2 l2); (try dsimp only); (try k_lift B'); (try k_fold))
  k_steps
  refine sio_newN (by k_asm) (by k_asm) (by k_asm) fun x dx h2 F2 N2 l3 l4 => ?_
  walk1
  refine ret _ ((x, instObj 615 dx) :: (dx, emptyDict) :: news) _ _ (by k_asm) (News.sub (by k_asm) fun p hp => ?_) ⟨x, dx, rfl, rfl, fun p hp => l3 p (.tail _ (.tail _ hp)), l4⟩
  rcases List.mem_cons.mp hp with rfl | hp
  · exact .head _
  · rcases List.mem_cons.mp hp with rfl | hp
    · exact .tail _ (.head _)
    · exact .tail _ (.tail _ (.tail _ (.tail _ hp)))
end
section
open PySem PySem.W PyProof.Rows
local macro_rules | `(tactic| k_room) => `(tactic| ktr_room)
local macro_rules | `(tactic| k_all) => `(tactic| assumption)
noncomputable abbrev sioD (P : Params) (k1 k2 k3 : Tok) (v : Str) (tv : Tok) (pos : Int) (tp : Tok) : List DictEntry :=
  [⟨PyData.keyHash P "_StringIO__newline", .str "_StringIO__newline" k1, .str "\n" 701⟩, ⟨PyData.keyHash P "_StringIO__buf", .str "_StringIO__buf" k2, .str v tv⟩, ⟨PyData.keyHash P "_StringIO__pos", .str "_StringIO__pos" k3, .int pos tp⟩]
theorem init_gives {w : World} {news : List (Addr × Obj)} (x dx : Nat) (v : Str) (tv : Tok) (hv : v.length ≤ 100000) (hl : ∀ p ∈ news, p.1 < dx) (hx : dx < x) : Gives w 385 [.ref x, .str v tv] 3 30 ((x, instObj 615 dx) :: (dx, emptyDict) :: news) fun r news' => r = .none ∧ ∃ k1 k2 k3 tp, news' = (x, instObj 615 dx) :: (dx, dictOf (sioD w.params k1 k2 k3 v tv 0 tp) 3) :: news := by
  intro ps loose mean mg mb dp u gd cn cs a ccd cl outer A₀ base h₀ L m s Q E B F X N T hk hd hu ht ret
  have hne : ∀ p ∈ news, p.1 ≠ dx := fun p hp => Nat.ne_of_lt (hl p hp)
  have hnx : ∀ p ∈ news, p.1 ≠ x := fun p hp => Nat.ne_of_lt (Nat.lt_trans (hl p hp) hx)
  refine wpAny_call ?_
  k_dflt (refine' code_def ?k1 ?k2 ?k3 ?k4 ?k5 ?kA ?kF ?kK ?k6 ?k7 ?k8 ?k9 ?kB ?_ ?c2 ?c3 ?c4 ?c5; (case kA => exact rfl); (case kF => exact rfl); (case kK => assumption); (case k1 => k_asm); (case k2 => k_asm); (case k3 => k_asm); (case k4 => k_asm); (case k5 => k_asm); (case k6 => k_is); (case k7 => k_is); (case k8 => ktr_room); (case k9 => first | exact BindsTo.of_eq rfl | exact binds_K (by k_in) rfl (by k_is) rfl rfl rfl); (case c5 => decide); (case kB => exact locs rfl); (case c2 => exact rfl); (case c3 => exact rfl); (case c4 => exact rfl); k_whole; intro g' L' h' FG' F' N' B' X' T'; (try dsimp only); (try k_fold))
  k_steps
  exact ret _ _ _ _ (by k_asm) (by k_asm) ⟨rfl, _, _, _, _, rfl⟩
end
section
open PySem PySem.W PyProof.Rows
theorem tc_weight (C : Addr) (rest : List Value) : (Code.builtin "type.__call__" ⟨.ref C :: rest, []⟩).weight = 1 := by kernel_rfl
theorem tc_units (C : Addr) (rest : List Value) : (Code.builtin "type.__call__" ⟨.ref C :: rest, []⟩).cUnits = 1 := by kernel_rfl
theorem under_tc {dp u : Nat} {gd : Option (List Code)} {cn : Str} {cs : Scope} {L a : Addr} {ccd : Value} {cl : List (Str × Addr)} {outer : List Env} {C : Addr} {rest : List Value} :
    (ktrTop dp u gd cn cs L a ccd cl outer).under (.builtin "type.__call__" ⟨.ref C :: rest, []⟩) = ktrTop (dp + 1) (u + 1) gd cn cs L a ccd cl outer := by
  unfold Around.under
  rw [tc_weight, tc_units]
  rfl
theorem sio_gives {w : World} {news : List (Addr × Obj)} (v : Str) (tv : Tok) (hv : v.length ≤ 100000) : Gives w 615 [.str v tv] 6 50 news fun r news' => ∃ x dx k1 k2 k3 tp, r = .ref x ∧ news' = (x, instObj 615 dx) :: (dx, dictOf (sioD w.params k1 k2 k3 v tv 0 tp) 3) :: news ∧ (∀ p ∈ news, p.1 < dx) ∧ dx < x := by
  intro ps loose mean mg mb dp u gd cn cs a ccd cl outer A₀ base h₀ L m s Q E B F X N T hk hd hu ht ret
  refine wpAny_call ?_
  obtain ⟨hh, g, d, t, os⟩ := s
  refine sio_make (X.keeps F.keep) ?_
  rw [under_tc]
  k_dflt (refine' cls_sm ?k1 ?k2 ?k4 ?k5 ?k6 ?k7 ?k8 ?_; (case k1 => exact F); (case k2 => exact X); (case k4 => k_is); (case k5 => k_is); (case k6 => k_is); (case k7 => k_is); (case k8 => k_handed))
  refine wpAny_toks ?_
  refine gives_use (s := ⟨hh, g, d, t + 1, os⟩) (new_gives v tv hv) B F X N T hk (by omega) (by omega) (Nat.succ_pos _) ?_
  intro r news' h' tk' F' N' p'
  obtain ⟨x, dx, rfl, rfl, l1, l2⟩ := p'
  intro hle
  have hle : t + 1 ≤ tk' := hle
  dsimp only
  have X' : (K w.params).In h' := X.keeps F'.keep
  have hx := (N' _ (.head _)).1
  have t1 : Looks (model P w) h' (typeOf (.ref x)) (.ref 615) := (Looks.ld hx).andThen .now
  have t2 : Looks (model P w) h' (isInstance (.ref x) (.ref 615)) true := t1.andThen (sio_sub X')
  refine t2.at ⟨rfl, ?_⟩
  refine special_fn (K := K w.params) (s := ⟨h', g, d, tk', os⟩) X' (InstAt.of_news N' (.head _) (.tail _ (.head _))) (by k_dflt k_is) (by k_dflt k_is) ?_
  refine gives_use (s := ⟨h', g, d, tk', os⟩) (init_gives x dx v tv hv l1 l2) B F' X N' T hk (by omega) (by omega) (by show 0 < tk'; omega) ?_
  intro r news' h2 tk2 F2 N2 p2
  obtain ⟨rfl, k1, k2, k3, tp, rfl⟩ := p2
  exact ⟨rfl, ret _ _ _ _ F2 N2 ⟨x, dx, k1, k2, k3, tp, rfl, rfl, l1, l2⟩⟩
end
section
open PySem PySem.W PyProof.Rows
local macro_rules | `(tactic| k_room) => `(tactic| ktr_room)
local macro_rules | `(tactic| k_all) => `(tactic| assumption)
local macro_rules | `(tactic| walk_at "execs cons") => `(tactic| (k_here; refine execs_tokC (by first | omega | (simp only [Nat.add_assoc]; omega)) ?_; intro tk htk))
local macro_rules | `(tactic| walk_at "execs nil") => `(tactic| (k_here; refine execs_nil_tok (by first | omega | (simp only [Nat.add_assoc]; omega)) ?_; intro tk htk hge))
local macro_rules | `(tactic| walk_at "forall") => `(tactic| ((with_reducible show _ ≤ _ → _); intro hle; (try dsimp only at hle)))
theorem slice_one {v : Str} {i c : Nat} (h : v.cps.toList[i]? = some c) : Txt.slice v (some (i : Int)) (some ((i : Int) + 1)) = ⟨#[c]⟩ := by
  have hi : i < v.length := by
    have := (List.getElem?_eq_some_iff.mp h).1
    simpa [Str.length] using this
  have e : Txt.slice v (some (i : Int)) (some (((i + 1 : Nat)) : Int)) = StrLaws.sliceText v (some (i : Int)) (some (((i + 1 : Nat)) : Int)) := rfl
  have e2 : ((i + 1 : Nat) : Int) = (i : Int) + 1 := by omega
  rw [← e2, e, StrLaws.sliceText_nat v (by omega) (by omega)]
  have : i + 1 - i = 1 := by omega
  rw [this]
  apply str_ext
  have hlt : i < v.cps.toList.length := (List.getElem?_eq_some_iff.mp h).1
  have hd : v.cps.toList.drop i = c :: v.cps.toList.drop (i + 1) := by
    rw [List.drop_eq_getElem_cons hlt]
    have := (List.getElem?_eq_some_iff.mp h).2
    rw [this]
  simp [hd]
theorem read_end {w : World} {news : List (Addr × Obj)} (x dx : Nat) (k1 k2 k3 : Tok) (v : Str) (tv : Tok) (i : Nat) (tp t1 : Tok) (hv : v.length ≤ 100000) (hi : i = v.length) (hl : ∀ p ∈ news, p.1 ≠ dx) (hx : dx ≠ x) : Gives w 561 [.ref x, .int 1 t1] 3 30 ((x, instObj 615 dx) :: (dx, dictOf (sioD w.params k1 k2 k3 v tv (i : Int) tp) 3) :: news) fun r news' => (∃ t, r = .str "" t) ∧ news' = (x, instObj 615 dx) :: (dx, dictOf (sioD w.params k1 k2 k3 v tv (i : Int) tp) 3) :: news := by
  intro ps loose mean mg mb dp u gd cn cs a ccd cl outer A₀ base h₀ L m s Q E B F X N T hk hd hu ht ret
  refine wpAny_call ?_
  k_dflt (refine' code_def ?k1 ?k2 ?k3 ?k4 ?k5 ?kA ?kF ?kK ?k6 ?k7 ?k8 ?k9 ?kB ?_ ?c2 ?c3 ?c4 ?c5; (case kA => exact rfl); (case kF => exact rfl); (case kK => assumption); (case k1 => k_asm); (case k2 => k_asm); (case k3 => k_asm); (case k4 => k_asm); (case k5 => k_asm); (case k6 => k_is); (case k7 => k_is); (case k8 => ktr_room); (case k9 => first | exact BindsTo.of_eq rfl | exact binds_K (by k_in) rfl (by k_is) rfl rfl rfl); (case c5 => decide); (case kB => exact locs rfl); (case c2 => exact rfl); (case c3 => exact rfl); (case c4 => exact rfl); k_whole; intro g' L' h' FG' F' N' B' X' T'; (try dsimp only); (try k_fold))
  k_steps
  exact ret _ _ _ _ (by k_asm) (by k_asm) ⟨⟨_, rfl⟩, rfl⟩
theorem read_one {w : World} {news : List (Addr × Obj)} (x dx : Nat) (k1 k2 k3 : Tok) (v : Str) (tv : Tok) (i c : Nat) (tp t1 : Tok) (hv : v.length ≤ 100000) (hc : v.cps.toList[i]? = some c) (hl : ∀ p ∈ news, p.1 ≠ dx) (hx : dx ≠ x) : Gives w 561 [.ref x, .int 1 t1] 3 30 ((x, instObj 615 dx) :: (dx, dictOf (sioD w.params k1 k2 k3 v tv (i : Int) tp) 3) :: news) fun r news' => (∃ t, r = .str ⟨#[c]⟩ t) ∧ ∃ tp', news' = (x, instObj 615 dx) :: (dx, dictOf (sioD w.params k1 k2 k3 v tv (((i + 1 : Nat)) : Int) tp') 3) :: news := by
  intro ps loose mean mg mb dp u gd cn cs a ccd cl outer A₀ base h₀ L m s Q E B F X N T hk hd hu ht ret
  have hi : i < v.length := by
    have := (List.getElem?_eq_some_iff.mp hc).1
    simpa [Str.length] using this
  have e2 : ((i + 1 : Nat) : Int) = (i : Int) + 1 := by omega
  refine wpAny_call ?_
  k_dflt (refine' code_def ?k1 ?k2 ?k3 ?k4 ?k5 ?kA ?kF ?kK ?k6 ?k7 ?k8 ?k9 ?kB ?_ ?c2 ?c3 ?c4 ?c5; (case kA => exact rfl); (case kF => exact rfl); (case kK => assumption); (case k1 => k_asm); (case k2 => k_asm); (case k3 => k_asm); (case k4 => k_asm); (case k5 => k_asm); (case k6 => k_is); (case k7 => k_is); (case k8 => ktr_room); (case k9 => first | exact BindsTo.of_eq rfl | exact binds_K (by k_in) rfl (by k_is) rfl rfl rfl); (case c5 => decide); (case kB => exact locs rfl); (case c2 => exact rfl); (case c3 => exact rfl); (case c4 => exact rfl); k_whole; intro g' L' h' FG' F' N' B' X' T'; (try dsimp only); (try k_fold))
  k_steps
  · rw [slice_one hc]
    rw [e2] at ret
    exact ret _ _ _ _ (by k_asm) (by k_asm) ⟨⟨_, rfl⟩, _, rfl⟩
  · have e3 : ((v.length : Nat) : Int) = (i : Int) + 1 := by omega
    have e4 : i + 1 = v.length := by omega
    have e5 : Txt.slice v (some (i : Int)) (some ((v.length : Nat) : Int)) = ⟨#[c]⟩ := by rw [e3, slice_one hc]
    rw [e5]
    rw [e4] at ret
    exact ret _ _ _ _ (by k_asm) (by k_asm) ⟨⟨_, rfl⟩, _, rfl⟩
end
section
open PySem PySem.W PyProof.Rows PySem.Calls Builtin
noncomputable abbrev dqObj : Obj := { cls := .type "collections.deque", dict := none, data := .fields #[.none, .int 0 0] }
theorem dq_mro : mroOf (.type "collections.deque") = pure [.type "collections.deque", .type "object"] := by rw [mroOf_type]; kernel_rfl
theorem dq_lnew : typeLookup (.type "collections.deque") "__new__" = pure (some (.builtin "collections.deque.__new__")) := by rw [typeLookup_type, builtinLookup_eq_fast]; kernel_rfl
theorem dq_slot_init : Slot "collections.deque" "__init__" "collections.deque.__init__" :=
  .of (owner := "collections.deque") (n := "__init__") (by rw [typeLookup_type, builtinLookup_eq_fast]; kernel_rfl) (by decide +kernel) (by decide +kernel) (by decide +kernel)
    (by first | exact .inl (by decide +kernel) | exact .inr (by decide +kernel)) (by rw [isSubtype_type]; kernel_rfl)
theorem dq_slot_len : Slot "collections.deque" "__len__" "collections.deque.__len__" :=
  .of (owner := "collections.deque") (n := "__len__") (by rw [typeLookup_type, builtinLookup_eq_fast]; kernel_rfl) (by decide +kernel) (by decide +kernel) (by decide +kernel)
    (by first | exact .inl (by decide +kernel) | exact .inr (by decide +kernel)) (by rw [isSubtype_type]; kernel_rfl)
theorem dq_e_len : entryFor table "collections.deque.__len__" = some Builtin.«collections.deque.__len__» := entryFor_of_tree (by kernel_rfl)
theorem dq_e_init : entryFor table "collections.deque.__init__" = some Builtin.«collections.deque.__init__» := entryFor_of_tree (by kernel_rfl)
theorem dq_e_new : entryFor table "collections.deque.__new__" = some Builtin.«collections.deque.__new__» := entryFor_of_tree (by kernel_rfl)
theorem dq_made : Bind.madeBy (.type "collections.deque") = pure (some "collections.deque.__new__") := madeBy_type dq_mro dq_lnew (by decide +kernel)
theorem dq_sub : isSubtype (.type "collections.deque") (.type "collections.deque") = pure true := by rw [isSubtype_type]; kernel_rfl
theorem dq_called : TypeCalled "collections.deque" "collections.deque.__new__" "collections.deque.__init__" :=
  ⟨by decide +kernel, by decide +kernel, ⟨_, _, dq_mro⟩, dq_made, by decide +kernel, dq_sub, dq_slot_init⟩
theorem dq_tcall : checkTypeCall "collections.deque" ⟨[], []⟩ = pure () := by kernel_rfl
theorem dq_ncall : checkBuiltinCall "collections.deque.__new__" ⟨[.type "collections.deque"], []⟩ = pure () := by kernel_rfl
theorem dq_plain : plainId "collections.deque.__new__" = true := by decide +kernel
theorem dq_owner : Manifest.owners.lookup (String.ofList ['e', 'u', 'q', 'e', 'd', '.', 's', 'n', 'o', 'i', 't', 'c', 'e', 'l', 'l', 'o', 'c'].reverse) = some Manifest.sig_collections_deque := by kernel_rfl
theorem dq_ai (a : Value) : argsOk "collections.deque.__init__" ⟨[a], []⟩ := by
  unfold argsOk; rw [signature?_of (id := "collections.deque.__init__") (n := ['_', '_', 't', 'i', 'n', 'i', '_', '_']) (o := ['e', 'u', 'q', 'e', 'd', '.', 's', 'n', 'o', 'i', 't', 'c', 'e', 'l', 'l', 'o', 'c']) (by kernel_rfl) dq_owner]; kernel_rfl
theorem dq_al (a : Value) : argsOk "collections.deque.__len__" ⟨[a], []⟩ := by
  unfold argsOk; rw [signature?_of (id := "collections.deque.__len__") (n := ['_', '_', 'n', 'e', 'l', '_', '_']) (o := ['e', 'u', 'q', 'e', 'd', '.', 's', 'n', 'o', 'i', 't', 'c', 'e', 'l', 'l', 'o', 'c']) (by kernel_rfl) dq_owner]; kernel_rfl
theorem dq_noBool : typeLookup (.type "collections.deque") "__bool__" = pure none := by rw [typeLookup_type, builtinLookup_eq_fast]; kernel_rfl
end
section
open PySem PySem.W PyProof.Rows PySem.Calls Builtin
section
variable {prog : Program} {w : World} {A : Around} {E : Value → Shared → Prop} {s : Shared}
theorem dq_new {Q₁ : Value → Shared → Prop} (h : Q₁ (.ref s.heap.objs.size) { s with heap := s.heap.push dqObj }) :
    codeAny (model prog w) A (.call (.builtin "collections.deque.__new__") ⟨[.type "collections.deque"], []⟩) (wants Q₁ E) s := by
  refine codeAny_of_tree ?_
  show wpAny _ A.in1 (do checkBuiltinCall "collections.deque.__new__" ⟨[.type "collections.deque"], []⟩; again (.builtin "collections.deque.__new__" ⟨[.type "collections.deque"], []⟩)) _ _ s
  refine wpAny_bind (wpAny_of_eq dq_ncall (wpAny_pure ⟨plainId_quiet dq_plain _, codeAny_builtin dq_e_new ?_⟩))
  rw [Around.under_plainId dq_plain _]
  unfold Builtin.«collections.deque.__new__» Builtin.Deque.newArgs Builtin.Deque.new
  have hsub := dq_sub
  obtain ⟨hp, g, d, tk, os⟩ := s
  dsimp only
  wp_walk
  refine wpAny_of_eq (show isSubtype (.type "collections.deque") (.type Deque.ty) = pure true from dq_sub) (wpAny_pure ?_)
  have e1 : ¬ ((#[] : Array Value).size > sizeLine) := by decide
  have e2 : typeHasDict (.type "collections.deque") = false := by decide +kernel
  dsimp only
  rw [if_neg e1, e2]
  refine wpAny_bind ?_
  rw [if_neg (by decide)]
  refine wpAny_bind (wpAny_pure ?_)
  simp only [newObj]
  refine wpAny_bind (wpAny_alloc (wpAny_pure ?_))
  exact wpAny_pure h
theorem dq_upd (h : Heap) : (h.push dqObj).update h.objs.size (Obj.mapFields (·.setIfInBounds 0 .none)) = h.push dqObj := by
  obtain ⟨objs, l⟩ := h
  show (⟨(objs.push dqObj).modify objs.size (Obj.mapFields (·.setIfInBounds 0 .none)), l⟩ : Heap) = ⟨objs.push dqObj, l⟩
  congr 1
  apply Array.ext
  · simp
  · intro i h1 h2
    rw [Array.getElem_modify]
    split
    · subst i
      simp [Obj.mapFields]
    · rfl
theorem dq_call {Q : Value → Shared → Prop} (h : Q (.ref s.heap.objs.size) { s with heap := s.heap.push dqObj }) :
    wpAny (model prog w) A (call (.type "collections.deque") []) Q E s := by
  obtain ⟨c, tl, hmro⟩ := dq_called.mro
  have hmade := dq_called.made
  have hsub := dq_called.sub
  refine wpAny_call (codeAny_of_tree ?_)
  show wpAny _ _ (callAny (.type "collections.deque") _) _ _ _
  refine wpAny_pure ⟨Code.quiet_builtin _ (by decide +kernel), codeAny_builtin F.entry_type_call ?_⟩
  rw [Around.under_plain (weight_type_call_type "collections.deque" [] []) rfl]
  have h1 := dq_called.notType
  have h2 := dq_called.canCreate
  have hct := dq_tcall
  repeat (any_goals (first | assumption | wp_step))
  refine codeAny_mono (dq_new (E := E) (Q₁ := fun obj s₁ => obj = .ref s.heap.objs.size ∧ s₁ = { s with heap := s.heap.push dqObj }) ⟨rfl, rfl⟩) fun r s₁ hr => ?_
  cases r with
  | error e => exact hr
  | ok fl =>
    cases fl with
    | ret obj =>
      obtain ⟨rfl, rfl⟩ := hr
      have hS : (s.heap.push dqObj).get? s.heap.objs.size = some dqObj := Heap.get?_push_size _ rfl
      have hT : Shared.TypeIs { s with heap := s.heap.push dqObj } (.ref s.heap.objs.size) "collections.deque" := ⟨_, hS, rfl⟩
      have hli := dq_called.init.lookup
      have hbi := dq_called.init.bind (.ref s.heap.objs.size)
      repeat (any_goals (first | assumption | wp_step))
      refine codeAny_mono (codeAny_call_builtin (R := wants (fun r s₂ => r = .none ∧ Q (.ref s.heap.objs.size) s₂) E) dq_called.init.plain dq_e_init (dq_slot_init.check _ _ _ _ _ _ _ _ hT (dq_ai _) ?_)) fun r₂ s₂ hr₂ => ?_
      · unfold Builtin.«collections.deque.__init__»
        show wpAny _ _ (setField (.ref s.heap.objs.size) 0 .none >>= fun _ => (Deque.clear (.ref s.heap.objs.size) >>= fun _ => ret .none)) _ _ _
        refine wpAny_bind (wpAny_setField hS rfl (by decide) ?_)
        dsimp only
        rw [dq_upd]
        unfold Deque.clear Deque.items fieldsOf
        refine wpAny_bind (wpAny_bind (wpAny_bind (wpAny_bind (wpAny_load hS (wpAny_pure (wpAny_pure ?_))))))
        rw [if_neg (by decide)]
        exact wpAny_pure (wpAny_pure ⟨rfl, h⟩)
      · cases r₂ with
        | error e => exact hr₂
        | ok fl₂ =>
          cases fl₂ with
          | ret r =>
            obtain ⟨rfl, hq⟩ := hr₂
            repeat (any_goals (first | assumption | wp_step))
          | _ => exact hr₂.elim
    | _ => exact hr.elim
theorem dq_len {q : Addr} {Q : Value → Shared → Prop} (hq : s.heap.get? q = some dqObj) (h : Q (.int 0 (s.toks + 1)) { s with toks := s.toks + 1 + 1 }) : wpAny (model prog w) A (Builtin.«len» ⟨[.ref q], []⟩) (fun fin s' => ∃ r, fin = .done (.ret r) ∧ Q r s') E s := by
  have hT : s.TypeIs (.ref q) "collections.deque" := ⟨_, hq, rfl⟩
  unfold Builtin.«len»
  refine wpAny_bind (m := oneArg "len" _) (wpAny_pure ?_)
  refine wpAny_bind (m := callSpecial? (.ref q) (Str.ofString "__len__")) (wpAny_callSpecial?_slot (name := Str.ofString "__len__") hT dq_slot_len
    (wpAny_call_entry dq_slot_len hT dq_e_len ?_ (dq_al _)))
  · show wpAny _ _ (Deque.size (.ref q) >>= fun n => retInt n) _ _ s
    unfold Deque.size fieldsOf
    refine wpAny_bind (wpAny_bind (wpAny_bind (wpAny_load hq (wpAny_pure (wpAny_pure ?_)))))
    refine wpAny_bind (wpAny_mkInt (wpAny_pure ⟨_, rfl, ?_⟩))
    refine wpAny_bind (wpAny_holding (wpAny_pure ?_))
    refine wpAny_bind (wpAny_letGo ?_)
    show wpAny _ _ (if (0 : Int) < 0 then _ else _) _ _ _
    rw [if_neg (by omega)]
    show wpAny _ _ (if (0 : Int) ≥ 2 ^ 63 then _ else _) _ _ _
    rw [if_neg (by omega)]
    exact wpAny_bind (wpAny_mkInt (wpAny_pure ⟨_, rfl, h⟩))
theorem dq_truthy {q : Addr} {Q : Bool → Shared → Prop} (hq : s.heap.get? q = some dqObj) (h : Q false { s with toks := s.toks + 1 + 1 }) : wpAny (model prog w) A (truthy (.ref q)) Q E s := by
  have hT : s.TypeIs (.ref q) "collections.deque" := ⟨_, hq, rfl⟩
  have key : wpAny (model prog w) A (runValue (.builtin "len" ⟨[.ref q], []⟩)) (fun r s' => r = .int 0 (s.toks + 1) ∧ Q false s') E s := by
    refine wpAny_runValue (codeAny_builtin entry_len ?_)
    rw [Around.under_plainId plain_len _]
    exact wpAny_mono (dq_len (Q := fun r s' => r = .int 0 (s.toks + 1) ∧ Q false s') hq ⟨rfl, h⟩)
      (fun fin s' h' => by obtain ⟨r, rfl, hq⟩ := h'; exact hq) fun _ _ e => e
  unfold truthy
  first
    | refine wpAny_bind (wpAny_callSpecial?_none (name := Str.ofString "__bool__") hT dq_noBool ?_)
    | refine wpAny_bind (wpAny_pure (wpAny_bind (wpAny_callSpecial?_none (name := Str.ofString "__bool__") hT dq_noBool ?_)))
  first
    | refine wpAny_bind (wpAny_specialOf (name := Str.ofString "__len__") hT dq_slot_len.lookup ?_)
    | refine wpAny_bind (wpAny_pure (wpAny_bind (wpAny_specialOf (name := Str.ofString "__len__") hT dq_slot_len.lookup ?_)))
  first
    | exact wpAny_bind (wpAny_mono key (fun r s' h' => by obtain ⟨rfl, hq⟩ := h'; exact wpAny_pure hq) fun _ _ e => e)
    | exact wpAny_bind (wpAny_pure (wpAny_bind (wpAny_mono key (fun r s' h' => by obtain ⟨rfl, hq⟩ := h'; exact wpAny_pure hq) fun _ _ e => e)))
theorem dq_callN {h₀ : Heap} {L : Addr} {m : Str → Option Value} {news : List (Addr × Obj)} {Q : Value → Shared → Prop} (F : Fr h₀ L s.heap m) (N : News h₀ L s.heap news)
    (h : ∀ q h', Fr h₀ L h' m → News h₀ L h' ((q, dqObj) :: news) → (∀ p ∈ news, p.1 < q) → Q (.ref q) { s with heap := h' }) : wpAny (model prog w) A (call (.type "collections.deque") []) Q E s :=
  dq_call (h _ _ (F.push _) (N.push F _) fun p hp => Heap.lt_size (N p hp).1)
theorem dq_truthyN {h₀ : Heap} {L q : Addr} {news : List (Addr × Obj)} {Q : Bool → Shared → Prop} (N : News h₀ L s.heap news) (hm : (q, dqObj) ∈ news) (h : Q false { s with toks := s.toks + 1 + 1 }) : wpAny (model prog w) A (truthy (.ref q)) Q E s :=
  dq_truthy (N _ hm).1 h
end
end
section
open PySem PySem.W PyProof.Rows
/-- the last value laid under a name -/
noncomputable def lk : List (Str × Value) → Str → Option Value
  | [], _ => none
  | (a, v) :: r, nm => if a = nm then some v else lk r nm
/-- what a dict of names answers -/
structure Spec (es : List DictEntry) (k : Nat) (l : List (Str × Value)) : Prop where
  get : ∀ nm, (es.find? (·.key.isStr nm)).map (·.val) = lk l nm
  noref : es.any (·.refKey) = false
  len : es.length ≤ k
theorem Spec.nil : Spec [] 0 [] := ⟨fun _ => rfl, rfl, Nat.le_refl _⟩
theorem Spec.getL {es : List DictEntry} {k : Nat} {l : List (Str × Value)} (D : Spec es k l) (nm : Str) : PySem.W.getL nm es = some (lk l nm) := by
  have h := D.get nm
  have hn := D.noref
  unfold PySem.W.getL
  rw [hn]
  cases e : es.find? (·.key.isStr nm) with
  | none => rw [e] at h; simpa using h
  | some d => rw [e] at h; simpa using h
theorem isStr_str (a b : Str) (t : Tok) : (Value.str a t).isStr b = decide (a = b) := by
  rw [Bool.eq_iff_iff, decide_eq_true_iff]
  constructor
  · intro h
    exact Value.isStr_inj (.str a t) a b (by unfold Value.isStr; simp) h
  · rintro rfl
    unfold Value.isStr
    simp
theorem put_get (nm nm' : Str) (hs : Int) (t : Tok) (v : Value) : ∀ es : List DictEntry, ((putL nm hs (.str nm t) v es).find? (·.key.isStr nm')).map (·.val) = if nm = nm' then some v else (es.find? (·.key.isStr nm')).map (·.val)
  | [] => by
    simp only [putL, List.find?_cons, List.find?_nil, isStr_str]
    by_cases h : nm = nm' <;> simp [h]
  | e :: r => by
    have ih := put_get nm nm' hs t v r
    simp only [putL]
    cases h : e.key.isStr nm with
    | true =>
      simp only [if_true, List.find?_cons]
      by_cases h2 : nm = nm'
      · subst h2
        simp [h]
      · have h3 : e.key.isStr nm' = false := by
          cases h4 : e.key.isStr nm' with
          | false => rfl
          | true => exact absurd (Value.isStr_inj _ _ _ h h4) h2
        simp [h2, h3]
    | false =>
      simp only [Bool.false_eq_true, if_false, List.find?_cons]
      cases h4 : e.key.isStr nm' with
      | true =>
        have h2 : nm ≠ nm' := by rintro rfl; rw [h] at h4; cases h4
        simp [h2]
      | false => simpa using ih
theorem put_ref (nm : Str) (hs : Int) (t : Tok) (v : Value) : ∀ es : List DictEntry, es.any (·.refKey) = false → (putL nm hs (.str nm t) v es).any (·.refKey) = false
  | [], _ => by simp [putL, DictEntry.refKey]
  | e :: r, h => by
    simp only [List.any_cons, Bool.or_eq_false_iff] at h
    simp only [putL]
    split
    · simp only [List.any_cons, Bool.or_eq_false_iff]
      exact ⟨h.1, h.2⟩
    · simp only [List.any_cons, Bool.or_eq_false_iff]
      exact ⟨h.1, put_ref nm hs t v r h.2⟩
theorem put_len (nm : Str) (hs : Int) (t : Tok) (v : Value) : ∀ es : List DictEntry, (putL nm hs (.str nm t) v es).length ≤ es.length + 1 ∧ ((es.find? (·.key.isStr nm)).isSome = true → (putL nm hs (.str nm t) v es).length ≤ es.length)
  | [] => by simp [putL]
  | e :: r => by
    have ih := put_len nm hs t v r
    simp only [putL]
    cases h : e.key.isStr nm with
    | true => simp
    | false =>
      simp only [Bool.false_eq_true, if_false, List.find?_cons, h, List.length_cons]
      exact ⟨by omega, fun x => by have := ih.2 x; omega⟩
theorem Spec.put {es : List DictEntry} {k : Nat} {l : List (Str × Value)} (D : Spec es k l) (nm : Str) (hs : Int) (t : Tok) (v : Value) : Spec (putL nm hs (.str nm t) v es) (k + 1) ((nm, v) :: l) :=
  ⟨fun nm' => by rw [put_get, D.get]; rfl, put_ref _ _ _ _ _ D.noref, by have := (put_len nm hs t v es).1; have := D.len; omega⟩
theorem Spec.set {es : List DictEntry} {k : Nat} {l l' : List (Str × Value)} (D : Spec es k l) (nm : Str) (hs : Int) (t : Tok) (v : Value) (hm : (lk l nm).isSome = true) (hl : ∀ nm', lk ((nm, v) :: l) nm' = lk l' nm') : Spec (putL nm hs (.str nm t) v es) k l' :=
  ⟨fun nm' => by rw [put_get, D.get, ← hl]; rfl, put_ref _ _ _ _ _ D.noref, by
    have h2 := (put_len nm hs t v es).2 (by have := D.get nm; rw [← this] at hm; simpa using hm)
    have := D.len; omega⟩
noncomputable def lexNames : List Str := ["instream", "infile", "posix", "eof", "commenters", "wordchars", "whitespace", "whitespace_split", "quotes", "escape", "escapedquotes", "state", "pushback", "lineno", "debug", "token", "filestack", "source", "_punctuation_chars"]
theorem lex_fi (P : Params) : (lexNames.all fun nm => findIn (K P) (.ref 750) nm == some none) = true := by kernel_rfl
theorem lex_pg (P : Params) (nm : Str) : plainGet (K P) 750 nm = true := by
  show plainGet (K P) 750 "" = true
  kernel_rfl
theorem lex_hd (P : Params) : hasDictIn (K P) 750 = true := by kernel_rfl
theorem lex_sa (P : Params) : findIn (K P) (.ref 750) "__setattr__" = some (some (.builtin "object.__setattr__")) := by kernel_rfl
theorem lex_po (P : Params) : plainOver (K P) 750 = true := by kernel_rfl
theorem lex_find (P : Params) {nm : Str} (h : nm ∈ lexNames) : findIn (K P) (.ref 750) nm = some none := by
  have := List.all_eq_true.mp (lex_fi P) nm h
  exact eq_of_beq this
section
variable {w : World} {A : Around} {E : Value → Shared → Prop} {s : Shared} {x dx L : Addr} {h₀ : Heap} {m : Str → Option Value} {news : List (Addr × Obj)} {es : List DictEntry} {n k : Nat} {l : List (Str × Value)} {nm : Str} {v : Value}
theorem lex_get {expr : Bool} {Q : Value → Shared → Prop} (F : Fr h₀ L s.heap m) (X₀ : (K w.params).In h₀) (N : News h₀ L s.heap news) (h1 : (x, instObj 750 dx) ∈ news) (h2 : (dx, dictOf es n) ∈ news) (D : Spec es k l)
    (hn : nm ∈ lexNames) (hl : lk l nm = some v) (hv : handedIn v = true) (h : Q v { s with toks := s.toks + 1 }) : wpAny (model P w) A (getAttr (.ref x) nm expr) Q E s :=
  get_own F X₀ (InstAt.of_news N h1 h2) (lex_pg _ _) (lex_hd _) (lex_find _ hn) rfl (by rw [D.getL, hl]) hv h
theorem lex_set {g : Obj → List (Addr × Obj)} {Q : Unit → Shared → Prop} (F : Fr h₀ L s.heap m) (X₀ : (K w.params).In h₀) (N : News h₀ L s.heap news) (h1 : (x, instObj 750 dx) ∈ news) (h2 : (dx, dictOf es n) ∈ news) (D : Spec es k l)
    (hn : nm ∈ lexNames) (hk : k ≤ 900) (U : UpdF dx (dictOf es n) news g)
    (h : ∀ h' es' n', Fr h₀ L h' m → News h₀ L h' (g (dictOf es' n')) → Spec es' (k + 1) ((nm, v) :: l) → (∀ l', (lk l nm).isSome = true → (∀ nm', lk ((nm, v) :: l) nm' = lk l' nm') → Spec es' k l') → Q () { s with heap := h', toks := s.toks + 2 }) :
    wpAny (model P w) A (setAttr (.ref x) nm v) Q E s := by
  obtain ⟨pre, post, rfl, hg, a, b⟩ := U.split
  have hf := lex_find w.params hn
  have ht : takerIn (K w.params) 750 nm = some none := by unfold takerIn; rw [hf]; rfl
  have U' : ∀ o', Upd dx (dictOf es n) o' (pre ++ (dx, dictOf es n) :: post) (pre ++ (dx, o') :: post) := by
    intro o'
    clear hg F N h1 h2 U
    induction pre with
    | nil => exact .head b
    | cons p r ih => exact .tail (a p (.head _)) (ih fun q hq => a q (.tail _ hq))
  have hz := (put_len nm (PyData.keyHash w.params nm) (s.toks + 1) v es).1
  have hle := D.len
  refine set_dict F X₀ N (InstAt.of_news N h1 h2) rfl (lex_sa _) (lex_po _) ht (lex_hd _) (by rw [D.getL]; rfl) rfl (U' _) (by omega) fun h' F' N' => ?_
  refine h h' _ (putN nm es n) F' ?_ (D.put nm (PyData.keyHash w.params nm) (s.toks + 1) v) (fun l' hm hl => D.set nm (PyData.keyHash w.params nm) (s.toks + 1) v hm hl)
  rw [hg]
  exact N'
theorem lex_method {pl : Sem Bool} {f : Addr} {Q : Value × List Value → Shared → Prop} (F : Fr h₀ L s.heap m) (X₀ : (K w.params).In h₀) (N : News h₀ L s.heap news) (h1 : (x, instObj 750 dx) ∈ news) (h2 : (dx, dictOf es n) ∈ news) (D : Spec es k l)
    (hf : findIn (K w.params) (.ref 750) nm = some (some (.ref f))) (ht : isFn (K w.params) (.ref f) = true) (hl : lk l nm = none) (h : Q (.ref f, [.ref x]) s) : wpAny (model P w) A (getMethod (.ref x) nm pl) Q E s :=
  method_inst F X₀ (InstAt.of_news N h1 h2) (lex_pg _ _) hf ht (by rw [D.getL, hl]) h
end
end
section
open PySem PySem.W PyProof.Rows
local macro_rules | `(tactic| k_room) => `(tactic| ktr_room)
local macro_rules | `(tactic| k_all) => `(tactic| assumption)
local macro_rules | `(tactic| walk_at "execs cons") => `(tactic| (k_here; refine execs_tokC (by (first | assumption | exact Nat.succ_pos _ | exact Nat.lt_of_lt_of_le (by assumption) (by assumption) | omega)) ?_; (try (rename 0 < _ => hOld; clear hOld)); intro tk htk; walk_at "ds"))
local macro_rules | `(tactic| walk_at "execs nil") => `(tactic| (k_here; refine execs_nil_tok (by (first | assumption | exact Nat.succ_pos _ | exact Nat.lt_of_lt_of_le (by assumption) (by assumption) | omega)) ?_; (try (rename 0 < _ => hOld; clear hOld)); intro tk htk hge; clear hge))
local macro_rules | `(tactic| walk_at "forall") => `(tactic| ((with_reducible show _ ≤ _ → _); intro hle; (try dsimp only at hle)))
local macro_rules | `(tactic| walk_at "exec If") => `(tactic| (k_here; refine wpAny_If ?_))
local macro_rules | `(tactic| walk_at "ite") => `(tactic| first | with_reducible refine ite_pos (by decide) ?_ | with_reducible refine ite_neg (by decide) ?_)
section
open PySem PySem.W PyProof.Rows
local macro_rules | `(tactic| walk_at "call ref") => `(tactic| (k_here; (with_reducible show wpAny _ _ (call (Value.ref 615) [Value.str _ _]) _ _ _); k_dflt (refine' gives_use (sio_gives _ _ ?hv) ?k1 ?k2 ?k3 ?k4 ?k5 ?kK ?kd ?ku ?kt ?_; (case hv => walk_at "as"); (case kt => omega); walk_at "A5"; walk_at "rm"; k_whole; intro r9 n9 h9 tk9 F9 N9 p9; obtain ⟨x9, d9, a9, b9, c9, t9, e9, e8, l9, l8⟩ := p9; subst e9; subst e8; (try k_lt l9); (try k_lt2 l8); walk_at "ds")))
theorem iadd_any {w : World} {A : Around} {E : Value → Shared → Prop} {s : Shared} {x y : Str} {t u : Tok} {Q : Value → Shared → Prop} (hsz : Nat.ble (x.length + y.length) 200 = true) (hq : Txt.contains (x ++ y) ⟨#[34]⟩ = false) (h : ∀ z : Str, Txt.contains z ⟨#[34]⟩ = false → ∀ t' k, Q (.str z t') { s with toks := k }) : wpAny (model P w) A (inplaceOp .Add (.str x t) (.str y u)) Q E s :=
  SBL.iadd (fun t' k _ => h _ hq t' k) (Nat.le_trans (Nat.le_of_ble_eq_true hsz) (by decide))
local macro_rules | `(tactic| walk_at "inplaceOp Add str str") => `(tactic| (k_here; k_dflt (refine' iadd_any ?hs ?hq ?_; (case hs | hq => kernel_rfl); intro z9 hz9 t9 k9)))
theorem lk_head {a : Str} {v : Value} {r : List (Str × Value)} : lk ((a, v) :: r) a = some v := by unfold lk; rw [if_pos rfl]
theorem lk_ne {a nm : Str} {v : Value} {r : List (Str × Value)} {o : Option Value} (h : a ≠ nm) (h2 : lk r nm = o) : lk ((a, v) :: r) nm = o := by unfold lk; rw [if_neg h]; exact h2
local macro_rules | `(tactic| walk_at "lk") => `(tactic| first | (with_reducible exact lk_head) | (refine' lk_ne ?a ?b; (case a => decide +kernel); (case b => walk_at "lk")))
local macro_rules | `(tactic| walk_at "setAttr ref") => `(tactic| (k_here; (rename Spec _ _ _ => dOld); k_dflt (refine' lex_set ?k1 ?k2 ?k3 ?k4 ?k5 ?k6 ?k7 ?k8 ?k9 ?_; (case k1 | k2 | k3 => k_asm); (case k4 | k5 => k_mem); (case k6 => exact dOld); (case k7 => decide +kernel); (case k8 => exact Nat.le_of_ble_eq_true rfl); (case k9 => k_updF); k_whole; clear dOld; intro h9 es9 n9 F9 N9 D9 _a9; clear _a9; walk_at "sw")))
local macro_rules | `(tactic| walk_at "getAttr ref") => `(tactic| (k_here; k_dflt (refine' lex_get ?k1 ?k2 ?k3 ?k4 ?k5 ?k6 ?k7 ?k8 ?k9 ?_; walk_at "lx"; (case k7 => decide +kernel); (case k8 => walk_at "lk"); (case k9 => k_handed); k_whole)))
local macro_rules | `(tactic| walk_at "call type:collections.deque nil nil") => `(tactic| (k_here; k_dflt (refine' dq_callN ?k1 ?k2 ?_; (case k1 | k2 => k_asm)); intro q9 h9 F9 N9 l9; (try k_lt l9); walk_at "ds"))
structure LexC where
  sx : Nat
  q1 : Nat
  q2 : Nat
  W : Str
  tw : Tok
  tc : Tok
  tws : Tok
  tq : Tok
  te : Tok
  teq : Tok
  td : Tok
  tp : Tok
noncomputable def lexL (c : LexC) (st tok ln : Value) (cm : Str) (b : Bool) : List (Str × Value) :=
  [("state", st), ("token", tok), ("lineno", ln), ("instream", .ref c.sx), ("infile", .none), ("posix", .bool true), ("eof", .none), ("commenters", .str cm c.tc), ("wordchars", .str c.W c.tw), ("whitespace", .str " \t\r\n" c.tws), ("whitespace_split", .bool b), ("quotes", .str "'\"" c.tq), ("escape", .str "\\" c.te), ("escapedquotes", .str "\"" c.teq), ("pushback", .ref c.q1), ("debug", .int 0 c.td), ("filestack", .ref c.q2), ("source", .none), ("_punctuation_chars", .str "" c.tp)]
theorem lk_none {nm : Str} : ∀ {l : List (Str × Value)}, (∀ p ∈ l, p.1 ≠ nm) → lk l nm = none
  | [], _ => rfl
  | (a, v) :: r, h => by unfold lk; rw [if_neg (h (a, v) (.head _))]; exact lk_none fun p hp => h p (.tail _ hp)
theorem lk_same {l l' : List (Str × Value)} (h1 : lexNames.map (lk l) = lexNames.map (lk l')) (h2 : (l.all fun p => lexNames.contains p.1) = true) (h3 : (l'.all fun p => lexNames.contains p.1) = true) (nm : Str) : lk l nm = lk l' nm := by
  by_cases h : nm ∈ lexNames
  · exact List.map_inj_left.mp h1 nm h
  · have g : ∀ {k : List (Str × Value)}, (k.all fun p => lexNames.contains p.1) = true → lk k nm = none := fun {k} hk => lk_none fun p hp e => h (by
      have := List.all_eq_true.mp hk p hp
      rw [← e]
      simpa using this)
    rw [g h2, g h3]
theorem Spec.to {es : List DictEntry} {k k' : Nat} {l l' : List (Str × Value)} (D : Spec es k l) (hk : k ≤ k') (h1 : lexNames.map (lk l) = lexNames.map (lk l')) (h2 : (l.all fun p => lexNames.contains p.1) = true) (h3 : (l'.all fun p => lexNames.contains p.1) = true) : Spec es k' l' :=
  ⟨fun nm => by rw [D.get, lk_same h1 h2 h3], D.noref, Nat.le_trans D.len hk⟩
theorem lex_end {es : List DictEntry} {k sx q1 q2 : Nat} {z w0 : Str} {tp tt td tl tst teq te tq tws tw tw0 tc : Tok} (D : Spec es k [("_punctuation_chars", .str "" tp), ("source", .none), ("filestack", .ref q2), ("token", .str "" tt), ("debug", .int 0 td), ("lineno", .int 1 tl), ("pushback", .ref q1), ("state", .str " " tst), ("escapedquotes", .str "\"" teq), ("escape", .str "\\" te), ("quotes", .str "'\"" tq), ("whitespace_split", .bool false), ("whitespace", .str " \t\r\n" tws), ("wordchars", .str z tw), ("wordchars", .str w0 tw0), ("commenters", .str "#" tc), ("eof", .none), ("posix", .bool true), ("infile", .none), ("instream", .ref sx)]) (hk : k ≤ 40) : Spec es 40 (lexL ⟨sx, q1, q2, z, tw, tc, tws, tq, te, teq, td, tp⟩ (.str " " tst) (.str "" tt) (.int 1 tl) "#" false) :=
  D.to hk (by kernel_rfl) (by kernel_rfl) (by kernel_rfl)
theorem linit_gives {w : World} {news : List (Addr × Obj)} (x dx : Nat) (v : Str) (tv : Tok) (hv : v.length ≤ 100000) (hl : ∀ p ∈ news, p.1 < dx) (hx : dx < x)
    (ps : Program) (loose : List Str) (mean : ExcName → Option Value) (mg mb : Str → Option Value) (dp u : Nat) (gd : Option (List Code)) (cn : Str) (cs : Scope) (a : Addr) (ccd : Value) (cl : List (Str × Addr)) (outer : List Env) (A₀ : Around) (base h₀ : Heap) (L : Addr) (m : Str → Option Value) (s : Shared)
    (R : Result → Shared → Prop) (B : Below A₀ base outer h₀) (F : Fr h₀ L s.heap m) (X : (K w.params).In h₀) (N : News h₀ L s.heap ((x, instObj 750 dx) :: (dx, dictOf [] 0) :: news)) (T : Top ps loose mean mg mb h₀) (hk : cs.kind = .function) (hd : dp + 10 < recursionLimit) (hu : u + 80 < cLine) (ht : 0 < s.toks)
    (ret : ∀ (c : LexC) (sd : Nat) k1 k2 k3 tp tt tst tl es n h' tk', Fr h₀ L h' m → News h₀ L h' ((c.q2, dqObj) :: (c.q1, dqObj) :: (c.sx, instObj 615 sd) :: (sd, dictOf (sioD w.params k1 k2 k3 v tv 0 tp) 3) :: (x, instObj 750 dx) :: (dx, dictOf es n) :: news) → Spec es 40 (lexL c (.str " " tst) (.str "" tt) (.int 1 tl) "#" false) → Txt.contains c.W ⟨#[34]⟩ = false → 
       x < sd → sd < c.sx → c.sx < c.q1 → c.q1 < c.q2 → R (.ok (.ret .none)) { s with heap := h', toks := tk' }) :
    codeAny (model P w) (ktrTop dp u gd cn cs L a ccd cl outer) (.call (.ref 674) ⟨[.ref x, .str v tv], [("posix", .bool true)]⟩) R s := by
  have D0 := Spec.nil
  have hne : ∀ p ∈ news, p.1 ≠ dx := fun p hp => Nat.ne_of_lt (hl p hp)
  have hnx : ∀ p ∈ news, p.1 ≠ x := fun p hp => Nat.ne_of_lt (Nat.lt_trans (hl p hp) hx)
  k_dflt (refine' code_def (binds := [("self", .ref x), ("instream", .str v tv), ("infile", .none), ("posix", .bool true), ("punctuation_chars", .bool false)]) ?k1 ?k2 ?k3 ?k4 ?k5 ?kA ?kF ?kK ?k6 ?k7 ?k8 ?k9 ?kB ?_ ?c2 ?c3 ?c4 ?c5; (case kA => exact rfl); (case kF => exact rfl); (case kK => assumption); (case k1 => k_asm); (case k2 => k_asm); (case k3 => k_asm); (case k4 => k_asm); (case k5 => k_asm); (case k6 => k_is); (case k7 => k_is); (case k8 => ktr_room); (case k9 => exact kp_binds (by k_in) (fun S => by kernel_rfl)); (case c5 => decide); (case kB => exact locs rfl); (case c2 => exact rfl); (case c3 => exact rfl); (case c4 => exact rfl); k_whole; intro g' L' h' FG' F' N' B' X' T'; (try dsimp only); (try k_fold))
  k_steps
  rename Spec _ _ _ => dEnd
  rename Txt.contains _ _ = false => hW
  exact ret _ _ _ _ _ _ _ _ _ _ _ _ _ (by k_asm) (by k_asm) (lex_end dEnd (by decide)) hW (And.left (by assumption)) (by assumption) (And.left (by assumption)) (And.left (by assumption))
end
section
open PySem PySem.W PyProof.Rows
theorem lex_weight (C : Addr) (rest : List Value) (kw : List (Str × Value)) : (Code.builtin "type.__call__" ⟨.ref C :: rest, kw⟩).weight = 1 := by kernel_rfl
theorem lex_units (C : Addr) (rest : List Value) (kw : List (Str × Value)) : (Code.builtin "type.__call__" ⟨.ref C :: rest, kw⟩).cUnits = 1 := by kernel_rfl
theorem lex_under {dp u : Nat} {gd : Option (List Code)} {cn : Str} {cs : Scope} {L a : Addr} {ccd : Value} {cl : List (Str × Addr)} {outer : List Env} {C : Addr} {rest : List Value} {kw : List (Str × Value)} :
    (ktrTop dp u gd cn cs L a ccd cl outer).under (.builtin "type.__call__" ⟨.ref C :: rest, kw⟩) = ktrTop (dp + 1) (u + 1) gd cn cs L a ccd cl outer := by
  unfold Around.under
  rw [lex_weight, lex_units]
  rfl
theorem lex_makes (P : Params) : makesIn (K P) 750 = true := by kernel_rfl
theorem lex_initf (P : Params) : findIn (K P) (.ref 750) "__init__" = some (some (.ref 674)) := by kernel_rfl
theorem lex_isfn (P : Params) : isFn (K P) (.ref 674) = true := by kernel_rfl
theorem lex_gives {w : World} {news : List (Addr × Obj)} (v : Str) (tv : Tok) (hv : v.length ≤ 100000)
    (ps : Program) (loose : List Str) (mean : ExcName → Option Value) (mg mb : Str → Option Value) (dp u : Nat) (gd : Option (List Code)) (cn : Str) (cs : Scope) (a : Addr) (ccd : Value) (cl : List (Str × Addr)) (outer : List Env) (A₀ : Around) (base h₀ : Heap) (L : Addr) (m : Str → Option Value) (s : Shared)
    (Q E : Value → Shared → Prop) (B : Below A₀ base outer h₀) (F : Fr h₀ L s.heap m) (X : (K w.params).In h₀) (N : News h₀ L s.heap news) (T : Top ps loose mean mg mb h₀) (hk : cs.kind = .function) (hd : dp + 12 < recursionLimit) (hu : u + 90 < cLine) (ht : 0 < s.toks)
    (ret : ∀ (x dx : Nat) (c : LexC) (sd : Nat) k1 k2 k3 tp tt tst tl es n h' tk', Fr h₀ L h' m → News h₀ L h' ((c.q2, dqObj) :: (c.q1, dqObj) :: (c.sx, instObj 615 sd) :: (sd, dictOf (sioD w.params k1 k2 k3 v tv 0 tp) 3) :: (x, instObj 750 dx) :: (dx, dictOf es n) :: news) → Spec es 40 (lexL c (.str " " tst) (.str "" tt) (.int 1 tl) "#" false) → Txt.contains c.W ⟨#[34]⟩ = false →
       (∀ p ∈ news, p.1 < dx) → dx < x → x < sd → sd < c.sx → c.sx < c.q1 → c.q1 < c.q2 → Q (.ref x) { s with heap := h', toks := tk' }) :
    wpAny (model P w) (ktrTop dp u gd cn cs L a ccd cl outer) (call (.ref 750) [.str v tv] [("posix", .bool true)]) Q E s := by
  refine call_cls F X N (lex_makes _) (lex_initf _) (lex_isfn _) fun x dx h' F' N' l1 l2 => ?_
  rw [lex_under]
  refine linit_gives x dx v tv hv l1 l2 ps loose mean mg mb (dp + 1) (u + 1) gd cn cs a ccd cl outer A₀ base h₀ L m _ _ B F' X N' T hk (by omega) (by omega) ht ?_
  intro c sd k1 k2 k3 tp tt tst tl es n h2 tk2 F2 N2 D2 hW o1 o2 o3 o4
  refine ⟨rfl, ?_⟩
  exact ret x dx c sd k1 k2 k3 tp tt tst tl es n h2 tk2 F2 N2 D2 hW l1 l2 o1 o2 o3 o4
end
section
open PySem PySem.W PyProof.Rows

theorem While_own {w : World} {A : Around} {E : Value → Shared → Prop} {Q : Flow → Shared → Prop} {s : Shared} {env : Env} {test : Expr} {body : List Stmt} {pos : Pos} (J : Nat → Heap → Nat → Prop) {n₀ : Nat} (hJ : J n₀ s.heap s.toks)
    (turn : ∀ n h₁ tk₁, J n h₁ tk₁ → wpAny (model P w) A (isTrue test env (eval test env)) (fun b s₂ =>
        if b = true then wpAny (model P w) A (execs body env) (fun f s₃ => match f with
          | .next | .cont => ∃ n' h' tk', s₃ = { s with heap := h', toks := tk' } ∧ n' < n ∧ J n' h' tk'
          | .brk => Q .next s₃
          | .ret v => Q (.ret v) s₃) E s₂ else Q .next s₂) E { s with heap := h₁, toks := tk₁ })
    (hE : PassesOwn (model P w) A env E := by passes_own) :
    wpAny (model P w) A (exec (.While test body [] pos) env) Q E s := by
  refine wpAny_While (codeAny_whileLoop (fun n s' => ∃ h₁ tk₁, s' = { s with heap := h₁, toks := tk₁ } ∧ J n h₁ tk₁) ?_ n₀ ⟨s.heap, s.toks, rfl, hJ⟩)
  rintro n s' ⟨h₁, tk₁, rfl, J₁⟩
  refine wpAny_mono (turn n h₁ tk₁ J₁) (fun b s₂ h₂ => ?_) hE
  cases b with
  | false =>
    simp only [Bool.false_eq_true, if_false] at h₂ ⊢
    exact wpAny_execs_nil h₂
  | true =>
    simp only [if_true] at h₂ ⊢
    refine wpAny_mono h₂ (fun f s₃ h₃ => ?_) hE
    cases f with
    | next =>
      obtain ⟨n', h', tk, rfl, hn, J₂⟩ := h₃
      exact ⟨n', hn, h', tk, rfl, J₂⟩
    | cont =>
      obtain ⟨n', h', tk, rfl, hn, J₂⟩ := h₃
      exact ⟨n', hn, h', tk, rfl, J₂⟩
    | brk => exact h₃
    | ret v => exact h₃

noncomputable def whBody : List Stmt → List Stmt
  | .While _ b _ _ :: _ => b
  | _ :: r => whBody r
  | [] => []
noncomputable def rtWh : List Stmt := whBody (sBody (inAt 24 6))
noncomputable abbrev locR (x : Nat) (q : Bool) (e : Str) (te : Tok) (nc : Option Value) : Str → Option Value := fun y => if y = "escapedstate" then some (.str e te) else if y = "quoted" then some (.bool q) else if y = "nextchar" then nc else if y = "self" then some (.ref x) else none
noncomputable abbrev led (P : Params) (c : LexC) (sd : Nat) (k1 k2 k3 : Tok) (v : Str) (tv : Tok) (i : Nat) (tp : Tok) (x dx : Nat) (es : List DictEntry) (n : Nat) (news : List (Addr × Obj)) : List (Addr × Obj) :=
  (c.q2, dqObj) :: (c.q1, dqObj) :: (c.sx, instObj 615 sd) :: (sd, dictOf (sioD P k1 k2 k3 v tv (i : Int) tp) 3) :: (x, instObj 750 dx) :: (dx, dictOf es n) :: news
noncomputable abbrev led2 (P : Params) (c : LexC) (sd : Nat) (k1 k2 k3 : Tok) (v : Str) (tv : Tok) (i : Nat) (tp : Tok) (x dx : Nat) (es : List DictEntry) (n : Nat) (news : List (Addr × Obj)) : List (Addr × Obj) :=
  (c.sx, instObj 615 sd) :: (sd, dictOf (sioD P k1 k2 k3 v tv (i : Int) tp) 3) :: (c.q2, dqObj) :: (c.q1, dqObj) :: (x, instObj 750 dx) :: (dx, dictOf es n) :: news
/-- the addresses of a shlex object lie apart -/
structure Ord (c : LexC) (sd x dx : Nat) (news : List (Addr × Obj)) : Prop where
  o1 : dx < x
  o2 : x < sd
  o3 : sd < c.sx
  o4 : c.sx < c.q1
  o5 : c.q1 < c.q2
  n1 : ∀ p ∈ news, p.1 ≠ dx
  n2 : ∀ p ∈ news, p.1 ≠ sd
section
variable {w : World} {ps : Program} {loose : List Str} {mean : ExcName → Option Value} {mg mb : Str → Option Value} {dp u : Nat} {gd : Option (List Code)} {cn : Str} {cs : Scope} {a : Addr} {ccd : Value} {cl : List (Str × Addr)} {outer : List Env} {A₀ : Around} {base h₀ : Heap} {L : Addr} {m : Str → Option Value} {s : Shared} {Q E : Value → Shared → Prop} {c : LexC} {sd : Nat} {k1 k2 k3 : Tok} {v : Str} {tv : Tok} {i : Nat} {tp : Tok} {x dx : Nat} {es : List DictEntry} {n : Nat} {news : List (Addr × Obj)}
theorem led_to {h : Heap} (N : News h₀ L h (led w.params c sd k1 k2 k3 v tv i tp x dx es n news)) : News h₀ L h (led2 w.params c sd k1 k2 k3 v tv i tp x dx es n news) :=
  News.sub N (aM (.tail _ (.tail _ (.head _))) (aM (.tail _ (.tail _ (.tail _ (.head _)))) (aM (.head _) (aM (.tail _ (.head _)) (aM (.tail _ (.tail _ (.tail _ (.tail _ (.head _))))) (aM (.tail _ (.tail _ (.tail _ (.tail _ (.tail _ (.head _)))))) (fun p hp => .tail _ (.tail _ (.tail _ (.tail _ (.tail _ (.tail _ hp))))))))))))
theorem led_of {h : Heap} (N : News h₀ L h (led2 w.params c sd k1 k2 k3 v tv i tp x dx es n news)) : News h₀ L h (led w.params c sd k1 k2 k3 v tv i tp x dx es n news) :=
  News.sub N (aM (.tail _ (.tail _ (.head _))) (aM (.tail _ (.tail _ (.tail _ (.head _)))) (aM (.head _) (aM (.tail _ (.head _)) (aM (.tail _ (.tail _ (.tail _ (.tail _ (.head _))))) (aM (.tail _ (.tail _ (.tail _ (.tail _ (.tail _ (.head _)))))) (fun p hp => .tail _ (.tail _ (.tail _ (.tail _ (.tail _ (.tail _ hp))))))))))))
theorem ord_sd (O : Ord c sd x dx news) : ∀ p ∈ ((c.q2, dqObj) :: (c.q1, dqObj) :: (x, instObj 750 dx) :: (dx, dictOf es n) :: news : List (Addr × Obj)), p.1 ≠ sd := by
  have a3 := Nat.lt_trans O.o4 O.o5
  exact aN (Nat.ne_of_gt (Nat.lt_trans O.o3 a3)) (aN (Nat.ne_of_gt (Nat.lt_trans O.o3 O.o4)) (aN (Nat.ne_of_lt O.o2) (aN (Nat.ne_of_lt (Nat.lt_trans O.o1 O.o2)) O.n2)))
theorem rd_chr {ch : Nat} {t1 : Tok} (O : Ord c sd x dx news) (hv : v.length ≤ 100000) (hc : v.cps.toList[i]? = some ch) (B : Below A₀ base outer h₀) (F : Fr h₀ L s.heap m) (X : (K w.params).In h₀) (N : News h₀ L s.heap (led w.params c sd k1 k2 k3 v tv i tp x dx es n news)) (T : Top ps loose mean mg mb h₀) (hk : cs.kind = .function) (hd : dp + 3 < recursionLimit) (hu : u + 30 < cLine) (ht : 0 < s.toks)
    (ret : ∀ t tp' h' tk', Fr h₀ L h' m → News h₀ L h' (led w.params c sd k1 k2 k3 v tv (i + 1) tp' x dx es n news) → Q (.str ⟨#[ch]⟩ t) { s with heap := h', toks := tk' }) :
    wpAny (model P w) (ktrTop dp u gd cn cs L a ccd cl outer) (call (.ref 561) [.ref c.sx, .int 1 t1]) Q E s := by
  refine gives_use (read_one c.sx sd k1 k2 k3 v tv i ch tp t1 hv hc (ord_sd O) (Nat.ne_of_lt O.o3)) B F X (led_to N) T hk hd hu ht fun r n' h' tk' F' N' p' => ?_
  obtain ⟨⟨t, rfl⟩, tp', rfl⟩ := p'
  exact ret t tp' h' tk' F' (led_of N')
theorem rd_end {t1 : Tok} (O : Ord c sd x dx news) (hv : v.length ≤ 100000) (hc : i = v.length) (B : Below A₀ base outer h₀) (F : Fr h₀ L s.heap m) (X : (K w.params).In h₀) (N : News h₀ L s.heap (led w.params c sd k1 k2 k3 v tv i tp x dx es n news)) (T : Top ps loose mean mg mb h₀) (hk : cs.kind = .function) (hd : dp + 3 < recursionLimit) (hu : u + 30 < cLine) (ht : 0 < s.toks)
    (ret : ∀ t h' tk', Fr h₀ L h' m → News h₀ L h' (led w.params c sd k1 k2 k3 v tv i tp x dx es n news) → Q (.str "" t) { s with heap := h', toks := tk' }) :
    wpAny (model P w) (ktrTop dp u gd cn cs L a ccd cl outer) (call (.ref 561) [.ref c.sx, .int 1 t1]) Q E s := by
  refine gives_use (read_end c.sx sd k1 k2 k3 v tv i tp t1 hv hc (ord_sd O) (Nat.ne_of_lt O.o3)) B F X (led_to N) T hk hd hu ht fun r n' h' tk' F' N' p' => ?_
  obtain ⟨⟨t, rfl⟩, rfl⟩ := p'
  exact ret t h' tk' F' (led_of N')
theorem lkp (st tok ln : Value) (cm : Str) (b : Bool) : lk (lexL c st tok ln cm b) "_punctuation_chars" = some (.str "" c.tp) := by kernel_rfl
end
local macro_rules | `(tactic| walk_at "getAttr ref") => `(tactic| (k_here; k_dflt (refine' lex_get ?k1 ?k2 ?k3 ?k4 ?k5 ?k6 ?k7 ?k8 ?k9 ?_; walk_at "lx"; (case k7 => decide +kernel); (case k8 => exact lkp _ _ _ _ _); (case k9 => k_handed); k_whole)))
theorem punct_code {w : World} {ps : Program} {loose : List Str} {mean : ExcName → Option Value} {mg mb : Str → Option Value} {dp u : Nat} {gd : Option (List Code)} {cn : Str} {cs : Scope} {a : Addr} {ccd : Value} {cl : List (Str × Addr)} {outer : List Env} {A₀ : Around} {base h₀ : Heap} {L : Addr} {m : Str → Option Value} {s : Shared} {c : LexC} {sd : Nat} {k1 k2 k3 : Tok} {v : Str} {tv : Tok} {i : Nat} {tp : Tok} {x dx : Nat} {es : List DictEntry} {n : Nat} {news : List (Addr × Obj)} {R : Result → Shared → Prop} {st tok ln : Value} {cm : Str} {b : Bool} (D : Spec es 40 (lexL c st tok ln cm b)) (B : Below A₀ base outer h₀) (F : Fr h₀ L s.heap m) (X : (K w.params).In h₀) (N : News h₀ L s.heap (led w.params c sd k1 k2 k3 v tv i tp x dx es n news)) (T : Top ps loose mean mg mb h₀) (hk : cs.kind = .function) (hd : dp + 3 < recursionLimit) (hu : u + 30 < cLine) (ht : 0 < s.toks)
    (ret : ∀ h' tk', Fr h₀ L h' m → News h₀ L h' (led w.params c sd k1 k2 k3 v tv i tp x dx es n news) → R (.ok (.ret (.str "" c.tp))) { s with heap := h', toks := tk' }) :
    codeAny (model P w) (ktrTop dp u gd cn cs L a ccd cl outer) (.call (.ref 681) ⟨[.ref x], []⟩) R s := by
  k_dflt (refine' code_def (binds := [("self", .ref x)]) ?k1 ?k2 ?k3 ?k4 ?k5 ?kA ?kF ?kK ?k6 ?k7 ?k8 ?k9 ?kB ?_ ?c2 ?c3 ?c4 ?c5; (case kA => exact rfl); (case kF => exact rfl); (case kK => assumption); (case k1 => k_asm); (case k2 => k_asm); (case k3 => k_asm); (case k4 => k_asm); (case k5 => k_asm); (case k6 => k_is); (case k7 => k_is); (case k8 => ktr_room); (case k9 => exact kp_binds (by k_in) (fun S => by kernel_rfl)); (case c5 => decide); (case kB => exact locs rfl); (case c2 => exact rfl); (case c3 => exact rfl); (case c4 => exact rfl); k_whole; intro g' L' h' FG' F' N' B' X' T'; (try dsimp only); (try k_fold))
  k_steps
  exact ret _ _ (by k_asm) (by k_asm)
end
section
open PySem PySem.W PyProof.Rows

theorem lkinstream {c : LexC} {st tok ln : Value} {cm : Str} {b : Bool} : lk (lexL c st tok ln cm b) "instream" = some (.ref c.sx) := by kernel_rfl
theorem lkinfile {c : LexC} {st tok ln : Value} {cm : Str} {b : Bool} : lk (lexL c st tok ln cm b) "infile" = some (.none) := by kernel_rfl
theorem lkposix {c : LexC} {st tok ln : Value} {cm : Str} {b : Bool} : lk (lexL c st tok ln cm b) "posix" = some (.bool true) := by kernel_rfl
theorem lkeof {c : LexC} {st tok ln : Value} {cm : Str} {b : Bool} : lk (lexL c st tok ln cm b) "eof" = some (.none) := by kernel_rfl
theorem lkcommenters {c : LexC} {st tok ln : Value} {cm : Str} {b : Bool} : lk (lexL c st tok ln cm b) "commenters" = some (.str cm c.tc) := by kernel_rfl
theorem lkwordchars {c : LexC} {st tok ln : Value} {cm : Str} {b : Bool} : lk (lexL c st tok ln cm b) "wordchars" = some (.str c.W c.tw) := by kernel_rfl
theorem lkwhitespace {c : LexC} {st tok ln : Value} {cm : Str} {b : Bool} : lk (lexL c st tok ln cm b) "whitespace" = some (.str " \t\r\n" c.tws) := by kernel_rfl
theorem lkwhitespace_split {c : LexC} {st tok ln : Value} {cm : Str} {b : Bool} : lk (lexL c st tok ln cm b) "whitespace_split" = some (.bool b) := by kernel_rfl
theorem lkquotes {c : LexC} {st tok ln : Value} {cm : Str} {b : Bool} : lk (lexL c st tok ln cm b) "quotes" = some (.str "'\"" c.tq) := by kernel_rfl
theorem lkescape {c : LexC} {st tok ln : Value} {cm : Str} {b : Bool} : lk (lexL c st tok ln cm b) "escape" = some (.str "\\" c.te) := by kernel_rfl
theorem lkescapedquotes {c : LexC} {st tok ln : Value} {cm : Str} {b : Bool} : lk (lexL c st tok ln cm b) "escapedquotes" = some (.str "\"" c.teq) := by kernel_rfl
theorem lkstate {c : LexC} {st tok ln : Value} {cm : Str} {b : Bool} : lk (lexL c st tok ln cm b) "state" = some (st) := by kernel_rfl
theorem lkpushback {c : LexC} {st tok ln : Value} {cm : Str} {b : Bool} : lk (lexL c st tok ln cm b) "pushback" = some (.ref c.q1) := by kernel_rfl
theorem lklineno {c : LexC} {st tok ln : Value} {cm : Str} {b : Bool} : lk (lexL c st tok ln cm b) "lineno" = some (ln) := by kernel_rfl
theorem lkdebug {c : LexC} {st tok ln : Value} {cm : Str} {b : Bool} : lk (lexL c st tok ln cm b) "debug" = some (.int 0 c.td) := by kernel_rfl
theorem lktoken {c : LexC} {st tok ln : Value} {cm : Str} {b : Bool} : lk (lexL c st tok ln cm b) "token" = some (tok) := by kernel_rfl
theorem lkfilestack {c : LexC} {st tok ln : Value} {cm : Str} {b : Bool} : lk (lexL c st tok ln cm b) "filestack" = some (.ref c.q2) := by kernel_rfl
theorem lksource {c : LexC} {st tok ln : Value} {cm : Str} {b : Bool} : lk (lexL c st tok ln cm b) "source" = some (.none) := by kernel_rfl
theorem lk_punctuation_chars {c : LexC} {st tok ln : Value} {cm : Str} {b : Bool} : lk (lexL c st tok ln cm b) "_punctuation_chars" = some (.str "" c.tp) := by kernel_rfl
local macro_rules | `(tactic| walk_at "lkL") => `(tactic| first | with_reducible exact lkinstream | with_reducible exact lkinfile | with_reducible exact lkposix | with_reducible exact lkeof | with_reducible exact lkcommenters | with_reducible exact lkwordchars | with_reducible exact lkwhitespace | with_reducible exact lkwhitespace_split | with_reducible exact lkquotes | with_reducible exact lkescape | with_reducible exact lkescapedquotes | with_reducible exact lkstate | with_reducible exact lkpushback | with_reducible exact lklineno | with_reducible exact lkdebug | with_reducible exact lktoken | with_reducible exact lkfilestack | with_reducible exact lksource | with_reducible exact lk_punctuation_chars)
section
variable {w : World} {A : Around} {E : Value → Shared → Prop} {ps : Program} {loose : List Str} {mean : ExcName → Option Value} {mg mb : Str → Option Value} {dp u : Nat} {gd : Option (List Code)} {cn : Str} {cs : Scope} {a : Addr} {ccd : Value} {cl : List (Str × Addr)} {outer : List Env} {A₀ : Around} {base h₀ : Heap} {L : Addr} {m : Str → Option Value} {s : Shared} {c : LexC} {sd : Nat} {k1 k2 k3 : Tok} {v : Str} {tv : Tok} {i : Nat} {tp : Tok} {x dx : Nat} {es : List DictEntry} {n : Nat} {news : List (Addr × Obj)} {st tok ln : Value} {cm : Str} {b : Bool}
theorem led_set {Q : Unit → Shared → Prop} {nm : Str} {y : Value} {l l' : List (Str × Value)} (O : Ord c sd x dx news) (F : Fr h₀ L s.heap m) (X : (K w.params).In h₀) (N : News h₀ L s.heap (led w.params c sd k1 k2 k3 v tv i tp x dx es n news)) (D : Spec es 40 l) (hn : nm ∈ lexNames) (hm : (lk l nm).isSome = true) (hl : ∀ nm', lk ((nm, y) :: l) nm' = lk l' nm')
    (h : ∀ h' es' n', Fr h₀ L h' m → News h₀ L h' (led w.params c sd k1 k2 k3 v tv i tp x dx es' n' news) → Spec es' 40 l' → Q () { s with heap := h', toks := s.toks + 2 }) : wpAny (model P w) A (setAttr (.ref x) nm y) Q E s := by
  have := O.o1; have := O.o2; have := O.o3; have := O.o4; have := O.o5
  refine lex_set F X N (dx := dx) (by simp) (by simp) D hn (by decide) (UpdF.tail (by show c.q2 ≠ dx; omega) (.tail (by show c.q1 ≠ dx; omega) (.tail (by show c.sx ≠ dx; omega) (.tail (by show sd ≠ dx; omega) (.tail (by show x ≠ dx; omega) (.head O.n1)))))) fun h' es' n' F' N' _ D' => ?_
  exact h h' es' n' F' N' (D' _ hm hl)
theorem set_state {Q : Unit → Shared → Prop} {y : Value} (O : Ord c sd x dx news) (F : Fr h₀ L s.heap m) (X : (K w.params).In h₀) (N : News h₀ L s.heap (led w.params c sd k1 k2 k3 v tv i tp x dx es n news)) (D : Spec es 40 (lexL c st tok ln cm b))
    (h : ∀ h' es' n', Fr h₀ L h' m → News h₀ L h' (led w.params c sd k1 k2 k3 v tv i tp x dx es' n' news) → Spec es' 40 (lexL c y tok ln cm b) → Q () { s with heap := h', toks := s.toks + 2 }) : wpAny (model P w) A (setAttr (.ref x) "state" y) Q E s :=
  led_set O F X N D (by decide +kernel) (by rw [lkstate]; rfl) (lk_same (by kernel_rfl) (by kernel_rfl) (by kernel_rfl)) h
theorem set_token {Q : Unit → Shared → Prop} {y : Value} (O : Ord c sd x dx news) (F : Fr h₀ L s.heap m) (X : (K w.params).In h₀) (N : News h₀ L s.heap (led w.params c sd k1 k2 k3 v tv i tp x dx es n news)) (D : Spec es 40 (lexL c st tok ln cm b))
    (h : ∀ h' es' n', Fr h₀ L h' m → News h₀ L h' (led w.params c sd k1 k2 k3 v tv i tp x dx es' n' news) → Spec es' 40 (lexL c st y ln cm b) → Q () { s with heap := h', toks := s.toks + 2 }) : wpAny (model P w) A (setAttr (.ref x) "token" y) Q E s :=
  led_set O F X N D (by decide +kernel) (by rw [lktoken]; rfl) (lk_same (by kernel_rfl) (by kernel_rfl) (by kernel_rfl)) h
theorem set_lineno {Q : Unit → Shared → Prop} {y : Value} (O : Ord c sd x dx news) (F : Fr h₀ L s.heap m) (X : (K w.params).In h₀) (N : News h₀ L s.heap (led w.params c sd k1 k2 k3 v tv i tp x dx es n news)) (D : Spec es 40 (lexL c st tok ln cm b))
    (h : ∀ h' es' n', Fr h₀ L h' m → News h₀ L h' (led w.params c sd k1 k2 k3 v tv i tp x dx es' n' news) → Spec es' 40 (lexL c st tok y cm b) → Q () { s with heap := h', toks := s.toks + 2 }) : wpAny (model P w) A (setAttr (.ref x) "lineno" y) Q E s :=
  led_set O F X N D (by decide +kernel) (by rw [lklineno]; rfl) (lk_same (by kernel_rfl) (by kernel_rfl) (by kernel_rfl)) h
theorem set_split {Q : Unit → Shared → Prop} {y : Bool} (O : Ord c sd x dx news) (F : Fr h₀ L s.heap m) (X : (K w.params).In h₀) (N : News h₀ L s.heap (led w.params c sd k1 k2 k3 v tv i tp x dx es n news)) (D : Spec es 40 (lexL c st tok ln cm b))
    (h : ∀ h' es' n', Fr h₀ L h' m → News h₀ L h' (led w.params c sd k1 k2 k3 v tv i tp x dx es' n' news) → Spec es' 40 (lexL c st tok ln cm y) → Q () { s with heap := h', toks := s.toks + 2 }) : wpAny (model P w) A (setAttr (.ref x) "whitespace_split" (.bool y)) Q E s :=
  led_set O F X N D (by decide +kernel) (by rw [lkwhitespace_split]; rfl) (lk_same (by kernel_rfl) (by kernel_rfl) (by kernel_rfl)) h
theorem set_comm {Q : Unit → Shared → Prop} {y : Str} {ty : Tok} (O : Ord c sd x dx news) (F : Fr h₀ L s.heap m) (X : (K w.params).In h₀) (N : News h₀ L s.heap (led w.params c sd k1 k2 k3 v tv i tp x dx es n news)) (D : Spec es 40 (lexL c st tok ln cm b))
    (h : ∀ h' es' n', Fr h₀ L h' m → News h₀ L h' (led w.params c sd k1 k2 k3 v tv i tp x dx es' n' news) → Spec es' 40 (lexL { c with tc := ty } st tok ln y b) → Q () { s with heap := h', toks := s.toks + 2 }) : wpAny (model P w) A (setAttr (.ref x) "commenters" (.str y ty)) Q E s :=
  led_set O F X N D (by decide +kernel) (by rw [lkcommenters]; rfl) (lk_same (by kernel_rfl) (by kernel_rfl) (by kernel_rfl)) h
theorem lex_propI (P : Params) : findIn (K P) (.ref 750) "punctuation_chars" = some (some (.ref 682)) := by kernel_rfl
theorem lex_propG (P : Params) : specialIn (K P) (.ref 682) "__get__" = some (some (.builtin "property.__get__")) := by kernel_rfl
theorem lex_propT (P : Params) : takesIn (K P) (.ref 682) = some true := by kernel_rfl
theorem lex_propR0 (P : Params) : (recIn (K P) 682 "property").bind List.head? = some (.ref 681) := by kernel_rfl
theorem lex_propR (P : Params) : ∃ r, recIn (K P) 682 "property" = some (.ref 681 :: r) := by
  have h := lex_propR0 P
  cases e : recIn (K P) 682 "property" with
  | none => rw [e] at h; cases h
  | some l =>
    rw [e] at h
    cases l with
    | nil => cases h
    | cons y r => simp at h; exact ⟨r, by rw [h]⟩
theorem get_punct {Q : Value → Shared → Prop} {expr : Bool} (F : Fr h₀ L s.heap m) (X : (K w.params).In h₀) (N : News h₀ L s.heap (led w.params c sd k1 k2 k3 v tv i tp x dx es n news)) (D : Spec es 40 (lexL c st tok ln cm b)) (B : Below A₀ base outer h₀) (T : Top ps loose mean mg mb h₀) (hk : cs.kind = .function) (hd : dp + 3 < recursionLimit) (hu : u + 40 < cLine)
    (ret : ∀ h' tk', 0 < tk' → Fr h₀ L h' m → News h₀ L h' (led w.params c sd k1 k2 k3 v tv i tp x dx es n news) → Q (.str "" c.tp) { s with heap := h', toks := tk' }) :
    wpAny (model P w) (ktrTop dp u gd cn cs L a ccd cl outer) (getAttr (.ref x) "punctuation_chars" expr) Q E s := by
  obtain ⟨r, hr⟩ := lex_propR w.params
  refine get_prop F X (InstAt.of_news N (.tail _ (.tail _ (.tail _ (.tail _ (.head _))))) (.tail _ (.tail _ (.tail _ (.tail _ (.tail _ (.head _))))))) (lex_pg _ _) (lex_hd _) (lex_propI _) (lex_propG _) (lex_propT _) hr ?_
  refine codeAny_toks ?_
  refine punct_code (s := { s with toks := s.toks + 1 }) D B F X N T hk hd (by show u + 1 + 30 < cLine; omega) (Nat.succ_pos _) fun h' tk' F' N' hle => ?_
  exact handed_on rfl (ret h' tk' (Nat.lt_of_lt_of_le (Nat.succ_pos _) hle) F' N')
end
open PySem PySem.W PyProof.Rows

local macro_rules | `(tactic| walk_at "getAttr ref") => `(tactic| (k_here; k_dflt (refine' lex_get ?k1 ?k2 ?k3 ?k4 ?k5 ?k6 ?k7 ?k8 ?k9 ?_; walk_at "lx"; (case k7 => decide +kernel); (case k8 => walk_at "lkL"); (case k9 => k_handed); k_whole)))
local macro_rules | `(tactic| walk_at "getAttr ref") => `(tactic| (k_here; (with_reducible show wpAny _ _ (getAttr _ (Str.ofString "punctuation_chars") _) _ _ _); k_dflt (refine' get_punct ?k1 ?k2 ?k3 ?k4 ?k5 ?k6 ?k7 ?k8 ?k9 ?_; (case k6 => k_asm); (case k7 => walk_at "K"); (case k8 => ktr_room); (case k9 => ktr_units); walk_at "A5"; k_whole; intro h9 tk9 htk9 F9 N9; walk_at "sw")))
local macro_rules | `(tactic| walk_at "setS" ) => `(tactic| first | with_reducible refine' set_state ?k1 ?k2 ?k3 ?k4 ?k5 ?_ | with_reducible refine' set_token ?k1 ?k2 ?k3 ?k4 ?k5 ?_ | with_reducible refine' set_lineno ?k1 ?k2 ?k3 ?k4 ?k5 ?_ | with_reducible refine' set_split ?k1 ?k2 ?k3 ?k4 ?k5 ?_ | with_reducible refine' set_comm ?k1 ?k2 ?k3 ?k4 ?k5 ?_)
local macro_rules | `(tactic| walk_at "setAttr ref") => `(tactic| (k_here; (rename Spec _ _ _ => dOld); k_dflt (walk_at "setS"; (case k1 | k2 | k3 | k4 => k_asm); (case k5 => exact dOld); k_whole; clear dOld; intro h9 es9 n9 F9 N9 D9; walk_at "sw")))
local macro_rules | `(tactic| walk_at "call ref") => `(tactic| (k_here; (with_reducible show wpAny _ _ (call (Value.ref 561) [Value.ref _, Value.int _ _]) _ _ _); k_dflt (refine' rd_chr ?o ?hv ?hc ?k1 ?k2 ?k3 ?k4 ?k5 ?kK ?kd ?ku ?kt ?_; (case o | hv | hc => k_asm); walk_at "use"; k_whole; intro t9 tp9 h9 tk9 F9 N9; walk_at "sw")))
theorem fr_eq {h₀ h : Heap} {L : Addr} {m m' : Str → Option Value} (F : Fr h₀ L h m) (e : ∀ y, m y = m' y) : Fr h₀ L h m' := (funext e : m = m') ▸ F
theorem loc_nc {x : Nat} {q : Bool} {e : Str} {te : Tok} {nc v : Option Value} (y : Str) : (if y = "nextchar" then v else locR x q e te nc y) = locR x q e te v y := by
  by_cases h : y = "nextchar"
  · subst h; rfl
  · simp only [locR, if_neg h]
theorem rt_head {w : World} {ps : Program} {loose : List Str} {mean : ExcName → Option Value} {mg mb : Str → Option Value} {dp u : Nat} {gd : Option (List Code)} {cn : Str} {cs : Scope} {a : Addr} {ccd : Value} {cl : List (Str × Addr)} {outer : List Env} {A₀ : Around} {base h₀ : Heap} {L : Addr} {s : Shared} {c : LexC} {sd : Nat} {k1 k2 k3 : Tok} {v : Str} {tv : Tok} {i : Nat} {tp : Tok} {x dx : Nat} {es : List DictEntry} {n : Nat} {news : List (Addr × Obj)} {st tok : Value} {ln : Int} {tl : Tok} {Q : Flow → Shared → Prop} {E : Value → Shared → Prop} {ch : Nat} {q : Bool} {e : Str} {te : Tok} {nc : Option Value}
    (O : Ord c sd x dx news) (hv : v.length ≤ 100000) (hc : v.cps.toList[i]? = some ch) (D : Spec es 40 (lexL c st tok (.int ln tl) "" true))
    (B : Below A₀ base outer h₀) (X : (K w.params).In h₀) (T : Top ps loose mean mg mb h₀) (F : Fr h₀ L s.heap (locR x q e te nc)) (N : News h₀ L s.heap (led w.params c sd k1 k2 k3 v tv i tp x dx es n news)) (hd : dp + 10 < recursionLimit) (hu : u + 60 < cLine) (ht : 0 < s.toks)
    (next : ∀ h' tk' tp' es' n' ln' tl' t', 0 < tk' → Fr h₀ L h' (locR x q e te (some (.str ⟨#[ch]⟩ t'))) → News h₀ L h' (led w.params c sd k1 k2 k3 v tv (i + 1) tp' x dx es' n' news) → Spec es' 40 (lexL c st tok (.int ln' tl') "" true) →
      wpAny (model P w) (ktrTop dp u gd "shlex.read_token" (sScope (inAt 24 6)) L 718 (.ref 717) cl outer) (execs (rtWh.drop 3) (envOf "shlex.read_token" (sScope (inAt 24 6)) L 718 (.ref 717))) Q E { s with heap := h', toks := tk' }) :
    wpAny (model P w) (ktrTop dp u gd "shlex.read_token" (sScope (inAt 24 6)) L 718 (.ref 717) cl outer) (execs rtWh (envOf "shlex.read_token" (sScope (inAt 24 6)) L 718 (.ref 717))) Q E s := by
  obtain ⟨hh, gg, dd, tk0, oo⟩ := s
  dsimp only at F N ht ⊢
  iterate 33 walk1
  · iterate 22 walk1
    exact next _ _ _ _ _ _ _ _ (by assumption) (fr_eq (by k_asm) (fun y => loc_nc y)) (by k_asm) (by k_asm)
  · iterate 14 walk1
    exact next _ _ _ _ _ _ _ _ (by assumption) (fr_eq (by k_asm) (fun y => loc_nc y)) (by k_asm) (by k_asm)
local macro_rules | `(tactic| walk_at "call ref") => `(tactic| (k_here; (with_reducible show wpAny _ _ (call (Value.ref 561) [Value.ref _, Value.int _ _]) _ _ _); k_dflt (refine' rd_end ?o ?hv ?hc ?k1 ?k2 ?k3 ?k4 ?k5 ?kK ?kd ?ku ?kt ?_; (case o | hv | hc => k_asm); walk_at "use"; k_whole; intro t9 h9 tk9 F9 N9; walk_at "sw")))
theorem rt_hend {w : World} {ps : Program} {loose : List Str} {mean : ExcName → Option Value} {mg mb : Str → Option Value} {dp u : Nat} {gd : Option (List Code)} {cn : Str} {cs : Scope} {a : Addr} {ccd : Value} {cl : List (Str × Addr)} {outer : List Env} {A₀ : Around} {base h₀ : Heap} {L : Addr} {s : Shared} {c : LexC} {sd : Nat} {k1 k2 k3 : Tok} {v : Str} {tv : Tok} {i : Nat} {tp : Tok} {x dx : Nat} {es : List DictEntry} {n : Nat} {news : List (Addr × Obj)} {st tok : Value} {ln : Int} {tl : Tok} {Q : Flow → Shared → Prop} {E : Value → Shared → Prop} {q : Bool} {e : Str} {te : Tok} {nc : Option Value}
    (O : Ord c sd x dx news) (hv : v.length ≤ 100000) (hc : i = v.length) (D : Spec es 40 (lexL c st tok (.int ln tl) "" true))
    (B : Below A₀ base outer h₀) (X : (K w.params).In h₀) (T : Top ps loose mean mg mb h₀) (F : Fr h₀ L s.heap (locR x q e te nc)) (N : News h₀ L s.heap (led w.params c sd k1 k2 k3 v tv i tp x dx es n news)) (hd : dp + 10 < recursionLimit) (hu : u + 60 < cLine) (ht : 0 < s.toks)
    (next : ∀ h' tk' tp' es' n' ln' tl' t', 0 < tk' → Fr h₀ L h' (locR x q e te (some (.str "" t'))) → News h₀ L h' (led w.params c sd k1 k2 k3 v tv i tp' x dx es' n' news) → Spec es' 40 (lexL c st tok (.int ln' tl') "" true) →
      wpAny (model P w) (ktrTop dp u gd "shlex.read_token" (sScope (inAt 24 6)) L 718 (.ref 717) cl outer) (execs (rtWh.drop 3) (envOf "shlex.read_token" (sScope (inAt 24 6)) L 718 (.ref 717))) Q E { s with heap := h', toks := tk' }) :
    wpAny (model P w) (ktrTop dp u gd "shlex.read_token" (sScope (inAt 24 6)) L 718 (.ref 717) cl outer) (execs rtWh (envOf "shlex.read_token" (sScope (inAt 24 6)) L 718 (.ref 717))) Q E s := by
  obtain ⟨hh, gg, dd, tk0, oo⟩ := s
  dsimp only at F N ht ⊢
  iterate 47 walk1
  exact next _ _ _ _ _ _ _ _ (by assumption) (fr_eq (by k_asm) (fun y => loc_nc y)) (by k_asm) (by k_asm)
open PySem PySem.W PyProof.Rows

theorem loc_q {x : Nat} {q q' : Bool} {e : Str} {te : Tok} {nc : Option Value} (y : Str) : (if y = "quoted" then some (.bool q') else locR x q e te nc y) = locR x q' e te nc y := by
  by_cases h : y = "quoted"
  · subst h; rfl
  · by_cases h2 : y = "escapedstate"
    · subst h2; rfl
    · simp only [locR, if_neg h, if_neg h2]
theorem loc_e {x : Nat} {q : Bool} {e e' : Str} {te te' : Tok} {nc : Option Value} (y : Str) : (if y = "escapedstate" then some (.str e' te') else locR x q e te nc y) = locR x q e' te' nc y := by
  by_cases h : y = "escapedstate"
  · subst h; rfl
  · simp only [locR, if_neg h]
section
variable {w : World} {A : Around} {E : Value → Shared → Prop} {s : Shared}
theorem in_known {x y : Str} {t u : Tok} {b : Bool} {Q : Value → Shared → Prop} (hb : Txt.contains x y = b) (h : Q (.bool b) s) : wpAny (model P w) A (compareOp .In (.str y u) (.str x t)) Q E s := by
  subst hb; exact SB.contains h
theorem notin_known {x y : Str} {t u : Tok} {b : Bool} {Q : Value → Shared → Prop} (hb : Txt.contains x y = b) (h : Q (.bool (!b)) s) : wpAny (model P w) A (compareOp .NotIn (.str y u) (.str x t)) Q E s := by
  subst hb; exact SB.notContains h
theorem eq_known {x y : Str} {t u : Tok} {b : Bool} {Q : Value → Shared → Prop} (hb : (x.cps.toList == y.cps.toList) = b) (h : Q (.bool b) s) : wpAny (model P w) A (compareOp .Eq (.str x t) (.str y u)) Q E s := by
  subst hb; exact P.eq_str h
theorem ne_known {x y : Str} {t u : Tok} {b : Bool} {Q : Value → Shared → Prop} (hb : (x.cps.toList == y.cps.toList) = b) (h : Q (.bool (!b)) s) : wpAny (model P w) A (compareOp .NotEq (.str x t) (.str y u)) Q E s := by
  subst hb; exact P.ne_str h
theorem tr_known {x : Str} {t : Tok} {b : Bool} {Q : Bool → Shared → Prop} (hl : x.length ≤ 200000) (hb : ((x.length : Int) != 0) = b) (h : Q b { s with toks := s.toks + 1 + 1 }) : wpAny (model P w) A (truthy (.str x t)) Q E s := by
  subst hb; exact P.truthy_str (by omega) h
theorem iadd_tok {x y : Str} {t u : Tok} {Q : Value → Shared → Prop} (hx : x.length ≤ 200000) (hy : y.length ≤ 2) (h : ∀ t' k, Q (.str (x ++ y) t') { s with toks := k }) : wpAny (model P w) A (inplaceOp .Add (.str x t) (.str y u)) Q E s :=
  SBL.iadd (fun t' k _ => h t' k) (Nat.le_trans (Nat.add_le_add hx hy) (by decide))
theorem len_app1 {x y : Str} (hx : x.length ≤ 150000) (hy : y.length ≤ 2) : (x ++ y).length ≤ 200000 := by rw [Str.length_append]; omega
end
local macro_rules | `(tactic| walk_at "compareOp In str str") => `(tactic| (k_here; (first | refine in_known (b := true) (by walk_at "kn") ?_ | refine in_known (b := false) (by walk_at "kn") ?_)))
local macro_rules | `(tactic| walk_at "compareOp NotIn str str") => `(tactic| (k_here; (first | refine notin_known (b := true) (by walk_at "kn") ?_ | refine notin_known (b := false) (by walk_at "kn") ?_)))
local macro_rules | `(tactic| walk_at "compareOp In str ref") => `(tactic| (k_here; (with_reducible show wpAny _ _ (compareOp CmpOp.In (Value.str _ _) (Value.ref _)) _ _ _); (with_unfolding_all refine' in_tuple_strs ?k1 ?k2 ?_; (case k1 => exact News.isTup (by k_asm) (by news_mem)); (case k2 => kde_strs); k_whole); (rename News _ _ _ _ => nOld); (have nNew := News.sub nOld (fun p hp => List.Mem.tail _ hp)); clear nOld))
local macro_rules | `(tactic| walk_at "compareOp Eq str str") => `(tactic| (k_here; (first | refine eq_known (b := true) (by walk_at "kn") ?_ | refine eq_known (b := false) (by walk_at "kn") ?_)))
local macro_rules | `(tactic| walk_at "compareOp NotEq str str") => `(tactic| (k_here; (first | refine ne_known (b := true) (by walk_at "kn") ?_ | refine ne_known (b := false) (by walk_at "kn") ?_)))
local macro_rules | `(tactic| walk_at "truthy str") => `(tactic| (k_here; k_dflt (first | refine tr_known (b := true) (by first | assumption | exact Nat.le_of_ble_eq_true rfl) (by walk_at "kn") ?_ | refine tr_known (b := false) (by first | assumption | exact Nat.le_of_ble_eq_true rfl) (by walk_at "kn") ?_); walk_at "ds"))
local macro_rules | `(tactic| walk_at "inplaceOp Add str str") => `(tactic| (k_here; k_dflt (refine' iadd_tok ?hx ?hy ?_; (case hx => first | assumption | exact len_app1 (by assumption) (Nat.le_of_ble_eq_true rfl)); (case hy => exact Nat.le_of_ble_eq_true rfl); intro t9 k9); walk_at "ds"))
theorem tw_ws {w : World} {ps : Program} {loose : List Str} {mean : ExcName → Option Value} {mg mb : Str → Option Value} {dp u : Nat} {gd : Option (List Code)} {cl : List (Str × Addr)} {outer : List Env} {A₀ : Around} {base h₀ : Heap} {L : Addr} {s : Shared} {c : LexC} {sd : Nat} {k1 k2 k3 : Tok} {v : Str} {tv : Tok} {i : Nat} {tp : Tok} {x dx : Nat} {es : List DictEntry} {n : Nat} {news : List (Addr × Obj)} {tok : Str} {ln : Value} {ts tt : Tok} {Q : Flow → Shared → Prop} {E : Value → Shared → Prop} {ch : Nat} {q : Bool} {e : Str} {te tn : Tok} {nc : Option Value}
    (O : Ord c sd x dx news) (h1 : Txt.contains " \t\r\n" ⟨#[ch]⟩ = true) (hlt : tok.length ≤ 200000) (hlt2 : tok.length ≤ 150000) (D : Spec es 40 (lexL c (.str " " ts) (.str "" tt) ln "" true))
    (B : Below A₀ base outer h₀) (X : (K w.params).In h₀) (T : Top ps loose mean mg mb h₀) (F : Fr h₀ L s.heap (locR x false e te (some (.str ⟨#[ch]⟩ tn)))) (N : News h₀ L s.heap (led w.params c sd k1 k2 k3 v tv i tp x dx es n news)) (hd : dp + 10 < recursionLimit) (hu : u + 60 < cLine) (ht : 0 < s.toks)
    (ret : ∀ (h' : Heap) (tk' : Nat) (es' : List DictEntry) (n' : Nat) (ts' tt' te' : Tok), 0 < tk' → Fr h₀ L h' (locR x false e te' (some (.str ⟨#[ch]⟩ tn))) → News h₀ L h' (led w.params c sd k1 k2 k3 v tv i tp x dx es' n' news) → Spec es' 40 (lexL c (.str " " ts') (.str ("") tt') ln "" true) → Q .cont { s with heap := h', toks := tk' }) :
    wpAny (model P w) (ktrTop dp u gd "shlex.read_token" (sScope (inAt 24 6)) L 718 (.ref 717) cl outer) (execs (rtWh.drop 3) (envOf "shlex.read_token" (sScope (inAt 24 6)) L 718 (.ref 717))) Q E s := by
  obtain ⟨hh, gg, dd, tk0, oo⟩ := s
  dsimp only at F N ht ⊢
  k_steps
  all_goals exact ret _ _ _ _ _ _ _ (by first | assumption | exact Nat.succ_pos _ | exact Nat.lt_of_lt_of_le (by assumption) (by assumption) | omega) (fr_eq (by k_asm) (fun y => by first | rfl | (rw [loc_q, loc_e]; done) | (rw [loc_q]; done) | (rw [loc_e]; done))) (by k_asm) (by k_asm)
theorem tw_esc {w : World} {ps : Program} {loose : List Str} {mean : ExcName → Option Value} {mg mb : Str → Option Value} {dp u : Nat} {gd : Option (List Code)} {cl : List (Str × Addr)} {outer : List Env} {A₀ : Around} {base h₀ : Heap} {L : Addr} {s : Shared} {c : LexC} {sd : Nat} {k1 k2 k3 : Tok} {v : Str} {tv : Tok} {i : Nat} {tp : Tok} {x dx : Nat} {es : List DictEntry} {n : Nat} {news : List (Addr × Obj)} {tok : Str} {ln : Value} {ts tt : Tok} {Q : Flow → Shared → Prop} {E : Value → Shared → Prop} {ch : Nat} {q : Bool} {e : Str} {te tn : Tok} {nc : Option Value}
    (O : Ord c sd x dx news) (hlt : tok.length ≤ 200000) (hlt2 : tok.length ≤ 150000) (D : Spec es 40 (lexL c (.str " " ts) (.str "" tt) ln "" true))
    (B : Below A₀ base outer h₀) (X : (K w.params).In h₀) (T : Top ps loose mean mg mb h₀) (F : Fr h₀ L s.heap (locR x false e te (some (.str ⟨#[92]⟩ tn)))) (N : News h₀ L s.heap (led w.params c sd k1 k2 k3 v tv i tp x dx es n news)) (hd : dp + 10 < recursionLimit) (hu : u + 60 < cLine) (ht : 0 < s.toks)
    (ret : ∀ (h' : Heap) (tk' : Nat) (es' : List DictEntry) (n' : Nat) (ts' tt' te' : Tok), 0 < tk' → Fr h₀ L h' (locR x false "a" te' (some (.str ⟨#[92]⟩ tn))) → News h₀ L h' (led w.params c sd k1 k2 k3 v tv i tp x dx es' n' news) → Spec es' 40 (lexL c (.str ⟨#[92]⟩ ts') (.str ("") tt') ln "" true) → Q .next { s with heap := h', toks := tk' }) :
    wpAny (model P w) (ktrTop dp u gd "shlex.read_token" (sScope (inAt 24 6)) L 718 (.ref 717) cl outer) (execs (rtWh.drop 3) (envOf "shlex.read_token" (sScope (inAt 24 6)) L 718 (.ref 717))) Q E s := by
  obtain ⟨hh, gg, dd, tk0, oo⟩ := s
  dsimp only at F N ht ⊢
  k_steps
  all_goals exact ret _ _ _ _ _ _ _ (by first | assumption | exact Nat.succ_pos _ | exact Nat.lt_of_lt_of_le (by assumption) (by assumption) | omega) (fr_eq (by k_asm) (fun y => by first | rfl | (rw [loc_q, loc_e]; done) | (rw [loc_q]; done) | (rw [loc_e]; done))) (by k_asm) (by k_asm)
theorem tw_wd {w : World} {ps : Program} {loose : List Str} {mean : ExcName → Option Value} {mg mb : Str → Option Value} {dp u : Nat} {gd : Option (List Code)} {cl : List (Str × Addr)} {outer : List Env} {A₀ : Around} {base h₀ : Heap} {L : Addr} {s : Shared} {c : LexC} {sd : Nat} {k1 k2 k3 : Tok} {v : Str} {tv : Tok} {i : Nat} {tp : Tok} {x dx : Nat} {es : List DictEntry} {n : Nat} {news : List (Addr × Obj)} {tok : Str} {ln : Value} {ts tt : Tok} {Q : Flow → Shared → Prop} {E : Value → Shared → Prop} {ch : Nat} {q : Bool} {e : Str} {te tn : Tok} {nc : Option Value}
    (O : Ord c sd x dx news) (h1 : Txt.contains " \t\r\n" ⟨#[ch]⟩ = false) (h2 : Txt.contains "\\" ⟨#[ch]⟩ = false) (h4 : Txt.contains c.W ⟨#[ch]⟩ = true) (h5 : Txt.contains "" ⟨#[ch]⟩ = false) (hlt : tok.length ≤ 200000) (hlt2 : tok.length ≤ 150000) (D : Spec es 40 (lexL c (.str " " ts) (.str "" tt) ln "" true))
    (B : Below A₀ base outer h₀) (X : (K w.params).In h₀) (T : Top ps loose mean mg mb h₀) (F : Fr h₀ L s.heap (locR x false e te (some (.str ⟨#[ch]⟩ tn)))) (N : News h₀ L s.heap (led w.params c sd k1 k2 k3 v tv i tp x dx es n news)) (hd : dp + 10 < recursionLimit) (hu : u + 60 < cLine) (ht : 0 < s.toks)
    (ret : ∀ (h' : Heap) (tk' : Nat) (es' : List DictEntry) (n' : Nat) (ts' tt' te' : Tok), 0 < tk' → Fr h₀ L h' (locR x false e te' (some (.str ⟨#[ch]⟩ tn))) → News h₀ L h' (led w.params c sd k1 k2 k3 v tv i tp x dx es' n' news) → Spec es' 40 (lexL c (.str "a" ts') (.str (⟨#[ch]⟩) tt') ln "" true) → Q .next { s with heap := h', toks := tk' }) :
    wpAny (model P w) (ktrTop dp u gd "shlex.read_token" (sScope (inAt 24 6)) L 718 (.ref 717) cl outer) (execs (rtWh.drop 3) (envOf "shlex.read_token" (sScope (inAt 24 6)) L 718 (.ref 717))) Q E s := by
  obtain ⟨hh, gg, dd, tk0, oo⟩ := s
  dsimp only at F N ht ⊢
  k_steps
  all_goals exact ret _ _ _ _ _ _ _ (by first | assumption | exact Nat.succ_pos _ | exact Nat.lt_of_lt_of_le (by assumption) (by assumption) | omega) (fr_eq (by k_asm) (fun y => by first | rfl | (rw [loc_q, loc_e]; done) | (rw [loc_q]; done) | (rw [loc_e]; done))) (by k_asm) (by k_asm)
theorem tw_quo {w : World} {ps : Program} {loose : List Str} {mean : ExcName → Option Value} {mg mb : Str → Option Value} {dp u : Nat} {gd : Option (List Code)} {cl : List (Str × Addr)} {outer : List Env} {A₀ : Around} {base h₀ : Heap} {L : Addr} {s : Shared} {c : LexC} {sd : Nat} {k1 k2 k3 : Tok} {v : Str} {tv : Tok} {i : Nat} {tp : Tok} {x dx : Nat} {es : List DictEntry} {n : Nat} {news : List (Addr × Obj)} {tok : Str} {ln : Value} {ts tt : Tok} {Q : Flow → Shared → Prop} {E : Value → Shared → Prop} {ch : Nat} {q : Bool} {e : Str} {te tn : Tok} {nc : Option Value}
    (O : Ord c sd x dx news) (hW : Txt.contains c.W ⟨#[34]⟩ = false) (hlt : tok.length ≤ 200000) (hlt2 : tok.length ≤ 150000) (D : Spec es 40 (lexL c (.str " " ts) (.str "" tt) ln "" true))
    (B : Below A₀ base outer h₀) (X : (K w.params).In h₀) (T : Top ps loose mean mg mb h₀) (F : Fr h₀ L s.heap (locR x false e te (some (.str ⟨#[34]⟩ tn)))) (N : News h₀ L s.heap (led w.params c sd k1 k2 k3 v tv i tp x dx es n news)) (hd : dp + 10 < recursionLimit) (hu : u + 60 < cLine) (ht : 0 < s.toks)
    (ret : ∀ (h' : Heap) (tk' : Nat) (es' : List DictEntry) (n' : Nat) (ts' tt' te' : Tok), 0 < tk' → Fr h₀ L h' (locR x false e te' (some (.str ⟨#[34]⟩ tn))) → News h₀ L h' (led w.params c sd k1 k2 k3 v tv i tp x dx es' n' news) → Spec es' 40 (lexL c (.str ⟨#[34]⟩ ts') (.str ("") tt') ln "" true) → Q .next { s with heap := h', toks := tk' }) :
    wpAny (model P w) (ktrTop dp u gd "shlex.read_token" (sScope (inAt 24 6)) L 718 (.ref 717) cl outer) (execs (rtWh.drop 3) (envOf "shlex.read_token" (sScope (inAt 24 6)) L 718 (.ref 717))) Q E s := by
  obtain ⟨hh, gg, dd, tk0, oo⟩ := s
  dsimp only at F N ht ⊢
  k_steps
  all_goals exact ret _ _ _ _ _ _ _ (by first | assumption | exact Nat.succ_pos _ | exact Nat.lt_of_lt_of_le (by assumption) (by assumption) | omega) (fr_eq (by k_asm) (fun y => by first | rfl | (rw [loc_q, loc_e]; done) | (rw [loc_q]; done) | (rw [loc_e]; done))) (by k_asm) (by k_asm)
theorem tw_oth {w : World} {ps : Program} {loose : List Str} {mean : ExcName → Option Value} {mg mb : Str → Option Value} {dp u : Nat} {gd : Option (List Code)} {cl : List (Str × Addr)} {outer : List Env} {A₀ : Around} {base h₀ : Heap} {L : Addr} {s : Shared} {c : LexC} {sd : Nat} {k1 k2 k3 : Tok} {v : Str} {tv : Tok} {i : Nat} {tp : Tok} {x dx : Nat} {es : List DictEntry} {n : Nat} {news : List (Addr × Obj)} {tok : Str} {ln : Value} {ts tt : Tok} {Q : Flow → Shared → Prop} {E : Value → Shared → Prop} {ch : Nat} {q : Bool} {e : Str} {te tn : Tok} {nc : Option Value}
    (O : Ord c sd x dx news) (h1 : Txt.contains " \t\r\n" ⟨#[ch]⟩ = false) (h2 : Txt.contains "\\" ⟨#[ch]⟩ = false) (h4 : Txt.contains c.W ⟨#[ch]⟩ = false) (h5 : Txt.contains "" ⟨#[ch]⟩ = false) (h3 : Txt.contains "'\"" ⟨#[ch]⟩ = false) (hlt : tok.length ≤ 200000) (hlt2 : tok.length ≤ 150000) (D : Spec es 40 (lexL c (.str " " ts) (.str "" tt) ln "" true))
    (B : Below A₀ base outer h₀) (X : (K w.params).In h₀) (T : Top ps loose mean mg mb h₀) (F : Fr h₀ L s.heap (locR x false e te (some (.str ⟨#[ch]⟩ tn)))) (N : News h₀ L s.heap (led w.params c sd k1 k2 k3 v tv i tp x dx es n news)) (hd : dp + 10 < recursionLimit) (hu : u + 60 < cLine) (ht : 0 < s.toks)
    (ret : ∀ (h' : Heap) (tk' : Nat) (es' : List DictEntry) (n' : Nat) (ts' tt' te' : Tok), 0 < tk' → Fr h₀ L h' (locR x false e te' (some (.str ⟨#[ch]⟩ tn))) → News h₀ L h' (led w.params c sd k1 k2 k3 v tv i tp x dx es' n' news) → Spec es' 40 (lexL c (.str "a" ts') (.str (⟨#[ch]⟩) tt') ln "" true) → Q .next { s with heap := h', toks := tk' }) :
    wpAny (model P w) (ktrTop dp u gd "shlex.read_token" (sScope (inAt 24 6)) L 718 (.ref 717) cl outer) (execs (rtWh.drop 3) (envOf "shlex.read_token" (sScope (inAt 24 6)) L 718 (.ref 717))) Q E s := by
  obtain ⟨hh, gg, dd, tk0, oo⟩ := s
  dsimp only at F N ht ⊢
  k_steps
  all_goals exact ret _ _ _ _ _ _ _ (by first | assumption | exact Nat.succ_pos _ | exact Nat.lt_of_lt_of_le (by assumption) (by assumption) | omega) (fr_eq (by k_asm) (fun y => by first | rfl | (rw [loc_q, loc_e]; done) | (rw [loc_q]; done) | (rw [loc_e]; done))) (by k_asm) (by k_asm)
theorem tw_end {w : World} {ps : Program} {loose : List Str} {mean : ExcName → Option Value} {mg mb : Str → Option Value} {dp u : Nat} {gd : Option (List Code)} {cl : List (Str × Addr)} {outer : List Env} {A₀ : Around} {base h₀ : Heap} {L : Addr} {s : Shared} {c : LexC} {sd : Nat} {k1 k2 k3 : Tok} {v : Str} {tv : Tok} {i : Nat} {tp : Tok} {x dx : Nat} {es : List DictEntry} {n : Nat} {news : List (Addr × Obj)} {tok : Str} {ln : Value} {ts tt : Tok} {Q : Flow → Shared → Prop} {E : Value → Shared → Prop} {ch : Nat} {q : Bool} {e : Str} {te tn : Tok} {nc : Option Value}
    (O : Ord c sd x dx news) (hlt : tok.length ≤ 200000) (hlt2 : tok.length ≤ 150000) (D : Spec es 40 (lexL c (.str " " ts) (.str "" tt) ln "" true))
    (B : Below A₀ base outer h₀) (X : (K w.params).In h₀) (T : Top ps loose mean mg mb h₀) (F : Fr h₀ L s.heap (locR x false e te (some (.str "" tn)))) (N : News h₀ L s.heap (led w.params c sd k1 k2 k3 v tv i tp x dx es n news)) (hd : dp + 10 < recursionLimit) (hu : u + 60 < cLine) (ht : 0 < s.toks)
    (ret : ∀ (h' : Heap) (tk' : Nat) (es' : List DictEntry) (n' : Nat) (ts' tt' te' : Tok), 0 < tk' → Fr h₀ L h' (locR x false e te' (some (.str "" tn))) → News h₀ L h' (led w.params c sd k1 k2 k3 v tv i tp x dx es' n' news) → Spec es' 40 (lexL c (.none) (.str ("") tt') ln "" true) → Q .brk { s with heap := h', toks := tk' }) :
    wpAny (model P w) (ktrTop dp u gd "shlex.read_token" (sScope (inAt 24 6)) L 718 (.ref 717) cl outer) (execs (rtWh.drop 3) (envOf "shlex.read_token" (sScope (inAt 24 6)) L 718 (.ref 717))) Q E s := by
  obtain ⟨hh, gg, dd, tk0, oo⟩ := s
  dsimp only at F N ht ⊢
  k_steps
  all_goals exact ret _ _ _ _ 0 _ _ (by first | assumption | exact Nat.succ_pos _ | exact Nat.lt_of_lt_of_le (by assumption) (by assumption) | omega) (fr_eq (by k_asm) (fun y => by first | rfl | (rw [loc_q, loc_e]; done) | (rw [loc_q]; done) | (rw [loc_e]; done))) (by k_asm) (by k_asm)
theorem td_quo {w : World} {ps : Program} {loose : List Str} {mean : ExcName → Option Value} {mg mb : Str → Option Value} {dp u : Nat} {gd : Option (List Code)} {cl : List (Str × Addr)} {outer : List Env} {A₀ : Around} {base h₀ : Heap} {L : Addr} {s : Shared} {c : LexC} {sd : Nat} {k1 k2 k3 : Tok} {v : Str} {tv : Tok} {i : Nat} {tp : Tok} {x dx : Nat} {es : List DictEntry} {n : Nat} {news : List (Addr × Obj)} {tok : Str} {ln : Value} {ts tt : Tok} {Q : Flow → Shared → Prop} {E : Value → Shared → Prop} {ch : Nat} {q : Bool} {e : Str} {te tn : Tok} {nc : Option Value}
    (O : Ord c sd x dx news) (hlt : tok.length ≤ 200000) (hlt2 : tok.length ≤ 150000) (D : Spec es 40 (lexL c (.str ⟨#[34]⟩ ts) (.str tok tt) ln "" true))
    (B : Below A₀ base outer h₀) (X : (K w.params).In h₀) (T : Top ps loose mean mg mb h₀) (F : Fr h₀ L s.heap (locR x q e te (some (.str ⟨#[34]⟩ tn)))) (N : News h₀ L s.heap (led w.params c sd k1 k2 k3 v tv i tp x dx es n news)) (hd : dp + 10 < recursionLimit) (hu : u + 60 < cLine) (ht : 0 < s.toks)
    (ret : ∀ (h' : Heap) (tk' : Nat) (es' : List DictEntry) (n' : Nat) (ts' tt' te' : Tok), 0 < tk' → Fr h₀ L h' (locR x true e te' (some (.str ⟨#[34]⟩ tn))) → News h₀ L h' (led w.params c sd k1 k2 k3 v tv i tp x dx es' n' news) → Spec es' 40 (lexL c (.str "a" ts') (.str (tok) tt') ln "" true) → Q .next { s with heap := h', toks := tk' }) :
    wpAny (model P w) (ktrTop dp u gd "shlex.read_token" (sScope (inAt 24 6)) L 718 (.ref 717) cl outer) (execs (rtWh.drop 3) (envOf "shlex.read_token" (sScope (inAt 24 6)) L 718 (.ref 717))) Q E s := by
  obtain ⟨hh, gg, dd, tk0, oo⟩ := s
  dsimp only at F N ht ⊢
  k_steps
  all_goals exact ret _ _ _ _ _ _ _ (by first | assumption | exact Nat.succ_pos _ | exact Nat.lt_of_lt_of_le (by assumption) (by assumption) | omega) (fr_eq (by k_asm) (fun y => by first | rfl | (rw [loc_q, loc_e]; done) | (rw [loc_q]; done) | (rw [loc_e]; done))) (by k_asm) (by k_asm)
theorem td_esc {w : World} {ps : Program} {loose : List Str} {mean : ExcName → Option Value} {mg mb : Str → Option Value} {dp u : Nat} {gd : Option (List Code)} {cl : List (Str × Addr)} {outer : List Env} {A₀ : Around} {base h₀ : Heap} {L : Addr} {s : Shared} {c : LexC} {sd : Nat} {k1 k2 k3 : Tok} {v : Str} {tv : Tok} {i : Nat} {tp : Tok} {x dx : Nat} {es : List DictEntry} {n : Nat} {news : List (Addr × Obj)} {tok : Str} {ln : Value} {ts tt : Tok} {Q : Flow → Shared → Prop} {E : Value → Shared → Prop} {ch : Nat} {q : Bool} {e : Str} {te tn : Tok} {nc : Option Value}
    (O : Ord c sd x dx news) (hlt : tok.length ≤ 200000) (hlt2 : tok.length ≤ 150000) (D : Spec es 40 (lexL c (.str ⟨#[34]⟩ ts) (.str tok tt) ln "" true))
    (B : Below A₀ base outer h₀) (X : (K w.params).In h₀) (T : Top ps loose mean mg mb h₀) (F : Fr h₀ L s.heap (locR x q e te (some (.str ⟨#[92]⟩ tn)))) (N : News h₀ L s.heap (led w.params c sd k1 k2 k3 v tv i tp x dx es n news)) (hd : dp + 10 < recursionLimit) (hu : u + 60 < cLine) (ht : 0 < s.toks)
    (ret : ∀ (h' : Heap) (tk' : Nat) (es' : List DictEntry) (n' : Nat) (ts' tt' te' : Tok), 0 < tk' → Fr h₀ L h' (locR x true "\"" te' (some (.str ⟨#[92]⟩ tn))) → News h₀ L h' (led w.params c sd k1 k2 k3 v tv i tp x dx es' n' news) → Spec es' 40 (lexL c (.str ⟨#[92]⟩ ts') (.str (tok) tt') ln "" true) → Q .next { s with heap := h', toks := tk' }) :
    wpAny (model P w) (ktrTop dp u gd "shlex.read_token" (sScope (inAt 24 6)) L 718 (.ref 717) cl outer) (execs (rtWh.drop 3) (envOf "shlex.read_token" (sScope (inAt 24 6)) L 718 (.ref 717))) Q E s := by
  obtain ⟨hh, gg, dd, tk0, oo⟩ := s
  dsimp only at F N ht ⊢
  k_steps
  all_goals exact ret _ _ _ _ _ _ _ (by first | assumption | exact Nat.succ_pos _ | exact Nat.lt_of_lt_of_le (by assumption) (by assumption) | omega) (fr_eq (by k_asm) (fun y => by first | rfl | (rw [loc_q, loc_e]; done) | (rw [loc_q]; done) | (rw [loc_e]; done))) (by k_asm) (by k_asm)
theorem td_oth {w : World} {ps : Program} {loose : List Str} {mean : ExcName → Option Value} {mg mb : Str → Option Value} {dp u : Nat} {gd : Option (List Code)} {cl : List (Str × Addr)} {outer : List Env} {A₀ : Around} {base h₀ : Heap} {L : Addr} {s : Shared} {c : LexC} {sd : Nat} {k1 k2 k3 : Tok} {v : Str} {tv : Tok} {i : Nat} {tp : Tok} {x dx : Nat} {es : List DictEntry} {n : Nat} {news : List (Addr × Obj)} {tok : Str} {ln : Value} {ts tt : Tok} {Q : Flow → Shared → Prop} {E : Value → Shared → Prop} {ch : Nat} {q : Bool} {e : Str} {te tn : Tok} {nc : Option Value}
    (O : Ord c sd x dx news) (h2 : Txt.contains "\\" ⟨#[ch]⟩ = false) (h6 : ((⟨#[ch]⟩ : Str).cps.toList == (⟨#[34]⟩ : Str).cps.toList) = false) (hlt : tok.length ≤ 200000) (hlt2 : tok.length ≤ 150000) (D : Spec es 40 (lexL c (.str ⟨#[34]⟩ ts) (.str tok tt) ln "" true))
    (B : Below A₀ base outer h₀) (X : (K w.params).In h₀) (T : Top ps loose mean mg mb h₀) (F : Fr h₀ L s.heap (locR x q e te (some (.str ⟨#[ch]⟩ tn)))) (N : News h₀ L s.heap (led w.params c sd k1 k2 k3 v tv i tp x dx es n news)) (hd : dp + 10 < recursionLimit) (hu : u + 60 < cLine) (ht : 0 < s.toks)
    (ret : ∀ (h' : Heap) (tk' : Nat) (es' : List DictEntry) (n' : Nat) (ts' tt' te' : Tok), 0 < tk' → Fr h₀ L h' (locR x true e te' (some (.str ⟨#[ch]⟩ tn))) → News h₀ L h' (led w.params c sd k1 k2 k3 v tv i tp x dx es' n' news) → Spec es' 40 (lexL c (.str ⟨#[34]⟩ ts') (.str (tok ++ ⟨#[ch]⟩) tt') ln "" true) → Q .next { s with heap := h', toks := tk' }) :
    wpAny (model P w) (ktrTop dp u gd "shlex.read_token" (sScope (inAt 24 6)) L 718 (.ref 717) cl outer) (execs (rtWh.drop 3) (envOf "shlex.read_token" (sScope (inAt 24 6)) L 718 (.ref 717))) Q E s := by
  obtain ⟨hh, gg, dd, tk0, oo⟩ := s
  dsimp only at F N ht ⊢
  k_steps
  all_goals exact ret _ _ _ _ _ _ _ (by first | assumption | exact Nat.succ_pos _ | exact Nat.lt_of_lt_of_le (by assumption) (by assumption) | omega) (fr_eq (by k_asm) (fun y => by first | rfl | (rw [loc_q, loc_e]; done) | (rw [loc_q]; done) | (rw [loc_e]; done))) (by k_asm) (by k_asm)
theorem tn {w : World} {ps : Program} {loose : List Str} {mean : ExcName → Option Value} {mg mb : Str → Option Value} {dp u : Nat} {gd : Option (List Code)} {cl : List (Str × Addr)} {outer : List Env} {A₀ : Around} {base h₀ : Heap} {L : Addr} {s : Shared} {c : LexC} {sd : Nat} {k1 k2 k3 : Tok} {v : Str} {tv : Tok} {i : Nat} {tp : Tok} {x dx : Nat} {es : List DictEntry} {n : Nat} {news : List (Addr × Obj)} {tok : Str} {ln : Value} {ts tt : Tok} {Q : Flow → Shared → Prop} {E : Value → Shared → Prop} {ch : Nat} {q : Bool} {e : Str} {te tn : Tok} {nc : Option Value}
    (O : Ord c sd x dx news) (hlt : tok.length ≤ 200000) (hlt2 : tok.length ≤ 150000) (D : Spec es 40 (lexL c (.none) (.str tok tt) ln "" true))
    (B : Below A₀ base outer h₀) (X : (K w.params).In h₀) (T : Top ps loose mean mg mb h₀) (F : Fr h₀ L s.heap (locR x q e te nc)) (N : News h₀ L s.heap (led w.params c sd k1 k2 k3 v tv i tp x dx es n news)) (hd : dp + 10 < recursionLimit) (hu : u + 60 < cLine) (ht : 0 < s.toks)
    (ret : ∀ (h' : Heap) (tk' : Nat) (es' : List DictEntry) (n' : Nat) (ts' tt' te' : Tok), 0 < tk' → Fr h₀ L h' (locR x q e te' nc) → News h₀ L h' (led w.params c sd k1 k2 k3 v tv i tp x dx es' n' news) → Spec es' 40 (lexL c (.none) (.str ("") tt') ln "" true) → Q .brk { s with heap := h', toks := tk' }) :
    wpAny (model P w) (ktrTop dp u gd "shlex.read_token" (sScope (inAt 24 6)) L 718 (.ref 717) cl outer) (execs (rtWh.drop 3) (envOf "shlex.read_token" (sScope (inAt 24 6)) L 718 (.ref 717))) Q E s := by
  obtain ⟨hh, gg, dd, tk0, oo⟩ := s
  dsimp only at F N ht ⊢
  k_steps
  all_goals exact ret _ _ _ _ 0 _ _ (by first | assumption | exact Nat.succ_pos _ | exact Nat.lt_of_lt_of_le (by assumption) (by assumption) | omega) (fr_eq (by k_asm) (fun y => by first | rfl | (rw [loc_q, loc_e]; done) | (rw [loc_q]; done) | (rw [loc_e]; done))) (by k_asm) (by k_asm)
section
open PySem PySem.W PyProof.Rows

theorem te_a {w : World} {ps : Program} {loose : List Str} {mean : ExcName → Option Value} {mg mb : Str → Option Value} {dp u : Nat} {gd : Option (List Code)} {cl : List (Str × Addr)} {outer : List Env} {A₀ : Around} {base h₀ : Heap} {L : Addr} {s : Shared} {c : LexC} {sd : Nat} {k1 k2 k3 : Tok} {v : Str} {tv : Tok} {i : Nat} {tp : Tok} {x dx : Nat} {es : List DictEntry} {n : Nat} {news : List (Addr × Obj)} {tok : Str} {ln : Value} {ts tt : Tok} {Q : Flow → Shared → Prop} {E : Value → Shared → Prop} {ch : Nat} {q : Bool} {e : Str} {te tn : Tok} {nc : Option Value}
    (O : Ord c sd x dx news) (hlt : tok.length ≤ 200000) (hlt2 : tok.length ≤ 150000) (D : Spec es 40 (lexL c (.str ⟨#[92]⟩ ts) (.str tok tt) ln "" true))
    (B : Below A₀ base outer h₀) (X : (K w.params).In h₀) (T : Top ps loose mean mg mb h₀) (F : Fr h₀ L s.heap (locR x q "a" te (some (.str ⟨#[ch]⟩ tn)))) (N : News h₀ L s.heap (led w.params c sd k1 k2 k3 v tv i tp x dx es n news)) (hd : dp + 10 < recursionLimit) (hu : u + 60 < cLine) (ht : 0 < s.toks)
    (ret : ∀ (h' : Heap) (tk' : Nat) (es' : List DictEntry) (n' : Nat) (ts' tt' te' : Tok), 0 < tk' → Fr h₀ L h' (locR x q "a" te' (some (.str ⟨#[ch]⟩ tn))) → News h₀ L h' (led w.params c sd k1 k2 k3 v tv i tp x dx es' n' news) → Spec es' 40 (lexL c (.str "a" ts') (.str (tok ++ ⟨#[ch]⟩) tt') ln "" true) → Q .next { s with heap := h', toks := tk' }) :
    wpAny (model P w) (ktrTop dp u gd "shlex.read_token" (sScope (inAt 24 6)) L 718 (.ref 717) cl outer) (execs (rtWh.drop 3) (envOf "shlex.read_token" (sScope (inAt 24 6)) L 718 (.ref 717))) Q E s := by
  obtain ⟨hh, gg, dd, tk0, oo⟩ := s
  dsimp only at F N ht ⊢
  k_steps
  all_goals exact ret _ _ _ _ _ _ _ (by first | assumption | exact Nat.succ_pos _ | exact Nat.lt_of_lt_of_le (by assumption) (by assumption) | omega) (fr_eq (by k_asm) (fun y => by first | rfl | (rw [loc_q, loc_e]; done) | (rw [loc_q]; done) | (rw [loc_e]; done))) (by k_asm) (by k_asm)
theorem te_q34 {w : World} {ps : Program} {loose : List Str} {mean : ExcName → Option Value} {mg mb : Str → Option Value} {dp u : Nat} {gd : Option (List Code)} {cl : List (Str × Addr)} {outer : List Env} {A₀ : Around} {base h₀ : Heap} {L : Addr} {s : Shared} {c : LexC} {sd : Nat} {k1 k2 k3 : Tok} {v : Str} {tv : Tok} {i : Nat} {tp : Tok} {x dx : Nat} {es : List DictEntry} {n : Nat} {news : List (Addr × Obj)} {tok : Str} {ln : Value} {ts tt : Tok} {Q : Flow → Shared → Prop} {E : Value → Shared → Prop} {ch : Nat} {q : Bool} {e : Str} {te tn : Tok} {nc : Option Value}
    (O : Ord c sd x dx news) (hlt : tok.length ≤ 200000) (hlt2 : tok.length ≤ 150000) (D : Spec es 40 (lexL c (.str ⟨#[92]⟩ ts) (.str tok tt) ln "" true))
    (B : Below A₀ base outer h₀) (X : (K w.params).In h₀) (T : Top ps loose mean mg mb h₀) (F : Fr h₀ L s.heap (locR x q "\"" te (some (.str ⟨#[34]⟩ tn)))) (N : News h₀ L s.heap (led w.params c sd k1 k2 k3 v tv i tp x dx es n news)) (hd : dp + 10 < recursionLimit) (hu : u + 60 < cLine) (ht : 0 < s.toks)
    (ret : ∀ (h' : Heap) (tk' : Nat) (es' : List DictEntry) (n' : Nat) (ts' tt' te' : Tok), 0 < tk' → Fr h₀ L h' (locR x q "\"" te' (some (.str ⟨#[34]⟩ tn))) → News h₀ L h' (led w.params c sd k1 k2 k3 v tv i tp x dx es' n' news) → Spec es' 40 (lexL c (.str ⟨#[34]⟩ ts') (.str (tok ++ ⟨#[34]⟩) tt') ln "" true) → Q .next { s with heap := h', toks := tk' }) :
    wpAny (model P w) (ktrTop dp u gd "shlex.read_token" (sScope (inAt 24 6)) L 718 (.ref 717) cl outer) (execs (rtWh.drop 3) (envOf "shlex.read_token" (sScope (inAt 24 6)) L 718 (.ref 717))) Q E s := by
  obtain ⟨hh, gg, dd, tk0, oo⟩ := s
  dsimp only at F N ht ⊢
  k_steps
  all_goals exact ret _ _ _ _ _ _ _ (by first | assumption | exact Nat.succ_pos _ | exact Nat.lt_of_lt_of_le (by assumption) (by assumption) | omega) (fr_eq (by k_asm) (fun y => by first | rfl | (rw [loc_q, loc_e]; done) | (rw [loc_q]; done) | (rw [loc_e]; done))) (by k_asm) (by k_asm)
theorem te_q92 {w : World} {ps : Program} {loose : List Str} {mean : ExcName → Option Value} {mg mb : Str → Option Value} {dp u : Nat} {gd : Option (List Code)} {cl : List (Str × Addr)} {outer : List Env} {A₀ : Around} {base h₀ : Heap} {L : Addr} {s : Shared} {c : LexC} {sd : Nat} {k1 k2 k3 : Tok} {v : Str} {tv : Tok} {i : Nat} {tp : Tok} {x dx : Nat} {es : List DictEntry} {n : Nat} {news : List (Addr × Obj)} {tok : Str} {ln : Value} {ts tt : Tok} {Q : Flow → Shared → Prop} {E : Value → Shared → Prop} {ch : Nat} {q : Bool} {e : Str} {te tn : Tok} {nc : Option Value}
    (O : Ord c sd x dx news) (hlt : tok.length ≤ 200000) (hlt2 : tok.length ≤ 150000) (D : Spec es 40 (lexL c (.str ⟨#[92]⟩ ts) (.str tok tt) ln "" true))
    (B : Below A₀ base outer h₀) (X : (K w.params).In h₀) (T : Top ps loose mean mg mb h₀) (F : Fr h₀ L s.heap (locR x q "\"" te (some (.str ⟨#[92]⟩ tn)))) (N : News h₀ L s.heap (led w.params c sd k1 k2 k3 v tv i tp x dx es n news)) (hd : dp + 10 < recursionLimit) (hu : u + 60 < cLine) (ht : 0 < s.toks)
    (ret : ∀ (h' : Heap) (tk' : Nat) (es' : List DictEntry) (n' : Nat) (ts' tt' te' : Tok), 0 < tk' → Fr h₀ L h' (locR x q "\"" te' (some (.str ⟨#[92]⟩ tn))) → News h₀ L h' (led w.params c sd k1 k2 k3 v tv i tp x dx es' n' news) → Spec es' 40 (lexL c (.str ⟨#[34]⟩ ts') (.str (tok ++ ⟨#[92]⟩) tt') ln "" true) → Q .next { s with heap := h', toks := tk' }) :
    wpAny (model P w) (ktrTop dp u gd "shlex.read_token" (sScope (inAt 24 6)) L 718 (.ref 717) cl outer) (execs (rtWh.drop 3) (envOf "shlex.read_token" (sScope (inAt 24 6)) L 718 (.ref 717))) Q E s := by
  obtain ⟨hh, gg, dd, tk0, oo⟩ := s
  dsimp only at F N ht ⊢
  k_steps
  all_goals exact ret _ _ _ _ _ _ _ (by first | assumption | exact Nat.succ_pos _ | exact Nat.lt_of_lt_of_le (by assumption) (by assumption) | omega) (fr_eq (by k_asm) (fun y => by first | rfl | (rw [loc_q, loc_e]; done) | (rw [loc_q]; done) | (rw [loc_e]; done))) (by k_asm) (by k_asm)
theorem te_qo {w : World} {ps : Program} {loose : List Str} {mean : ExcName → Option Value} {mg mb : Str → Option Value} {dp u : Nat} {gd : Option (List Code)} {cl : List (Str × Addr)} {outer : List Env} {A₀ : Around} {base h₀ : Heap} {L : Addr} {s : Shared} {c : LexC} {sd : Nat} {k1 k2 k3 : Tok} {v : Str} {tv : Tok} {i : Nat} {tp : Tok} {x dx : Nat} {es : List DictEntry} {n : Nat} {news : List (Addr × Obj)} {tok : Str} {ln : Value} {ts tt : Tok} {Q : Flow → Shared → Prop} {E : Value → Shared → Prop} {ch : Nat} {q : Bool} {e : Str} {te tn : Tok} {nc : Option Value}
    (O : Ord c sd x dx news) (h8 : ((⟨#[ch]⟩ : Str).cps.toList == (Str.ofString "\"").cps.toList) = false) (h7 : ((⟨#[ch]⟩ : Str).cps.toList == (⟨#[92]⟩ : Str).cps.toList) = false) (hlt : tok.length ≤ 200000) (hlt2 : tok.length ≤ 150000) (D : Spec es 40 (lexL c (.str ⟨#[92]⟩ ts) (.str tok tt) ln "" true))
    (B : Below A₀ base outer h₀) (X : (K w.params).In h₀) (T : Top ps loose mean mg mb h₀) (F : Fr h₀ L s.heap (locR x q "\"" te (some (.str ⟨#[ch]⟩ tn)))) (N : News h₀ L s.heap (led w.params c sd k1 k2 k3 v tv i tp x dx es n news)) (hd : dp + 10 < recursionLimit) (hu : u + 60 < cLine) (ht : 0 < s.toks)
    (ret : ∀ (h' : Heap) (tk' : Nat) (es' : List DictEntry) (n' : Nat) (ts' tt' te' : Tok), 0 < tk' → Fr h₀ L h' (locR x q "\"" te' (some (.str ⟨#[ch]⟩ tn))) → News h₀ L h' (led w.params c sd k1 k2 k3 v tv i tp x dx es' n' news) → Spec es' 40 (lexL c (.str ⟨#[34]⟩ ts') (.str (tok ++ ⟨#[92]⟩ ++ ⟨#[ch]⟩) tt') ln "" true) → Q .next { s with heap := h', toks := tk' }) :
    wpAny (model P w) (ktrTop dp u gd "shlex.read_token" (sScope (inAt 24 6)) L 718 (.ref 717) cl outer) (execs (rtWh.drop 3) (envOf "shlex.read_token" (sScope (inAt 24 6)) L 718 (.ref 717))) Q E s := by
  obtain ⟨hh, gg, dd, tk0, oo⟩ := s
  dsimp only at F N ht ⊢
  k_steps
  all_goals exact ret _ _ _ _ _ _ _ (by first | assumption | exact Nat.succ_pos _ | exact Nat.lt_of_lt_of_le (by assumption) (by assumption) | omega) (fr_eq (by k_asm) (fun y => by first | rfl | (rw [loc_q, loc_e]; done) | (rw [loc_q]; done) | (rw [loc_e]; done))) (by k_asm) (by k_asm)
theorem ta_ws1 {w : World} {ps : Program} {loose : List Str} {mean : ExcName → Option Value} {mg mb : Str → Option Value} {dp u : Nat} {gd : Option (List Code)} {cl : List (Str × Addr)} {outer : List Env} {A₀ : Around} {base h₀ : Heap} {L : Addr} {s : Shared} {c : LexC} {sd : Nat} {k1 k2 k3 : Tok} {v : Str} {tv : Tok} {i : Nat} {tp : Tok} {x dx : Nat} {es : List DictEntry} {n : Nat} {news : List (Addr × Obj)} {tok : Str} {ln : Value} {ts tt : Tok} {Q : Flow → Shared → Prop} {E : Value → Shared → Prop} {ch : Nat} {q : Bool} {e : Str} {te tn : Tok} {nc : Option Value}
    (O : Ord c sd x dx news) (h1 : Txt.contains " \t\r\n" ⟨#[ch]⟩ = true) (hn : ((tok.length : Int) != 0) = true) (hlt : tok.length ≤ 200000) (hlt2 : tok.length ≤ 150000) (D : Spec es 40 (lexL c (.str "a" ts) (.str tok tt) ln "" true))
    (B : Below A₀ base outer h₀) (X : (K w.params).In h₀) (T : Top ps loose mean mg mb h₀) (F : Fr h₀ L s.heap (locR x q e te (some (.str ⟨#[ch]⟩ tn)))) (N : News h₀ L s.heap (led w.params c sd k1 k2 k3 v tv i tp x dx es n news)) (hd : dp + 10 < recursionLimit) (hu : u + 60 < cLine) (ht : 0 < s.toks)
    (ret : ∀ (h' : Heap) (tk' : Nat) (es' : List DictEntry) (n' : Nat) (ts' tt' te' : Tok), 0 < tk' → Fr h₀ L h' (locR x q e te' (some (.str ⟨#[ch]⟩ tn))) → News h₀ L h' (led w.params c sd k1 k2 k3 v tv i tp x dx es' n' news) → Spec es' 40 (lexL c (.str " " ts') (.str (tok) tt') ln "" true) → Q .brk { s with heap := h', toks := tk' }) :
    wpAny (model P w) (ktrTop dp u gd "shlex.read_token" (sScope (inAt 24 6)) L 718 (.ref 717) cl outer) (execs (rtWh.drop 3) (envOf "shlex.read_token" (sScope (inAt 24 6)) L 718 (.ref 717))) Q E s := by
  obtain ⟨hh, gg, dd, tk0, oo⟩ := s
  dsimp only at F N ht ⊢
  k_steps
  all_goals exact ret _ _ _ _ _ _ _ (by first | assumption | exact Nat.succ_pos _ | exact Nat.lt_of_lt_of_le (by assumption) (by assumption) | omega) (fr_eq (by k_asm) (fun y => by first | rfl | (rw [loc_q, loc_e]; done) | (rw [loc_q]; done) | (rw [loc_e]; done))) (by k_asm) (by k_asm)
theorem ta_ws2 {w : World} {ps : Program} {loose : List Str} {mean : ExcName → Option Value} {mg mb : Str → Option Value} {dp u : Nat} {gd : Option (List Code)} {cl : List (Str × Addr)} {outer : List Env} {A₀ : Around} {base h₀ : Heap} {L : Addr} {s : Shared} {c : LexC} {sd : Nat} {k1 k2 k3 : Tok} {v : Str} {tv : Tok} {i : Nat} {tp : Tok} {x dx : Nat} {es : List DictEntry} {n : Nat} {news : List (Addr × Obj)} {tok : Str} {ln : Value} {ts tt : Tok} {Q : Flow → Shared → Prop} {E : Value → Shared → Prop} {ch : Nat} {q : Bool} {e : Str} {te tn : Tok} {nc : Option Value}
    (O : Ord c sd x dx news) (h1 : Txt.contains " \t\r\n" ⟨#[ch]⟩ = true) (hn : ((tok.length : Int) != 0) = false) (hlt : tok.length ≤ 200000) (hlt2 : tok.length ≤ 150000) (D : Spec es 40 (lexL c (.str "a" ts) (.str tok tt) ln "" true))
    (B : Below A₀ base outer h₀) (X : (K w.params).In h₀) (T : Top ps loose mean mg mb h₀) (F : Fr h₀ L s.heap (locR x true e te (some (.str ⟨#[ch]⟩ tn)))) (N : News h₀ L s.heap (led w.params c sd k1 k2 k3 v tv i tp x dx es n news)) (hd : dp + 10 < recursionLimit) (hu : u + 60 < cLine) (ht : 0 < s.toks)
    (ret : ∀ (h' : Heap) (tk' : Nat) (es' : List DictEntry) (n' : Nat) (ts' tt' te' : Tok), 0 < tk' → Fr h₀ L h' (locR x true e te' (some (.str ⟨#[ch]⟩ tn))) → News h₀ L h' (led w.params c sd k1 k2 k3 v tv i tp x dx es' n' news) → Spec es' 40 (lexL c (.str " " ts') (.str (tok) tt') ln "" true) → Q .brk { s with heap := h', toks := tk' }) :
    wpAny (model P w) (ktrTop dp u gd "shlex.read_token" (sScope (inAt 24 6)) L 718 (.ref 717) cl outer) (execs (rtWh.drop 3) (envOf "shlex.read_token" (sScope (inAt 24 6)) L 718 (.ref 717))) Q E s := by
  obtain ⟨hh, gg, dd, tk0, oo⟩ := s
  dsimp only at F N ht ⊢
  k_steps
  all_goals exact ret _ _ _ _ _ _ _ (by first | assumption | exact Nat.succ_pos _ | exact Nat.lt_of_lt_of_le (by assumption) (by assumption) | omega) (fr_eq (by k_asm) (fun y => by first | rfl | (rw [loc_q, loc_e]; done) | (rw [loc_q]; done) | (rw [loc_e]; done))) (by k_asm) (by k_asm)
theorem ta_quo {w : World} {ps : Program} {loose : List Str} {mean : ExcName → Option Value} {mg mb : Str → Option Value} {dp u : Nat} {gd : Option (List Code)} {cl : List (Str × Addr)} {outer : List Env} {A₀ : Around} {base h₀ : Heap} {L : Addr} {s : Shared} {c : LexC} {sd : Nat} {k1 k2 k3 : Tok} {v : Str} {tv : Tok} {i : Nat} {tp : Tok} {x dx : Nat} {es : List DictEntry} {n : Nat} {news : List (Addr × Obj)} {tok : Str} {ln : Value} {ts tt : Tok} {Q : Flow → Shared → Prop} {E : Value → Shared → Prop} {ch : Nat} {q : Bool} {e : Str} {te tn : Tok} {nc : Option Value}
    (O : Ord c sd x dx news) (hlt : tok.length ≤ 200000) (hlt2 : tok.length ≤ 150000) (D : Spec es 40 (lexL c (.str "a" ts) (.str tok tt) ln "" true))
    (B : Below A₀ base outer h₀) (X : (K w.params).In h₀) (T : Top ps loose mean mg mb h₀) (F : Fr h₀ L s.heap (locR x q e te (some (.str ⟨#[34]⟩ tn)))) (N : News h₀ L s.heap (led w.params c sd k1 k2 k3 v tv i tp x dx es n news)) (hd : dp + 10 < recursionLimit) (hu : u + 60 < cLine) (ht : 0 < s.toks)
    (ret : ∀ (h' : Heap) (tk' : Nat) (es' : List DictEntry) (n' : Nat) (ts' tt' te' : Tok), 0 < tk' → Fr h₀ L h' (locR x q e te' (some (.str ⟨#[34]⟩ tn))) → News h₀ L h' (led w.params c sd k1 k2 k3 v tv i tp x dx es' n' news) → Spec es' 40 (lexL c (.str ⟨#[34]⟩ ts') (.str (tok) tt') ln "" true) → Q .next { s with heap := h', toks := tk' }) :
    wpAny (model P w) (ktrTop dp u gd "shlex.read_token" (sScope (inAt 24 6)) L 718 (.ref 717) cl outer) (execs (rtWh.drop 3) (envOf "shlex.read_token" (sScope (inAt 24 6)) L 718 (.ref 717))) Q E s := by
  obtain ⟨hh, gg, dd, tk0, oo⟩ := s
  dsimp only at F N ht ⊢
  k_steps
  all_goals exact ret _ _ _ _ _ _ _ (by first | assumption | exact Nat.succ_pos _ | exact Nat.lt_of_lt_of_le (by assumption) (by assumption) | omega) (fr_eq (by k_asm) (fun y => by first | rfl | (rw [loc_q, loc_e]; done) | (rw [loc_q]; done) | (rw [loc_e]; done))) (by k_asm) (by k_asm)
theorem ta_esc {w : World} {ps : Program} {loose : List Str} {mean : ExcName → Option Value} {mg mb : Str → Option Value} {dp u : Nat} {gd : Option (List Code)} {cl : List (Str × Addr)} {outer : List Env} {A₀ : Around} {base h₀ : Heap} {L : Addr} {s : Shared} {c : LexC} {sd : Nat} {k1 k2 k3 : Tok} {v : Str} {tv : Tok} {i : Nat} {tp : Tok} {x dx : Nat} {es : List DictEntry} {n : Nat} {news : List (Addr × Obj)} {tok : Str} {ln : Value} {ts tt : Tok} {Q : Flow → Shared → Prop} {E : Value → Shared → Prop} {ch : Nat} {q : Bool} {e : Str} {te tn : Tok} {nc : Option Value}
    (O : Ord c sd x dx news) (hlt : tok.length ≤ 200000) (hlt2 : tok.length ≤ 150000) (D : Spec es 40 (lexL c (.str "a" ts) (.str tok tt) ln "" true))
    (B : Below A₀ base outer h₀) (X : (K w.params).In h₀) (T : Top ps loose mean mg mb h₀) (F : Fr h₀ L s.heap (locR x q e te (some (.str ⟨#[92]⟩ tn)))) (N : News h₀ L s.heap (led w.params c sd k1 k2 k3 v tv i tp x dx es n news)) (hd : dp + 10 < recursionLimit) (hu : u + 60 < cLine) (ht : 0 < s.toks)
    (ret : ∀ (h' : Heap) (tk' : Nat) (es' : List DictEntry) (n' : Nat) (ts' tt' te' : Tok), 0 < tk' → Fr h₀ L h' (locR x q "a" te' (some (.str ⟨#[92]⟩ tn))) → News h₀ L h' (led w.params c sd k1 k2 k3 v tv i tp x dx es' n' news) → Spec es' 40 (lexL c (.str ⟨#[92]⟩ ts') (.str (tok) tt') ln "" true) → Q .next { s with heap := h', toks := tk' }) :
    wpAny (model P w) (ktrTop dp u gd "shlex.read_token" (sScope (inAt 24 6)) L 718 (.ref 717) cl outer) (execs (rtWh.drop 3) (envOf "shlex.read_token" (sScope (inAt 24 6)) L 718 (.ref 717))) Q E s := by
  obtain ⟨hh, gg, dd, tk0, oo⟩ := s
  dsimp only at F N ht ⊢
  k_steps
  all_goals exact ret _ _ _ _ _ _ _ (by first | assumption | exact Nat.succ_pos _ | exact Nat.lt_of_lt_of_le (by assumption) (by assumption) | omega) (fr_eq (by k_asm) (fun y => by first | rfl | (rw [loc_q, loc_e]; done) | (rw [loc_q]; done) | (rw [loc_e]; done))) (by k_asm) (by k_asm)
theorem ta_wd {w : World} {ps : Program} {loose : List Str} {mean : ExcName → Option Value} {mg mb : Str → Option Value} {dp u : Nat} {gd : Option (List Code)} {cl : List (Str × Addr)} {outer : List Env} {A₀ : Around} {base h₀ : Heap} {L : Addr} {s : Shared} {c : LexC} {sd : Nat} {k1 k2 k3 : Tok} {v : Str} {tv : Tok} {i : Nat} {tp : Tok} {x dx : Nat} {es : List DictEntry} {n : Nat} {news : List (Addr × Obj)} {tok : Str} {ln : Value} {ts tt : Tok} {Q : Flow → Shared → Prop} {E : Value → Shared → Prop} {ch : Nat} {q : Bool} {e : Str} {te tn : Tok} {nc : Option Value}
    (O : Ord c sd x dx news) (h1 : Txt.contains " \t\r\n" ⟨#[ch]⟩ = false) (h2 : Txt.contains "\\" ⟨#[ch]⟩ = false) (h4 : Txt.contains c.W ⟨#[ch]⟩ = true) (h5 : Txt.contains "" ⟨#[ch]⟩ = false) (h3 : Txt.contains "'\"" ⟨#[ch]⟩ = false) (hlt : tok.length ≤ 200000) (hlt2 : tok.length ≤ 150000) (D : Spec es 40 (lexL c (.str "a" ts) (.str tok tt) ln "" true))
    (B : Below A₀ base outer h₀) (X : (K w.params).In h₀) (T : Top ps loose mean mg mb h₀) (F : Fr h₀ L s.heap (locR x q e te (some (.str ⟨#[ch]⟩ tn)))) (N : News h₀ L s.heap (led w.params c sd k1 k2 k3 v tv i tp x dx es n news)) (hd : dp + 10 < recursionLimit) (hu : u + 60 < cLine) (ht : 0 < s.toks)
    (ret : ∀ (h' : Heap) (tk' : Nat) (es' : List DictEntry) (n' : Nat) (ts' tt' te' : Tok), 0 < tk' → Fr h₀ L h' (locR x q e te' (some (.str ⟨#[ch]⟩ tn))) → News h₀ L h' (led w.params c sd k1 k2 k3 v tv i tp x dx es' n' news) → Spec es' 40 (lexL c (.str "a" ts') (.str (tok ++ ⟨#[ch]⟩) tt') ln "" true) → Q .next { s with heap := h', toks := tk' }) :
    wpAny (model P w) (ktrTop dp u gd "shlex.read_token" (sScope (inAt 24 6)) L 718 (.ref 717) cl outer) (execs (rtWh.drop 3) (envOf "shlex.read_token" (sScope (inAt 24 6)) L 718 (.ref 717))) Q E s := by
  obtain ⟨hh, gg, dd, tk0, oo⟩ := s
  dsimp only at F N ht ⊢
  k_steps
  all_goals exact ret _ _ _ _ _ _ _ (by first | assumption | exact Nat.succ_pos _ | exact Nat.lt_of_lt_of_le (by assumption) (by assumption) | omega) (fr_eq (by k_asm) (fun y => by first | rfl | (rw [loc_q, loc_e]; done) | (rw [loc_q]; done) | (rw [loc_e]; done))) (by k_asm) (by k_asm)
theorem ta_oth {w : World} {ps : Program} {loose : List Str} {mean : ExcName → Option Value} {mg mb : Str → Option Value} {dp u : Nat} {gd : Option (List Code)} {cl : List (Str × Addr)} {outer : List Env} {A₀ : Around} {base h₀ : Heap} {L : Addr} {s : Shared} {c : LexC} {sd : Nat} {k1 k2 k3 : Tok} {v : Str} {tv : Tok} {i : Nat} {tp : Tok} {x dx : Nat} {es : List DictEntry} {n : Nat} {news : List (Addr × Obj)} {tok : Str} {ln : Value} {ts tt : Tok} {Q : Flow → Shared → Prop} {E : Value → Shared → Prop} {ch : Nat} {q : Bool} {e : Str} {te tn : Tok} {nc : Option Value}
    (O : Ord c sd x dx news) (h1 : Txt.contains " \t\r\n" ⟨#[ch]⟩ = false) (h2 : Txt.contains "\\" ⟨#[ch]⟩ = false) (h4 : Txt.contains c.W ⟨#[ch]⟩ = false) (h5 : Txt.contains "" ⟨#[ch]⟩ = false) (h3 : Txt.contains "'\"" ⟨#[ch]⟩ = false) (hlt : tok.length ≤ 200000) (hlt2 : tok.length ≤ 150000) (D : Spec es 40 (lexL c (.str "a" ts) (.str tok tt) ln "" true))
    (B : Below A₀ base outer h₀) (X : (K w.params).In h₀) (T : Top ps loose mean mg mb h₀) (F : Fr h₀ L s.heap (locR x q e te (some (.str ⟨#[ch]⟩ tn)))) (N : News h₀ L s.heap (led w.params c sd k1 k2 k3 v tv i tp x dx es n news)) (hd : dp + 10 < recursionLimit) (hu : u + 60 < cLine) (ht : 0 < s.toks)
    (ret : ∀ (h' : Heap) (tk' : Nat) (es' : List DictEntry) (n' : Nat) (ts' tt' te' : Tok), 0 < tk' → Fr h₀ L h' (locR x q e te' (some (.str ⟨#[ch]⟩ tn))) → News h₀ L h' (led w.params c sd k1 k2 k3 v tv i tp x dx es' n' news) → Spec es' 40 (lexL c (.str "a" ts') (.str (tok ++ ⟨#[ch]⟩) tt') ln "" true) → Q .next { s with heap := h', toks := tk' }) :
    wpAny (model P w) (ktrTop dp u gd "shlex.read_token" (sScope (inAt 24 6)) L 718 (.ref 717) cl outer) (execs (rtWh.drop 3) (envOf "shlex.read_token" (sScope (inAt 24 6)) L 718 (.ref 717))) Q E s := by
  obtain ⟨hh, gg, dd, tk0, oo⟩ := s
  dsimp only at F N ht ⊢
  k_steps
  all_goals exact ret _ _ _ _ _ _ _ (by first | assumption | exact Nat.succ_pos _ | exact Nat.lt_of_lt_of_le (by assumption) (by assumption) | omega) (fr_eq (by k_asm) (fun y => by first | rfl | (rw [loc_q, loc_e]; done) | (rw [loc_q]; done) | (rw [loc_e]; done))) (by k_asm) (by k_asm)
theorem ta_end {w : World} {ps : Program} {loose : List Str} {mean : ExcName → Option Value} {mg mb : Str → Option Value} {dp u : Nat} {gd : Option (List Code)} {cl : List (Str × Addr)} {outer : List Env} {A₀ : Around} {base h₀ : Heap} {L : Addr} {s : Shared} {c : LexC} {sd : Nat} {k1 k2 k3 : Tok} {v : Str} {tv : Tok} {i : Nat} {tp : Tok} {x dx : Nat} {es : List DictEntry} {n : Nat} {news : List (Addr × Obj)} {tok : Str} {ln : Value} {ts tt : Tok} {Q : Flow → Shared → Prop} {E : Value → Shared → Prop} {ch : Nat} {q : Bool} {e : Str} {te tn : Tok} {nc : Option Value}
    (O : Ord c sd x dx news) (hlt : tok.length ≤ 200000) (hlt2 : tok.length ≤ 150000) (D : Spec es 40 (lexL c (.str "a" ts) (.str tok tt) ln "" true))
    (B : Below A₀ base outer h₀) (X : (K w.params).In h₀) (T : Top ps loose mean mg mb h₀) (F : Fr h₀ L s.heap (locR x q e te (some (.str "" tn)))) (N : News h₀ L s.heap (led w.params c sd k1 k2 k3 v tv i tp x dx es n news)) (hd : dp + 10 < recursionLimit) (hu : u + 60 < cLine) (ht : 0 < s.toks)
    (ret : ∀ (h' : Heap) (tk' : Nat) (es' : List DictEntry) (n' : Nat) (ts' tt' te' : Tok), 0 < tk' → Fr h₀ L h' (locR x q e te' (some (.str "" tn))) → News h₀ L h' (led w.params c sd k1 k2 k3 v tv i tp x dx es' n' news) → Spec es' 40 (lexL c (.none) (.str (tok) tt') ln "" true) → Q .brk { s with heap := h', toks := tk' }) :
    wpAny (model P w) (ktrTop dp u gd "shlex.read_token" (sScope (inAt 24 6)) L 718 (.ref 717) cl outer) (execs (rtWh.drop 3) (envOf "shlex.read_token" (sScope (inAt 24 6)) L 718 (.ref 717))) Q E s := by
  obtain ⟨hh, gg, dd, tk0, oo⟩ := s
  dsimp only at F N ht ⊢
  k_steps
  all_goals exact ret _ _ _ _ 0 _ _ (by first | assumption | exact Nat.succ_pos _ | exact Nat.lt_of_lt_of_le (by assumption) (by assumption) | omega) (fr_eq (by k_asm) (fun y => by first | rfl | (rw [loc_q, loc_e]; done) | (rw [loc_q]; done) | (rw [loc_e]; done))) (by k_asm) (by k_asm)
end
section
open PySem PySem.W PyProof.Rows
theorem contains_one (z : Str) (c : Nat) : Txt.contains z ⟨#[c]⟩ = decide (c ∈ z.cps.toList) := by
  unfold Txt.contains
  rcases StrLaws.occ_head z ⟨#[c]⟩ 1 (Nat.le_refl _) with ⟨e, hn⟩ | ⟨i, r, e, ha, _⟩
  · rw [e]
    have : c ∉ z.cps.toList := fun hm => by
      obtain ⟨i, hi⟩ := List.mem_iff_getElem?.mp hm
      exact hn i ((StrLaws.subAt_one z c i).mpr hi)
    simp [this]
  · rw [e]
    have : c ∈ z.cps.toList := List.mem_of_getElem? ((StrLaws.subAt_one z c i).mp ha)
    simp [this]
/-- the states of shlex.read_token: blank, in a quotation, behind a backslash (bare, in a quotation), in a word, at the end -/
inductive Sh | ws | dq | ea | eq | wd | fin
  deriving DecidableEq
inductive Res
  | bad
  | eof
  | word (t r : List Nat) (fin : Bool)
noncomputable def isWs (c : Nat) : Bool := c == 32 || c == 9 || c == 13 || c == 10
/-- what shlex.read_token finds: state, token so far, quoted, the signs left -/
noncomputable def rt : Sh → List Nat → Bool → List Nat → Res
  | .fin, _, _, _ => .eof
  | .ws, _, _, [] => .eof
  | .wd, t, _, [] => .word t [] true
  | .dq, _, _, [] => .bad
  | .ea, _, _, [] => .bad
  | .eq, _, _, [] => .bad
  | .ws, t, q, c :: r => if isWs c then rt .ws t q r else if c = 92 then rt .ea t q r else if c = 34 then rt .dq t q r else rt .wd [c] q r
  | .dq, t, _, c :: r => if c = 34 then rt .wd t true r else if c = 92 then rt .eq t true r else rt .dq (t ++ [c]) true r
  | .ea, t, q, c :: r => rt .wd (t ++ [c]) q r
  | .eq, t, q, c :: r => if c = 34 ∨ c = 92 then rt .dq (t ++ [c]) q r else rt .dq (t ++ [92, c]) q r
  | .wd, t, q, c :: r => if isWs c then .word t r false else if c = 34 then rt .dq t q r else if c = 92 then rt .ea t q r else rt .wd (t ++ [c]) q r
theorem ws_in (c : Nat) : Txt.contains " \t\r\n" ⟨#[c]⟩ = isWs c := by
  rw [contains_one]
  have : (Str.ofString " \t\r\n").cps.toList = [32, 9, 13, 10] := by decide +kernel
  rw [this]
  rw [Bool.eq_iff_iff]
  simp [isWs, or_assoc]
theorem esc_in {c : Nat} (h : c ≠ 92) : Txt.contains "\\" ⟨#[c]⟩ = false := by
  rw [contains_one]
  have : (Str.ofString "\\").cps.toList = [92] := by decide +kernel
  rw [this]
  simp [h]
theorem quo_in {c : Nat} (h : c ≠ 34) (h2 : c ≠ 39) : Txt.contains "'\"" ⟨#[c]⟩ = false := by
  rw [contains_one]
  have : (Str.ofString "'\"").cps.toList = [39, 34] := by decide +kernel
  rw [this]
  simp [h, h2]
theorem nil_in (c : Nat) : Txt.contains "" ⟨#[c]⟩ = false := by
  rw [contains_one]
  have : (Str.ofString "").cps.toList = [] := by decide +kernel
  rw [this]
  simp
theorem one_ne {c d : Nat} (h : c ≠ d) : ((⟨#[c]⟩ : Str).cps.toList == (⟨#[d]⟩ : Str).cps.toList) = false := by
  simp [h]
theorem one_neq {c : Nat} (h : c ≠ 34) : ((⟨#[c]⟩ : Str).cps.toList == (Str.ofString "\"").cps.toList) = false := by
  have : (Str.ofString "\"").cps.toList = [34] := by decide +kernel
  rw [this]
  simp [h]
/-- a text of a list of signs -/
noncomputable abbrev tx (l : List Nat) : Str := ⟨l.toArray⟩
theorem tx_app (a b : List Nat) : tx a ++ tx b = tx (a ++ b) := by
  apply str_ext
  simp [Str.cps_append]
theorem tx_len (a : List Nat) : (tx a).length = a.length := by simp [Str.length]
end
section
open PySem PySem.W PyProof.Rows

theorem call_exc_raiseM {w : World} {A : Around} {E : Value → Shared → Prop} {s : Shared} {rest : List Value} (h : ∀ h' e, Heap.MadeExc s.heap h' e "ValueError" rest → E (.ref e) { s with heap := h' }) (hrest : rest.length ≤ sizeLine := by size_fits) : wpAny (model P w) A (call (.type "ValueError") rest) (Raisable E) E s := by
  obtain ⟨hp, g, d, tk, os⟩ := s
  exact wpAny_call_exc PySem.F.excCall_ValueError (hrest := hrest) fun h' e hx => raisable_of_new excClass_ValueError hx.newExc (h h' e hx)
local macro_rules | `(tactic| walk_at "call type:ValueError") => `(tactic| (k_here; k_dflt (refine call_exc_raiseM ?_; intro h9 e9 x9)))
theorem td_bad {w : World} {ps : Program} {loose : List Str} {mean : ExcName → Option Value} {mg mb : Str → Option Value} {dp u : Nat} {gd : Option (List Code)} {cl : List (Str × Addr)} {outer : List Env} {A₀ : Around} {base h₀ : Heap} {L : Addr} {s : Shared} {c : LexC} {sd : Nat} {k1 k2 k3 : Tok} {v : Str} {tv : Tok} {i : Nat} {tp : Tok} {x dx : Nat} {es : List DictEntry} {n : Nat} {news : List (Addr × Obj)} {tok : Str} {ln : Value} {ts tt : Tok} {Q : Flow → Shared → Prop} {E : Value → Shared → Prop} {ch : Nat} {q : Bool} {e : Str} {te tn : Tok} {nc : Option Value}
    (O : Ord c sd x dx news) (hlt : tok.length ≤ 200000) (hlt2 : tok.length ≤ 150000) (D : Spec es 40 (lexL c (.str ⟨#[34]⟩ ts) (.str tok tt) ln "" true))
    (B : Below A₀ base outer h₀) (X : (K w.params).In h₀) (T : Top ps loose mean mg mb h₀) (F : Fr h₀ L s.heap (locR x q e te (some (.str "" tn)))) (N : News h₀ L s.heap (led w.params c sd k1 k2 k3 v tv i tp x dx es n news)) (hd : dp + 10 < recursionLimit) (hu : u + 60 < cLine) (ht : 0 < s.toks)
    (ret : ∀ (e : Addr) (h1 h' : Heap) (tk' : Nat) (m' : Str → Option Value) (vs : List Value), Fr h₀ L h1 m' → News h₀ L h1 (led w.params c sd k1 k2 k3 v tv i tp x dx es n news) → h1.MadeExc h' e "ValueError" vs → E (.ref e) { s with heap := h', toks := tk' }) :
    wpAny (model P w) (ktrTop dp u gd "shlex.read_token" (sScope (inAt 24 6)) L 718 (.ref 717) cl outer) (execs (rtWh.drop 3) (envOf "shlex.read_token" (sScope (inAt 24 6)) L 718 (.ref 717))) Q E s := by
  obtain ⟨hh, gg, dd, tk0, oo⟩ := s
  dsimp only at F N ht ⊢
  k_steps
  all_goals exact ret _ _ _ _ _ _ (by k_asm) (by k_asm) (by assumption)
theorem te_bad {w : World} {ps : Program} {loose : List Str} {mean : ExcName → Option Value} {mg mb : Str → Option Value} {dp u : Nat} {gd : Option (List Code)} {cl : List (Str × Addr)} {outer : List Env} {A₀ : Around} {base h₀ : Heap} {L : Addr} {s : Shared} {c : LexC} {sd : Nat} {k1 k2 k3 : Tok} {v : Str} {tv : Tok} {i : Nat} {tp : Tok} {x dx : Nat} {es : List DictEntry} {n : Nat} {news : List (Addr × Obj)} {tok : Str} {ln : Value} {ts tt : Tok} {Q : Flow → Shared → Prop} {E : Value → Shared → Prop} {ch : Nat} {q : Bool} {e : Str} {te tn : Tok} {nc : Option Value}
    (O : Ord c sd x dx news) (hlt : tok.length ≤ 200000) (hlt2 : tok.length ≤ 150000) (D : Spec es 40 (lexL c (.str ⟨#[92]⟩ ts) (.str tok tt) ln "" true))
    (B : Below A₀ base outer h₀) (X : (K w.params).In h₀) (T : Top ps loose mean mg mb h₀) (F : Fr h₀ L s.heap (locR x q e te (some (.str "" tn)))) (N : News h₀ L s.heap (led w.params c sd k1 k2 k3 v tv i tp x dx es n news)) (hd : dp + 10 < recursionLimit) (hu : u + 60 < cLine) (ht : 0 < s.toks)
    (ret : ∀ (e : Addr) (h1 h' : Heap) (tk' : Nat) (m' : Str → Option Value) (vs : List Value), Fr h₀ L h1 m' → News h₀ L h1 (led w.params c sd k1 k2 k3 v tv i tp x dx es n news) → h1.MadeExc h' e "ValueError" vs → E (.ref e) { s with heap := h', toks := tk' }) :
    wpAny (model P w) (ktrTop dp u gd "shlex.read_token" (sScope (inAt 24 6)) L 718 (.ref 717) cl outer) (execs (rtWh.drop 3) (envOf "shlex.read_token" (sScope (inAt 24 6)) L 718 (.ref 717))) Q E s := by
  obtain ⟨hh, gg, dd, tk0, oo⟩ := s
  dsimp only at F N ht ⊢
  k_steps
  all_goals exact ret _ _ _ _ _ _ (by k_asm) (by k_asm) (by assumption)
end
section
open PySem PySem.W PyProof.Rows
structure Inv (σ : Sh) (t : List Nat) (q : Bool) (e : Str) : Prop where
  h1 : σ = .ws ∨ σ = .fin → t = [] ∧ q = false
  h2 : σ = .ea → e = "a"
  h3 : σ = .eq → e = "\""
  h4 : σ = .wd → t ≠ [] ∨ q = true
noncomputable def stV : Sh → Tok → Value
  | .ws, ts => .str " " ts
  | .dq, ts => .str ⟨#[34]⟩ ts
  | .ea, ts => .str ⟨#[92]⟩ ts
  | .eq, ts => .str ⟨#[92]⟩ ts
  | .wd, ts => .str "a" ts
  | .fin, _ => .none
inductive RJ (w : World) (c : LexC) (sd : Nat) (k1 k2 k3 : Tok) (v : Str) (tv : Tok) (x dx : Nat) (news : List (Addr × Obj)) (h₀ : Heap) (L : Addr) (ρ : Res) (k : Nat) (h : Heap) (tk : Nat) : Prop
  | mk (σ : Sh) (t : List Nat) (q : Bool) (e : Str) (te ts tt : Tok) (i : Nat) (es : List DictEntry) (n : Nat) (ln : Int) (tl : Tok) (nc : Option Value) (tp : Tok) (a1 : 0 < tk) (a2 : k = v.length - i) (a3 : i ≤ v.length) (a4 : Inv σ t q e) (a5 : t.length ≤ 2 * i) (a6 : rt σ t q (v.cps.toList.drop i) = ρ) (a7 : σ = .fin → i = v.length)
    (a8 : Fr h₀ L h (locR x q e te nc)) (a9 : News h₀ L h (led w.params c sd k1 k2 k3 v tv i tp x dx es n news)) (b1 : Spec es 40 (lexL c (stV σ ts) (.str (tx t) tt) (.int ln tl) "" true)) : RJ w c sd k1 k2 k3 v tv x dx news h₀ L ρ k h tk
theorem rt_loop {w : World} {ps : Program} {loose : List Str} {mean : ExcName → Option Value} {mg mb : Str → Option Value} {dp u : Nat} {gd : Option (List Code)} {cl : List (Str × Addr)} {outer : List Env} {A₀ : Around} {base h₀ : Heap} {L : Addr} {s : Shared} {c : LexC} {sd : Nat} {k1 k2 k3 : Tok} {v : Str} {tv : Tok} {x dx : Nat} {news : List (Addr × Obj)} {Q : Flow → Shared → Prop} {E : Value → Shared → Prop} {ρ : Res} {k₀ kc : Nat} {pos p2 : Pos}
    (O : Ord c sd x dx news) (hv : v.length ≤ 50000) (h39 : ∀ ch ∈ v.cps.toList, ch ≠ 39) (hW : Txt.contains c.W ⟨#[34]⟩ = false) (B : Below A₀ base outer h₀) (X : (K w.params).In h₀) (T : Top ps loose mean mg mb h₀) (hd : dp + 10 < recursionLimit) (hu : u + 60 < cLine)
    (J : RJ w c sd k1 k2 k3 v tv x dx news h₀ L ρ k₀ s.heap s.toks)
    (hE : PassesOwn (model P w) (ktrTop dp u gd "shlex.read_token" (sScope (inAt 24 6)) L 718 (.ref 717) cl outer) (envOf "shlex.read_token" (sScope (inAt 24 6)) L 718 (.ref 717)) E)
    (hEof : ρ = .eof → ∀ (h' : Heap) (tk' : Nat) (es : List DictEntry) (n : Nat) (e : Str) (te tt : Tok) (ln : Int) (tl : Tok) (nc : Option Value) (tp : Tok), 0 < tk' → Fr h₀ L h' (locR x false e te nc) → News h₀ L h' (led w.params c sd k1 k2 k3 v tv v.length tp x dx es n news) → Spec es 40 (lexL c .none (.str "" tt) (.int ln tl) "" true) → Q .next { s with heap := h', toks := tk' })
    (hWord : ∀ t r fin, ρ = .word t r fin → ∀ (h' : Heap) (tk' : Nat) (es : List DictEntry) (n i : Nat) (q : Bool) (e : Str) (te ts tt : Tok) (ln : Int) (tl : Tok) (nc : Option Value) (tp : Tok), 0 < tk' → (t ≠ [] ∨ q = true) → i ≤ v.length → v.cps.toList.drop i = r → (fin = true → i = v.length) → t.length ≤ 2 * v.length → Fr h₀ L h' (locR x q e te nc) → News h₀ L h' (led w.params c sd k1 k2 k3 v tv i tp x dx es n news) → Spec es 40 (lexL c (stV (if fin then .fin else .ws) ts) (.str (tx t) tt) (.int ln tl) "" true) → Q .next { s with heap := h', toks := tk' })
    (hBad : ρ = .bad → ∀ (e : Addr) (h1 h' : Heap) (tk' : Nat) (m' : Str → Option Value) (vs : List Value) (es : List DictEntry) (n i : Nat) (tp : Tok), Fr h₀ L h1 m' → News h₀ L h1 (led w.params c sd k1 k2 k3 v tv i tp x dx es n news) → h1.MadeExc h' e "ValueError" vs → E (.ref e) { s with heap := h', toks := tk' }) :
    wpAny (model P w) (ktrTop dp u gd "shlex.read_token" (sScope (inAt 24 6)) L 718 (.ref 717) cl outer) (exec (.While (.Constant (.bool true) kc p2) rtWh [] pos) (envOf "shlex.read_token" (sScope (inAt 24 6)) L 718 (.ref 717))) Q E s := by
  refine While_own (RJ w c sd k1 k2 k3 v tv x dx news h₀ L ρ) J ?_ hE
  rintro k h₁ tk₁ ⟨σ, t, q, e, te, ts, tt, i, es, n, ln, tl, nc, tp, htk, hk, hi, hI, hlen, hρ, hfin, F, N, D⟩
  refine wpAny_isTrue_value (wpAny_pure (wpAny_truthy_bool ?_))
  rw [if_pos rfl]
  have hl1 : (tx t).length ≤ 200000 := by rw [tx_len]; omega
  have hl2 : (tx t).length ≤ 150000 := by rw [tx_len]; omega
  rcases Nat.lt_or_ge i v.length with hlt | hge
  · have hlt' : i < v.cps.toList.length := by simpa [Str.length] using hlt
    obtain ⟨ch, hch⟩ : ∃ ch, v.cps.toList[i]? = some ch := ⟨_, List.getElem?_eq_getElem hlt'⟩
    have hdr : v.cps.toList.drop i = ch :: v.cps.toList.drop (i + 1) := by
      rw [List.drop_eq_getElem_cons hlt']
      have := (List.getElem?_eq_some_iff.mp hch).2
      rw [this]
    have h39' : ch ≠ 39 := h39 ch (List.mem_of_getElem? hch)
    rw [hdr] at hρ
    refine rt_head (cn := "") (cs := sScope (inAt 24 6)) (a := 0) (ccd := .none) O (by omega) hch D B X T F N hd hu htk ?_
    intro h' tk' tp' es' n' ln' tl' t' htk' F' N' D'
    cases σ with
    | fin => have := hfin rfl; omega
    | ws =>
      obtain ⟨rfl, rfl⟩ := hI.h1 (.inl rfl)
      simp only [rt] at hρ
      by_cases w1 : isWs ch = true
      · rw [if_pos w1] at hρ
        refine tw_ws (nc := none) (q := false) O ((ws_in ch).trans w1) (tok := "") (by decide) (by decide) D' B X T F' N' hd hu htk' fun h2 tk2 es2 n2 ts2 tt2 te2 htk2 F2 N2 D2 => ?_
        exact ⟨_, h2, tk2, rfl, (by omega), .ws, [], false, e, te2, ts2, tt2, i + 1, es2, n2, ln', tl', _, tp', htk2, rfl, hlt, ⟨fun _ => ⟨rfl, rfl⟩, (fun h => nomatch h), (fun h => nomatch h), (fun h => nomatch h)⟩, by simp, hρ, (fun h => nomatch h), F2, N2, D2⟩
      · have w1' : isWs ch = false := by simpa using w1
        rw [if_neg w1] at hρ
        by_cases w2 : ch = 92
        · subst w2
          rw [if_pos rfl] at hρ
          refine tw_esc (nc := none) (q := false) (ch := 0) O (tok := "") (by decide) (by decide) D' B X T F' N' hd hu htk' fun h2 tk2 es2 n2 ts2 tt2 te2 htk2 F2 N2 D2 => ?_
          exact ⟨_, h2, tk2, rfl, (by omega), .ea, [], false, "a", te2, ts2, tt2, i + 1, es2, n2, ln', tl', _, tp', htk2, rfl, hlt, ⟨(fun h => by rcases h with h | h <;> cases h), fun _ => rfl, (fun h => nomatch h), (fun h => nomatch h)⟩, by simp, hρ, (fun h => nomatch h), F2, N2, D2⟩
        · rw [if_neg w2] at hρ
          by_cases w3 : ch = 34
          · subst w3
            rw [if_pos rfl] at hρ
            refine tw_quo (nc := none) (q := false) (ch := 0) O hW (tok := "") (by decide) (by decide) D' B X T F' N' hd hu htk' fun h2 tk2 es2 n2 ts2 tt2 te2 htk2 F2 N2 D2 => ?_
            exact ⟨_, h2, tk2, rfl, (by omega), .dq, [], false, e, te2, ts2, tt2, i + 1, es2, n2, ln', tl', _, tp', htk2, rfl, hlt, ⟨(fun h => by rcases h with h | h <;> cases h), (fun h => nomatch h), (fun h => nomatch h), (fun h => nomatch h)⟩, by simp, hρ, (fun h => nomatch h), F2, N2, D2⟩
          · rw [if_neg w3] at hρ
            have go : ∀ (h2 : Heap) (tk2 : Nat) (es2 : List DictEntry) (n2 : Nat) (ts2 tt2 te2 : Tok), 0 < tk2 → Fr h₀ L h2 (locR x false e te2 (some (.str ⟨#[ch]⟩ t'))) → News h₀ L h2 (led w.params c sd k1 k2 k3 v tv (i + 1) tp' x dx es2 n2 news) → Spec es2 40 (lexL c (.str "a" ts2) (.str ⟨#[ch]⟩ tt2) (.int ln' tl') "" true) → ∃ n' h' tk', ({ s with heap := h2, toks := tk2 } : Shared) = { s with heap := h', toks := tk' } ∧ n' < k ∧ RJ w c sd k1 k2 k3 v tv x dx news h₀ L ρ n' h' tk' := fun h2 tk2 es2 n2 ts2 tt2 te2 htk2 F2 N2 D2 =>
              ⟨_, h2, tk2, rfl, (by omega), .wd, [ch], false, e, te2, ts2, tt2, i + 1, es2, n2, ln', tl', _, tp', htk2, rfl, hlt, ⟨(fun h => by rcases h with h | h <;> cases h), (fun h => nomatch h), (fun h => nomatch h), fun _ => .inl (by simp)⟩, (by simp; omega), hρ, (fun h => nomatch h), F2, N2, D2⟩
            by_cases w4 : Txt.contains c.W ⟨#[ch]⟩ = true
            · exact tw_wd (nc := none) (q := false) O ((ws_in ch).trans w1') (esc_in w2) w4 (nil_in ch) (tok := "") (by decide) (by decide) D' B X T F' N' hd hu htk' go
            · exact tw_oth (nc := none) (q := false) O ((ws_in ch).trans w1') (esc_in w2) (by simpa using w4) (nil_in ch) (quo_in w3 h39') (tok := "") (by decide) (by decide) D' B X T F' N' hd hu htk' go
    | dq =>
      simp only [rt] at hρ
      by_cases w3 : ch = 34
      · subst w3
        rw [if_pos rfl] at hρ
        refine td_quo (nc := none) (ch := 0) O hl1 hl2 D' B X T F' N' hd hu htk' fun h2 tk2 es2 n2 ts2 tt2 te2 htk2 F2 N2 D2 => ?_
        exact ⟨_, h2, tk2, rfl, (by omega), .wd, t, true, e, te2, ts2, tt2, i + 1, es2, n2, ln', tl', _, tp', htk2, rfl, hlt, ⟨(fun h => by rcases h with h | h <;> cases h), (fun h => nomatch h), (fun h => nomatch h), fun _ => .inr rfl⟩, by omega, hρ, (fun h => nomatch h), F2, N2, D2⟩
      · rw [if_neg w3] at hρ
        by_cases w2 : ch = 92
        · subst w2
          rw [if_pos rfl] at hρ
          refine td_esc (nc := none) (ch := 0) O hl1 hl2 D' B X T F' N' hd hu htk' fun h2 tk2 es2 n2 ts2 tt2 te2 htk2 F2 N2 D2 => ?_
          exact ⟨_, h2, tk2, rfl, (by omega), .eq, t, true, _, te2, ts2, tt2, i + 1, es2, n2, ln', tl', _, tp', htk2, rfl, hlt, ⟨(fun h => by rcases h with h | h <;> cases h), (fun h => nomatch h), fun _ => rfl, (fun h => nomatch h)⟩, by omega, hρ, (fun h => nomatch h), F2, N2, D2⟩
        · rw [if_neg w2] at hρ
          refine td_oth (nc := none) O (esc_in w2) (one_ne w3) hl1 hl2 D' B X T F' N' hd hu htk' fun h2 tk2 es2 n2 ts2 tt2 te2 htk2 F2 N2 D2 => ?_
          rw [show tx t ++ (⟨#[ch]⟩ : Str) = tx (t ++ [ch]) from tx_app t [ch]] at D2
          exact ⟨_, h2, tk2, rfl, (by omega), .dq, t ++ [ch], true, e, te2, ts2, tt2, i + 1, es2, n2, ln', tl', _, tp', htk2, rfl, hlt, ⟨(fun h => by rcases h with h | h <;> cases h), (fun h => nomatch h), (fun h => nomatch h), (fun h => nomatch h)⟩, (by simp; omega), hρ, (fun h => nomatch h), F2, N2, D2⟩
    | ea =>
      obtain rfl := hI.h2 rfl
      simp only [rt] at hρ
      refine te_a (nc := none) (e := "") O hl1 hl2 D' B X T F' N' hd hu htk' fun h2 tk2 es2 n2 ts2 tt2 te2 htk2 F2 N2 D2 => ?_
      rw [show tx t ++ (⟨#[ch]⟩ : Str) = tx (t ++ [ch]) from tx_app t [ch]] at D2
      exact ⟨_, h2, tk2, rfl, (by omega), .wd, t ++ [ch], q, _, te2, ts2, tt2, i + 1, es2, n2, ln', tl', _, tp', htk2, rfl, hlt, ⟨(fun h => by rcases h with h | h <;> cases h), (fun h => nomatch h), (fun h => nomatch h), fun _ => .inl (by simp)⟩, (by simp; omega), hρ, (fun h => nomatch h), F2, N2, D2⟩
    | eq =>
      obtain rfl := hI.h3 rfl
      simp only [rt] at hρ
      by_cases w3 : ch = 34
      · subst w3
        rw [if_pos (.inl rfl)] at hρ
        refine te_q34 (nc := none) (ch := 0) (e := "") O hl1 hl2 D' B X T F' N' hd hu htk' fun h2 tk2 es2 n2 ts2 tt2 te2 htk2 F2 N2 D2 => ?_
        rw [show tx t ++ (⟨#[34]⟩ : Str) = tx (t ++ [34]) from tx_app t [34]] at D2
        exact ⟨_, h2, tk2, rfl, (by omega), .dq, t ++ [34], q, _, te2, ts2, tt2, i + 1, es2, n2, ln', tl', _, tp', htk2, rfl, hlt, ⟨(fun h => by rcases h with h | h <;> cases h), (fun h => nomatch h), (fun h => nomatch h), (fun h => nomatch h)⟩, (by simp; omega), hρ, (fun h => nomatch h), F2, N2, D2⟩
      · by_cases w2 : ch = 92
        · subst w2
          rw [if_pos (.inr rfl)] at hρ
          refine te_q92 (nc := none) (ch := 0) (e := "") O hl1 hl2 D' B X T F' N' hd hu htk' fun h2 tk2 es2 n2 ts2 tt2 te2 htk2 F2 N2 D2 => ?_
          rw [show tx t ++ (⟨#[92]⟩ : Str) = tx (t ++ [92]) from tx_app t [92]] at D2
          exact ⟨_, h2, tk2, rfl, (by omega), .dq, t ++ [92], q, _, te2, ts2, tt2, i + 1, es2, n2, ln', tl', _, tp', htk2, rfl, hlt, ⟨(fun h => by rcases h with h | h <;> cases h), (fun h => nomatch h), (fun h => nomatch h), (fun h => nomatch h)⟩, (by simp; omega), hρ, (fun h => nomatch h), F2, N2, D2⟩
        · rw [if_neg (by rintro (h | h) <;> contradiction)] at hρ
          refine te_qo (nc := none) (e := "") O (one_neq w3) (one_ne w2) hl1 hl2 D' B X T F' N' hd hu htk' fun h2 tk2 es2 n2 ts2 tt2 te2 htk2 F2 N2 D2 => ?_
          rw [show tx t ++ (⟨#[92]⟩ : Str) = tx (t ++ [92]) from tx_app t [92], show tx (t ++ [92]) ++ (⟨#[ch]⟩ : Str) = tx (t ++ [92] ++ [ch]) from tx_app _ [ch], List.append_assoc] at D2
          exact ⟨_, h2, tk2, rfl, (by omega), .dq, t ++ [92, ch], q, _, te2, ts2, tt2, i + 1, es2, n2, ln', tl', _, tp', htk2, rfl, hlt, ⟨(fun h => by rcases h with h | h <;> cases h), (fun h => nomatch h), (fun h => nomatch h), (fun h => nomatch h)⟩, (by simp; omega), hρ, (fun h => nomatch h), F2, N2, D2⟩
    | wd =>
      simp only [rt] at hρ
      have hIw := hI.h4 rfl
      by_cases w1 : isWs ch = true
      · rw [if_pos w1] at hρ
        have go : ∀ (h2 : Heap) (tk2 : Nat) (es2 : List DictEntry) (n2 : Nat) (ts2 tt2 te2 : Tok), 0 < tk2 → Fr h₀ L h2 (locR x q e te2 (some (.str ⟨#[ch]⟩ t'))) → News h₀ L h2 (led w.params c sd k1 k2 k3 v tv (i + 1) tp' x dx es2 n2 news) → Spec es2 40 (lexL c (.str " " ts2) (.str (tx t) tt2) (.int ln' tl') "" true) → Q .next { s with heap := h2, toks := tk2 } := fun h2 tk2 es2 n2 ts2 tt2 te2 htk2 F2 N2 D2 =>
          hWord t _ false hρ.symm h2 tk2 es2 n2 (i + 1) q e te2 ts2 tt2 ln' tl' _ tp' htk2 hIw hlt rfl (fun h => nomatch h) (by omega) F2 N2 D2
        by_cases w5 : t = []
        · subst w5
          rcases hIw with h | rfl
          · exact absurd rfl h
          · exact ta_ws2 (nc := none) (q := false) O ((ws_in ch).trans w1) (by rfl) hl1 hl2 D' B X T F' N' hd hu htk' go
        · exact ta_ws1 (nc := none) O ((ws_in ch).trans w1) (by rw [tx_len]; cases t with | nil => exact absurd rfl w5 | cons a b => simp; omega) hl1 hl2 D' B X T F' N' hd hu htk' go
      · have w1' : isWs ch = false := by simpa using w1
        rw [if_neg w1] at hρ
        by_cases w3 : ch = 34
        · subst w3
          rw [if_pos rfl] at hρ
          refine ta_quo (nc := none) (ch := 0) O hl1 hl2 D' B X T F' N' hd hu htk' fun h2 tk2 es2 n2 ts2 tt2 te2 htk2 F2 N2 D2 => ?_
          exact ⟨_, h2, tk2, rfl, (by omega), .dq, t, q, e, te2, ts2, tt2, i + 1, es2, n2, ln', tl', _, tp', htk2, rfl, hlt, ⟨(fun h => by rcases h with h | h <;> cases h), (fun h => nomatch h), (fun h => nomatch h), (fun h => nomatch h)⟩, by omega, hρ, (fun h => nomatch h), F2, N2, D2⟩
        · rw [if_neg w3] at hρ
          by_cases w2 : ch = 92
          · subst w2
            rw [if_pos rfl] at hρ
            refine ta_esc (nc := none) (ch := 0) O hl1 hl2 D' B X T F' N' hd hu htk' fun h2 tk2 es2 n2 ts2 tt2 te2 htk2 F2 N2 D2 => ?_
            exact ⟨_, h2, tk2, rfl, (by omega), .ea, t, q, "a", te2, ts2, tt2, i + 1, es2, n2, ln', tl', _, tp', htk2, rfl, hlt, ⟨(fun h => by rcases h with h | h <;> cases h), fun _ => rfl, (fun h => nomatch h), (fun h => nomatch h)⟩, by omega, hρ, (fun h => nomatch h), F2, N2, D2⟩
          · rw [if_neg w2] at hρ
            have go : ∀ (h2 : Heap) (tk2 : Nat) (es2 : List DictEntry) (n2 : Nat) (ts2 tt2 te2 : Tok), 0 < tk2 → Fr h₀ L h2 (locR x q e te2 (some (.str ⟨#[ch]⟩ t'))) → News h₀ L h2 (led w.params c sd k1 k2 k3 v tv (i + 1) tp' x dx es2 n2 news) → Spec es2 40 (lexL c (.str "a" ts2) (.str (tx t ++ ⟨#[ch]⟩) tt2) (.int ln' tl') "" true) → ∃ n' h' tk', ({ s with heap := h2, toks := tk2 } : Shared) = { s with heap := h', toks := tk' } ∧ n' < k ∧ RJ w c sd k1 k2 k3 v tv x dx news h₀ L ρ n' h' tk' := fun h2 tk2 es2 n2 ts2 tt2 te2 htk2 F2 N2 D2 => by
              rw [show tx t ++ (⟨#[ch]⟩ : Str) = tx (t ++ [ch]) from tx_app t [ch]] at D2
              exact ⟨_, h2, tk2, rfl, (by omega), .wd, t ++ [ch], q, e, te2, ts2, tt2, i + 1, es2, n2, ln', tl', _, tp', htk2, rfl, hlt, ⟨(fun h => by rcases h with h | h <;> cases h), (fun h => nomatch h), (fun h => nomatch h), fun _ => .inl (by simp)⟩, (by simp; omega), hρ, (fun h => nomatch h), F2, N2, D2⟩
            by_cases w4 : Txt.contains c.W ⟨#[ch]⟩ = true
            · exact ta_wd (nc := none) O ((ws_in ch).trans w1') (esc_in w2) w4 (nil_in ch) (quo_in w3 h39') hl1 hl2 D' B X T F' N' hd hu htk' go
            · exact ta_oth (nc := none) O ((ws_in ch).trans w1') (esc_in w2) (by simpa using w4) (nil_in ch) (quo_in w3 h39') hl1 hl2 D' B X T F' N' hd hu htk' go
  · have hie : i = v.length := by omega
    have hdr : v.cps.toList.drop i = [] := by
      apply List.drop_eq_nil_of_le
      have : v.cps.toList.length = v.length := by simp [Str.length]
      omega
    rw [hdr] at hρ
    refine rt_hend (cn := "") (cs := sScope (inAt 24 6)) (a := 0) (ccd := .none) O (by omega) hie D B X T F N hd hu htk ?_
    intro h' tk' tp' es' n' ln' tl' t' htk' F' N' D'
    subst hie
    cases σ with
    | fin =>
      obtain ⟨rfl, rfl⟩ := hI.h1 (.inr rfl)
      simp only [rt] at hρ
      exact tn (ch := 0) (tn := 0) (ts := 0) O hl1 hl2 D' B X T F' N' hd hu htk' fun h2 tk2 es2 n2 ts2 tt2 te2 htk2 F2 N2 D2 => hEof hρ.symm h2 tk2 es2 n2 e te2 tt2 ln' tl' _ tp' htk2 F2 N2 D2
    | ws =>
      obtain ⟨rfl, rfl⟩ := hI.h1 (.inl rfl)
      simp only [rt] at hρ
      exact tw_end (nc := none) (q := false) (ch := 0) O (tok := "") (by decide) (by decide) D' B X T F' N' hd hu htk' fun h2 tk2 es2 n2 ts2 tt2 te2 htk2 F2 N2 D2 => hEof hρ.symm h2 tk2 es2 n2 e te2 tt2 ln' tl' _ tp' htk2 F2 N2 D2
    | wd =>
      simp only [rt] at hρ
      exact ta_end (nc := none) (ch := 0) O hl1 hl2 D' B X T F' N' hd hu htk' fun h2 tk2 es2 n2 ts2 tt2 te2 htk2 F2 N2 D2 => hWord t [] true hρ.symm h2 tk2 es2 n2 v.length q e te2 ts2 tt2 ln' tl' _ tp' htk2 (hI.h4 rfl) (Nat.le_refl _) hdr (fun _ => rfl) hlen F2 N2 D2
    | dq =>
      simp only [rt] at hρ
      exact td_bad (nc := none) (ch := 0) O hl1 hl2 D' B X T F' N' hd hu htk' fun e2 h1 h2 tk2 m2 vs2 F2 N2 x2 => hBad hρ.symm e2 h1 h2 tk2 m2 vs2 es' n' v.length tp' F2 N2 x2
    | ea =>
      simp only [rt] at hρ
      exact te_bad (nc := none) (ch := 0) O hl1 hl2 D' B X T F' N' hd hu htk' fun e2 h1 h2 tk2 m2 vs2 F2 N2 x2 => hBad hρ.symm e2 h1 h2 tk2 m2 vs2 es' n' v.length tp' F2 N2 x2
    | eq =>
      simp only [rt] at hρ
      exact te_bad (nc := none) (ch := 0) O hl1 hl2 D' B X T F' N' hd hu htk' fun e2 h1 h2 tk2 m2 vs2 F2 N2 x2 => hBad hρ.symm e2 h1 h2 tk2 m2 vs2 es' n' v.length tp' F2 N2 x2
end
section
open PySem PySem.W PyProof.Rows

theorem loc_init {x : Nat} {te : Tok} (y : Str) : (if y = "escapedstate" then some (.str " " te) else if y = "quoted" then some (.bool false) else List.lookup y [(Str.ofString "self", Value.ref x)].reverse) = locR x false " " te none y := by
  by_cases h : y = "escapedstate"
  · subst h; rfl
  · by_cases h2 : y = "quoted"
    · subst h2; rfl
    · by_cases h3 : y = "nextchar"
      · subst h3; rfl
      · by_cases h4 : y = "self"
        · subst h4; rfl
        · simp only [locR, if_neg h, if_neg h2, if_neg h3, if_neg h4, List.reverse_cons, List.reverse_nil, List.nil_append, List.lookup_cons, List.lookup_nil]
          have : (y == Str.ofString "self") = false := by
            rw [beq_eq_false_iff_ne]; exact h4
          rw [this]
theorem rt_gives {w : World} {ps : Program} {loose : List Str} {mean : ExcName → Option Value} {mg mb : Str → Option Value} {dp u : Nat} {gd : Option (List Code)} {cn : Str} {cs : Scope} {a : Addr} {ccd : Value} {cl : List (Str × Addr)} {outer : List Env} {A₀ : Around} {base h₀ : Heap} {L : Addr} {m : Str → Option Value} {s : Shared} {c : LexC} {sd : Nat} {k1 k2 k3 : Tok} {v : Str} {tv : Tok} {x dx : Nat} {news : List (Addr × Obj)} {Q E : Value → Shared → Prop} {σ : Sh} {i : Nat} {es : List DictEntry} {n : Nat} {ts tt tp tl : Tok} {ln : Int}
    (O : Ord c sd x dx news) (hv : v.length ≤ 50000) (h39 : ∀ ch ∈ v.cps.toList, ch ≠ 39) (hW : Txt.contains c.W ⟨#[34]⟩ = false) (hσ : σ = .ws ∨ σ = .fin) (hfin : σ = .fin → i = v.length) (hi : i ≤ v.length)
    (D : Spec es 40 (lexL c (stV σ ts) (.str "" tt) (.int ln tl) "" true)) (B : Below A₀ base outer h₀) (F : Fr h₀ L s.heap m) (X : (K w.params).In h₀) (N : News h₀ L s.heap (led w.params c sd k1 k2 k3 v tv i tp x dx es n news)) (T : Top ps loose mean mg mb h₀) (hk : cs.kind = .function) (hd : dp + 12 < recursionLimit) (hu : u + 70 < cLine) (ht : 0 < s.toks)
    (rEof : rt σ [] false (v.cps.toList.drop i) = .eof → ∀ (h' : Heap) (tk' : Nat) (es' : List DictEntry) (n' : Nat) (ts' tt' : Tok) (ln' : Int) (tl' tp' : Tok), Fr h₀ L h' m → News h₀ L h' (led w.params c sd k1 k2 k3 v tv v.length tp' x dx es' n' news) → Spec es' 40 (lexL c (stV .fin ts') (.str "" tt') (.int ln' tl') "" true) → Q .none { s with heap := h', toks := tk' })
    (rWord : ∀ t r fin, rt σ [] false (v.cps.toList.drop i) = .word t r fin → ∀ (h' : Heap) (tk' : Nat) (es' : List DictEntry) (n' i' : Nat) (ts' tt' : Tok) (ln' : Int) (tl' tp' tr : Tok), i' ≤ v.length → v.cps.toList.drop i' = r → (fin = true → i' = v.length) → Fr h₀ L h' m → News h₀ L h' (led w.params c sd k1 k2 k3 v tv i' tp' x dx es' n' news) → Spec es' 40 (lexL c (stV (if fin then .fin else .ws) ts') (.str "" tt') (.int ln' tl') "" true) → Q (.str (tx t) tr) { s with heap := h', toks := tk' })
    (rBad : rt σ [] false (v.cps.toList.drop i) = .bad → ∀ (e t : Addr) (vs : List Value) (g₂ h' : Heap) (tk' : Nat) (es' : List DictEntry) (n' i' : Nat) (tp' : Tok), Fr h₀ L g₂ m → RaisedS base g₂ (envX cn cs L a ccd cl :: outer) e (.type "ValueError") t vs (led w.params c sd k1 k2 k3 v tv i' tp' x dx es' n' news) h' → g₂.UpToSlots h' → E (.ref e) { s with heap := h', toks := tk' }) :
    wpAny (model P w) (ktrTop dp u gd cn cs L a ccd cl outer) (call (.ref 718) [.ref x]) Q E s := by
  refine wpAny_call ?_
  k_dflt (refine' code_def (binds := [("self", .ref x)]) ?k1 ?k2 ?k3 ?k4 ?k5 ?kA ?kF ?kK ?k6 ?k7 ?k8 ?k9 ?kB ?_ ?c2 ?c3 ?c4 ?c5; (case kA => exact rfl); (case kF => exact rfl); (case kK => assumption); (case k1 => k_asm); (case k2 => k_asm); (case k3 => k_asm); (case k4 => k_asm); (case k5 => k_asm); (case k6 => k_is); (case k7 => k_is); (case k8 => ktr_room); (case k9 => exact kp_binds (by k_in) (fun S => by kernel_rfl)); (case c5 => decide); (case kB => exact locs rfl); (case c2 => exact rfl); (case c3 => exact rfl); (case c4 => exact rfl); k_whole; intro g' L' h' FG' F' N' B' X' T'; (try dsimp only); (try k_fold))
  iterate 10 walk1
  k_dflt (refine' rt_loop (ρ := rt σ [] false (v.cps.toList.drop i)) (k₀ := v.length - i) (k1 := k1) (k2 := k2) (k3 := k3) (tv := tv) O hv h39 hW B' X' T' ?kd ?ku ?J ?hE ?e1 ?e2 ?e3)
  case kd => first | ktr_room | omega
  case ku => first | ktr_units | omega
  case hE => passes_own
  case J =>
    refine ⟨σ, [], false, " ", _, ts, tt, i, es, n, ln, tl, none, tp, (by first | assumption | exact Nat.succ_pos _ | omega), rfl, hi, ⟨fun _ => ⟨rfl, rfl⟩, ?_, ?_, ?_⟩, by simp, rfl, hfin, fr_eq (by k_asm) (fun y => loc_init y), (by k_asm), D⟩
    all_goals (rcases hσ with rfl | rfl <;> intro h <;> cases h)
  case e1 =>
    intro hρ h2 tk2 es2 n2 e2 te2 tt2 ln2 tl2 nc2 tp2 htk2 F2 N2 D2 hle
    clear D
    dsimp only
    k_steps
    exact rEof hρ _ _ _ _ ts _ _ _ _ (by k_asm) (by k_asm) (by k_asm)
  case e2 =>
    intro t r fin hρ h2 tk2 es2 n2 i2 q2 e2 te2 ts2 tt2 ln2 tl2 nc2 tp2 htk2 hne hi2 hdr hf2 hlen F2 N2 D2 hle
    have hl1 : (tx t).length ≤ 200000 := by rw [tx_len]; omega
    clear D
    dsimp only
    cases q2 with
    | true =>
      k_steps
      exact rWord t r fin hρ _ _ _ _ i2 _ _ _ _ _ _ hi2 hdr hf2 (by k_asm) (by k_asm) (by k_asm)
    | false =>
      have hne2 : t ≠ [] := by rcases hne with h | h; exact h; cases h
      have h9 : ((tx t).cps.toList == (Str.ofString "").cps.toList) = false := by
        have : (Str.ofString "").cps.toList = [] := by decide +kernel
        rw [this]
        cases t with
        | nil => exact absurd rfl hne2
        | cons a b => rfl
      k_steps
      exact rWord t r fin hρ _ _ _ _ i2 _ _ _ _ _ _ hi2 hdr hf2 (by k_asm) (by k_asm) (by k_asm)
  case e3 =>
    intro hρ e2 h1 h2 tk2 m2 vs2 es2 n2 i2 tp2 F2 N2 x2
    refine leave_raiseS (s' := { s with heap := h2, toks := tk2 }) B' (Heap.MadeExc.of x2) F2 N2 fun h3 t3 R3 _ U3 => ?_
    exact rBad hρ e2 t3 vs2 g' h3 tk2 es2 n2 i2 tp2 FG' R3 U3
end
section
open PySem PySem.W PyProof.Rows

theorem While_once {w : World} {A : Around} {E : Value → Shared → Prop} {Q : Flow → Shared → Prop} {s : Shared} {env : Env} {test : Expr} {body : List Stmt} {pos : Pos}
    (turn : wpAny (model P w) A (isTrue test env (eval test env)) (fun b s₂ =>
        if b = true then wpAny (model P w) A (execs body env) (fun f s₃ => match f with
          | .next | .cont => False
          | .brk => Q .next s₃
          | .ret v => Q (.ret v) s₃) E s₂ else Q .next s₂) E s)
    (hE : PassesOwn (model P w) A env E := by passes_own) :
    wpAny (model P w) A (exec (.While test body [] pos) env) Q E s := by
  refine While_own (fun n h tk => n = 0 ∧ h = s.heap ∧ tk = s.toks) (n₀ := 0) ⟨rfl, rfl, rfl⟩ ?_ hE
  rintro n h tk ⟨rfl, rfl, rfl⟩
  refine wpAny_mono turn (fun b s₂ h₂ => ?_) fun _ _ x => x
  cases b with
  | false => exact h₂
  | true =>
    simp only [if_true] at h₂ ⊢
    refine wpAny_mono h₂ (fun f s₃ h₃ => ?_) fun _ _ x => x
    cases f with
    | next => exact h₃.elim
    | cont => exact h₃.elim
    | brk => exact h₃
    | ret v => exact h₃
theorem mrt (P : Params) : findIn (K P) (.ref 750) "read_token" = some (some (.ref 718)) := by kernel_rfl
theorem mrt2 (P : Params) : isFn (K P) (.ref 718) = true := by kernel_rfl
theorem mrt3 {c : LexC} {st tok ln : Value} {cm : Str} {b : Bool} : lk (lexL c st tok ln cm b) "read_token" = none := by kernel_rfl
local macro_rules | `(tactic| walk_at "exec While") => `(tactic| (k_here; k_dflt (refine' While_once ?_ ?hE; (case hE => passes_own))))
local macro_rules | `(tactic| walk_at "truthy ref") => `(tactic| (k_here; k_dflt (refine' dq_truthyN ?N ?h ?_; (case N => k_asm); (case h => k_mem)); walk_at "ds"))
local macro_rules | `(tactic| walk_at "getMethod ref") => `(tactic| (k_here; (with_reducible show wpAny _ _ (getMethod _ (Str.ofString "read_token") _) _ _ _); k_dflt (refine' lex_method ?k1 ?k2 ?k3 ?k4 ?k5 ?k6 ?k7 ?k8 ?k9 ?_; walk_at "lx"; (case k7 => exact mrt _); (case k8 => exact mrt2 _); (case k9 => exact mrt3); k_whole)))
local macro_rules | `(tactic| walk_at "call ref") => `(tactic| (k_here; (with_reducible show wpAny _ _ (call (Value.ref 718) [Value.ref _]) _ _ _); k_dflt (refine' rt_gives ?o ?hv ?h39 ?hW ?hs ?hf ?hi ?kD ?k1 ?k2 ?k3 ?k4 ?k5 ?kK ?kd ?ku ?kt ?_ ?_ ?_; (case o | hv | h39 | hW | kD | hs | hf | hi => k_asm); walk_at "use")))
theorem gt_gives {w : World} {ps : Program} {loose : List Str} {mean : ExcName → Option Value} {mg mb : Str → Option Value} {dp u : Nat} {gd : Option (List Code)} {cn : Str} {cs : Scope} {a : Addr} {ccd : Value} {cl : List (Str × Addr)} {outer : List Env} {A₀ : Around} {base h₀ : Heap} {L : Addr} {m : Str → Option Value} {s : Shared} {c : LexC} {sd : Nat} {k1 k2 k3 : Tok} {v : Str} {tv : Tok} {x dx : Nat} {news : List (Addr × Obj)} {Q E : Value → Shared → Prop} {σ : Sh} {i : Nat} {es : List DictEntry} {n : Nat} {ts tt tp tl : Tok} {ln : Int}
    (O : Ord c sd x dx news) (hv : v.length ≤ 50000) (h39 : ∀ ch ∈ v.cps.toList, ch ≠ 39) (hW : Txt.contains c.W ⟨#[34]⟩ = false) (hσ : σ = .ws ∨ σ = .fin) (hfin : σ = .fin → i = v.length) (hi : i ≤ v.length)
    (D : Spec es 40 (lexL c (stV σ ts) (.str "" tt) (.int ln tl) "" true)) (B : Below A₀ base outer h₀) (F : Fr h₀ L s.heap m) (X : (K w.params).In h₀) (N : News h₀ L s.heap (led w.params c sd k1 k2 k3 v tv i tp x dx es n news)) (T : Top ps loose mean mg mb h₀) (hk : cs.kind = .function) (hd : dp + 14 < recursionLimit) (hu : u + 80 < cLine) (ht : 0 < s.toks)
    (rEof : rt σ [] false (v.cps.toList.drop i) = .eof → ∀ (h' : Heap) (tk' : Nat) (es' : List DictEntry) (n' : Nat) (ts' tt' : Tok) (ln' : Int) (tl' tp' : Tok), Fr h₀ L h' m → News h₀ L h' (led w.params c sd k1 k2 k3 v tv v.length tp' x dx es' n' news) → Spec es' 40 (lexL c (stV .fin ts') (.str "" tt') (.int ln' tl') "" true) → Q .none { s with heap := h', toks := tk' })
    (rWord : ∀ t r fin, rt σ [] false (v.cps.toList.drop i) = .word t r fin → ∀ (h' : Heap) (tk' : Nat) (es' : List DictEntry) (n' i' : Nat) (ts' tt' : Tok) (ln' : Int) (tl' tp' tr : Tok), i' ≤ v.length → v.cps.toList.drop i' = r → (fin = true → i' = v.length) → Fr h₀ L h' m → News h₀ L h' (led w.params c sd k1 k2 k3 v tv i' tp' x dx es' n' news) → Spec es' 40 (lexL c (stV (if fin then .fin else .ws) ts') (.str "" tt') (.int ln' tl') "" true) → Q (.str (tx t) tr) { s with heap := h', toks := tk' })
    (rBad : rt σ [] false (v.cps.toList.drop i) = .bad → ∀ (e t : Addr) (vs : List Value) (g₂ h' : Heap) (tk' : Nat) (es' : List DictEntry) (n' i' : Nat) (tp' : Tok), Fr h₀ L g₂ m → RaisedS base g₂ (envX cn cs L a ccd cl :: outer) e (.type "ValueError") t vs (led w.params c sd k1 k2 k3 v tv i' tp' x dx es' n' news) h' → g₂.UpToSlots h' → E (.ref e) { s with heap := h', toks := tk' }) :
    wpAny (model P w) (ktrTop dp u gd cn cs L a ccd cl outer) (call (.ref 711) [.ref x]) Q E s := by
  refine wpAny_call ?_
  k_dflt (refine' code_def (binds := [("self", .ref x)]) ?k1 ?k2 ?k3 ?k4 ?k5 ?kA ?kF ?kK ?k6 ?k7 ?k8 ?k9 ?kB ?_ ?c2 ?c3 ?c4 ?c5; (case kA => exact rfl); (case kF => exact rfl); (case kK => assumption); (case k1 => k_asm); (case k2 => k_asm); (case k3 => k_asm); (case k4 => k_asm); (case k5 => k_asm); (case k6 => k_is); (case k7 => k_is); (case k8 => ktr_room); (case k9 => exact kp_binds (by k_in) (fun S => by kernel_rfl)); (case c5 => decide); (case kB => exact locs rfl); (case c2 => exact rfl); (case c3 => exact rfl); (case c4 => exact rfl); k_whole; intro g' L' h' FG' F' N' B' X' T'; (try dsimp only); (try k_fold))

  iterate 15 walk1
  k_dflt (refine' rt_gives O hv h39 hW hσ hfin hi D B' ?F X' ?N T' ?kK ?kd ?ku ?kt ?_ ?_ ?_; (case F => k_asm); (case N => k_asm); (case kK => exact rfl); (case kd => ktr_room); (case ku => ktr_units); (case kt => first | assumption | exact Nat.succ_pos _ | omega))
  · intro hρ h2 tk2 es2 n2 ts2 tt2 ln2 tl2 tp2 F2 N2 D2
    clear D
    k_steps
    all_goals exact rEof hρ _ _ _ _ ts2 _ _ _ _ (by k_asm) (by k_asm) (by k_asm)
  · intro t r fin hρ h2 tk2 es2 n2 i2 ts2 tt2 ln2 tl2 tp2 tr hi2 hdr hf2 F2 N2 D2
    clear D
    k_steps
    all_goals exact rWord t r fin hρ _ _ _ _ i2 ts2 _ _ _ _ _ hi2 hdr hf2 (by k_asm) (by k_asm) (by k_asm)
  · intro hρ e2 t2 vs2 g2 h2 tk2 es2 n2 i2 tp2 F2 R2 U2
    refine leave_onS (s' := { s with heap := h2, toks := tk2 }) B' F2 R2 U2 fun h3 R3 _ U3 => ?_
    exact rBad hρ e2 t2 vs2 g' h3 tk2 es2 n2 i2 tp2 FG' R3 U3
end
section
open PySem PySem.W PyProof.Rows

theorem mgt (P : Params) : findIn (K P) (.ref 750) "get_token" = some (some (.ref 711)) := by kernel_rfl
theorem mgt2 (P : Params) : isFn (K P) (.ref 711) = true := by kernel_rfl
theorem mgt3 {c : LexC} {st tok ln : Value} {cm : Str} {b : Bool} : lk (lexL c st tok ln cm b) "get_token" = none := by kernel_rfl
local macro_rules | `(tactic| walk_at "getMethod ref") => `(tactic| (k_here; (with_reducible show wpAny _ _ (getMethod _ (Str.ofString "get_token") _) _ _ _); k_dflt (refine' lex_method ?k1 ?k2 ?k3 ?k4 ?k5 ?k6 ?k7 ?k8 ?k9 ?_; walk_at "lx"; (case k7 => exact mgt _); (case k8 => exact mgt2 _); (case k9 => exact mgt3); k_whole)))
local macro_rules | `(tactic| walk_at "leaving ref") => `(tactic| (k_here; k_dflt (refine' leave_raiseS ?k1 (Heap.MadeExc.of (by assumption)) ?k2 ?k3 ?_; (case k1 | k2 => assumption); (case k3 => k_asm); k_whole; intro h9 t9 R9 RK9 U9; clear RK9; (try dsimp only at R9 U9 ⊢))))
theorem nx_gives {w : World} {ps : Program} {loose : List Str} {mean : ExcName → Option Value} {mg mb : Str → Option Value} {dp u : Nat} {gd : Option (List Code)} {cn : Str} {cs : Scope} {a : Addr} {ccd : Value} {cl : List (Str × Addr)} {outer : List Env} {A₀ : Around} {base h₀ : Heap} {L : Addr} {m : Str → Option Value} {s : Shared} {c : LexC} {sd : Nat} {k1 k2 k3 : Tok} {v : Str} {tv : Tok} {x dx : Nat} {news : List (Addr × Obj)} {Q E : Value → Shared → Prop} {σ : Sh} {i : Nat} {es : List DictEntry} {n : Nat} {ts tt tp tl : Tok} {ln : Int}
    (O : Ord c sd x dx news) (hv : v.length ≤ 50000) (h39 : ∀ ch ∈ v.cps.toList, ch ≠ 39) (hW : Txt.contains c.W ⟨#[34]⟩ = false) (hσ : σ = .ws ∨ σ = .fin) (hfin : σ = .fin → i = v.length) (hi : i ≤ v.length)
    (D : Spec es 40 (lexL c (stV σ ts) (.str "" tt) (.int ln tl) "" true)) (B : Below A₀ base outer h₀) (F : Fr h₀ L s.heap m) (X : (K w.params).In h₀) (N : News h₀ L s.heap (led w.params c sd k1 k2 k3 v tv i tp x dx es n news)) (T : Top ps loose mean mg mb h₀) (hk : cs.kind = .function) (hd : dp + 16 < recursionLimit) (hu : u + 90 < cLine) (ht : 0 < s.toks)
    (rEof : rt σ [] false (v.cps.toList.drop i) = .eof → ∀ (e t : Addr) (vs : List Value) (g₂ h' : Heap) (tk' : Nat) (es' : List DictEntry) (n' : Nat) (ts' tt' : Tok) (ln' : Int) (tl' tp' : Tok), Fr h₀ L g₂ m → RaisedS base g₂ (envX cn cs L a ccd cl :: outer) e (.type "StopIteration") t vs (led w.params c sd k1 k2 k3 v tv v.length tp' x dx es' n' news) h' → g₂.UpToSlots h' → E (.ref e) { s with heap := h', toks := tk' })
    (rWord : ∀ t r fin, rt σ [] false (v.cps.toList.drop i) = .word t r fin → ∀ (h' : Heap) (tk' : Nat) (es' : List DictEntry) (n' i' : Nat) (ts' tt' : Tok) (ln' : Int) (tl' tp' tr : Tok), i' ≤ v.length → v.cps.toList.drop i' = r → (fin = true → i' = v.length) → Fr h₀ L h' m → News h₀ L h' (led w.params c sd k1 k2 k3 v tv i' tp' x dx es' n' news) → Spec es' 40 (lexL c (stV (if fin then .fin else .ws) ts') (.str "" tt') (.int ln' tl') "" true) → Q (.str (tx t) tr) { s with heap := h', toks := tk' })
    (rBad : rt σ [] false (v.cps.toList.drop i) = .bad → ∀ (e t : Addr) (vs : List Value) (g₂ h' : Heap) (tk' : Nat) (es' : List DictEntry) (n' i' : Nat) (tp' : Tok), Fr h₀ L g₂ m → RaisedS base g₂ (envX cn cs L a ccd cl :: outer) e (.type "ValueError") t vs (led w.params c sd k1 k2 k3 v tv i' tp' x dx es' n' news) h' → g₂.UpToSlots h' → E (.ref e) { s with heap := h', toks := tk' }) :
    wpAny (model P w) (ktrTop dp u gd cn cs L a ccd cl outer) (call (.ref 747) [.ref x]) Q E s := by
  refine wpAny_call ?_
  k_dflt (refine' code_def (binds := [("self", .ref x)]) ?k1 ?k2 ?k3 ?k4 ?k5 ?kA ?kF ?kK ?k6 ?k7 ?k8 ?k9 ?kB ?_ ?c2 ?c3 ?c4 ?c5; (case kA => exact rfl); (case kF => exact rfl); (case kK => assumption); (case k1 => k_asm); (case k2 => k_asm); (case k3 => k_asm); (case k4 => k_asm); (case k5 => k_asm); (case k6 => k_is); (case k7 => k_is); (case k8 => ktr_room); (case k9 => exact kp_binds (by k_in) (fun S => by kernel_rfl)); (case c5 => decide); (case kB => exact locs rfl); (case c2 => exact rfl); (case c3 => exact rfl); (case c4 => exact rfl); k_whole; intro g' L' h' FG' F' N' B' X' T'; (try dsimp only); (try k_fold))

  iterate 6 walk1
  k_dflt (refine' gt_gives O hv h39 hW hσ hfin hi D B' ?F X' ?N T' ?kK ?kd ?ku ?kt ?_ ?_ ?_; (case F => k_asm); (case N => k_asm); (case kK => exact rfl); (case kd => ktr_room); (case ku => ktr_units); (case kt => first | assumption | exact Nat.succ_pos _ | omega))
  · intro hρ h2 tk2 es2 n2 ts2 tt2 ln2 tl2 tp2 F2 N2 D2
    clear D
    k_steps

    all_goals exact rEof hρ _ _ _ _ _ _ _ _ ts2 tt2 ln2 tl2 _ (by k_asm) (by k_asm) (by k_asm)
  · intro t r fin hρ h2 tk2 es2 n2 i2 ts2 tt2 ln2 tl2 tp2 tr hi2 hdr hf2 F2 N2 D2
    clear D
    k_steps
    all_goals exact rWord t r fin hρ _ _ _ _ i2 ts2 _ _ _ _ _ hi2 hdr hf2 (by k_asm) (by k_asm) (by k_asm)
  · intro hρ e2 t2 vs2 g2 h2 tk2 es2 n2 i2 tp2 F2 R2 U2
    refine leave_onS (s' := { s with heap := h2, toks := tk2 }) B' F2 R2 U2 fun h3 R3 _ U3 => ?_
    exact rBad hρ e2 t2 vs2 g' h3 tk2 es2 n2 i2 tp2 FG' R3 U3
end
section
open PySem PySem.W PyProof.Rows PySem.Calls
theorem rt_len : ∀ (l : List Nat) (σ : Sh) (t : List Nat) (q : Bool) (t' r : List Nat) (fin : Bool), rt σ t q l = .word t' r fin → r.length ≤ l.length ∧ (σ = .ws → r.length < l.length)
  | [], σ, t, q, t', r, fin, h => by
    cases σ <;> simp [rt] at h
    obtain ⟨_, rfl, _⟩ := h
    exact ⟨Nat.le_refl _, fun e => nomatch e⟩
  | c :: l, σ, t, q, t', r, fin, h => by
    have ih := rt_len l
    cases σ with
    | fin => simp [rt] at h
    | ws =>
      simp only [rt] at h
      have key : r.length ≤ l.length := by
        split at h
        · exact (ih _ _ _ _ _ _ h).1
        · split at h
          · exact (ih _ _ _ _ _ _ h).1
          · split at h
            · exact (ih _ _ _ _ _ _ h).1
            · exact (ih _ _ _ _ _ _ h).1
      exact ⟨by simp only [List.length_cons]; omega, fun _ => by simp only [List.length_cons]; omega⟩
    | dq =>
      simp only [rt] at h
      refine ⟨?_, fun e => nomatch e⟩
      simp only [List.length_cons]
      split at h
      · have := (ih _ _ _ _ _ _ h).1; omega
      · split at h
        · have := (ih _ _ _ _ _ _ h).1; omega
        · have := (ih _ _ _ _ _ _ h).1; omega
    | ea =>
      simp only [rt] at h
      refine ⟨?_, fun e => nomatch e⟩
      simp only [List.length_cons]
      have := (ih _ _ _ _ _ _ h).1; omega
    | eq =>
      simp only [rt] at h
      refine ⟨?_, fun e => nomatch e⟩
      simp only [List.length_cons]
      split at h
      · have := (ih _ _ _ _ _ _ h).1; omega
      · have := (ih _ _ _ _ _ _ h).1; omega
    | wd =>
      simp only [rt] at h
      refine ⟨?_, fun e => nomatch e⟩
      simp only [List.length_cons]
      split at h
      · cases h; omega
      · split at h
        · have := (ih _ _ _ _ _ _ h).1; omega
        · split at h
          · have := (ih _ _ _ _ _ _ h).1; omega
          · have := (ih _ _ _ _ _ _ h).1; omega
/-- the words that shlex.split finds -/
noncomputable def words : Nat → Sh → List Nat → Option (List (List Nat))
  | 0, _, _ => some []
  | k + 1, σ, l => match rt σ [] false l with
    | .bad => none
    | .eof => some []
    | .word t r fin => (words k (if fin then .fin else .ws) r).map (t :: ·)
section
variable {M : Model} {A A₀ : Around} {E : Value → Shared → Prop} {s : Shared} {base G g : Heap} {outer : List Env} {L a e t : Addr} {m : Str → Option Value} {name : Str} {scope : Scope} {cd : Value} {vs : List Value} {news : List (Addr × Obj)} {X : String} {Q : Option Value → Shared → Prop}
theorem stop_S (R : RaisedS base G (envOf name scope L a cd :: outer) e (.type X) t vs news s.heap) (F : Fr g L G m) (Kb : Below A₀ base outer g) (hsm : G.UpToSlots s.heap) (hsub : isSubtype (.type X) (.type "StopIteration") = pure true)
    (k : ∀ g', KtsTurn (outer.filterMap (·.frame)) g g' → Fr g' L s.heap m → News g' L s.heap news → Below A₀ base outer g' → Q none s) : OwitStop M A Q E (.ref e) s := by
  obtain ⟨⟨B, hB, hBG, hl, hfl, hnew⟩, _⟩ := R
  have hL : B.get? L = none := by
    obtain ⟨_, ⟨L', _, hf, hn', _⟩, _⟩ := hfl.2.2.1
    obtain rfl : L = L' := Option.some.inj hf
    exact hn'
  have hf' := flyingW_base hB hfl
  obtain ⟨ob, hob, hobc⟩ := hf'.there
  have hT : s.TypeIs (.ref e) X := (show ∃ o, s.heap.get? e = some o ∧ o.cls = .type X from ⟨ob, hob, hobc⟩)
  obtain ⟨g', T', F', K'⟩ := kts_ground Kb F hBG hfl.1 hsm
  unfold OwitStop
  refine wpAny_isInstance hT hsub ?_
  show (if true = true then Q none s else E (.ref e) s)
  rw [if_pos rfl]
  exact k g' T' F' (fun q hq => ⟨hfl.1 _ _ (hl q hq).1, (fun z => by have := (hl q hq).1; rw [z, hL] at this; cases this), T'.none_ _ (kts_none F.keep (hl q hq).2.1)⟩) K'
theorem fly_S (R : RaisedS base G (envOf name scope L a cd :: outer) e (.type X) t vs news s.heap) (hsub : isSubtype (.type X) (.type "StopIteration") = pure false)
    (k : E (.ref e) s) : OwitStop M A Q E (.ref e) s := by
  obtain ⟨⟨B, hB, hBG, hl, hfl, hnew⟩, _⟩ := R
  have hf' := flyingW_base hB hfl
  obtain ⟨ob, hob, hobc⟩ := hf'.there
  have hT : s.TypeIs (.ref e) X := (show ∃ o, s.heap.get? e = some o ∧ o.cls = .type X from ⟨ob, hob, hobc⟩)
  unfold OwitStop
  refine wpAny_isInstance hT hsub ?_
  show (if false = true then Q none s else E (.ref e) s)
  rw [if_neg Bool.false_ne_true]
  exact k
end
theorem sub_stop : isSubtype (.type "StopIteration") (.type "StopIteration") = pure true := by rw [isSubtype_type]; kernel_rfl
theorem sub_val : isSubtype (.type "ValueError") (.type "StopIteration") = pure false := by rw [isSubtype_type]; kernel_rfl
theorem mnx (P : Params) : findIn (K P) (.ref 750) "__next__" = some (some (.ref 747)) := by kernel_rfl
theorem mnx2 (P : Params) : isFn (K P) (.ref 747) = true := by kernel_rfl
theorem mit (P : Params) : findIn (K P) (.ref 750) "__iter__" = some (some (.ref 740)) := by kernel_rfl
theorem mit2 (P : Params) : isFn (K P) (.ref 740) = true := by kernel_rfl
end
section
open PySem PySem.W PyProof.Rows PySem.Calls
noncomputable abbrev listO (acc : Array Value) (cc : Nat) : Obj := { cls := .type "list", dict := none, data := .seq acc cc, slots := #[] }
/-- values that are texts of these signs -/
inductive TxsAre : List Value → List (List Nat) → Prop
  | nil : TxsAre [] []
  | cons {t : List Nat} {tr : Tok} {vs : List Value} {ws : List (List Nat)} : TxsAre vs ws → TxsAre (.str (tx t) tr :: vs) (t :: ws)
noncomputable def mu (σ : Sh) (l : List Nat) : Nat := if σ = .fin then 0 else l.length + 1
theorem led_push {h₀ h h' : Heap} {L : Addr} {w : World} {c : LexC} {sd : Nat} {k1 k2 k3 : Tok} {v : Str} {tv : Tok} {i : Nat} {tp : Tok} {x dx : Nat} {es : List DictEntry} {n S : Nat} {o o' : Obj} {news : List (Addr × Obj)} (N : News h₀ L h (led w.params c sd k1 k2 k3 v tv i tp x dx es n ((S, o) :: news)))
    (O : Ord c sd x dx news) (hS : c.q2 < S) (hn : ∀ p ∈ news, p.1 ≠ S) (hs : Heap.SameBut S h h') (ho : h'.get? S = some o') : News h₀ L h' (led w.params c sd k1 k2 k3 v tv i tp x dx es n ((S, o') :: news)) := by
  have hS0 := N (S, o) (.tail _ (.tail _ (.tail _ (.tail _ (.tail _ (.tail _ (.head _)))))))
  have keep : ∀ p, p ∈ led w.params c sd k1 k2 k3 v tv i tp x dx es n ((S, o) :: news) → p.1 ≠ S → h'.get? p.1 = some p.2 ∧ p.1 ≠ L ∧ h₀.get? p.1 = none := fun p hp hne =>
    ⟨(hs.2 p.1 hne).trans (N p hp).1, (N p hp).2.1, (N p hp).2.2⟩
  have q1 := Nat.lt_trans O.o5 hS
  have q2 := Nat.lt_trans O.o4 q1
  have q3 := Nat.lt_trans O.o3 q2
  have q4 := Nat.lt_trans O.o2 q3
  have q5 := Nat.lt_trans O.o1 q4
  show ∀ p ∈ led w.params c sd k1 k2 k3 v tv i tp x dx es n ((S, o') :: news), h'.get? p.1 = some p.2 ∧ p.1 ≠ L ∧ h₀.get? p.1 = none
  exact aN (keep _ (.head _) (Nat.ne_of_lt hS)) (aN (keep _ (.tail _ (.head _)) (Nat.ne_of_lt q1)) (aN (keep _ (.tail _ (.tail _ (.head _))) (Nat.ne_of_lt q2)) (aN (keep _ (.tail _ (.tail _ (.tail _ (.head _)))) (Nat.ne_of_lt q3)) (aN (keep _ (.tail _ (.tail _ (.tail _ (.tail _ (.head _))))) (Nat.ne_of_lt q4)) (aN (keep _ (.tail _ (.tail _ (.tail _ (.tail _ (.tail _ (.head _)))))) (Nat.ne_of_lt q5)) (aN ⟨ho, hS0.2.1, hS0.2.2⟩ fun p hp => keep p (.tail _ (.tail _ (.tail _ (.tail _ (.tail _ (.tail _ (.tail _ hp))))))) (hn p hp)))))))
theorem lex_loop {w : World} {ps : Program} {loose : List Str} {mean : ExcName → Option Value} {mg mb : Str → Option Value} {dp u : Nat} {gd : Option (List Code)} {cn : Str} {cs : Scope} {a : Addr} {ccd : Value} {outer : List Env} {A₀ : Around} {base h₀ : Heap} {L : Addr} {m : Str → Option Value} {c : LexC} {sd : Nat} {k1 k2 k3 : Tok} {v : Str} {tv : Tok} {x dx S : Nat} {news : List (Addr × Obj)} {R : Result → Shared → Prop}
    (O : Ord c sd x dx news) (hS : c.q2 < S) (hnS : ∀ p ∈ news, p.1 ≠ S) (hv : v.length ≤ 50000) (h39 : ∀ ch ∈ v.cps.toList, ch ≠ 39) (hW : Txt.contains c.W ⟨#[34]⟩ = false) (B : Below A₀ base outer h₀) (X : (K w.params).In h₀) (T : Top ps loose mean mg mb h₀) (hk : cs.kind = .function) (hd : dp + 16 < recursionLimit) (hu : u + 92 < cLine) :
    ∀ (k : Nat) (σ : Sh) (i : Nat) (s : Shared) (acc : Array Value) (cc : Nat) (es : List DictEntry) (n : Nat) (ts tt tp tl : Tok) (ln : Int), mu σ (v.cps.toList.drop i) < k → (σ = .ws ∨ σ = .fin) → (σ = .fin → i = v.length) → i ≤ v.length → 0 < s.toks → acc.size + mu σ (v.cps.toList.drop i) ≤ 60000 →
    Spec es 40 (lexL c (stV σ ts) (.str "" tt) (.int ln tl) "" true) → Fr h₀ L s.heap m → News h₀ L s.heap (led w.params c sd k1 k2 k3 v tv i tp x dx es n ((S, listO acc cc) :: news)) →
    (∀ ws vals, words k σ (v.cps.toList.drop i) = some ws → TxsAre vals ws → ∀ (h₀' h' : Heap) (tk' cc' : Nat) (es' : List DictEntry) (n' : Nat) (tp' : Tok), KtsTurn (outer.filterMap (·.frame)) h₀ h₀' → Fr h₀' L h' m → News h₀' L h' (led w.params c sd k1 k2 k3 v tv v.length tp' x dx es' n' ((S, listO (acc ++ vals.toArray) cc') :: news)) → Below A₀ base outer h₀' → R (.ok (.ret .none)) { s with heap := h', toks := tk' }) →
    (words k σ (v.cps.toList.drop i) = none → ∀ (e t : Addr) (vs : List Value) (g₂ h' : Heap) (tk' : Nat) (es' : List DictEntry) (n' i' : Nat) (tp' : Tok) (o' : Obj), Fr h₀ L g₂ m → RaisedS base g₂ (envOf cn cs L a ccd :: outer) e (.type "ValueError") t vs (led w.params c sd k1 k2 k3 v tv i' tp' x dx es' n' ((S, o') :: news)) h' → g₂.UpToSlots h' → R (.error (.ref e)) { s with heap := h', toks := tk' }) →
    codeAny (model P w) (ktrTop dp u gd cn cs L a ccd [] outer) (.builtin "list.extend.loop" ⟨[.ref S, .ref x, .none], []⟩) R s := by
  have O' : ∀ o, Ord c sd x dx ((S, o) :: news) := fun o => ⟨O.o1, O.o2, O.o3, O.o4, O.o5, (by
      have := O.o1; have := O.o2; have := O.o3; have := O.o4; have := O.o5
      intro p hp
      rcases List.mem_cons.mp hp with rfl | hp
      · show S ≠ dx; omega
      · exact O.n1 p hp), (by
      have := O.o1; have := O.o2; have := O.o3; have := O.o4; have := O.o5
      intro p hp
      rcases List.mem_cons.mp hp with rfl | hp
      · show S ≠ sd; omega
      · exact O.n2 p hp)⟩
  intro k
  induction k with
  | zero => intro σ i s acc cc es n ts tt tp tl ln hmu; omega
  | succ k ih =>
    intro σ i s acc cc es n ts tt tp tl ln hmu hσ hfin hi ht hsz D F N rOk rBad
    refine codeAny_builtin PySem.F.entry_extend_loop ?_
    rw [Around.under_plainId PySem.F.plain_extend_loop _]
    show wpAny _ (ktrTop dp (u + 1) gd cn cs L a ccd [] outer) (pyNext (.ref x) >>= _) _ _ s
    refine wpAny_bind ?_
    refine wpAny_toks ?_
    refine owit_next (C := 750) F X (InstAt.of_news N (.tail _ (.tail _ (.tail _ (.tail _ (.head _))))) (.tail _ (.tail _ (.tail _ (.tail _ (.tail _ (.head _))))))) (mnx _) (mnx2 _) ?_
    refine nx_gives (O' _) hv h39 hW hσ hfin hi D B F X N T hk hd (by omega) ht ?_ ?_ ?_
    · intro hρ e t vs g₂ h' tk' es' n' ts' tt' ln' tl' tp' F' R' U'
      refine stop_S (s := { s with heap := h', toks := tk' }) R' F' B U' sub_stop fun g' T' F2 N2 B2 _ => ?_
      refine wpAny_pure ?_
      refine rOk [] [] ?_ .nil g' h' tk' cc es' n' tp' T' F2 ?_ B2
      · simp only [words, hρ]
      · simpa using N2
    · intro t r fin hρ h' tk' es' n' i' ts' tt' ln' tl' tp' tr hi' hdr hf' F' N' D' hle
      have hle : s.toks ≤ tk' := hle
      have hws : σ = .ws := by
        rcases hσ with h | h
        · exact h
        · rw [h] at hρ; simp [rt] at hρ
      have hlen := (rt_len _ _ _ _ _ _ _ hρ).2 hws
      have hmu2 : mu σ (v.cps.toList.drop i) = (v.cps.toList.drop i).length + 1 := by rw [hws]; rfl
      have hmu3 : mu (if fin = true then .fin else .ws) (v.cps.toList.drop i') < mu σ (v.cps.toList.drop i) := by
        rw [hmu2]
        cases fin with
        | true => simp [mu]
        | false =>
          rw [hdr]
          show r.length + 1 < _
          omega
      have hS' := (N' (S, listO acc cc) (by simp)).1
      show wpAny _ _ (updateSeq S (·.push (.str (tx t) tr)) >>= _) _ _ _
      have F2 := F'.change (Heap.SameBut.update h' S (Obj.mapSeq (·.push (.str (tx t) tr)))) (N' (S, listO acc cc) (by simp)).2.1 (N' (S, listO acc cc) (by simp)).2.2
      have N2 := led_push N' O hS hnS (Heap.SameBut.update h' S (Obj.mapSeq (·.push (.str (tx t) tr)))) (Heap.get?_update_self _ hS' rfl)
      refine wpAny_bind (wpAny_updateSeq hS' rfl (wpAny_pure ⟨plainId_quiet PySem.F.plain_extend_loop _, ?_⟩) ?_ ?_)
      · refine ih (if fin = true then .fin else .ws) i' _ (acc.push (.str (tx t) tr)) _ es' n' ts' tt' tp' tl' ln' (by omega) (by cases fin <;> simp) (by cases fin <;> simp [hf']) hi' (Nat.lt_of_lt_of_le ht hle) (by rw [Array.size_push]; omega) D' F2 N2 ?_ ?_
        · intro ws vals hw hT h₀' h2 tk2 cc2 es2 n2 tp2 T2 F3 N3 B3
          refine rOk (t :: ws) (.str (tx t) tr :: vals) ?_ (.cons hT) h₀' h2 tk2 cc2 es2 n2 tp2 T2 F3 ?_ B3
          · rw [hdr] at hw
            simp only [words, hρ, hw, Option.map_some]
          · have e : acc ++ (Value.str (tx t) tr :: vals).toArray = acc.push (.str (tx t) tr) ++ vals.toArray := by simp
            rw [e]; exact N3
        · intro hw e2 t2 vs2 g2 h2 tk2 es2 n2 i2 tp2 o2 F3 R3 U3
          refine rBad ?_ e2 t2 vs2 g2 h2 tk2 es2 n2 i2 tp2 o2 F3 R3 U3
          rw [hdr] at hw
          simp only [words, hρ, hw, Option.map_none]
      · show acc.size ≤ sizeLine
        have : sizeLine = 16777216 := rfl
        omega
      · show (acc.push _).size ≤ sizeLine + 1
        have : sizeLine = 16777216 := rfl
        rw [Array.size_push]; omega
    · intro hρ e t vs g₂ h' tk' es' n' i' tp' F' R' U'
      refine fly_S (s := { s with heap := h', toks := tk' }) R' sub_val ?_
      refine rBad ?_ e t vs g₂ h' tk' es' n' i' tp' _ F' R' U'
      simp only [words, hρ]
end
section
open PySem PySem.W PyProof.Rows PySem.Calls

theorem it_gives {w : World} {news : List (Addr × Obj)} (x : Nat) : Gives w 740 [.ref x] 2 10 news fun r news' => r = .ref x ∧ news' = news := by
  intro ps loose mean mg mb dp u gd cn cs a ccd cl outer A₀ base h₀ L m s Q E B F X N T hk hd hu ht ret
  refine wpAny_call ?_
  k_dflt (refine' code_def (binds := [("self", .ref x)]) ?k1 ?k2 ?k3 ?k4 ?k5 ?kA ?kF ?kK ?k6 ?k7 ?k8 ?k9 ?kB ?_ ?c2 ?c3 ?c4 ?c5; (case kA => exact rfl); (case kF => exact rfl); (case kK => assumption); (case k1 => k_asm); (case k2 => k_asm); (case k3 => k_asm); (case k4 => k_asm); (case k5 => k_asm); (case k6 => k_is); (case k7 => k_is); (case k8 => ktr_room); (case k9 => exact kp_binds (by k_in) (fun S => by kernel_rfl)); (case c5 => decide); (case kB => exact locs rfl); (case c2 => exact rfl); (case c3 => exact rfl); (case c4 => exact rfl); k_whole; intro g' L' h' FG' F' N' B' X' T'; (try dsimp only); (try k_fold))
  k_steps
  exact ret _ _ _ _ (by k_asm) (by k_asm) ⟨rfl, rfl⟩
theorem lex_nolen {w : World} {h : Heap} (X : (K w.params).In h) : Looks (model P w) h (typeLookup (.ref 750) "__len__") none := Looks.of_peek X (by kernel_rfl)
theorem lex_nohint {w : World} {h : Heap} (X : (K w.params).In h) : Looks (model P w) h (typeLookup (.ref 750) "__length_hint__") none := Looks.of_peek X (by kernel_rfl)
theorem list_lex {w : World} {ps : Program} {loose : List Str} {mean : ExcName → Option Value} {mg mb : Str → Option Value} {dp u : Nat} {gd : Option (List Code)} {cn : Str} {cs : Scope} {a : Addr} {ccd : Value} {outer : List Env} {A₀ : Around} {base h₀ : Heap} {L : Addr} {m : Str → Option Value} {c : LexC} {sd : Nat} {k1 k2 k3 : Tok} {v : Str} {tv : Tok} {x dx : Nat} {news : List (Addr × Obj)} {s : Shared} {Q E : Value → Shared → Prop} {es : List DictEntry} {n : Nat} {ts tt tp tl : Tok} {ln : Int}
    (O : Ord c sd x dx news) (hv : v.length ≤ 50000) (h39 : ∀ ch ∈ v.cps.toList, ch ≠ 39) (hW : Txt.contains c.W ⟨#[34]⟩ = false) (B : Below A₀ base outer h₀) (X : (K w.params).In h₀) (T : Top ps loose mean mg mb h₀) (hk : cs.kind = .function) (hd : dp + 16 < recursionLimit) (hu : u + 100 < cLine)
    (ht : 0 < s.toks) (D : Spec es 40 (lexL c (.str " " ts) (.str "" tt) (.int ln tl) "" true)) (F : Fr h₀ L s.heap m) (N : News h₀ L s.heap (led w.params c sd k1 k2 k3 v tv 0 tp x dx es n news))
    (rOk : ∀ ws vals, words (v.length + 2) .ws v.cps.toList = some ws → TxsAre vals ws → ∀ (h₀' h' : Heap) (tk' cc' S : Nat) (es' : List DictEntry) (n' : Nat) (tp' : Tok), KtsTurn (outer.filterMap (·.frame)) h₀ h₀' → Fr h₀' L h' m → News h₀' L h' (led w.params c sd k1 k2 k3 v tv v.length tp' x dx es' n' ((S, listO vals.toArray cc') :: news)) → (∀ p ∈ news, p.1 < S) → c.q2 < S → Below A₀ base outer h₀' → Q (.ref S) { s with heap := h', toks := tk' })
    (rBad : words (v.length + 2) .ws v.cps.toList = none → ∀ (e t S : Addr) (vs : List Value) (g₂ h' : Heap) (tk' : Nat) (es' : List DictEntry) (n' i' : Nat) (tp' : Tok) (o' : Obj), Fr h₀ L g₂ m → RaisedS base g₂ (envOf cn cs L a ccd :: outer) e (.type "ValueError") t vs (led w.params c sd k1 k2 k3 v tv i' tp' x dx es' n' ((S, o') :: news)) h' → g₂.UpToSlots h' → E (.ref e) { s with heap := h', toks := tk' }) :
    wpAny (model P w) (ktrTop dp u gd cn cs L a ccd [] outer) (call (.type "list") [.ref x]) Q E s := by
  obtain ⟨hp, g, d, tk, os⟩ := s
  dsimp only at ht F N
  refine callType_codes (Q₁ := fun obj s₁ => obj = .ref hp.objs.size ∧ s₁ = ⟨hp.push (listO #[] 0), g, d, tk, os⟩) PySem.F.called_list (PySem.F.typeCall_list_1 _) PySem.F.entry_list_init (code_list_new _ ⟨rfl, rfl⟩) fun obj s₁ h₁ => ?_
  obtain ⟨rfl, rfl⟩ := h₁
  generalize hSe : hp.objs.size = S
  have hS : (hp.push (listO #[] 0)).get? S = some (listO #[] 0) := hSe ▸ Heap.get?_push_size _ rfl
  have hlt : ∀ p ∈ led w.params c sd k1 k2 k3 v tv 0 tp x dx es n news, p.1 < S := fun p hp' => hSe ▸ Heap.lt_size (N p hp').1
  have hq : c.q2 < S := hlt (c.q2, dqObj) (.head _)
  have hnS : ∀ p ∈ news, p.1 < S := fun p hp' => hlt p (.tail _ (.tail _ (.tail _ (.tail _ (.tail _ (.tail _ hp'))))))
  have hnS' : ∀ p ∈ news, p.1 ≠ S := fun p hp' => Nat.ne_of_lt (hnS p hp')
  have hxS : S ≠ x := Nat.ne_of_gt (hlt (x, instObj 750 dx) (.tail _ (.tail _ (.tail _ (.tail _ (.head _))))))
  have F1 : Fr h₀ L (hp.push (listO #[] 0)) m := F.push _
  have N1 : News h₀ L (hp.push (listO #[] 0)) (led w.params c sd k1 k2 k3 v tv 0 tp x dx es n ((S, listO #[] 0) :: news)) :=
    News.sub (hSe ▸ N.push F (listO #[] 0)) (aM (.tail _ (.head _)) (aM (.tail _ (.tail _ (.head _))) (aM (.tail _ (.tail _ (.tail _ (.head _)))) (aM (.tail _ (.tail _ (.tail _ (.tail _ (.head _))))) (aM (.tail _ (.tail _ (.tail _ (.tail _ (.tail _ (.head _)))))) (aM (.tail _ (.tail _ (.tail _ (.tail _ (.tail _ (.tail _ (.head _))))))) (aM (.head _) (fun p hp' => .tail _ (.tail _ (.tail _ (.tail _ (.tail _ (.tail _ (.tail _ hp'))))))))))))))
  refine ⟨⟨_, hS, rfl⟩, PySem.F.args_list_init_2 _ _, ?_⟩
  show wpAny _ (ktrTop dp (u + 2) gd cn cs L a ccd [] outer) (do let old ← Builtin.List.listItems (.ref S); Builtin.List.listUpdate (.ref S) (fun _ => #[]); letGo old.toList.reverse; Builtin.List.listExtendWith (.ref S) (.ref x) .none) _ _ _
  refine wpAny_bind ?_
  unfold Builtin.List.listItems
  refine wpAny_bind (wpAny_seqItems hS rfl (wpAny_pure ?_))
  show wpAny _ (ktrTop dp (u + 2) gd cn cs L a ccd [] outer) (updateSeq S (fun _ => #[]) >>= fun _ => letGo (#[] : Array Value).toList.reverse >>= fun _ => Builtin.List.listExtendWith (.ref S) (.ref x) .none) _ _ _
  refine wpAny_bind (wpAny_updateSeq hS rfl ?_)
  obtain ⟨c2, hS2⟩ : ∃ c2, ((hp.push (listO #[] 0)).update S (Obj.mapSeq (fun _ => (#[] : Array Value)))).get? S = some (listO #[] c2) := ⟨_, Heap.get?_update_self _ hS rfl⟩
  have F2 := F1.change (Heap.SameBut.update _ S (Obj.mapSeq (fun _ => (#[] : Array Value)))) (N1 (S, listO #[] 0) (.tail _ (.tail _ (.tail _ (.tail _ (.tail _ (.tail _ (.head _)))))))).2.1 (N1 (S, listO #[] 0) (.tail _ (.tail _ (.tail _ (.tail _ (.tail _ (.tail _ (.head _)))))))).2.2
  have N2 := led_push N1 O hq hnS' (Heap.SameBut.update _ S (Obj.mapSeq (fun _ => (#[] : Array Value)))) hS2
  dsimp only
  generalize (hp.push (listO #[] 0)).update S (Obj.mapSeq (fun _ => (#[] : Array Value))) = h2 at hS2 F2 N2
  refine wpAny_bind (wpAny_letGo ?_)
  unfold Builtin.List.listExtendWith
  have X2 : (K w.params).In h2 := X.keeps F2.keep
  have hx2 := (N2 (x, instObj 750 dx) (.tail _ (.tail _ (.tail _ (.tail _ (.head _)))))).1
  have t1 : Looks (model P w) h2 (typeOf (.ref x)) (.ref 750) := (Looks.ld hx2).andThen .now
  refine wpAny_bind (t1.at ?_)
  have h1 : Builtin.List.listSameRef (.ref S) (.ref x) = false := by simp [Builtin.List.listSameRef, hxS]
  have h3 : (Value.ref 750 == Value.type "list") = false := by decide
  have h4 : (Value.ref 750 == Value.type "tuple") = false := by decide
  simp only [h1, h3, h4, Bool.or_false, Bool.false_eq_true, if_false]
  refine wpAny_bind ?_
  refine owit_iter F2 X (InstAt.of_news N2 (.tail _ (.tail _ (.tail _ (.tail _ (.head _))))) (.tail _ (.tail _ (.tail _ (.tail _ (.tail _ (.head _))))))) (mit _) (mit2 _) ?_
  refine wpAny_toks ?_
  refine gives_use (s := ⟨h2, g, d, tk, os⟩) (it_gives x) B F2 X N2 T hk (by omega) (by omega) ht ?_
  intro r n3 h3 tk3 F3 N3 p3
  obtain ⟨rfl, rfl⟩ := p3
  intro hle
  have hle : tk ≤ tk3 := hle
  refine owit_it F3 X (InstAt.of_news N3 (.tail _ (.tail _ (.tail _ (.tail _ (.head _))))) (.tail _ (.tail _ (.tail _ (.tail _ (.tail _ (.head _))))))) (mnx _) ?_
  have X3 : (K w.params).In h3 := X.keeps F3.keep
  have hx3 := (N3 (x, instObj 750 dx) (.tail _ (.tail _ (.tail _ (.tail _ (.head _)))))).1
  have u1 : Looks (model P w) h3 (typeOf (.ref x)) (.ref 750) := (Looks.ld hx3).andThen .now
  have u2 : Looks (model P w) h3 (specialOf (.ref x) "__len__") none := u1.andThen (lex_nolen X3)
  have u3 : Looks (model P w) h3 (specialOf (.ref x) "__length_hint__") none := u1.andThen (lex_nohint X3)
  refine wpAny_bind (wpAny_holding ?_)
  unfold Builtin.List.listLengthHint
  refine wpAny_bind (u2.at ?_)
  show wpAny _ (ktrTop dp (u + 2) gd cn cs L a ccd [] outer) (specialOf (Value.ref x) (Str.ofString "__length_hint__") >>= _) _ _ _
  refine wpAny_bind (u3.at ?_)
  refine wpAny_pure ?_
  show wpAny _ (ktrTop dp (u + 2) gd cn cs L a ccd [] outer) (rule "list.extend.makes-room" >>= fun _ => Builtin.List.listTouch (.ref S) >>= fun _ => again (.builtin "list.extend.loop" ⟨[.ref S, .ref x, .none], []⟩)) _ _ _
  refine wpAny_bind (wpAny_rule ?_)
  refine wpAny_bind ?_
  show wpAny _ (ktrTop dp (u + 2) gd cn cs L a ccd [] outer) (updateSeq S (·.push .none) >>= fun _ => updateSeq S (·.pop)) _ _ _
  have hS3 := (N3 (S, listO #[] c2) (.tail _ (.tail _ (.tail _ (.tail _ (.tail _ (.tail _ (.head _)))))))).1
  refine wpAny_bind (wpAny_updateSeq hS3 rfl ?_)
  obtain ⟨c4, hS4⟩ : ∃ c4, (h3.update S (Obj.mapSeq (·.push .none))).get? S = some (listO #[.none] c4) := ⟨_, Heap.get?_update_self _ hS3 rfl⟩
  have F4 := F3.change (Heap.SameBut.update h3 S (Obj.mapSeq (·.push .none))) (N3 (S, listO #[] c2) (.tail _ (.tail _ (.tail _ (.tail _ (.tail _ (.tail _ (.head _)))))))).2.1 (N3 (S, listO #[] c2) (.tail _ (.tail _ (.tail _ (.tail _ (.tail _ (.tail _ (.head _)))))))).2.2
  have N4 := led_push N3 O hq hnS' (Heap.SameBut.update h3 S (Obj.mapSeq (·.push .none))) hS4
  dsimp only
  generalize h3.update S (Obj.mapSeq (·.push .none)) = h4 at hS4 F4 N4
  refine wpAny_updateSeq (hz := by seq_fits) hS4 rfl ?_
  obtain ⟨c5, hS5⟩ : ∃ c5, (h4.update S (Obj.mapSeq (·.pop))).get? S = some (listO #[] c5) := ⟨_, Heap.get?_update_self _ hS4 rfl⟩
  have F5 := F4.change (Heap.SameBut.update h4 S (Obj.mapSeq (·.pop))) (N4 (S, listO #[.none] c4) (.tail _ (.tail _ (.tail _ (.tail _ (.tail _ (.tail _ (.head _)))))))).2.1 (N4 (S, listO #[.none] c4) (.tail _ (.tail _ (.tail _ (.tail _ (.tail _ (.tail _ (.head _)))))))).2.2
  have N5 := led_push N4 O hq hnS' (Heap.SameBut.update h4 S (Obj.mapSeq (·.pop))) hS5
  have hll : v.cps.toList.length = v.length := by simp [Str.length]
  refine wpAny_pure ⟨plainId_quiet PySem.F.plain_extend_loop _, ?_⟩
  refine lex_loop (u := u + 1) O hq hnS' hv h39 hW B X T hk hd (by omega) (v.length + 2) .ws 0 _ #[] c5 es n ts tt tp tl ln (by show (v.cps.toList.drop 0).length + 1 < _; rw [List.drop_zero, hll]; omega) (.inl rfl) (fun h => nomatch h) (Nat.zero_le _) (Nat.lt_of_lt_of_le ht hle) (by show 0 + ((v.cps.toList.drop 0).length + 1) ≤ _; rw [List.drop_zero, hll]; omega) D F5 N5 ?_ ?_
  · intro ws vals hw hT h₀' h6 tk6 cc6 es6 n6 tp6 T6 F6 N6 B6
    refine ⟨rfl, rOk ws vals hw hT h₀' h6 tk6 cc6 S es6 n6 tp6 T6 F6 ?_ hnS hq B6⟩
    simpa using N6
  · intro hw e6 t6 vs6 g6 h6 tk6 es6 n6 i6 tp6 o6 F6 R6 U6
    exact rBad hw e6 t6 S vs6 g6 h6 tk6 es6 n6 i6 tp6 o6 F6 R6 U6
end
section
open PySem PySem.W PyProof.Rows PySem.Spec PySem.Calls
theorem frame_mem {env : Env} {L b : Addr} {outer : List Env} (hf : env.frame = some L) (hm : b ∈ (env :: outer).filterMap (·.frame)) : b = L ∨ b ∈ outer.filterMap (·.frame) := by
  obtain ⟨e, he, h⟩ := List.mem_filterMap.mp hm
  rcases List.mem_cons.mp he with rfl | he
  · exact .inl (Option.some.inj (h.symm.trans hf))
  · exact .inr (List.mem_filterMap.mpr ⟨e, he, h⟩)
section
variable {A₀ : Around} {base g G B h₅ : Heap} {outer : List Env} {L : Addr} {m : Str → Option Value} {env : Env}
theorem groundT (hf : env.frame = some L) (K : Below A₀ base outer g) (F : Fr g L G m) (hBG : ∀ b o, G.get? b = some o → b ∉ (env :: outer).filterMap (·.frame) → B.get? b = some o) (hBh : B.StaysIn h₅) (hsm : G.UpToSlots h₅) :
    ∃ g', KtsTurn (outer.filterMap (·.frame)) g g' ∧ Fr g' L h₅ m ∧ Below A₀ base outer g' := by
  obtain ⟨T, S⟩ := kts_turn_at (h := h₅) (fs := outer.filterMap (·.frame)) (g := g)
    (fun b hb => by
      obtain ⟨_, o, ho, _⟩ := K.frames.mem hb
      exact ⟨o, ho⟩)
    (fun b o e nm => hBh b o (hBG b o (F.keep b o e) (fun hm => by
      rcases frame_mem hf hm with z | z
      · rw [z, kts_self F] at e
        cases e
      · exact nm z)))
    (fun b o e hm => by
      obtain ⟨_, o', ho', hd⟩ := K.frames.mem hm
      rw [e] at ho'
      cases ho'
      exact hsm b o (F.keep b o e) hd)
  refine ⟨_, T, ⟨hsm.ns F.ns, S, by rw [T.size]; exact F.above⟩, ⟨K.stack, fun b o e => T.other b o (K.stays b o e) (fun hm => by
    rw [(K.frames.mem hm).1] at e
    cases e), K.frames.of_keeps fun b o e _ => ?_⟩⟩
  obtain ⟨sl, hs⟩ := T.up e
  exact ⟨_, hs, rfl⟩
theorem freshT {b : Addr} (hf : env.frame = some L) (F : Fr g L G m) (hBG : ∀ b o, G.get? b = some o → b ∉ (env :: outer).filterMap (·.frame) → B.get? b = some o) (hb : B.get? b = none)
    (hnf : ∀ o, g.get? b = some o → b ∈ outer.filterMap (·.frame) → False) : g.get? b = none := by
  cases q : g.get? b with
  | none => rfl
  | some o =>
    by_cases hm : b ∈ outer.filterMap (·.frame)
    · exact (hnf o q hm).elim
    · have := hBG b o (F.keep b o q) (fun hm' => by
        rcases frame_mem hf hm' with z | z
        · rw [z, kts_self F] at q
          cases q
        · exact hm z)
      rw [hb] at this
      cases this
end
section
variable {prog : Program} {w : World} {A₀ : Around} {E : Value → Shared → Prop} {s' : Shared} {base g g₀ G : Heap} {outer : List Env} {L a e t C : Addr} {m : Str → Option Value} {name : Str} {scope : Scope} {cd : Value} {cl : List (Str × Addr)}
  {vs : List Value} {n : Str} {b₀ : Stmt} {suite : List Stmt} {pos np : Pos} {rest : List ExceptHandler} {Q : Flow → Shared → Prop} {news : List (Addr × Obj)} {KF : Frag}
  {p : Program} {loose : List Str} {mean : ExcName → Option Value} {mg mb : Str → Option Value} {x y : Str} {X T' : String}
theorem caught_SX (R : RaisedS base G (envX name scope L a cd cl :: outer) e (.type X) t vs news s'.heap) (F : Fr g L G m) (K : Below A₀ base outer g) (hsm : G.UpToSlots s'.heap) (XB : KF.In base) (TB : Top p loose mean mg mb base)
    (D : KtsDicts (outer.filterMap (·.frame)) g) (T0 : KtsTurn (outer.filterMap (·.frame)) g₀ g)
    (ex : nsIn KF mainGlobals x = some none) (hv : bootBuiltins x = some (.type T')) (hn' : x ≠ "__name__")
    (hexc : isSubtype (.type T') (.type "BaseException") = pure true) (hnt : isSubtype (.type ((Manifest.find? T').elim "type" fun y => y.metatype)) (.type "tuple") = pure false) (hsub : isSubtype (.type X) (.type T') = pure true)
    (k : ∀ h' g' tk', s'.toks ≤ tk' → KtsTurn (outer.filterMap (·.frame)) g₀ g' → Fr g' L h' m → News g' L h' news → Below A₀ base outer g' → KF.In g' → Top p loose mean mg mb g' → KtsDicts (outer.filterMap (·.frame)) g' →
      wpAny (model prog w) ((A₀.deeper (envX name scope L a cd cl)).mark (some (.ref e))) (execs (b₀ :: suite) (envX name scope L a cd cl)) Q E { s' with heap := h', toks := tk' })
    (hk : scope.kind = .function := by rfl) (hx : (envX name scope L a cd cl).kindOf x = some .globalImplicit := by rfl) (hd : (x == ("__debug__" : Str)) = false := by decide)
    (hE : PassesOwnAt (model prog w) ((A₀.deeper (envX name scope L a cd cl)).mark (some (.ref e))) (A₀.deeper (envX name scope L a cd cl)) (envX name scope L a cd cl) E := by passes_own) :
    wpAny (model prog w) (A₀.deeper (envX name scope L a cd cl)) (noteFrame (.ref e) (envX name scope L a cd cl))
      (fun _ s₂ => wpAny (model prog w) (A₀.deeper (envX name scope L a cd cl)) (setFlight (.ref e) none) (fun _ s₃ =>
        wpAny (model prog w) (A₀.deeper (envX name scope L a cd cl)) (handleBy (.ref e) (envX name scope L a cd cl) (.ExceptHandler (some (.Name x np)) none (b₀ :: suite) pos :: rest)) Q E s₃) E s₂) E s' := by
  obtain ⟨⟨B, hB, hBG, hl, hfl, hnew⟩, htup⟩ := R
  have hL : B.get? L = none := by
    obtain ⟨_, ⟨L', _, hf, hn', _⟩, _⟩ := hfl.2.2.1
    obtain rfl : L = L' := Option.some.inj hf
    exact hn'
  refine wpAny_looks_onW (Around.frames_deeper K.stack) rfl hfl fun h₄ hheld₄ hsm₄ => ?_
  refine wpAny_landsW hheld₄ fun h₅ hheld hsm₅' => ?_
  have hsm₅ := hsm₄.trans hsm₅'
  obtain ⟨g₅, T₅, F₅, K₅⟩ := groundT rfl K F hBG hheld.1 (hsm.trans hsm₅)
  have X₅ : KF.In g₅ := XB.keeps K₅.stays
  have P₅ : TopRead p loose mg mb g₅ := topRead_of (TB.keeps K₅.stays)
  obtain ⟨ob, hob, hobc⟩ := hheld.there
  refine wpAny_handleBy_builtin (X := X) (T := T') (b := true) hexc hnt hsub (nameX_B F₅ X₅ P₅ ex hv hn' ⟨rfl, ⟨ob, hob, hobc⟩, ?_⟩ hk hx hd)
  refine lands_againW hheld fun h₆ hfl₆ hsm₆ => ?_
  obtain ⟨g₆, T₆, F₆, K₆⟩ := groundT rfl K F hBG hfl₆.1 ((hsm.trans hsm₅).trans hsm₆)
  have Nl : News g₆ L h₆ news := fun q hq => ⟨hfl₆.1 _ _ (hl q hq).1, (fun z => by have := (hl q hq).1; rw [z, hL] at this; cases this), T₆.none_ _ (kts_none F.keep (hl q hq).2.1)⟩
  have X₆ : KF.In g₆ := XB.keeps K₆.stays
  have P₆ : Top p loose mean mg mb g₆ := TB.keeps K₆.stays
  have D₆ : KtsDicts (outer.filterMap (·.frame)) g₆ := D.turn T₆
  exact wpAny_passesOwnAt hE (k h₆ g₆ _ (Nat.le_refl _) (T0.trans T₆) F₆ Nl K₆ X₆ P₆ D₆)
end
section
variable {prog : Program} {w : World} {A₀ A : Around} {s : Shared} {base h₀ g₀ : Heap} {outer : List Env} {L a : Addr} {m : Str → Option Value} {env : Env} {news : List (Addr × Obj)} {K : Frag} {p : Program} {loose : List Str} {mean : ExcName → Option Value} {mg mb : Str → Option Value}
    {R : Result → Shared → Prop} {name qual : Str} {params : Arguments} {body : List Stmt} {scope : Scope} {dV kV doc pm cdv ct oc : Value} {an od : Option Addr} {osl : Array (Option Value)} {f : Addr} {args : Args} {binds : List (Str × Value)}
theorem enterT (B : Below A₀ base outer h₀) (F : Fr h₀ L s.heap m) (N : News h₀ L s.heap news) (hA : A.frames = some (env :: outer)) (hf : env.frame = some L) (hke : env.scope.kind = .function) :
    ∃ oL es ep, (hideAll s.heap (news.map (·.1))).get? L = some oL ∧ oL.data = .dict es ep ∧ (∀ h', h'.get? L = some oL → Heap.Ns h' L m) ∧ (∀ (sl : Array (Option Value)) h', h'.get? L = some { oL with slots := sl } → Heap.Ns h' L m) ∧
      h₀.StaysIn (hideAll s.heap (news.map (·.1))) ∧ Below A base (env :: outer) (hideAll s.heap (news.map (·.1))) := by
  have nm : ∀ b o, h₀.get? b = some o → b ∉ news.map (·.1) := fun b o e q => by
    obtain ⟨p, hp, rfl⟩ := List.mem_map.mp q
    rw [(N p hp).2.2] at e; cases e
  have st : h₀.StaysIn (hideAll s.heap (news.map (·.1))) := fun b o e => hideAll_get _ (F.keep b o e) (nm b o e)
  obtain ⟨oL, es, ep, hL, hLd, hLk, hLf⟩ := F.ns
  have nL : L ∉ news.map (·.1) := fun q => by
    obtain ⟨p, hp, e⟩ := List.mem_map.mp q
    exact (N p hp).2.1 e
  have hLg := hideAll_get (news.map (·.1)) hL nL
  have B₁ := pushX B F hf hke
  exact ⟨oL, es, ep, hLg, hLd, fun h' e => ⟨oL, es, ep, e, hLd, hLk, hLf⟩, fun sl h' e => ⟨_, es, ep, e, hLd, hLk, hLf⟩, st, ⟨hA, fun b o e => st b o (B.stays b o e), funFrames_hideAll B₁.frames fun env' he b hb hf' => by
    cases he with
    | head => exact nL ((Option.some.inj (hf.symm.trans hf') : L = b) ▸ hb)
    | tail _ he =>
      obtain ⟨L₁, o₁, hf₁, ho₁⟩ := funFrames_in B.frames env' he
      rw [hf₁] at hf'
      exact nm L₁ o₁ ho₁ ((Option.some.inj hf' : L₁ = b) ▸ hb)⟩⟩
/-- the way back from a call in which the ground may have turned -/
theorem backT {g' : Heap} {news' : List (Addr × Obj)} {oL : Obj} {s' : Shared} {L' : Addr} {m' : Str → Option Value} (B : Below A₀ base outer h₀) (F : Fr h₀ L s.heap m) (hf : env.frame = some L) (T0 : KtsTurn (outer.filterMap (·.frame)) g₀ h₀) (D : KtsDicts (outer.filterMap (·.frame)) h₀) (XB : K.In base) (TB : Top p loose mean mg mb base)
    (hLg : (hideAll s.heap (news.map (·.1))).get? L = some oL) (hNs : ∀ (sl : Array (Option Value)) h', h'.get? L = some { oL with slots := sl } → Heap.Ns h' L m) (st : h₀.StaysIn (hideAll s.heap (news.map (·.1))))
    (T' : KtsTurn ((env :: outer).filterMap (·.frame)) (hideAll s.heap (news.map (·.1))) g') (F' : Fr g' L' s'.heap m') (N' : News g' L' s'.heap news') :
    ∃ h₀', KtsTurn (outer.filterMap (·.frame)) g₀ h₀' ∧ Fr h₀' L s'.heap m ∧ News h₀' L s'.heap news' ∧ Below A₀ base outer h₀' ∧ K.In h₀' ∧ Top p loose mean mg mb h₀' ∧ KtsDicts (outer.filterMap (·.frame)) h₀' := by
  have nL₀ : h₀.get? L = none := kts_self F
  obtain ⟨sl, hs⟩ := T'.up hLg
  obtain ⟨T₁, S₁⟩ := kts_turn_at (h := s'.heap) (fs := outer.filterMap (·.frame)) (g := h₀)
    (fun b hb => by
      obtain ⟨_, o, ho', _⟩ := B.frames.mem hb
      exact ⟨o, ho'⟩)
    (fun b o e nmem => F'.keep b o (T'.other b o (st b o e) (fun q => by
      rcases frame_mem hf q with z | z
      · rw [z, nL₀] at e
        cases e
      · exact nmem z)))
    (fun b o e hm => by
      obtain ⟨sl', hs'⟩ := T'.up (st b o e)
      exact ⟨sl', F'.keep _ _ hs'⟩)
  have B₃ : Below A₀ base outer (ktsHeap s'.heap (outer.filterMap (·.frame)) h₀) := ⟨B.stack, fun b o e => T₁.other b o (B.stays b o e) (fun hm => by
    rw [(B.frames.mem hm).1] at e
    cases e), B.frames.of_keeps fun b o e _ => by
    obtain ⟨sl', hs'⟩ := T₁.up e
    exact ⟨_, hs', rfl⟩⟩
  refine ⟨_, T0.trans T₁, ⟨hNs sl _ (F'.keep _ _ hs), S₁, by rw [T₁.size]; exact F.above⟩, fun p hp => ⟨(N' p hp).1, fun q => ?_, ?_⟩, B₃, XB.keeps B₃.stays, TB.keeps B₃.stays, D.turn T₁⟩
  · have := (N' p hp).2.2; rw [q, hs] at this; cases this
  · refine T₁.none_ _ ?_
    cases q : h₀.get? p.1 with
    | none => rfl
    | some o =>
      obtain ⟨sl', hs'⟩ := T'.up (st _ _ q)
      have := (N' p hp).2.2
      rw [hs'] at this
      cases this
/-- a call of a def without cells, from any frame; the ground may turn -/
theorem code_defSX (B : Below A₀ base outer h₀) (F : Fr h₀ L s.heap m) (X₀ : K.In h₀) (N : News h₀ L s.heap news) (T : Top p loose mean mg mb h₀) (XB : K.In base) (TB : Top p loose mean mg mb base) (D : KtsDicts (outer.filterMap (·.frame)) h₀)
    (T0 : KtsTurn (outer.filterMap (·.frame)) g₀ h₀) (hA : A.frames = some (env :: outer)) (hf : env.frame = some L) (hke : env.scope.kind = .function)
    (ho : K.lookup f = some ⟨oc, od, .func (fnOf name qual params body scope dV kV doc pm an cdv ct), osl⟩) (hcd : codeIn K cdv qual = true) (hroom : A.depth < recursionLimit)
    (hbind : BindsTo s (fnOf name qual params body scope dV kV doc pm an cdv ct) args binds) (hloc : ∀ y ∈ binds, scope.names.lookup y.1 = some .local)
    (h : ∀ g L' h₁, Fr h₀ L g m → Fr g L' h₁ (fun y => binds.reverse.lookup y) → News g L' h₁ news → Below A base (env :: outer) g → K.In g → Top p loose mean mg mb g → KtsDicts ((env :: outer).filterMap (·.frame)) g →
      wpAny (model prog w) (A.deeper (envOf qual scope L' f cdv)) (execs body (envOf qual scope L' f cdv))
        (fun fl s' => LeaveS ((env :: outer).filterMap (·.frame)) A₀ base outer K p loose mean mg mb g₀ h₀ L m g R (match fl with | .ret v => v | _ => .none) s')
        (fun e s' => wpAny (model prog w) (A.deeper (envOf qual scope L' f cdv)) (leaving (envOf qual scope L' f cdv) e) (fun _ s'' => R (.error e) s'') (fun e' s'' => R (.error e') s'') s')
        { s with heap := h₁, toks := s.toks + binds.length })
    (hco : scope.isCoroutine = false) (hgen : scope.isGenerator = false) (hk : scope.kind = .function)
    (hcell : ∀ x ∈ scope.names, x.2 ≠ .cell) : codeAny (model prog w) A (.call (.ref f) args) R s := by
  have X := X₀.keeps F.keep
  refine codeAny_call_def (fd := fnOf name qual params body scope dV kV doc pm an cdv ct) (body := body) (binds := binds) hroom (X _ _ ho) rfl (T.nolimit.keeps F.keep) (codeRec_of X hcd) rfl hbind hcell hloc (fun h₁ hns hk₁ => ?_) hco hgen hk
  obtain ⟨oL, es, ep, hLg, hLd, hN, hNs, st, B₂⟩ := enterT B F N hA hf hke
  refine wpAny_mono (h _ s.heap.objs.size h₁ ⟨hN _ hLg, st, F.above⟩ ⟨hns, fun b o e => hk₁ b o (of_hideAll _ e), Nat.le_of_eq (hideAll_size _ _)⟩
    (fun p hp => ⟨hk₁ _ _ (N p hp).1, Nat.ne_of_lt (Heap.lt_size (N p hp).1), hideAll_none _ (List.mem_map_of_mem hp)⟩) B₂ (X₀.keeps st) (T.keeps st) (fun b hb => by
      rcases frame_mem hf hb with rfl | hb
      · exact ⟨oL, es, ep, hLg, hLd⟩
      · obtain ⟨o, es', n', ho', hd'⟩ := D b hb
        exact ⟨o, es', n', st b o ho', hd'⟩)) (fun fl s' hl => ?_) fun _ _ y => y
  have nL₀ : h₀.get? L = none := kts_self F
  rcases hl with ⟨L', m', news', F', N', k⟩ | ⟨g', L', m', news', T', F', N', k⟩
  · refine k ⟨hN _ (F'.keep _ _ hLg), fun b o e => F'.keep b o (st b o e), F.above⟩ fun p hp => ⟨(N' p hp).1, fun q => ?_, ?_⟩
    · have := (N' p hp).2.2; rw [q, hLg] at this; cases this
    · cases q : h₀.get? p.1 with
      | none => rfl
      | some o => have := (N' p hp).2.2; rw [st _ _ q] at this; cases this
  obtain ⟨h₀', T1, F1, N1, B1, X1, P1, D1⟩ := backT (K := K) (p := p) (loose := loose) (mean := mean) (mg := mg) (mb := mb) B F hf T0 D XB TB hLg hNs st T' F' N'
  exact k h₀' T1 F1 N1 B1 X1 P1 D1
/-- a call of a def with cells; the ground may turn; tokens are kept -/
theorem code_defSC (ht : 0 < s.toks) (B : Below A₀ base outer h₀) (F : Fr h₀ L s.heap m) (X₀ : K.In h₀) (N : News h₀ L s.heap news) (T : Top p loose mean mg mb h₀) (XB : K.In base) (TB : Top p loose mean mg mb base) (D : KtsDicts (outer.filterMap (·.frame)) h₀)
    (T0 : KtsTurn (outer.filterMap (·.frame)) g₀ h₀) (hA : A.frames = some (env :: outer)) (hf : env.frame = some L) (hke : env.scope.kind = .function)
    (ho : K.lookup f = some ⟨oc, od, .func (fnOf name qual params body scope dV kV doc pm an cdv ct), osl⟩) (hcd : codeIn K cdv qual = true) (hroom : A.depth < recursionLimit)
    (hbind : BindsTo s (fnOf name qual params body scope dV kV doc pm an cdv ct) args binds) (hkind : (binds.all fun y => scope.names.lookup y.1 == some .local || scope.names.lookup y.1 == some .cell) = true)
    (hnd : ((cellsFrom 0 scope.names []).map (·.1)).Nodup)
    (h : ∀ g L' h₁ tk cells, 0 < tk → Fr h₀ L g m → Fr g L' h₁ (bindL (envOfC qual scope L' f cdv).kindOf binds fun _ => none) → News g L' h₁ (cells ++ news) →
      CellsAre (bindC (envOfC qual scope L' f cdv).kindOf binds fun _ => none) (cellsFrom (L' + 1) scope.names []) cells → Below A base (env :: outer) g → K.In g → Top p loose mean mg mb g → KtsDicts ((env :: outer).filterMap (·.frame)) g → (∀ p ∈ news, p.1 < L') →
      wpAny (model prog w) (A.deeper (envOfC qual scope L' f cdv)) (execs body (envOfC qual scope L' f cdv))
        (fun fl s' => LeaveS ((env :: outer).filterMap (·.frame)) A₀ base outer K p loose mean mg mb g₀ h₀ L m g R (match fl with | .ret v => v | _ => .none) s')
        (fun e s' => wpAny (model prog w) (A.deeper (envOfC qual scope L' f cdv)) (leaving (envOfC qual scope L' f cdv) e) (fun _ s'' => R (.error e) s'') (fun e' s'' => R (.error e') s'') s')
        { s with heap := h₁, toks := tk })
    (hco : scope.isCoroutine = false) (hgen : scope.isGenerator = false) (hk : scope.kind = .function) : codeAny (model prog w) A (.call (.ref f) args) R s := by
  have X := X₀.keeps F.keep
  obtain ⟨oL, es, ep, hLg, hLd, hN, hNs, st, B₂⟩ := enterT B F N hA hf hke
  refine codeAny_call_function hroom (X _ _ ho) rfl hco hgen rfl (codeRec_of X hcd) (hbind _ _ _ _ ?_)
  refine wpAny_toks (wpAny_newFunctionEnv_cells hk (kindsX hkind _) fun env' he s' x => ?_)
  intro hle
  subst he
  refine ⟨(T.nolimit.keeps F.keep).keeps x.toInCall.keep, codeAny_func ?_⟩
  obtain ⟨h₁, tk, rfl, _⟩ := x.done
  have htk : 0 < tk := Nat.lt_of_lt_of_le ht hle
  have hk₁ := x.toInCall.keep
  obtain ⟨cells, NC, Y⟩ := Cl.news (h₀ := s.heap) (Nat.le_refl _) fun n c hm => ⟨x.cell n c (lookup_of_mem_nodup (cellsFrom_names scope.names 0 (s.heap.objs.size + 1) [] [] rfl ▸ hnd) hm), x.above n c hm⟩
  refine wpAny_mono (h _ s.heap.objs.size h₁ tk cells htk ⟨hN _ hLg, st, F.above⟩ ⟨x.toInCall.ns, fun b o e => hk₁ b o (of_hideAll _ e), Nat.le_of_eq (hideAll_size _ _)⟩ (fun p hp => ?_) Y B₂ (X₀.keeps st) (T.keeps st) (fun b hb => by
      rcases frame_mem hf hb with rfl | hb
      · exact ⟨oL, es, ep, hLg, hLd⟩
      · obtain ⟨o, es', n', ho', hd'⟩ := D b hb
        exact ⟨o, es', n', st b o ho', hd'⟩) (fun p hp => Heap.lt_size (N p hp).1)) (fun fl s' hl => ?_) fun _ _ y => y
  · rcases List.mem_append.mp hp with hp | hp
    · refine ⟨(NC p hp).1, (NC p hp).2.1, ?_⟩
      cases q : (hideAll s.heap (news.map (·.1))).get? p.1 with
      | none => rfl
      | some o => have := of_hideAll _ q; rw [(NC p hp).2.2] at this; cases this
    · exact ⟨hk₁ _ _ (N p hp).1, Nat.ne_of_lt (Heap.lt_size (N p hp).1), hideAll_none _ (List.mem_map_of_mem hp)⟩
  rcases hl with ⟨L', m', news', F', N', k⟩ | ⟨g', L', m', news', T', F', N', k⟩
  · refine k ⟨hN _ (F'.keep _ _ hLg), fun b o e => F'.keep b o (st b o e), F.above⟩ fun p hp => ⟨(N' p hp).1, fun q => ?_, ?_⟩
    · have := (N' p hp).2.2; rw [q, hLg] at this; cases this
    · cases q : h₀.get? p.1 with
      | none => rfl
      | some o => have := (N' p hp).2.2; rw [st _ _ q] at this; cases this
  obtain ⟨h₀', T1, F1, N1, B1, X1, P1, D1⟩ := backT (K := K) (p := p) (loose := loose) (mean := mean) (mg := mg) (mb := mb) B F hf T0 D XB TB hLg hNs st T' F' N'
  exact k h₀' T1 F1 N1 B1 X1 P1 D1
/-- a call of a def with cells; tokens are kept -/
theorem code_defCT {env : Env} {outer : List Env} (ht : 0 < s.toks) (B : Below A₀ base outer h₀) (F : Fr h₀ L s.heap m) (X₀ : K.In h₀) (N : News h₀ L s.heap news) (T : Top p loose mean mg mb h₀) (hA : A.frames = some (env :: outer)) (hf : env.frame = some L) (hke : env.scope.kind = .function)
    (ho : K.lookup f = some ⟨oc, od, .func (fnOf name qual params body scope dV kV doc pm an cdv ct), osl⟩) (hcd : codeIn K cdv qual = true) (hroom : A.depth < recursionLimit)
    (hbind : BindsTo s (fnOf name qual params body scope dV kV doc pm an cdv ct) args binds) (hkind : (binds.all fun y => scope.names.lookup y.1 == some .local || scope.names.lookup y.1 == some .cell) = true)
    (hnd : ((cellsFrom 0 scope.names []).map (·.1)).Nodup)
    (h : ∀ g L' h₁ tk cells, 0 < tk → Fr h₀ L g m → Fr g L' h₁ (bindL (envOfC qual scope L' f cdv).kindOf binds fun _ => none) → News g L' h₁ (cells ++ news) →
      CellsAre (bindC (envOfC qual scope L' f cdv).kindOf binds fun _ => none) (cellsFrom (L' + 1) scope.names []) cells → Below A base (env :: outer) g → K.In g → Top p loose mean mg mb g → (∀ p ∈ news, p.1 < L') →
      wpAny (model prog w) (A.deeper (envOfC qual scope L' f cdv)) (execs body (envOfC qual scope L' f cdv))
        (fun fl s' => LeaveK h₀ L m g R (match fl with | .ret v => v | _ => .none) s')
        (fun e s' => wpAny (model prog w) (A.deeper (envOfC qual scope L' f cdv)) (leaving (envOfC qual scope L' f cdv) e) (fun _ s'' => R (.error e) s'') (fun e' s'' => R (.error e') s'') s')
        { s with heap := h₁, toks := tk })
    (hco : scope.isCoroutine = false) (hgen : scope.isGenerator = false) (hk : scope.kind = .function) : codeAny (model prog w) A (.call (.ref f) args) R s := by
  have X := X₀.keeps F.keep
  obtain ⟨FG, BG, st, lv⟩ := groundX (R := R) B F N hA hf hke
  refine codeAny_call_function hroom (X _ _ ho) rfl hco hgen rfl (codeRec_of X hcd) (hbind _ _ _ _ ?_)
  refine wpAny_toks (wpAny_newFunctionEnv_cells hk (kindsX hkind _) fun env' he s' x => ?_)
  intro hle
  subst he
  refine ⟨(T.nolimit.keeps F.keep).keeps x.toInCall.keep, codeAny_func ?_⟩
  obtain ⟨h₁, tk, rfl, _⟩ := x.done
  have htk : 0 < tk := Nat.lt_of_lt_of_le ht hle
  have hk₁ := x.toInCall.keep
  obtain ⟨cells, NC, Y⟩ := Cl.news (h₀ := s.heap) (Nat.le_refl _) fun n c hm => ⟨x.cell n c (lookup_of_mem_nodup (cellsFrom_names scope.names 0 (s.heap.objs.size + 1) [] [] rfl ▸ hnd) hm), x.above n c hm⟩
  refine wpAny_mono (h _ s.heap.objs.size h₁ tk cells htk FG ⟨x.toInCall.ns, fun b o e => hk₁ b o (of_hideAll _ e), Nat.le_of_eq (hideAll_size _ _)⟩ (fun p hp => ?_) Y BG (X₀.keeps st) (T.keeps st) (fun p hp => Heap.lt_size (N p hp).1)) (fun fl s' hl => lv _ _ hl) fun _ _ y => y
  rcases List.mem_append.mp hp with hp | hp
  · refine ⟨(NC p hp).1, (NC p hp).2.1, ?_⟩
    cases q : (hideAll s.heap (news.map (·.1))).get? p.1 with
    | none => rfl
    | some o => have := of_hideAll _ q; rw [(NC p hp).2.2] at this; cases this
  · exact ⟨hk₁ _ _ (N p hp).1, Nat.ne_of_lt (Heap.lt_size (N p hp).1), hideAll_none _ (List.mem_map_of_mem hp)⟩
end
end
section
open PySem PySem.W PyProof.Rows PySem.Calls

theorem RaisedS.sub {base G : Heap} {l : List Env} {e t : Addr} {cls : Value} {vs : List Value} {news news' : List (Addr × Obj)} {h : Heap} (R : RaisedS base G l e cls t vs news h) (hs : ∀ p ∈ news', p ∈ news) : RaisedS base G l e cls t vs news' h := by
  obtain ⟨⟨B, hB, hBG, hl, hfl, hnew⟩, ht⟩ := R
  exact ⟨⟨B, hB, hBG, fun q hq => hl q (hs q hq), hfl, hnew⟩, ht⟩
theorem split_gives {w : World} {news : List (Addr × Obj)} {ps : Program} {loose : List Str} {mean : ExcName → Option Value} {mg mb : Str → Option Value} {dp u : Nat} {gd : Option (List Code)} {cn : Str} {cs : Scope} {a : Addr} {ccd : Value} {cl : List (Str × Addr)} {outer : List Env} {A₀ : Around} {base h₀ : Heap} {L : Addr} {m : Str → Option Value} {s : Shared} {Q E : Value → Shared → Prop} (v : Str) (tv : Tok) (hv : v.length ≤ 50000) (h39 : ∀ ch ∈ v.cps.toList, ch ≠ 39)
    (B : Below A₀ base outer h₀) (F : Fr h₀ L s.heap m) (X : (K w.params).In h₀) (N : News h₀ L s.heap news) (T : Top ps loose mean mg mb h₀) (XB : (K w.params).In base) (TB : Top ps loose mean mg mb base) (KD : KtsDicts (outer.filterMap (·.frame)) h₀) (hk : cs.kind = .function) (hd : dp + 20 < recursionLimit) (hu : u + 120 < cLine) (ht : 0 < s.toks)
    (rOk : ∀ ws vals, words (v.length + 2) .ws v.cps.toList = some ws → TxsAre vals ws → ∀ (h₀' h' : Heap) (tk' cc' S : Nat), KtsTurn (outer.filterMap (·.frame)) h₀ h₀' → Fr h₀' L h' m → News h₀' L h' ((S, listO vals.toArray cc') :: news) → (∀ p ∈ news, p.1 < S) → Below A₀ base outer h₀' → (K w.params).In h₀' → Top ps loose mean mg mb h₀' → KtsDicts (outer.filterMap (·.frame)) h₀' → Q (.ref S) { s with heap := h', toks := tk' })
    (rBad : words (v.length + 2) .ws v.cps.toList = none → ∀ (e t : Addr) (vs : List Value) (g₂ h' : Heap) (tk' : Nat), Fr h₀ L g₂ m → RaisedS base g₂ (envX cn cs L a ccd cl :: outer) e (.type "ValueError") t vs news h' → g₂.UpToSlots h' → E (.ref e) { s with heap := h', toks := tk' }) :
    wpAny (model P w) (ktrTop dp u gd cn cs L a ccd cl outer) (call (.ref 762) [.str v tv]) Q E s := by
  refine wpAny_call ?_
  k_dflt (refine' code_defSX (binds := [("s", .str v tv), ("comments", .bool false), ("posix", .bool true)]) (K := K w.params) (env := envX cn cs L a ccd cl) B F X N T XB TB KD KtsTurn.refl ?kA rfl ?c1 ?k6 ?k7 ?k8 ?k9 ?kB ?_ ?c2 ?c3 ?c4 ?c5; (case kA => exact rfl); (case k6 => k_is); (case k7 => k_is); (case k8 => ktr_room); (case k9 => exact kp_binds (X.keeps F.keep) (fun S => by kernel_rfl)); (case c5 => decide); (case kB => exact locs rfl); (case c1 => assumption); (case c2 => exact rfl); (case c3 => exact rfl); (case c4 => exact rfl); k_whole; intro g' L' h' FG' F' N' B' X' T' KD'; (try dsimp only); (try k_fold))
  iterate 21 walk1
  show wpAny (model P w) _ (call (.ref 750) [.str v tv] [("posix", .bool true)]) _ _ _
  k_dflt (refine' lex_gives v tv (by omega) ps loose mean mg mb _ _ _ _ _ _ _ _ _ _ _ _ _ _ _ _ _ B' ?F X' ?N T' ?kK ?kd ?ku ?kt ?_; (case F => k_asm); (case N => k_asm); (case kK => exact rfl); (case kd => ktr_room); (case ku => ktr_units); (case kt => first | assumption | exact Nat.succ_pos _ | omega))
  intro x dx c sd k1 k2 k3 tp tt tst tl es n h2 tk2 F2 N2 D2 hW l1 l2 o1 o2 o3 o4
  have O : Ord c sd x dx news := ⟨l2, o1, o2, o3, o4, fun p hp => Nat.ne_of_lt (l1 p hp), fun p hp => Nat.ne_of_lt (Nat.lt_trans (Nat.lt_trans (l1 p hp) l2) o1)⟩
  have N3 : News g' L' h2 (led w.params c sd k1 k2 k3 v tv 0 tp x dx es n news) := N2
  clear N2
  iterate 31 walk1
  have O2 : ∀ ty, Ord { c with tc := ty } sd x dx news := fun ty => ⟨O.o1, O.o2, O.o3, O.o4, O.o5, O.n1, O.n2⟩
  k_dflt (refine' list_lex (O2 _) hv h39 ?hW B' X' T' ?kK ?kd ?ku ?kt ?D ?F ?N ?ok ?bad; (case D => k_asm); (case hW => exact hW); (case F => k_asm); (case N => k_asm); (case kK => exact rfl); (case kd => ktr_room); (case ku => ktr_units); (case kt => first | assumption | exact Nat.succ_pos _ | omega))
  case ok =>
    intro ws vals hw hT g3 h3 tk3 cc3 S es3 n3 tp3 T3 F3 N3 hS1 hS2 B3
    intro hle
    refine leaveS_r (s' := { s with heap := h3, toks := tk3 }) F3 (News.sub (news' := (S, listO vals.toArray cc3) :: news) N3 fun p hp => ?_) T3 fun h4 T4 F4 N4 B4 X4 P4 D4 => ?_
    · rcases List.mem_cons.mp hp with rfl | hp
      · simp
      · simp [hp]
    · exact rOk ws vals hw hT h4 h3 tk3 cc3 S T4 F4 N4 hS1 B4 X4 P4 D4
  case bad =>
    intro hw e3 t3 S3 vs3 g3 h3 tk3 es3 n3 i3 tp3 o3 F3 R3 U3
    refine leave_onS (s' := { s with heap := h3, toks := tk3 }) B' F3 R3 U3 fun h4 R4 _ U4 => ?_
    exact rBad hw e3 t3 vs3 g' h4 tk3 FG' (RaisedS.sub R4 fun p hp => by simp [hp]) U4
end
section
open PySem PySem.W PyProof.Rows
/-- all the words at once -/
noncomputable def go : Sh → List Nat → List Nat → Option (List (List Nat))
  | .fin, _, _ => some []
  | .ws, _, [] => some []
  | .wd, t, [] => some [t]
  | .dq, _, [] => none
  | .ea, _, [] => none
  | .eq, _, [] => none
  | .ws, _, c :: r => if isWs c then go .ws [] r else if c = 92 then go .ea [] r else if c = 34 then go .dq [] r else go .wd [c] r
  | .dq, t, c :: r => if c = 34 then go .wd t r else if c = 92 then go .eq t r else go .dq (t ++ [c]) r
  | .ea, t, c :: r => go .wd (t ++ [c]) r
  | .eq, t, c :: r => if c = 34 ∨ c = 92 then go .dq (t ++ [c]) r else go .dq (t ++ [92, c]) r
  | .wd, t, c :: r => if isWs c then (go .ws [] r).map (t :: ·) else if c = 34 then go .dq t r else if c = 92 then go .ea t r else go .wd (t ++ [c]) r
theorem rt_go : ∀ (l : List Nat) (σ : Sh) (t : List Nat) (q : Bool), (σ = .ws → t = []) → go σ t l = match rt σ t q l with
    | .bad => none
    | .eof => some []
    | .word t' r fin => (go (if fin then .fin else .ws) [] r).map (t' :: ·)
  | [], σ, t, q, _ => by cases σ <;> simp [go, rt]
  | c :: l, σ, t, q, ht => by
    have ih := rt_go l
    cases σ with
    | fin => simp [go, rt]
    | ws =>
      obtain rfl := ht rfl
      simp only [go, rt]
      split
      · exact ih _ _ _ fun _ => rfl
      · split
        · exact ih _ _ _ fun h => nomatch h
        · split
          · exact ih _ _ _ fun h => nomatch h
          · exact ih _ _ _ fun h => nomatch h
    | dq =>
      simp only [go, rt]
      split
      · exact ih _ _ _ fun h => nomatch h
      · split
        · exact ih _ _ _ fun h => nomatch h
        · exact ih _ _ _ fun h => nomatch h
    | ea => simp only [go, rt]; exact ih _ _ _ fun h => nomatch h
    | eq =>
      simp only [go, rt]
      split
      · exact ih _ _ _ fun h => nomatch h
      · exact ih _ _ _ fun h => nomatch h
    | wd =>
      simp only [go, rt]
      split
      · simp
      · split
        · exact ih _ _ _ fun h => nomatch h
        · split
          · exact ih _ _ _ fun h => nomatch h
          · exact ih _ _ _ fun h => nomatch h
theorem words_go : ∀ (k : Nat) (σ : Sh) (l : List Nat), (σ = .ws ∨ σ = .fin) → (if σ = .fin then 0 else l.length + 1) < k → words k σ l = go σ [] l
  | 0, _, _, _, h => by omega
  | k + 1, σ, l, hσ, h => by
    rw [rt_go l σ [] false fun _ => rfl]
    simp only [words]
    cases hr : rt σ [] false l with
    | bad => rfl
    | eof => rfl
    | word t r fin =>
      have hws : σ = .ws := by
        rcases hσ with h | h
        · exact h
        · rw [h] at hr; simp [rt] at hr
      have hl := (rt_len _ _ _ _ _ _ _ hr).2 hws
      rw [hws] at h
      simp only [reduceCtorEq, if_false] at h
      have : words k (if fin = true then .fin else .ws) r = go (if fin = true then .fin else .ws) [] r := by
        refine words_go k _ r (by cases fin <;> simp) ?_
        cases fin with
        | true => simp; omega
        | false => simp; omega
      simp only [this]
/-- a value between quotation marks: what stands in the word, and whether a backslash is pending -/
noncomputable def dqRun : List Nat → List Nat × Bool
  | [] => ([], false)
  | [c] => if c = 92 then ([], true) else ([c], false)
  | c :: d :: r => if c = 92 then ((if d = 92 then [92] else [92, d]) ++ (dqRun r).1, (dqRun r).2) else (c :: (dqRun (d :: r)).1, (dqRun (d :: r)).2)
theorem go_dq : ∀ (W : List Nat) (t r : List Nat), (∀ c ∈ W, c ≠ 34) → go .dq t (W ++ r) = if (dqRun W).2 then go .eq (t ++ (dqRun W).1) r else go .dq (t ++ (dqRun W).1) r
  | [], t, r, _ => by simp [dqRun]
  | [c], t, r, h => by
    have h1 : c ≠ 34 := h c (.head _)
    by_cases h2 : c = 92
    · simp [dqRun, h2, go]
    · simp [dqRun, h2, go, h1]
  | c :: d :: W, t, r, h => by
    have h1 : c ≠ 34 := h c (.head _)
    have h3 : d ≠ 34 := h d (.tail _ (.head _))
    by_cases h2 : c = 92
    · have ih := go_dq W
      subst h2
      have e : go .dq t (92 :: d :: W ++ r) = go .dq (t ++ (if d = 92 then [92] else [92, d])) (W ++ r) := by
        by_cases h4 : d = 92
        · subst h4; simp [go]
        · simp [go, h3, h4]
      rw [e, ih _ _ fun x hx => h x (.tail _ (.tail _ hx))]
      simp [dqRun, List.append_assoc]
    · have ih := go_dq (d :: W)
      have e : go .dq t (c :: d :: W ++ r) = go .dq (t ++ [c]) ((d :: W) ++ r) := by simp [go, h1, h2]
      rw [e, ih _ _ fun x hx => h x (.tail _ hx)]
      simp [dqRun, h2, List.append_assoc]
/-- the tape of signs and cuts -/
noncomputable def tw : List Nat → List (Option Nat) → List (List Nat)
  | w, [] => if w = [] then [] else [w]
  | w, some c :: r => tw (w ++ [c]) r
  | w, none :: r => if w = [] then tw [] r else w :: tw [] r
noncomputable def tp1 : List Nat → List (Option Nat) → List (List Nat) × List Nat
  | w, [] => ([], w)
  | w, some c :: r => tp1 (w ++ [c]) r
  | w, none :: r => if w = [] then tp1 [] r else (w :: (tp1 [] r).1, (tp1 [] r).2)
theorem tw_app : ∀ (T U : List (Option Nat)) (w : List Nat), tw w (T ++ U) = (tp1 w T).1 ++ tw (tp1 w T).2 U
  | [], U, w => by simp [tp1]
  | some c :: T, U, w => by simp [tw, tp1, tw_app T U]
  | none :: T, U, w => by
    by_cases h : w = []
    · simp [tw, tp1, h, tw_app T U]
    · simp [tw, tp1, h, tw_app T U]
noncomputable def bare : List Nat → List (Option Nat)
  | [] => []
  | [c] => if c = 92 then [] else [if c = 32 ∨ c = 10 then none else some c]
  | c :: d :: r => if c = 92 then some d :: bare r else (if c = 32 ∨ c = 10 then none else some c) :: bare (d :: r)
noncomputable def sg (u : List Nat) : Sh := if u = [] then .ws else .wd
theorem go_bare : ∀ (W : List Nat) (u r : List Nat), (∀ c ∈ W, c ≠ 34 ∧ c ≠ 9 ∧ c ≠ 13) → go (sg u) u (W ++ r) = ((if (dqRun W).2 then go .ea (tp1 u (bare W)).2 r else go (sg (tp1 u (bare W)).2) (tp1 u (bare W)).2 r).map ((tp1 u (bare W)).1 ++ ·))
  | [], u, r, _ => by simp [dqRun, bare, tp1]
  | [c], u, r, h => by
    obtain ⟨h1, h5, h6⟩ := h c (.head _)
    by_cases h2 : c = 92
    · subst h2
      by_cases hu : u = []
      · subst hu; simp [dqRun, bare, tp1, sg, go, isWs]
      · simp [dqRun, bare, tp1, sg, go, isWs, hu]
    · by_cases h3 : c = 32 ∨ c = 10
      · have hw : isWs c = true := by rcases h3 with rfl | rfl <;> rfl
        by_cases hu : u = []
        · subst hu; simp [dqRun, bare, tp1, sg, go, h2, h3, hw]
        · simp [dqRun, bare, tp1, sg, go, h2, h3, hw, hu]
      · have hw : isWs c = false := by simp only [isWs, Bool.or_eq_false_iff, beq_eq_false_iff_ne]; omega
        by_cases hu : u = []
        · subst hu; simp [dqRun, bare, tp1, sg, go, h2, h3, hw, h1]
        · simp [dqRun, bare, tp1, sg, go, h2, h3, hw, hu, h1]
  | c :: d :: W, u, r, h => by
    obtain ⟨h1, h5, h6⟩ := h c (.head _)
    by_cases h2 : c = 92
    · subst h2
      have ih := go_bare W
      have e : go (sg u) u (92 :: d :: W ++ r) = go (sg (u ++ [d])) (u ++ [d]) (W ++ r) := by
        by_cases hu : u = []
        · subst hu; simp [sg, go, isWs]
        · simp [sg, go, isWs, hu]
      rw [e, ih _ _ fun x hx => h x (.tail _ (.tail _ hx))]
      simp [dqRun, bare, tp1]
    · have ih := go_bare (d :: W)
      have hb : bare (c :: d :: W) = (if c = 32 ∨ c = 10 then none else some c) :: bare (d :: W) := by simp [bare, h2]
      have hd : (dqRun (c :: d :: W)).2 = (dqRun (d :: W)).2 := by simp [dqRun, h2]
      rw [hb, hd]
      by_cases h3 : c = 32 ∨ c = 10
      · have hw : isWs c = true := by rcases h3 with rfl | rfl <;> rfl
        rw [if_pos h3]
        by_cases hu : u = []
        · subst hu
          have e : go (sg []) [] (c :: d :: W ++ r) = go (sg []) [] (d :: W ++ r) := by simp [sg, go, hw]
          rw [e, ih _ _ fun x hx => h x (.tail _ hx)]
          simp [tp1]
        · have e : go (sg u) u (c :: d :: W ++ r) = (go (sg []) [] (d :: W ++ r)).map (u :: ·) := by simp [sg, go, hw, hu]
          rw [e, ih _ _ fun x hx => h x (.tail _ hx)]
          simp only [tp1, if_neg hu, Option.map_map]
          rfl
      · have hw : isWs c = false := by simp only [isWs, Bool.or_eq_false_iff, beq_eq_false_iff_ne]; omega
        rw [if_neg h3]
        have e : go (sg u) u (c :: d :: W ++ r) = go (sg (u ++ [c])) (u ++ [c]) (d :: W ++ r) := by
          by_cases hu : u = []
          · subst hu; simp [sg, go, hw, h1, h2]
          · simp [sg, go, hw, hu, h1, h2]
        rw [e, ih _ _ fun x hx => h x (.tail _ hx)]
        simp [tp1]
end
section
open PySem PySem.W PyProof.Rows
/-- one attribute: name, =, the written value between quotation marks -/
noncomputable def seg (p : Nat × List Nat) : List Nat := [p.1, 61, 34] ++ p.2 ++ [34]
/-- the rest of a row: each attribute with a blank ahead -/
noncomputable def rest : List (Nat × List Nat) → List Nat
  | [] => []
  | p :: r => 32 :: (seg p ++ rest r)
noncomputable def rowL : List (Nat × List Nat) → List Nat
  | [] => []
  | p :: r => seg p ++ rest r
/-- is the last run of backslashes of a written value odd -/
noncomputable def odd1 (p : Nat × List Nat) : Bool := (dqRun p.2).2
noncomputable def par : List (Nat × List Nat) → Bool
  | [] => false
  | p :: r => xor (odd1 p) (par r)
mutual
noncomputable def tapeN : List (Nat × List Nat) → List (Option Nat)
  | [] => []
  | p :: r => none :: some p.1 :: some 61 :: ((dqRun p.2).1.map some ++ if odd1 p then some 34 :: tapeT r else tapeN r)
noncomputable def tapeT : List (Nat × List Nat) → List (Option Nat)
  | [] => []
  | p :: r => some 32 :: some p.1 :: some 61 :: (bare p.2 ++ if odd1 p then some 34 :: tapeN r else tapeT r)
end
/-- a name is a letter; a written value has no quotation mark, no tab, no carriage return -/
noncomputable def Ok (ps : List (Nat × List Nat)) : Prop := ∀ p ∈ ps, 97 ≤ p.1 ∧ p.1 ≤ 122 ∧ ∀ c ∈ p.2, c ≠ 34 ∧ c ≠ 9 ∧ c ≠ 13
theorem tw_some (l : List Nat) (w : List Nat) (T : List (Option Nat)) : tw w (l.map some ++ T) = tw (w ++ l) T := by
  induction l generalizing w with
  | nil => simp
  | cons c r ih => simp [tw, ih]
theorem go_head {n : Nat} (h1 : 97 ≤ n) (h2 : n ≤ 122) (W r : List Nat) (hW : ∀ c ∈ W, c ≠ 34) : go .ws [] (seg (n, W) ++ r) = if (dqRun W).2 then go .dq ([n, 61] ++ (dqRun W).1 ++ [34]) r else go .wd ([n, 61] ++ (dqRun W).1) r := by
  have hw : isWs n = false := by simp only [isWs, Bool.or_eq_false_iff, beq_eq_false_iff_ne]; omega
  have h3 : n ≠ 92 := by omega
  have h4 : n ≠ 34 := by omega
  have e : go .ws [] (seg (n, W) ++ r) = go .dq [n, 61] (W ++ (34 :: r)) := by
    have e1 : isWs 61 = false := rfl
    have e2 : isWs 34 = false := rfl
    simp [seg, go, hw, h3, h4, e1, e2]
  rw [e, go_dq W _ _ hW]
  split
  · simp [go]
  · simp [go]
theorem go_rest : ∀ (ps : List (Nat × List Nat)), Ok ps → (∀ t, t ≠ [] → go .wd t (rest ps) = if par ps then none else some (tw t (tapeN ps))) ∧ (∀ t, go .dq t (rest ps) = if par ps then some (tw t (tapeT ps)) else none)
  | [], _ => ⟨fun t ht => by simp [rest, go, par, tapeN, tw, ht], fun t => by simp [rest, go, par]⟩
  | (n, W) :: ps, hok => by
    obtain ⟨ihA, ihB⟩ := go_rest ps fun p hp => hok p (.tail _ hp)
    obtain ⟨h1, h2, hW⟩ := hok (n, W) (.head _)
    dsimp only at h1 h2 hW
    have hW34 : ∀ c ∈ W, c ≠ 34 := fun c hc => (hW c hc).1
    constructor
    · intro t ht
      have e : go .wd t (rest ((n, W) :: ps)) = (go .ws [] (seg (n, W) ++ rest ps)).map (t :: ·) := by simp [rest, go, isWs]
      rw [e, go_head h1 h2 W _ hW34]
      by_cases ho : (dqRun W).2 = true
      · rw [if_pos ho, ihB]
        have hp : par ((n, W) :: ps) = !par ps := by simp [par, odd1, ho]
        rw [hp]
        cases par ps with
        | true =>
          simp only [Bool.not_true, Bool.false_eq_true, if_false, if_true, Option.map_some, Option.some.injEq]
          simp only [tapeN, odd1, ho, if_true, tw, if_neg ht, List.nil_append]
          rw [tw_some]
          simp [tw]
        | false => simp
      · have ho' : (dqRun W).2 = false := by simpa using ho
        rw [if_neg ho, ihA _ (by simp)]
        have hp : par ((n, W) :: ps) = par ps := by simp [par, odd1, ho']
        rw [hp]
        cases par ps with
        | true => simp
        | false =>
          simp only [Bool.false_eq_true, if_false, Option.map_some, Option.some.injEq]
          simp only [tapeN, odd1, ho', Bool.false_eq_true, if_false, tw, if_neg ht, List.nil_append]
          rw [tw_some]
          simp
    · intro t
      have hw : isWs n = false := by simp only [isWs, Bool.or_eq_false_iff, beq_eq_false_iff_ne]; omega
      have h3 : n ≠ 92 := by omega
      have h4 : n ≠ 34 := by omega
      have e : go .dq t (rest ((n, W) :: ps)) = go (sg (t ++ [32, n, 61])) (t ++ [32, n, 61]) (W ++ (34 :: rest ps)) := by
        have : t ++ [32, n, 61] ≠ [] := by simp
        simp [rest, seg, go, h3, h4, sg]
      rw [e, go_bare W _ _ hW]
      generalize hu : tp1 (t ++ [32, n, 61]) (bare W) = eu
      obtain ⟨em, u⟩ := eu
      dsimp only
      have key : ∀ U, tw t (some 32 :: some n :: some 61 :: (bare W ++ U)) = em ++ tw u U := by
        intro U
        simp only [tw, List.append_assoc, List.cons_append, List.nil_append]
        rw [tw_app, hu]
      by_cases ho : (dqRun W).2 = true
      · rw [if_pos ho]
        have e2 : go .ea u (34 :: rest ps) = go .wd (u ++ [34]) (rest ps) := by simp [go]
        rw [e2, ihA _ (by simp)]
        have hp : par ((n, W) :: ps) = !par ps := by simp [par, odd1, ho]
        rw [hp]
        cases par ps with
        | true => simp
        | false =>
          simp only [Bool.not_false, Bool.false_eq_true, if_false, if_true, Option.map_some, Option.some.injEq]
          simp only [tapeT, odd1, ho, if_true]
          rw [key]
          simp [tw]
      · have ho' : (dqRun W).2 = false := by simpa using ho
        rw [if_neg ho]
        have e2 : go (sg u) u (34 :: rest ps) = go .dq u (rest ps) := by
          by_cases hu0 : u = []
          · subst hu0; simp [sg, go, isWs]
          · simp [sg, go, isWs, hu0]
        rw [e2, ihB]
        have hp : par ((n, W) :: ps) = par ps := by simp [par, odd1, ho']
        rw [hp]
        cases par ps with
        | true =>
          simp only [if_true, Option.map_some, Option.some.injEq]
          simp only [tapeT, odd1, ho', Bool.false_eq_true, if_false]
          rw [key]
        | false => simp
/-- the words of a row are the words of its tape; a row is refused when the number of odd values is odd -/
theorem go_row (ps : List (Nat × List Nat)) (hok : Ok ps) : go .ws [] (rowL ps) = if par ps then none else some (tw [] (tapeN ps)) := by
  cases ps with
  | nil => simp [rowL, go, par, tapeN, tw]
  | cons p ps =>
    obtain ⟨n, W⟩ := p
    obtain ⟨ihA, ihB⟩ := go_rest ps fun p hp => hok p (.tail _ hp)
    obtain ⟨h1, h2, hW⟩ := hok (n, W) (.head _)
    dsimp only at h1 h2 hW
    have hW34 : ∀ c ∈ W, c ≠ 34 := fun c hc => (hW c hc).1
    show go .ws [] (seg (n, W) ++ rest ps) = _
    rw [go_head h1 h2 W _ hW34]
    by_cases ho : (dqRun W).2 = true
    · rw [if_pos ho, ihB]
      have hp : par ((n, W) :: ps) = !par ps := by simp [par, odd1, ho]
      rw [hp]
      cases par ps with
      | true =>
        simp only [Bool.not_true, Bool.false_eq_true, if_false, if_true, Option.some.injEq]
        simp only [tapeN, odd1, ho, if_true, tw, List.nil_append]
        rw [tw_some]
        simp [tw]
      | false => simp
    · have ho' : (dqRun W).2 = false := by simpa using ho
      rw [if_neg ho, ihA _ (by simp)]
      have hp : par ((n, W) :: ps) = par ps := by simp [par, odd1, ho']
      rw [hp]
      cases par ps with
      | true => simp
      | false =>
        simp only [Bool.false_eq_true, if_false, Option.some.injEq]
        simp only [tapeN, odd1, ho', Bool.false_eq_true, if_false, tw, List.nil_append]
        rw [tw_some]
        simp
end
section
open PySem PySem.W PyProof.Rows PySem.Calls

theorem chr_at {w : World} {A : Around} {E : Value → Shared → Prop} {s : Shared} {value slice : Expr} {t u : Tok} {Q : Value → Shared → Prop} {W : List Nat} {k c : Nat} (hc : W[k]? = some c) (hW : W.length ≤ 100000) (h : Q (.str ⟨#[c]⟩ s.toks) { s with toks := s.toks + 1 })
    (hs : subscripted slice false (.str (tx W) t) (.int (k : Int) u) = operate [.str (tx W) t, .int (k : Int) u] (getItem (.str (tx W) t) (.int (k : Int) u)) := by with_unfolding_all rfl)
    (ht : ∀ r, letTemporaryGo value (.str (tx W) t) r = pure () := by intro _; with_unfolding_all rfl) :
    wpAny (model P w) A (subscriptTail value slice (.str (tx W) t) (.int (k : Int) u)) Q E s := by
  have e : Txt.item (tx W) (k : Int) = ⟨#[c]⟩ := item_meets (by omega) (by simpa using hc)
  have hk : k < W.length := (List.getElem?_eq_some_iff.mp hc).1
  have hl := tx_len W
  refine item_str (fitsSsize_of (N := 9223372036854775808) (by omega) (by omega) (Int.le_refl _)) (by omega) (by omega) (fun _ => ?_) hs ht
  rw [e]; exact h
local macro_rules | `(tactic| walk_at "subscriptTail Name Name str int") => `(tactic| (k_here; k_dflt (refine' chr_at ?hc ?hW ?_ ?a ?b; (case hc | hW => k_asm); walk_at "uu"); walk_at "ds"))
noncomputable abbrev locB (l : Nat) (W : List Nat) (tw : Tok) (k : Nat) (tk : Tok) : Str → Option Value := fun y => if y = "k" then some (.int k tk) else if y = "tape" then some (.ref l) else if y = "written" then some (.str (tx W) tw) else none
noncomputable def bWh : List Stmt := whBody (sBody (topAt 34))
theorem loc_k {l : Nat} {W : List Nat} {tw0 tk0 tk2 : Tok} {k : Nat} (y : Str) : (if y = "k" then some (.int ((k : Int) + 1) tk2) else locB l W tw0 k tk0 y) = locB l W tw0 (k + 1) tk2 y := by
  by_cases h : y = "k"
  · subst h; rfl
  · simp only [locB, if_neg h]
theorem loc_k2 {l : Nat} {W : List Nat} {tw0 tk0 tk2 : Tok} {k : Nat} (y : Str) : (if y = "k" then some (.int ((k : Int) + 2) tk2) else locB l W tw0 k tk0 y) = locB l W tw0 (k + 2) tk2 y := by
  by_cases h : y = "k"
  · subst h; rfl
  · simp only [locB, if_neg h]
theorem ext_own {w : World} {A : Around} {E : Value → Shared → Prop} {s : Shared} {h₀ : Heap} {L D b : Addr} {m : Str → Option Value} {news : List (Addr × Obj)} {its its2 : Array Value} {n : Nat} {Q : Value → Shared → Prop} (F : Fr h₀ L s.heap m) (N : News h₀ L s.heap ((D, listO its n) :: news)) (hb : NewPlain s.heap ((D, listO its n) :: news) b its2) (hl : ∀ p ∈ news, p.1 ≠ D) (hz : its.size ≤ 100000) (hz2 : its2.size ≤ 100000)
    (h : ∀ h' n', Fr h₀ L h' m → News h₀ L h' ((D, listO (its ++ its2) n') :: news) → Q .none { s with heap := h' }) : wpAny (model P w) A (call (.builtin "list.extend") [.ref D, .ref b]) Q E s := by
  have z := N (D, listO its n) (.head _)
  obtain ⟨⟨n2, hb1⟩, hb2⟩ := hb
  have hs : sizeLine = 16777216 := rfl
  refine call_meets PySem.F.slot_list_extend ⟨_, z.1, rfl⟩ PySem.F.entry_list_extend (PySem.F.args_list_extend_2 _ _) (PySem.AutoSeq1.list_extend_list_list_0 D its n b its2 n2 ?_ (by omega) (by omega)) ⟨z.1, hb1, ?_⟩
  · have : Builtin.List.listTooLong (its.size + its2.size) = false := by
      unfold Builtin.List.listTooLong
      simp
      omega
    simp [this]
  · obtain ⟨n', hn'⟩ : ∃ n', (s.heap.update D (Obj.mapSeq fun x => x ++ its2)).get? D = some (listO (its ++ its2) n') := ⟨_, Heap.get?_update_self _ z.1 rfl⟩
    refine h _ n' (F.change (Heap.SameBut.update ..) z.2.1 z.2.2) ?_
    intro p hp
    rcases List.mem_cons.mp hp with rfl | hp
    · exact ⟨hn', z.2.1, z.2.2⟩
    · have q := N p (.tail _ hp)
      exact ⟨(Heap.get?_update_other _ _ (Ne.symm (hl p hp))).trans q.1, q.2.1, q.2.2⟩
theorem bt_ws {w : World} {ps : Program} {loose : List Str} {mean : ExcName → Option Value} {mg mb : Str → Option Value} {dp u : Nat} {gd : Option (List Code)} {cl : List (Str × Addr)} {outer : List Env} {A₀ : Around} {base h₀ : Heap} {L : Addr} {s : Shared} {news : List (Addr × Obj)} {Q : Flow → Shared → Prop} {E : Value → Shared → Prop} {l k c : Nat} {W : List Nat} {acc : Array Value} {cc : Nat} {tw0 tk0 : Tok}
    (hW : W.length ≤ 100000) (hv : acc.size ≤ 100000) (hc : W[k]? = some c) (hk : k < W.length) (h2 : ((⟨#[c]⟩ : Str).cps.toList == (Str.ofString "\\").cps.toList) = false) (h3 : Txt.contains " \n" ⟨#[c]⟩ = true) (hl : ∀ p ∈ news, p.1 ≠ l)
    (B : Below A₀ base outer h₀) (X : (K w.params).In h₀) (T : Top ps loose mean mg mb h₀) (F : Fr h₀ L s.heap (locB l W tw0 k tk0)) (N : News h₀ L s.heap ((l, listO acc cc) :: news)) (hd : dp + 10 < recursionLimit) (hu : u + 60 < cLine) (ht : 0 < s.toks)
    (ret : ∀ (h' : Heap) (tk' cc' : Nat) (tk2 tv : Tok), 0 < tk' → Fr h₀ L h' (locB l W tw0 (k + 1) tk2) → News h₀ L h' ((l, listO (acc.push (.str "" tv)) cc') :: news) → Q .next { s with heap := h', toks := tk' }) :
    wpAny (model P w) (ktrTop dp u gd "_law_bare" (sScope (topAt 34)) L 805 (.ref 804) cl outer) (execs bWh (envOf "_law_bare" (sScope (topAt 34)) L 805 (.ref 804))) Q E s := by
  obtain ⟨hh, gg, dd, tkz, oo⟩ := s
  dsimp only at F N ht ⊢
  k_steps
  exact ret _ _ _ _ _ (by first | assumption | exact Nat.succ_pos _ | omega) (fr_eq (by k_asm) (fun y => loc_k y)) (by k_asm)
theorem bt_oth {w : World} {ps : Program} {loose : List Str} {mean : ExcName → Option Value} {mg mb : Str → Option Value} {dp u : Nat} {gd : Option (List Code)} {cl : List (Str × Addr)} {outer : List Env} {A₀ : Around} {base h₀ : Heap} {L : Addr} {s : Shared} {news : List (Addr × Obj)} {Q : Flow → Shared → Prop} {E : Value → Shared → Prop} {l k c : Nat} {W : List Nat} {acc : Array Value} {cc : Nat} {tw0 tk0 : Tok}
    (hW : W.length ≤ 100000) (hv : acc.size ≤ 100000) (hc : W[k]? = some c) (hk : k < W.length) (h2 : ((⟨#[c]⟩ : Str).cps.toList == (Str.ofString "\\").cps.toList) = false) (h3 : Txt.contains " \n" ⟨#[c]⟩ = false) (hl : ∀ p ∈ news, p.1 ≠ l)
    (B : Below A₀ base outer h₀) (X : (K w.params).In h₀) (T : Top ps loose mean mg mb h₀) (F : Fr h₀ L s.heap (locB l W tw0 k tk0)) (N : News h₀ L s.heap ((l, listO acc cc) :: news)) (hd : dp + 10 < recursionLimit) (hu : u + 60 < cLine) (ht : 0 < s.toks)
    (ret : ∀ (h' : Heap) (tk' cc' : Nat) (tk2 tv : Tok), 0 < tk' → Fr h₀ L h' (locB l W tw0 (k + 1) tk2) → News h₀ L h' ((l, listO (acc.push (.str ⟨#[c]⟩ tv)) cc') :: news) → Q .next { s with heap := h', toks := tk' }) :
    wpAny (model P w) (ktrTop dp u gd "_law_bare" (sScope (topAt 34)) L 805 (.ref 804) cl outer) (execs bWh (envOf "_law_bare" (sScope (topAt 34)) L 805 (.ref 804))) Q E s := by
  obtain ⟨hh, gg, dd, tkz, oo⟩ := s
  dsimp only at F N ht ⊢
  k_steps
  exact ret _ _ _ _ _ (by first | assumption | exact Nat.succ_pos _ | omega) (fr_eq (by k_asm) (fun y => loc_k y)) (by k_asm)
theorem sz_of {ys : List Value} {z : Str} {W : List Nat} (hc : CarriedAll ys (List.map PyData.str (signs z))) (hz : z.length ≤ (tx W).length) (hW : W.length ≤ 100000) : ys.toArray.size ≤ 100000 := by
  have := hc.length_eq
  rw [List.length_map, signs_length] at this
  have h1 : ys.toArray.size = ys.length := by simp
  have h2 := tx_len W
  rw [h1, this]
  omega
local macro_rules | `(tactic| walk_at "call builtin:list.extend") => `(tactic| (k_here; k_dflt (refine' ext_own ?F ?N ?b ?l ?z ?y ?_; walk_at "FN"; (case b | l | z => k_asm); (case y => exact sz_of (by assumption) (by assumption) (by assumption)); k_whole; intro h9 n9 F9 N9; walk_at "sw")))
theorem bt_esc {w : World} {ps : Program} {loose : List Str} {mean : ExcName → Option Value} {mg mb : Str → Option Value} {dp u : Nat} {gd : Option (List Code)} {cl : List (Str × Addr)} {outer : List Env} {A₀ : Around} {base h₀ : Heap} {L : Addr} {s : Shared} {news : List (Addr × Obj)} {Q : Flow → Shared → Prop} {E : Value → Shared → Prop} {l k c : Nat} {W : List Nat} {acc : Array Value} {cc : Nat} {tw0 tk0 : Tok}
    (hW : W.length ≤ 100000) (hv : acc.size ≤ 100000) (hc : W[k]? = some c) (hk : k < W.length) (h2 : ((⟨#[c]⟩ : Str).cps.toList == (Str.ofString "\\").cps.toList) = true) (hl : ∀ p ∈ news, p.1 ≠ l)
    (B : Below A₀ base outer h₀) (X : (K w.params).In h₀) (T : Top ps loose mean mg mb h₀) (F : Fr h₀ L s.heap (locB l W tw0 k tk0)) (N : News h₀ L s.heap ((l, listO acc cc) :: news)) (hd : dp + 10 < recursionLimit) (hu : u + 60 < cLine) (ht : 0 < s.toks)
    (ret : ∀ (h' : Heap) (tk' cc' : Nat) (tk2 : Tok) (ys : List Value), 0 < tk' → CarriedAll ys (List.map PyData.str (signs (Txt.slice (tx W) (some ((k : Int) + 1)) (some ((k : Int) + 2))))) → Fr h₀ L h' (locB l W tw0 (k + 2) tk2) → News h₀ L h' ((l, listO (acc ++ ys.toArray) cc') :: news) → Q .next { s with heap := h', toks := tk' }) :
    wpAny (model P w) (ktrTop dp u gd "_law_bare" (sScope (topAt 34)) L 805 (.ref 804) cl outer) (execs bWh (envOf "_law_bare" (sScope (topAt 34)) L 805 (.ref 804))) Q E s := by
  obtain ⟨hh, gg, dd, tkz, oo⟩ := s
  dsimp only at F N ht ⊢
  k_steps
  exact ret _ _ _ _ _ (by first | assumption | exact Nat.succ_pos _ | omega) (by assumption) (fr_eq (by k_asm) (fun y => loc_k2 y)) (by k_asm)
end
section
open PySem PySem.W PyProof.Rows

theorem slice_hi (x : Str) (l : Option Int) {j : Int} (h : (x.length : Int) ≤ j) : StrLaws.sliceText x l (some j) = StrLaws.sliceText x l (some (x.length : Int)) := by
  have a : ¬ ((x.length : Int) < 0) := by omega
  have b : ¬ (j < 0) := by omega
  have e : Builtin.Str.strSliceIndices l (some j) 1 x.length = Builtin.Str.strSliceIndices l (some (x.length : Int)) 1 x.length := by
    have e1 : min j (x.length : Int) = (x.length : Int) := by omega
    simp [Builtin.Str.strSliceIndices, a, b, e1]
  unfold StrLaws.sliceText
  rw [e]
theorem slice_nxt {W : List Nat} {k : Nat} (hk : k < W.length) : Txt.slice (tx W) (some ((k : Int) + 1)) (some ((k : Int) + 2)) = tx ((W.drop (k + 1)).take 1) := by
  have hl := tx_len W
  have e0 : Txt.slice (tx W) (some ((k : Int) + 1)) (some ((k : Int) + 2)) = StrLaws.sliceText (tx W) (some ((k : Int) + 1)) (some ((k : Int) + 2)) := rfl
  have e1 : ((k : Int) + 1) = ((k + 1 : Nat) : Int) := by omega
  have e2 : ((k : Int) + 2) = ((k + 2 : Nat) : Int) := by omega
  rw [e0]
  by_cases h : k + 2 ≤ W.length
  · rw [e1, e2, StrLaws.sliceText_nat (tx W) (by omega) (by omega)]
    have : k + 2 - (k + 1) = 1 := by omega
    rw [this]
  · have h2 : k + 1 = W.length := by omega
    rw [slice_hi (tx W) _ (by omega), e1, StrLaws.sliceText_nat (tx W) (by omega) (by omega)]
    have h3 : W.drop (k + 1) = [] := List.drop_eq_nil_of_le (by omega)
    simp [h3]
/-- the values of a tape -/
inductive TapeAre : List Value → List (Option Nat) → Prop
  | nil : TapeAre [] []
  | cut {t : Tok} {vs : List Value} {T : List (Option Nat)} : TapeAre vs T → TapeAre (.str "" t :: vs) (none :: T)
  | sign {c : Nat} {t : Tok} {vs : List Value} {T : List (Option Nat)} : TapeAre vs T → TapeAre (.str ⟨#[c]⟩ t :: vs) (some c :: T)
theorem TapeAre.app {vs us : List Value} {T U : List (Option Nat)} (h : TapeAre vs T) (h2 : TapeAre us U) : TapeAre (vs ++ us) (T ++ U) := by
  induction h with
  | nil => exact h2
  | cut _ ih => exact .cut ih
  | sign _ ih => exact .sign ih
theorem bare_at {W : List Nat} {k c : Nat} (hc : W[k]? = some c) : bare (W.drop k) = if c = 92 then ((W.drop (k + 1)).take 1).map some ++ bare (W.drop (k + 2)) else (if c = 32 ∨ c = 10 then none else some c) :: bare (W.drop (k + 1)) := by
  have hk : k < W.length := (List.getElem?_eq_some_iff.mp hc).1
  have e : W.drop k = c :: W.drop (k + 1) := by
    rw [List.drop_eq_getElem_cons hk]
    rw [(List.getElem?_eq_some_iff.mp hc).2]
  rw [e]
  have e2 : W.drop (k + 2) = (W.drop (k + 1)).drop 1 := by simp
  rw [e2]
  cases W.drop (k + 1) with
  | nil => simp [bare]
  | cons d r => simp [bare]
theorem nl_in (c : Nat) : Txt.contains " \n" ⟨#[c]⟩ = decide (c = 32 ∨ c = 10) := by
  rw [contains_one]
  have : (Str.ofString " \n").cps.toList = [32, 10] := by decide +kernel
  rw [this]
  simp
theorem txs_tape {ys : List Value} {l : List Nat} (h : CarriedAll ys (List.map PyData.str (signs (tx l)))) : TapeAre ys (l.map some) := by
  have e : signs (tx l) = l.map fun n => (⟨#[n]⟩ : Str) := by simp [signs]
  rw [e] at h
  clear e
  induction l generalizing ys with
  | nil => cases h; exact .nil
  | cons c r ih =>
    cases h with
    | cons h1 h2 =>
      cases h1
      exact .sign (ih h2)
noncomputable def BJ (h₀ : Heap) (L : Addr) (l : Nat) (W : List Nat) (tw0 : Tok) (news : List (Addr × Obj)) (n : Nat) (h : Heap) (tk : Nat) : Prop :=
  ∃ (k : Nat) (vals : List Value) (pre : List (Option Nat)) (cc : Nat) (tk2 : Tok), 0 < tk ∧ n + k = W.length + 2 ∧ k ≤ W.length + 1 ∧ TapeAre vals pre ∧ pre ++ bare (W.drop k) = bare W ∧ vals.length ≤ k ∧ Fr h₀ L h (locB l W tw0 k tk2) ∧ News h₀ L h ((l, listO vals.toArray cc) :: news)
theorem loc_b0 {l : Nat} {W : List Nat} {tv t : Tok} (y : Str) : (if y = "k" then some (.int 0 t) else if y = "tape" then some (.ref l) else List.lookup y [(Str.ofString "written", Value.str (tx W) tv)].reverse) = locB l W tv 0 t y := by
  by_cases h : y = "k"
  · subst h; rfl
  · by_cases h2 : y = "tape"
    · subst h2; rfl
    · by_cases h3 : y = "written"
      · subst h3; rfl
      · simp only [locB, if_neg h, if_neg h2, if_neg h3, List.reverse_cons, List.reverse_nil, List.nil_append, List.lookup_cons, List.lookup_nil]
        have : (y == Str.ofString "written") = false := by rw [beq_eq_false_iff_ne]; exact h3
        rw [this]
theorem bare_gives {w : World} {news : List (Addr × Obj)} (W : List Nat) (tv : Tok) (hW : W.length ≤ 50000) : Gives w 805 [.str (tx W) tv] 12 80 news fun r news' => ∃ l vals cc, r = .ref l ∧ news' = (l, listO vals.toArray cc) :: news ∧ TapeAre vals (bare W) ∧ (∀ p ∈ news, p.1 < l) := by
  intro ps loose mean mg mb dp u gd cn cs a ccd cl outer A₀ base h₀ L m s Q E B F X N T hk hd hu ht ret
  refine wpAny_call ?_
  k_dflt (refine' code_def (binds := [("written", .str (tx W) tv)]) ?k1 ?k2 ?k3 ?k4 ?k5 ?kA ?kF ?kK ?k6 ?k7 ?k8 ?k9 ?kB ?_ ?c2 ?c3 ?c4 ?c5; (case kA => exact rfl); (case kF => exact rfl); (case kK => assumption); (case k1 => k_asm); (case k2 => k_asm); (case k3 => k_asm); (case k4 => k_asm); (case k5 => k_asm); (case k6 => k_is); (case k7 => k_is); (case k8 => ktr_room); (case k9 => exact kp_binds (by k_in) (fun S => by kernel_rfl)); (case c5 => decide); (case kB => exact locs rfl); (case c2 => exact rfl); (case c3 => exact rfl); (case c4 => exact rfl); k_whole; intro g' L' h' FG' F' N' B' X' T'; (try dsimp only); (try k_fold))
  iterate 11 walk1
  dsimp only
  walk1
  rename ∀ p ∈ news, p.1 < _ => hl1
  k_dflt (refine' While_own (BJ g' L' _ W tv news) (n₀ := W.length + 2) ?J ?turn ?hE)
  case hE => passes_own
  case J => exact ⟨0, [], [], 0, _, (by first | assumption | exact Nat.succ_pos _ | omega), by omega, by omega, .nil, by simp, by simp, fr_eq (by k_asm) (fun y => loc_b0 y), (by k_asm)⟩
  case turn =>
    rintro n h1 tk1 ⟨k, vals, pre, cc, tk2, htk, hn, hk2, hT, hp, hlen, F1, N1⟩
    have hlx := tx_len W
    iterate 11 walk1
    by_cases hlt : k < W.length
    · rw [if_pos (by rw [hlx]; simp; omega)]
      obtain ⟨c, hc⟩ : ∃ c, W[k]? = some c := ⟨_, List.getElem?_eq_getElem hlt⟩
      have hba := bare_at hc
      have hl2 : ∀ p ∈ news, p.1 ≠ _ := fun p hp => Nat.ne_of_lt (hl1 p hp)
      have hsz : vals.toArray.size ≤ 100000 := by simp; omega
      by_cases h92 : c = 92
      · rw [if_pos h92] at hba
        k_dflt (refine' bt_esc (W := W) (k := k) (c := c) (acc := vals.toArray) (by omega) hsz hc hlt (by subst h92; decide +kernel) hl2 B' X' T' F1 N1 ?kd ?ku ?kt ?_)
        case kd => first | ktr_room | omega
        case ku => first | ktr_units | omega
        case kt => exact Nat.succ_pos _
        intro h2 tk3 cc3 tk4 ys htk3 hC F2 N2
        rw [slice_nxt hlt] at hC
        refine ⟨n - 2, h2, tk3, rfl, by omega, k + 2, vals ++ ys, pre ++ ((W.drop (k + 1)).take 1).map some, cc3, tk4, htk3, by omega, by omega, hT.app (txs_tape hC), ?_, ?_, F2, by simpa using N2⟩
        · rw [← hp, hba, List.append_assoc]
        · have := hC.length_eq
          rw [List.length_map, signs_length, tx_len] at this
          have h5 : ((W.drop (k + 1)).take 1).length ≤ 1 := by simp; omega
          rw [List.length_append]; omega
      · rw [if_neg h92] at hba
        have hne : ((⟨#[c]⟩ : Str).cps.toList == (Str.ofString "\\").cps.toList) = false := by
          have : (Str.ofString "\\").cps.toList = [92] := by decide +kernel
          rw [this]; simp [h92]
        by_cases hw : c = 32 ∨ c = 10
        · rw [if_pos hw] at hba
          k_dflt (refine' bt_ws (W := W) (k := k) (c := c) (acc := vals.toArray) (by omega) hsz hc hlt hne (by rw [nl_in]; simp [hw]) hl2 B' X' T' F1 N1 ?kd ?ku ?kt ?_)
          case kd => first | ktr_room | omega
          case ku => first | ktr_units | omega
          case kt => exact Nat.succ_pos _
          intro h2 tk3 cc3 tk4 tv4 htk3 F2 N2
          refine ⟨n - 1, h2, tk3, rfl, by omega, k + 1, vals ++ [.str "" tv4], pre ++ [none], cc3, tk4, htk3, by omega, by omega, hT.app (.cut .nil), ?_, by simp; omega, F2, by simpa using N2⟩
          rw [← hp, hba, List.append_assoc]; rfl
        · rw [if_neg hw] at hba
          k_dflt (refine' bt_oth (W := W) (k := k) (c := c) (acc := vals.toArray) (by omega) hsz hc hlt hne (by rw [nl_in]; simp; omega) hl2 B' X' T' F1 N1 ?kd ?ku ?kt ?_)
          case kd => first | ktr_room | omega
          case ku => first | ktr_units | omega
          case kt => exact Nat.succ_pos _
          intro h2 tk3 cc3 tk4 tv4 htk3 F2 N2
          refine ⟨n - 1, h2, tk3, rfl, by omega, k + 1, vals ++ [.str ⟨#[c]⟩ tv4], pre ++ [some c], cc3, tk4, htk3, by omega, by omega, hT.app (.sign .nil), ?_, by simp; omega, F2, by simpa using N2⟩
          rw [← hp, hba, List.append_assoc]; rfl
    · rw [if_neg (by rw [hlx]; simp; omega)]
      have h0 : bare (W.drop k) = [] := by rw [List.drop_eq_nil_of_le (by omega)]; rfl
      rw [h0, List.append_nil] at hp
      k_steps
      exact ret _ _ _ _ (by k_asm) (by k_asm) ⟨_, vals, cc, rfl, rfl, hp ▸ hT, hl1⟩
end
end
section
open PySem PySem.W PyProof.Rows PyProof.Rows.LCg PySem.Spec PySem.Calls
section
variable (prog : Program) (w : World) (A : Around) (h₀ : Heap)
/-- an iterator at I that draws n items; src: the ledger's part that it leans on -/
structure Drw (src : List (Addr × Obj)) (I : Addr) (n : Nat) (P : Nat → Value → Prop) (R : Addr → Heap → Prop) (St : Nat → Heap → Prop) : Prop where
  item : ∀ i (s : Shared) (Q : Option Value → Shared → Prop) (E : Value → Shared → Prop), i < n → St i s.heap →
    (∀ v h' tk, P i v → St (i + 1) h' → (∀ b o, b ≠ I → s.heap.get? b = some o → h'.get? b = some o) → Q (some v) { s with heap := h', toks := tk }) → wpAny (model prog w) A (pyNext (.ref I)) Q E s
  done : ∀ (s : Shared) (Q : Option Value → Shared → Prop) (E : Value → Shared → Prop), St n s.heap →
    (∀ h' tk, (∀ b o, b ≠ I → s.heap.get? b = some o → h'.get? b = some o) → Q none { s with heap := h', toks := tk }) → wpAny (model prog w) A (pyNext (.ref I)) Q E s
  self : ∀ i (s : Shared) (Q : Value → Shared → Prop) (E : Value → Shared → Prop), St i s.heap → Q (.ref I) s → wpAny (model prog w) A (pyIter (.ref I)) Q E s
  keep : ∀ i h h', St i h → (∀ o, h.get? I = some o → h'.get? I = some o) → (∀ p ∈ src, h'.get? p.1 = some p.2) → St i h'
  there : ∀ i h, St i h → (∃ o, h.get? I = some o) ∧ R I h
noncomputable def Iters (src : List (Addr × Obj)) (xv : Value) (s : Shared) (n : Nat) (P : Nat → Value → Prop) (R : Addr → Heap → Prop) : Prop :=
  ∀ (Q : Value → Shared → Prop) (E : Value → Shared → Prop), (∀ o St, Drw prog w A src s.heap.objs.size n P R St → St 0 (s.heap.push o) → Q (.ref s.heap.objs.size) { s with heap := s.heap.push o }) → wpAny (model prog w) A (pyIter xv) Q E s
/-- what a target does with an item -/
noncomputable def BindSpec (src : List (Addr × Obj)) (target : Expr) (env : Env) (P : Nat → Value → Prop) (R : Addr → Heap → Prop) (Bd : Nat → Value → (Str → Option Value) → (Str → Option Value) → Prop) : Prop :=
  ∀ i v I (s : Shared) m₁ (Q : Unit → Shared → Prop) (E : Value → Shared → Prop), P i v → R I s.heap → (∀ p ∈ src, s.heap.get? p.1 = some p.2) → s.heap.Ns env.locals m₁ →
    (∀ h' tk m₂, s.toks ≤ tk → Bd i v m₁ m₂ → h'.Ns env.locals m₂ → (∀ b o, b ≠ env.locals → s.heap.get? b = some o → h'.get? b = some o) → Q () { s with heap := h', toks := tk }) →
    wpAny (model prog w) A (letOwnedTupleGo target (.ref I) v) (fun _ s' => wpAny (model prog w) A (assign target env v) Q E s') E s
end
noncomputable def AnyR : Addr → Heap → Prop := fun _ _ => True
noncomputable def LstR : Addr → Heap → Prop := fun I h => ∃ l j, h.IsListIter I l j
section
variable {prog : Program} {w : World} {A : Around} {E : Value → Shared → Prop} {s : Shared} {h₀ : Heap} {L : Addr} {m : Str → Option Value} {env : Env} {src news : List (Addr × Obj)}
theorem iters_list {ax : Addr} {its : Array Value} {k : Nat} (hh : A.handled = none) (hm : (ax, ({ cls := .type "list", data := .seq its k } : Obj)) ∈ src) (N : ∀ p ∈ src, s.heap.get? p.1 = some p.2) :
    Iters prog w A src (.ref ax) s its.size (fun i v => its[i]? = some v) LstR := by
  intro Q E h
  have hl : s.heap.IsList ax its := ⟨_, N _ hm, rfl, _, rfl⟩
  have hlt : ax < s.heap.objs.size := Heap.lt_size (N _ hm)
  have W : Walks prog w A s.heap.objs.size [s.heap.objs.size, ax] [s.heap.objs.size] its.size _ _ := Walks.list hh s.heap.objs.size ax (Nat.ne_of_lt hlt) its
  refine wpAny_pyIter_list hl (h _ (fun i h => h.IsListIter s.heap.objs.size ax i ∧ h.IsList ax its) ?_ ⟨⟨_, Heap.get?_push_size _ rfl, rfl, rfl⟩, hl.push _⟩)
  refine ⟨fun i s' Q' E' hi st hQ => W.item i s' Q' E' hi st fun v h' tk p st' hk => hQ v h' tk p st' fun b o hb e => hk b o (by simpa using hb) e, fun s' Q' E' st hQ => W.done s' Q' E' st fun h' tk hk => hQ h' tk fun b o hb e => hk b o (by simpa using hb) e, W.self, ?_, ?_⟩
  · rintro i h h' ⟨⟨o, ho, r⟩, _⟩ hI hs
    exact ⟨⟨o, hI o ho, r⟩, ⟨_, hs _ hm, rfl, _, rfl⟩⟩
  · rintro i h ⟨⟨o, ho, r⟩, _⟩
    exact ⟨⟨o, ho⟩, ax, i, o, ho, r⟩
theorem iters_range {r : Addr} {a b c : Int} {t u v : Tok} {n : Nat} (hh : A.handled = none) (hr : IsRange s.heap r a b c t u v) (hsm : Builtin.Range.small a b c = true) (hn : Builtin.Range.rangeSize a b c = ((n : Nat) : Int)) :
    Iters prog w A src (.ref r) s n (fun i v => ∃ t, v = .int (a + (i : Int) * c) t) AnyR := by
  intro Q E h
  have W : Walks prog w A s.heap.objs.size [s.heap.objs.size] [s.heap.objs.size] n _ _ := Walks.range hh s.heap.objs.size a c n
  refine wpAny_pyIter_range hr hsm (h _ (fun i h => IsRangeIter h s.heap.objs.size (a + (i : Nat) * c) ((n : Int) - (i : Nat)) c) ?_ (by show IsRangeIter _ _ _ _ _; rw [hn]; simpa using Heap.get?_push_size _ rfl))
  refine ⟨fun i s' Q' E' hi st hQ => W.item i s' Q' E' hi st fun v h' tk p st' hk => hQ v h' tk p st' fun b o hb e => hk b o (by simpa using hb) e, fun s' Q' E' st hQ => W.done s' Q' E' st fun h' tk hk => hQ h' tk fun b o hb e => hk b o (by simpa using hb) e, W.self, ?_, ?_⟩
  · intro i h h' st hI hs
    exact hI _ st
  · intro i h st
    exact ⟨⟨_, st⟩, trivial⟩
theorem iters_str {x : Str} {t : Tok} (hh : A.handled = none) : Iters prog w A src (.str x t) s x.cps.size (SignAt x) AnyR := by
  intro Q E h
  cases ha : x.cps.all (· < 128)
  · have W := Walks.strWide (prog := prog) (w := w) hh s.heap.objs.size x t
    refine wpAny_pyIter_wide ha (h _ (fun i h => h.IsStrIter s.heap.objs.size "str_iterator" x t i) ?_ ⟨_, Heap.get?_push_size _ rfl, rfl, rfl⟩)
    refine ⟨fun i s' Q' E' hi st hQ => W.item i s' Q' E' hi st fun v h' tk p st' hk => hQ v h' tk p st' fun b o hb e => hk b o (by simpa using hb) e, fun s' Q' E' st hQ => W.done s' Q' E' st fun h' tk hk => hQ h' tk fun b o hb e => hk b o (by simpa using hb) e, W.self, ?_, ?_⟩
    · rintro i h h' ⟨o, ho, r⟩ hI hs
      exact ⟨o, hI _ ho, r⟩
    · rintro i h ⟨o, ho, r⟩
      exact ⟨⟨_, ho⟩, trivial⟩
  · have W := Walks.strAscii (prog := prog) (w := w) hh s.heap.objs.size x t
    refine wpAny_pyIter_ascii ha (h _ (fun i h => h.IsStrIter s.heap.objs.size "str_ascii_iterator" x t i) ?_ ⟨_, Heap.get?_push_size _ rfl, rfl, rfl⟩)
    refine ⟨fun i s' Q' E' hi st hQ => W.item i s' Q' E' hi st fun v h' tk p st' hk => hQ v h' tk p st' fun b o hb e => hk b o (by simpa using hb) e, fun s' Q' E' st hQ => W.done s' Q' E' st fun h' tk hk => hQ h' tk fun b o hb e => hk b o (by simpa using hb) e, W.self, ?_, ?_⟩
    · rintro i h h' ⟨o, ho, r⟩ hI hs
      exact ⟨o, hI _ ho, r⟩
    · rintro i h ⟨o, ho, r⟩
      exact ⟨⟨_, ho⟩, trivial⟩
noncomputable def nameBd (x : Str) : Nat → Value → (Str → Option Value) → (Str → Option Value) → Prop := fun _ v m₁ m₂ => m₂ = fun y => if y = x then some v else m₁ y
theorem bind_name {x : Str} {px : Pos} {P : Nat → Value → Prop} {R : Addr → Heap → Prop} (hx : env.kindOf x = some .local) (hp : (env.scope.kind == .class || (env.scope.kind == .module && env.locals != env.globals)) = false) :
    BindSpec prog w A src (.Name x px) env P R (nameBd x) := by
  intro i v I s m₁ Q E _ _ _ hn h
  show wpAny _ _ (pure ()) _ _ _
  refine wpAny_pure ?_
  exact wpAny_assign_Name (wpAny_storeName_local hx hn (fun h' hn' hs => h h' _ _ (Nat.le_succ _) rfl hn' fun b o hb e => hs.extBut b o hb e) hp)
noncomputable def pairBd (src : List (Addr × Obj)) (a b : Str) : Nat → Value → (Str → Option Value) → (Str → Option Value) → Prop :=
  fun _ v m₁ m₂ => ∀ T o x y k, v = .ref T → (T, o) ∈ src → o.cls = .type "tuple" → o.data = .seq #[x, y] k → m₂ = fun z => if z = b then some y else if z = a then some x else m₁ z
theorem bind_pair {a b : Str} {pa pb tp : Pos} {kk : Nat} {P : Nat → Value → Prop} (hh : A.handled = none) (hP : ∀ i v, P i v → ∃ T o x y k, v = .ref T ∧ (T, o) ∈ src ∧ o.cls = .type "tuple" ∧ o.data = .seq #[x, y] k)
    (ha : env.kindOf a = some .local) (hb : env.kindOf b = some .local) (hp : (env.scope.kind == .class || (env.scope.kind == .module && env.locals != env.globals)) = false) :
    BindSpec prog w A src (.Tuple [.Name a pa, .Name b pb] kk tp) env P LstR (pairBd src a b) := by
  intro i v I s m₁ Q E p hR hs hn h
  obtain ⟨T, o, x, y, k, rfl, hm, hc, hd⟩ := hP i v p
  obtain ⟨l, j, hI⟩ := hR
  refine wpAny_letOwnedTupleGo_listiter hI ?_
  have ht : s.heap.IsTuple T #[x, y] := ⟨o, hs _ hm, hc, k, hd⟩
  refine wpAny_toks (kcp_assign hh ht ha hb hp hn fun h' tk hn' hk hle => h h' tk _ hle ?_ hn' hk)
  intro T' o' x' y' k' e hm' hc' hd'
  cases e
  have : o' = o := Option.some.inj ((hs _ hm').symm.trans (hs _ hm))
  subst this
  rw [hd] at hd'
  cases hd'
  rfl
end
section
variable {prog : Program} {w : World} {A : Around} {E : Value → Shared → Prop} {s : Shared} {h₀ : Heap} {m : Str → Option Value} {env : Env} {src news : List (Addr × Obj)}
/-- a turn of a for loop has ended well -/
inductive FNext (s : Shared) (h₀ : Heap) (L : Addr) (src : List (Addr × Obj)) (I : Addr) (oI : Obj) (J : (Str → Option Value) → List (Addr × Obj) → Prop) (s₃ : Shared) : Prop
  | mk (h' : Heap) (tk' : Nat) (m' : Str → Option Value) (news' : List (Addr × Obj)) (e : s₃ = { s with heap := h', toks := tk' }) (F : Fr h₀ L h' m') (N : News h₀ L h' ((I, oI) :: news')) (off : ∀ p ∈ news', p.1 ≠ I) (sub : ∀ p ∈ src, p ∈ news') (j : J m' news') : FNext s h₀ L src I oI J s₃
inductive FInv (s : Shared) (h₀ : Heap) (L : Addr) (src : List (Addr × Obj)) (I : Addr) (n : Nat) (St : Nat → Heap → Prop) (J : Nat → (Str → Option Value) → List (Addr × Obj) → Prop) (k : Nat) (s' : Shared) : Prop
  | mk (h' : Heap) (tk i : Nat) (m' : Str → Option Value) (news' : List (Addr × Obj)) (e : s' = { s with heap := h', toks := tk }) (hi : i ≤ n) (hk : k = n + 1 - i) (ht : 0 < tk) (st : St i h') (F : Fr h₀ L h' m') (N : News h₀ L h' news') (off : ∀ p ∈ news', p.1 ≠ I) (sub : ∀ p ∈ src, p ∈ news') (j : J i m' news') : FInv s h₀ L src I n St J k s'
theorem ForIter_own {target : Expr} {body : List Stmt} {xv : Value} {n : Nat} {P : Nat → Value → Prop} {R : Addr → Heap → Prop} {Bd : Nat → Value → (Str → Option Value) → (Str → Option Value) → Prop} {Q : Flow → Shared → Prop}
    (It : Iters prog w A src xv s n P R) (bnd : BindSpec prog w A src target env P R Bd) (F : Fr h₀ env.locals s.heap m) (N : News h₀ env.locals s.heap news) (hsrc : ∀ p ∈ src, p ∈ news) (ht : 0 < s.toks)
    (J : Nat → (Str → Option Value) → List (Addr × Obj) → Prop) (hJ : J 0 m news)
    (turn : ∀ i v m₁ m₂ news₁ I oI h tk (E' : Value → Shared → Prop), i < n → P i v → J i m₁ news₁ → Bd i v m₁ m₂ → (∀ p ∈ src, p ∈ news₁) → 0 < tk → Fr h₀ env.locals h m₂ → News h₀ env.locals h ((I, oI) :: news₁) → (∀ p ∈ news₁, p.1 ≠ I) →
      wpAny (model prog w) A (execs body env) (fun f s₃ => match f with
        | .next | .cont => FNext s h₀ env.locals src I oI (J (i + 1)) s₃
        | .brk => Q .next s₃
        | .ret v => Q (.ret v) s₃) E' { s with heap := h, toks := tk })
    (done : ∀ m₁ news₁ h tk, J n m₁ news₁ → Fr h₀ env.locals h m₁ → News h₀ env.locals h news₁ → 0 < tk → Q .next { s with heap := h, toks := tk }) :
    wpAny (model prog w) A (pyIter xv) (fun it s₂ => codeAny (model prog w) A (.forLoop target it body [] env) (fun r s' => match r with | .ok f => Q f s' | .error e => cameBackBy (model prog w) A env E e s') s₂) E s := by
  have fresh₀ : ∀ a, s.heap.objs.size ≤ a → h₀.get? a = none := fun a ha => by
    cases e : h₀.get? a with
    | none => rfl
    | some o' => exact absurd (Heap.lt_size (F.keep a o' e)) (Nat.not_lt.mpr ha)
  have hI₀ : h₀.get? s.heap.objs.size = none := fresh₀ _ (Nat.le_refl _)
  have hIL : env.locals ≠ s.heap.objs.size := Nat.ne_of_lt F.ns.lt
  refine It _ _ fun o St D st0 => ?_
  generalize hI : s.heap.objs.size = I at *
  refine codeAny_forLoop_any
    (FInv s h₀ env.locals src I n St J) ?_ (n + 1)
    ⟨_, _, 0, m, news, rfl, Nat.zero_le _, rfl, ht, st0, F.push _, fun p hp => ⟨Heap.get?_push_of_some _ (N p hp).1, (N p hp).2⟩, fun p hp => hI ▸ Nat.ne_of_lt (Heap.lt_size (N p hp).1), hsrc, hJ⟩
  rintro k s' ⟨h', tk, i, m', news', rfl, hi, rfl, htk, hst, F', N', off, hsub, J'⟩
  by_cases hlt : i < n
  · refine wpAny_toks (D.item i _ _ _ hlt hst fun v h₂ tk₂ hP hst₂ hk₂ => ?_)
    intro hle
    have htk₂ : 0 < tk₂ := Nat.lt_of_lt_of_le htk hle
    have F₂ : Fr h₀ env.locals h₂ m' := ⟨F'.ns.at' fun o e => hk₂ _ o hIL e, fun b o e => hk₂ b o (fun q => by rw [q, hI₀] at e; cases e) (F'.keep b o e), F'.above⟩
    have N₂ : News h₀ env.locals h₂ news' := fun p hp => ⟨hk₂ _ _ (off p hp) (N' p hp).1, (N' p hp).2⟩
    have B := bnd i v I { s with heap := h₂, toks := tk₂ } m' (fun _ s₂ => wpAny (model prog w) A (execs body env) (fun f s₃ => match f with
            | .next | .cont => ∃ mm, mm < n + 1 - i ∧ FInv s h₀ env.locals src I n St J mm s₃
            | .brk => Q .next s₃
            | .ret v => Q (.ret v) s₃) (notedBy (model prog w) A env fun e s' => cameBackBy (model prog w) A env E e s') s₂) (notedBy (model prog w) A env fun e s' => cameBackBy (model prog w) A env E e s') hP (D.there _ _ hst₂).2 (fun p hp => (N₂ p (hsub p hp)).1) F₂.ns
    refine B fun h₃ tk₃ m₂ hle₃ hBd hn₃ hk₃ => ?_
    have htk₃ : 0 < tk₃ := Nat.lt_of_lt_of_le htk₂ hle₃
    have hL₀ : h₀.get? env.locals = none := Heap.get?_none_of_le F'.above
    have F₃ : Fr h₀ env.locals h₃ m₂ := ⟨hn₃, fun b o e => hk₃ b o (fun q => by rw [q, hL₀] at e; cases e) (F₂.keep b o e), F'.above⟩
    obtain ⟨oI, heI⟩ := (D.there _ _ hst₂).1
    have heI₃ := hk₃ I oI (Ne.symm hIL) heI
    have N₃ : News h₀ env.locals h₃ ((I, oI) :: news') := fun p hp => by
      rcases List.mem_cons.mp hp with rfl | hp
      · exact ⟨heI₃, Ne.symm hIL, hI₀⟩
      · exact ⟨hk₃ _ _ (N₂ p hp).2.1 (N₂ p hp).1, (N₂ p hp).2⟩
    refine wpAny_toks (wpAny_mono (turn i v m' m₂ news' I oI h₃ tk₃ _ hlt hP J' hBd hsub htk₃ F₃ N₃ off) (fun f s₃ h₃' => ?_) fun _ _ e => e)
    intro hle₄
    have fin : FNext s h₀ env.locals src I oI (J (i + 1)) s₃ → ∃ mm, mm < n + 1 - i ∧ FInv s h₀ env.locals src I n St J mm s₃ := by
      rintro ⟨h₄, tk₄, m₄, news₄, rfl, F₄, N₄, off₄, hsub₄, J₄⟩
      refine ⟨n + 1 - (i + 1), by omega, h₄, tk₄, i + 1, m₄, news₄, rfl, hlt, rfl, Nat.lt_of_lt_of_le htk₃ hle₄, ?_, F₄, fun p hp => N₄ p (.tail _ hp), off₄, hsub₄, J₄⟩
      refine D.keep _ _ _ hst₂ (fun o e => ?_) fun p hp => (N₄ p (.tail _ (hsub₄ p hp))).1
      rw [heI] at e
      cases e
      exact (N₄ (I, oI) (.head _)).1
    cases f with
    | next => exact fin h₃'
    | cont => exact fin h₃'
    | brk => exact h₃'
    | ret v => exact h₃'
  · obtain rfl : i = n := Nat.le_antisymm hi (Nat.not_lt.mp hlt)
    refine wpAny_toks (D.done _ _ _ hst fun h₂ tk₂ hk₂ => ?_)
    intro hle
    have F₂ : Fr h₀ env.locals h₂ m' := ⟨F'.ns.at' fun o e => hk₂ _ o hIL e, fun b o e => hk₂ b o (fun q => by rw [q, hI₀] at e; cases e) (F'.keep b o e), F'.above⟩
    have N₂ : News h₀ env.locals h₂ news' := fun p hp => ⟨hk₂ _ _ (off p hp) (N' p hp).1, (N' p hp).2⟩
    exact wpAny_execs_nil (done m' news' h₂ tk₂ J' F₂ N₂ (Nat.lt_of_lt_of_le htk hle))
end

/-- the test and the element of a comprehension -/
noncomputable def CBody (prog : Program) (w : World) (A : Around) (c : Option Expr) (elt : Expr) (env : Env) (K : Bool → Value → Shared → Prop) (E : Value → Shared → Prop) (s : Shared) : Prop := match c with
  | none => wpAny (model prog w) A (eval elt env) (K true) E s
  | some c => wpAny (model prog w) A (isTrue c env (eval c env)) (fun ok s' => if ok = true then wpAny (model prog w) A (eval elt env) (K true) E s' else K false .none s') E s
theorem CBody.mono {prog : Program} {w : World} {A : Around} {c : Option Expr} {elt : Expr} {env : Env} {K K' : Bool → Value → Shared → Prop} {E : Value → Shared → Prop} {s : Shared} (h : CBody prog w A c elt env K E s) (k : ∀ b v s', s.toks ≤ s'.toks → K b v s' → K' b v s') : CBody prog w A c elt env K' E s := by
  cases c with
  | none => exact wpAny_toks (wpAny_mono h (fun v s' h' hle => k _ _ _ hle h') fun _ _ e => e)
  | some c =>
    refine wpAny_toks (wpAny_mono h (fun ok s' h' hle => ?_) fun _ _ e => e)
    cases ok with
    | false =>
      simp only [Bool.false_eq_true, if_false] at h' ⊢
      exact k _ _ _ hle h'
    | true =>
      simp only [if_true] at h' ⊢
      exact wpAny_toks (wpAny_mono h' (fun v s'' h'' hle' => k _ _ _ (Nat.le_trans hle hle') h'') fun _ _ e => e)
section
variable {prog : Program} {w : World} {A : Around} {E : Value → Shared → Prop} {s : Shared} {h₀ : Heap} {L : Addr} {m : Str → Option Value} {env : Env} {news : List (Addr × Obj)}
theorem loop_O {c : Option Expr} {elt target iter : Expr} {scope : Scope} {pos : Pos} {it acc : Value} {env : Env} {R : Result → Shared → Prop} (I : Nat → Shared → Prop)
    (turn : ∀ n s, I n s → wpAny (model prog w) A (pyNext it) (fun r s₁ => match r with
      | none => R (.ok .next) s₁
      | some v => wpAny (model prog w) A (letOwnedTupleGo target it v) (fun _ s₀ => wpAny (model prog w) A (assign target env v) (fun _ s₂ =>
          CBody prog w A c elt env (fun b x s₄ => if b = true then wpAny (model prog w) A (call (.builtin "list.append") [acc, x]) (fun _ s₅ => ∃ m, m < n ∧ I m s₅) (notedBy (model prog w) A env fun e s' => R (.error e) s') s₄ else ∃ m, m < n ∧ I m s₄) (notedBy (model prog w) A env fun e s' => R (.error e) s') s₂)
          (notedBy (model prog w) A env fun e s' => R (.error e) s') s₀) (notedBy (model prog w) A env fun e s' => R (.error e) s') s₁) (notedBy (model prog w) A env fun e s' => R (.error e) s') s)
    (n : Nat) (h : I n s) : codeAny (model prog w) A (.compLoop (.ListComp elt [⟨target, iter, c.toList, 0⟩] scope pos) 0 it acc env) R s := by
  cases c with
  | none => exact kcp_loop I turn n h
  | some c => exact kct_loop I turn n h

inductive BInv (s₁ : Shared) (h₀ : Heap) (L : Addr) (m : Str → Option Value) (news : List (Addr × Obj)) (I C D : Addr) (n : Nat) (St : Nat → Heap → Prop) (J : Nat → List Value → List (Addr × Obj) → Prop) (k : Nat) (s' : Shared) : Prop
  | mk (h' : Heap) (tk i : Nat) (ys : List Value) (m' : Str → Option Value) (news' : List (Addr × Obj)) (e : s' = { s₁ with heap := h', toks := tk }) (hi : i ≤ n) (hk : k = n + 1 - i) (hy : ys.length ≤ i) (ht : 0 < tk) (st : St i h') (F : Fr h₀ L h' m) (ns : h'.Ns C m') (N : News h₀ L h' ((D, lst ys) :: news')) (off : Off3 I C D news') (sub : ∀ p ∈ news, p ∈ news') (j : J i ys news') : BInv s₁ h₀ L m news I C D n St J k s'
theorem block_O {c : Option Expr} {elt target iter : Expr} {scope : Scope} {cl : List (Str × Addr)} {pos : Pos} {s₁ : Shared} {xv : Value} {n : Nat} {P : Nat → Value → Prop} {R : Addr → Heap → Prop} {Bd : Nat → Value → (Str → Option Value) → (Str → Option Value) → Prop} (J : Nat → List Value → List (Addr × Obj) → Prop)
    {RR : Value → Addr → Result → Shared → Prop} (hsz : n ≤ sizeLine)
    (hcell : ∀ y ∈ scope.names, y.2 ≠ .cell) (hkind : scope.kind = .function) (ht : 0 < s₁.toks)
    (It : Iters prog w A news xv s₁ n P R) (bnd : ∀ C, BindSpec prog w A news target (compEnvC scope cl C env) P R Bd) (F : Fr h₀ L s₁.heap m) (N : News h₀ L s₁.heap news) (hJ : J 0 [] news)
    (turn : ∀ i ys news' v m₁ m₂ I oI C oC D h tk (E' : Value → Shared → Prop), i < n → P i v → J i ys news' → ys.length ≤ i → Bd i v m₁ m₂ → NsObj oC m₂ → Fr h₀ L h m → News h₀ L h ((I, oI) :: (C, oC) :: (D, lst ys) :: news') → Off3 I C D news' → ((@Ne Nat I C) ∧ (@Ne Nat I D) ∧ (@Ne Nat C D)) → (∀ p ∈ news, p ∈ news') → 0 < tk →
      CBody prog w A c elt (compEnvC scope cl C env) (fun b => CompEnd h₀ L m { s₁ with heap := h, toks := tk } I oI C oC D (lst ys) (fun nw => ∀ p ∈ news, p ∈ nw) (fun y nw => J (i + 1) (if b = true then ys ++ [y] else ys) nw)) E' { s₁ with heap := h, toks := tk })
    (hRR : ∀ D C h tk m' ys news', Fr h₀ L h m → News h₀ L h ((D, lst ys) :: news') → Off1 D news' → h.Ns C m' → h₀.get? C = none → h₀.get? D = none → C ≠ L → D ≠ L → C ≠ D → (∀ p ∈ news', p.1 ≠ C) → J n ys news' → 0 < tk → RR (.ref D) C (.ok .next) { s₁ with heap := h, toks := tk }) :
    wpAny (model prog w) A (pyIter xv) (fun it s₂ => wpAny (model prog w) A (newList []) (fun acc s₃ => wpAny (model prog w) A (newFunctionEnv scope env.globals cl [] env.qual none .none (some env)) (fun cenv s₄ =>
      codeAny (model prog w) A (.compStart (.ListComp elt [⟨target, iter, c.toList, 0⟩] scope pos) 0 it acc { cenv with scope := relabel scope env }) (RR acc cenv.locals) s₄) E s₃) E s₂) E s₁ := by
  refine It _ _ fun o St W hst => ?_
  have hI₀ : h₀.get? s₁.heap.objs.size = none := by
    cases e : h₀.get? s₁.heap.objs.size with
    | none => rfl
    | some o' => exact absurd (Heap.lt_size (F.keep _ o' e)) (Nat.lt_irrefl _)
  have hIL : L ≠ s₁.heap.objs.size := Nat.ne_of_lt F.ns.lt
  have F₂ : Fr h₀ L (s₁.heap.push o) m := F.push _
  have N₂ : News h₀ L (s₁.heap.push o) news := fun p hp => ⟨Heap.get?_push_of_some _ (N p hp).1, (N p hp).2⟩
  have off : ∀ p ∈ news, p.1 ≠ s₁.heap.objs.size := fun p hp => Nat.ne_of_lt (Heap.lt_size (N p hp).1)
  have hI1 : s₁.heap.objs.size < (s₁.heap.push o).objs.size := by rw [Heap.size_push]; exact Nat.lt_succ_self _
  generalize hIe : s₁.heap.objs.size = I at *
  generalize hHe : s₁.heap.push o = Hp at *
  refine wpAny_newObj_type (wpAny_newFunctionEnv hcell (by intro y hy; simp at hy) (fun h₁ hns₁ hsb₁ => ?_) hkind)
  dsimp only at hns₁ hsb₁ ⊢
  generalize hH2 : Hp.push { cls := .type "list", dict := none, data := .seq ([] : List Value).toArray } = H2 at hns₁ hsb₁ ⊢
  have hC : H2.objs.size = Hp.objs.size + 1 := by rw [← hH2, Heap.size_push]
  have hDC : Hp.objs.size ≠ H2.objs.size := by rw [hC]; exact Nat.ne_of_lt (Nat.lt_succ_self _)
  have below : ∀ b, b < Hp.objs.size → b ≠ H2.objs.size ∧ b ≠ Hp.objs.size := fun b hb => ⟨by rw [hC]; exact Nat.ne_of_lt (Nat.lt_succ_of_lt hb), Nat.ne_of_lt hb⟩
  have old : ∀ b o, Hp.get? b = some o → h₁.get? b = some o := fun b o e => hsb₁.extBut b o (below b (Heap.lt_size e)).1 (Heap.get?_push_of_some _ (hH2 ▸ Heap.get?_push_of_some _ e))
  have hacc : h₁.get? Hp.objs.size = some (lst []) := hsb₁.extBut _ _ hDC (Heap.get?_push_of_some _ (hH2 ▸ Heap.get?_push_size _ rfl))
  have hst₁ : St 0 h₁ := W.keep _ _ _ hst (fun o e => old _ o e) fun p hp => old _ _ (N₂ p hp).1
  have fresh : ∀ a, Hp.objs.size ≤ a → Hp.get? a = none := fun a ha => by
    cases e : Hp.get? a with
    | none => rfl
    | some o' => exact absurd (Heap.lt_size e) (Nat.not_lt.mpr ha)
  have fresh₀ : ∀ a, Hp.objs.size ≤ a → h₀.get? a = none := fun a ha => by
    cases e : h₀.get? a with
    | none => rfl
    | some o' => have := F₂.keep a o' e; rw [fresh a ha] at this; cases this
  have hD₀ : h₀.get? Hp.objs.size = none := fresh₀ _ (Nat.le_refl _)
  have hC₀ : h₀.get? H2.objs.size = none := fresh₀ _ (by rw [hC]; exact Nat.le_succ _)
  have hLlt : L < Hp.objs.size := F₂.ns.lt
  have hDL : Hp.objs.size ≠ L := Ne.symm (below L hLlt).2
  have hCL : H2.objs.size ≠ L := Ne.symm (below L hLlt).1
  have hCI : I ≠ H2.objs.size := (below I hI1).1
  have hDI : I ≠ Hp.objs.size := (below I hI1).2
  have off₀ : Off3 I H2.objs.size Hp.objs.size news := Off3.of fun p hp => ⟨off p hp, (below _ (Heap.lt_size (N₂ p hp).1)).1, (below _ (Heap.lt_size (N₂ p hp).1)).2⟩
  have loop : ∀ s₃ : Shared, s₃ = { s₁ with heap := h₁, toks := s₁.toks + ([] : List (Str × Value)).length } →
      codeAny (model prog w) A (.compLoop (.ListComp elt [⟨target, iter, c.toList, 0⟩] scope pos) 0 (.ref I) (.ref Hp.objs.size) (compEnvC scope cl H2.objs.size env))
        (RR (.ref Hp.objs.size) H2.objs.size) s₃ := by
    rintro s₃ rfl
    refine loop_O
      (BInv s₁ h₀ L m news I H2.objs.size Hp.objs.size n St J) ?_ (n + 1)
      ⟨h₁, _, 0, [], _, news, rfl, Nat.zero_le _, rfl, Nat.le_refl _, ht, hst₁, F₂.keeps old, hns₁, fun p hp => ?_, off₀, fun _ hp => hp, hJ⟩
    · rintro k s' ⟨h', tk, i, ys, m', news', rfl, hi, rfl, hyl, htk, hst', F', hn', N', off', hS', J'⟩
      have off3 := off'.mem
      by_cases hlt : i < n
      · refine wpAny_toks (W.item i _ _ _ hlt hst' fun v h₂ tk₂ hPv hst₂ hk₂ => ?_)
        intro hle₂
        have htk₂ : 0 < tk₂ := Nat.lt_of_lt_of_le htk hle₂
        have F₃ : Fr h₀ L h₂ m := ⟨F'.ns.at' fun o e => hk₂ _ o hIL e, fun b o e => hk₂ b o (fun q => by rw [q, hI₀] at e; cases e) (F'.keep b o e), F'.above⟩
        have N₃ : News h₀ L h₂ ((Hp.objs.size, lst ys) :: news') := fun p hp => ⟨hk₂ _ _ (by
          rcases List.mem_cons.mp hp with rfl | hp
          · exact Ne.symm hDI
          · exact (off3 p hp).1) (N' p hp).1, (N' p hp).2⟩
        have hn₂ : h₂.Ns H2.objs.size m' := hn'.at' fun o e => hk₂ _ o (Ne.symm hCI) e
        refine bnd H2.objs.size i v I { s₁ with heap := h₂, toks := tk₂ } m' _ _ hPv (W.there _ _ hst₂).2 (fun p hp => (N₃ p (.tail _ (hS' p hp))).1) hn₂ fun h₃ tk₃ m₂ hle₃ hBd hn₃ hk₃ => ?_
        have htk₃ : 0 < tk₃ := Nat.lt_of_lt_of_le htk₂ hle₃
        obtain ⟨oI, heI⟩ := (W.there _ _ hst₂).1
        have heI₃ := hk₃ I oI hCI heI
        obtain ⟨oC, heC, hoC⟩ := ns_obj hn₃
        have F₄ : Fr h₀ L h₃ m := ⟨F₃.ns.at' fun o e => hk₃ _ o (Ne.symm hCL) e, fun b o e => hk₃ b o (fun q => by have q' : b = H2.objs.size := q; rw [q', hC₀] at e; cases e) (F₃.keep b o e), F'.above⟩
        have N₄ : News h₀ L h₃ ((I, oI) :: (H2.objs.size, oC) :: (Hp.objs.size, lst ys) :: news') := fun p hp => by
          rcases List.mem_cons.mp hp with rfl | hp
          · exact ⟨heI₃, Ne.symm hIL, hI₀⟩
          · rcases List.mem_cons.mp hp with rfl | hp
            · exact ⟨heC, hCL, hC₀⟩
            · have z := N₃ p hp
              refine ⟨hk₃ _ _ ?_ z.1, z.2⟩
              rcases List.mem_cons.mp hp with rfl | hp
              · exact hDC
              · exact (off3 p hp).2.1
        refine CBody.mono (turn i ys news' v m' m₂ I oI H2.objs.size oC Hp.objs.size h₃ tk₃ _ hlt hPv J' hyl hBd hoC F₄ N₄ off' ⟨hCI, hDI, Ne.symm hDC⟩ hS' htk₃) fun b y s₅ hle₅ h₅ => ?_
        obtain ⟨h₄, tk₄, news₄, rfl, F₅, N₅, off₅, hS₅, J₅⟩ := h₅
        have htk₄ : 0 < tk₄ := Nat.lt_of_lt_of_le htk₃ hle₅
        have zI := (N₅ (I, oI) List.mem_cons_self).1
        have zC := (N₅ (H2.objs.size, oC) (List.mem_cons_of_mem _ List.mem_cons_self)).1
        have zD := (N₅ (Hp.objs.size, lst ys) (List.mem_cons_of_mem _ (List.mem_cons_of_mem _ List.mem_cons_self))).1
        have N₅' : News h₀ L h₄ news₄ := fun p hp => N₅ p (List.mem_cons_of_mem _ (List.mem_cons_of_mem _ (List.mem_cons_of_mem _ hp)))
        have hst₅ : St (i + 1) h₄ := W.keep _ _ _ hst₂ (fun o e => by rw [heI] at e; cases e; exact zI) fun p hp => (N₅' p (hS₅ p hp)).1
        have off5 := off₅.mem
        cases b with
        | true =>
          simp only [if_true] at J₅ ⊢
          refine wpAny_toks (append_at (hsz := by show ys.toArray.size ≤ sizeLine; rw [List.size_toArray]; exact Nat.le_trans (Nat.le_trans hyl hi) hsz) zD fun h₆ hs₆ hD₆ => ?_)
          intro hle₆
          have hst₆ : St (i + 1) h₆ := W.keep _ _ _ hst₅ (fun o e => hs₆.extBut _ _ hDI e) fun p hp => hs₆.extBut _ _ (off5 p (hS₅ p hp)).2.2 (N₅' p (hS₅ p hp)).1
          refine ⟨n + 1 - (i + 1), by omega, h₆, _, i + 1, ys ++ [y], _, news₄, rfl, hlt, rfl, by rw [List.length_append, List.length_singleton]; exact Nat.succ_le_succ hyl, Nat.lt_of_lt_of_le htk₄ hle₆, hst₆, F₅.change hs₆ hDL hD₀,
            (hoC.ns zC).sameBut hs₆ (Ne.symm hDC), fun p hp => ?_, off₅, hS₅, J₅⟩
          rcases List.mem_cons.mp hp with rfl | hp
          · exact ⟨hD₆.trans (congrArg some (lst_snoc ys y)), hDL, hD₀⟩
          · exact ⟨hs₆.extBut _ _ (off5 p hp).2.2 (N₅' p hp).1, (N₅' p hp).2⟩
        | false =>
          simp only [Bool.false_eq_true, if_false] at J₅ ⊢
          refine ⟨n + 1 - (i + 1), by omega, h₄, tk₄, i + 1, ys, _, news₄, rfl, hlt, rfl, Nat.le_succ_of_le hyl, htk₄, hst₅, F₅, hoC.ns zC, fun p hp => ?_, off₅, hS₅, J₅⟩
          rcases List.mem_cons.mp hp with rfl | hp
          · exact N₅ _ (List.mem_cons_of_mem _ (List.mem_cons_of_mem _ List.mem_cons_self))
          · exact N₅' p hp
      · obtain rfl : i = n := Nat.le_antisymm hi (Nat.not_lt.mp hlt)
        refine wpAny_toks (W.done _ _ _ hst' fun h₂ tk₂ hk₂ => ?_)
        intro hle₂
        refine hRR _ _ h₂ tk₂ m' ys news' ⟨F'.ns.at' fun o e => hk₂ _ o hIL e, fun b o e => hk₂ b o (fun q => by rw [q, hI₀] at e; cases e) (F'.keep b o e), F'.above⟩ (fun p hp => ⟨hk₂ _ _ (by
          rcases List.mem_cons.mp hp with rfl | hp
          · exact Ne.symm hDI
          · exact (off3 p hp).1) (N' p hp).1, (N' p hp).2⟩) off'.one (hn'.at' fun o e => hk₂ _ o (Ne.symm hCI) e) hC₀ hD₀ hCL hDL (Ne.symm hDC) (fun p hp => (off3 p hp).2.1) J' (Nat.lt_of_lt_of_le htk hle₂)
    · rcases List.mem_cons.mp hp with rfl | hp
      · exact ⟨hacc, hDL, hD₀⟩
      · exact ⟨old _ _ (N₂ p hp).1, (N₂ p hp).2⟩
  exact codeAny_compStart_list (loop _ rfl) (W.self 0 _ _ _ hst₁ (loop _ rfl))

/-- what a comprehension wants of its source -/
inductive CSrc (prog : Program) (w : World) (A : Around) (h₀ : Heap) (L : Addr) (m : Str → Option Value) (env : Env) (c : Option Expr) (elt target : Expr) (scope : Scope) (cl : List (Str × Addr)) (Fin : Shared → List Value → List (Addr × Obj) → Prop) (xv : Value) (s₁ : Shared) : Prop
  | mk (news : List (Addr × Obj)) (n : Nat) (P : Nat → Value → Prop) (R : Addr → Heap → Prop) (Bd : Nat → Value → (Str → Option Value) → (Str → Option Value) → Prop) (J : Nat → List Value → List (Addr × Obj) → Prop) (a1 : Iters prog w A news xv s₁ n P R)
    (a2 : (∀ C, BindSpec prog w A news target (compEnvC scope cl C env) P R Bd))
    (a3 : Fr h₀ L s₁.heap m)
    (a4 : News h₀ L s₁.heap news)
    (a5 : 0 < s₁.toks)
    (a6 : n ≤ sizeLine)
    (a7 : J 0 [] news)
    (a8 : (∀ i ys news' v m₁ m₂ I oI C oC D h tk (E' : Value → Shared → Prop), i < n → P i v → J i ys news' → ys.length ≤ i → Bd i v m₁ m₂ → NsObj oC m₂ → Fr h₀ L h m → News h₀ L h ((I, oI) :: (C, oC) :: (D, lst ys) :: news') → Off3 I C D news' → ((@Ne Nat I C) ∧ (@Ne Nat I D) ∧ (@Ne Nat C D)) → (∀ p ∈ news, p ∈ news') → 0 < tk →
      CBody prog w A c elt (compEnvC scope cl C env) (fun b => CompEnd h₀ L m { s₁ with heap := h, toks := tk } I oI C oC D (lst ys) (fun nw => ∀ p ∈ news, p ∈ nw) (fun y nw => J (i + 1) (if b = true then ys ++ [y] else ys) nw)) E' { s₁ with heap := h, toks := tk }))
    (a9 : (∀ ys news', J n ys news' → Fin s₁ ys news')) : CSrc prog w A h₀ L m env c elt target scope cl Fin xv s₁
noncomputable def FinE' (h₀ : Heap) (L : Addr) (m : Str → Option Value) (Q : Value → Shared → Prop) (s : Shared) (ys : List Value) (news : List (Addr × Obj)) : Prop :=
  ∀ D h tk, Fr h₀ L h m → News h₀ L h ((D, lst ys) :: news) → Off1 D news → 0 < tk → Q (.ref D) { s with heap := h, toks := tk }
noncomputable def FinA' (h₀ : Heap) (L : Addr) (m : Str → Option Value) (y : Str) (Q : Flow → Shared → Prop) (s : Shared) (ys : List Value) (news : List (Addr × Obj)) : Prop :=
  ∀ D h tk, Fr h₀ L h (fun z => if z = y then some (.ref D) else m z) → News h₀ L h ((D, lst ys) :: news) → Off1 D news → 0 < tk → Q .next { s with heap := h, toks := tk }
theorem ListComp_O {c : Option Expr} {elt target iter : Expr} {scope : Scope} {cl : List (Str × Addr)} {pos : Pos} {Q : Value → Shared → Prop} (_F₀ : Fr h₀ L s.heap m)
    (hclos : closureFor scope env = pure cl) (hcell : ∀ y ∈ scope.names, y.2 ≠ .cell) (hkind : scope.kind = .function)
    (hnames : ∀ y ∈ scope.names, y.2 = .local → scope.names.lookup y.1 = some .local)
    (h : wpAny (model prog w) A (eval iter env) (CSrc prog w A h₀ L m env c elt target scope cl (FinE' h₀ L m Q)) E s)
    (hs : ∀ x, foldedSetIterable iter env x = pure x := by intro _; rfl) :
    wpAny (model prog w) A (eval (.ListComp elt [⟨target, iter, c.toList, 0⟩] scope pos) env) Q E s := by
  rw [eval_ListComp]
  refine wpAny_comprehension_free (use := none) rfl hs hclos hkind hnames (wpAny_mono h (fun xv s₁ h₁ => ?_) fun _ _ e => e)
  obtain ⟨news, n, P, R, Bd, J, It, bnd, F, N, ht, hsz, hJ, turn, fin⟩ := h₁
  refine block_O J hsz hcell hkind ht It bnd F N hJ turn ?_
  intro D C h tk m' ys news' F' N' o1 hn hC₀ hD₀ hCL hDL hCD offC J' htk
  refine ⟨m', hn, fun h'' hs'' => fin ys news' J' D h'' tk (F'.change hs'' hCL hC₀) (fun p hp => ?_) o1 htk⟩
  refine ⟨hs''.extBut _ _ ?_ (N' p hp).1, (N' p hp).2⟩
  rcases List.mem_cons.mp hp with rfl | hp
  · exact Ne.symm hCD
  · exact offC p hp
theorem Assign_ListComp_O {c : Option Expr} {elt target iter : Expr} {y : Str} {py : Pos} {scope : Scope} {cl : List (Str × Addr)} {pos spos : Pos} {Q : Flow → Shared → Prop} (_F₀ : Fr h₀ L s.heap m) (hLe : env.locals = L)
    (hsw : swapsWith (.ListComp elt [⟨target, iter, c.toList, 0⟩] scope pos) (some (.Name y py)) spos.line env = pure true)
    (hclos : closureFor scope env = pure cl) (hcell : ∀ z ∈ scope.names, z.2 ≠ .cell) (hkind : scope.kind = .function)
    (hnames : ∀ z ∈ scope.names, z.2 = .local → scope.names.lookup z.1 = some .local)
    (hy : env.kindOf y = some .local) (hp : (env.scope.kind == .class || (env.scope.kind == .module && env.locals != env.globals)) = false)
    (h : wpAny (model prog w) A (eval iter env) (CSrc prog w A h₀ L m env c elt target scope cl (FinA' h₀ L m y Q)) E s)
    (hs : ∀ x, foldedSetIterable iter env x = pure x := by intro _; rfl) :
    wpAny (model prog w) A (exec (.Assign [.Name y py] (.ListComp elt [⟨target, iter, c.toList, 0⟩] scope pos) spos) env) Q E s := by
  subst hLe
  rw [exec_Assign_Name_used _ _ _ _ hsw]
  refine wpAny_bind (wpAny_standAt (wpAny_bind ?_))
  show wpAny _ A (do let _ ← comprehension (.ListComp elt [⟨target, iter, c.toList, 0⟩] scope pos) scope env _ (newList []) false (eval iter env) (some (assign (.Name y py) env))) _ _ s
  refine wpAny_bind (wpAny_mono (wpAny_comprehension_free (use := some (assign (.Name y py) env)) (Q := fun _ s' => Q .next s') rfl hs hclos hkind hnames
    (wpAny_mono h (fun xv s₁ h₁ => ?_) fun _ _ e => e)) (fun _ s' hq => wpAny_pure (wpAny_pure hq)) fun _ _ e => e)
  obtain ⟨news, n, P, R, Bd, J, It, bnd, F, N, ht, hsz, hJ, turn, fin⟩ := h₁
  refine block_O J hsz hcell hkind ht It bnd F N hJ turn ?_
  intro D C h' tk m' ys news' F' N' o1 hn hC₀ hD₀ hCL hDL hCD offC J' htk
  show wpAny _ A (assign (.Name y py) env (.ref D)) _ _ _
  refine wpAny_assign_Name (wpAny_storeName_local hy F'.ns (fun h₂ hn₂ hs₂ => ?_) hp)
  have hL₀ : h₀.get? env.locals = none := Heap.get?_none_of_le F'.above
  have F₂ : Fr h₀ env.locals h₂ (fun z => if z = y then some (.ref D) else m z) := ⟨hn₂, fun b o e => hs₂.extBut b o (fun q => by rw [q, hL₀] at e; cases e) (F'.keep b o e), F'.above⟩
  refine ⟨m', hn.sameBut hs₂ hCL, fun h'' hs'' => fin ys news' J' D h'' _ (F₂.change hs'' hCL hC₀) (fun p hp => ?_) o1 (Nat.lt_succ_of_lt htk)⟩
  have z : h₂.get? p.1 = some p.2 := hs₂.extBut _ _ (N' p hp).2.1 (N' p hp).1
  refine ⟨hs''.extBut _ _ ?_ z, (N' p hp).2⟩
  rcases List.mem_cons.mp hp with rfl | hp
  · exact Ne.symm hCD
  · exact offC p hp
end
end
section
open PySem PySem.W PyProof.Rows
/-- one backslash for each two from the left -/
noncomputable def halve : List Nat → List Nat
  | [] => []
  | [c] => [c]
  | c :: d :: r => if c = 92 ∧ d = 92 then 92 :: halve r else c :: halve (d :: r)
theorem halve_ne {d : Nat} (h : d ≠ 92) (r : List Nat) : halve (d :: r) = d :: halve r := by
  cases r with
  | nil => simp [halve]
  | cons e r => simp [halve, h]
theorem halve_dq : ∀ W : List Nat, halve W = (dqRun W).1 ++ (if (dqRun W).2 then [92] else [])
  | [] => by simp [halve, dqRun]
  | [c] => by
    by_cases h : c = 92
    · subst h; simp [halve, dqRun]
    · simp [halve, dqRun, h]
  | c :: d :: r => by
    by_cases h : c = 92
    · subst h
      by_cases h2 : d = 92
      · subst h2
        simp [halve, dqRun, halve_dq r]
      · have e : halve (92 :: d :: r) = 92 :: d :: halve r := by
          rw [halve, if_neg (by simp [h2]), halve_ne h2]
        rw [e, halve_dq r]
        simp [dqRun, h2]
    · have e : halve (c :: d :: r) = c :: halve (d :: r) := by rw [halve, if_neg (by simp [h])]
      rw [e, halve_dq (d :: r)]
      simp [dqRun, h]
/-- number of backslashes at the end -/
noncomputable def tb (W : List Nat) : Nat := (W.reverse.takeWhile (· == 92)).length
theorem dq_odd_snoc : ∀ (W : List Nat) (c : Nat), (dqRun (W ++ [c])).2 = if c = 92 then !(dqRun W).2 else false
  | [], c => by by_cases h : c = 92 <;> simp [dqRun, h]
  | [a], c => by
    by_cases ha : a = 92
    · subst ha
      by_cases h : c = 92 <;> simp [dqRun, h]
    · by_cases h : c = 92 <;> simp [dqRun, h, ha]
  | a :: b :: r, c => by
    by_cases ha : a = 92
    · subst ha
      have := dq_odd_snoc r c
      simp [dqRun, this]
    · have := dq_odd_snoc (b :: r) c
      simp only [List.cons_append] at this ⊢
      simp [dqRun, ha, this]
theorem dq_odd (W : List Nat) : (dqRun W).2 = decide (tb W % 2 = 1) := by
  have key : ∀ R : List Nat, (dqRun R.reverse).2 = decide ((R.takeWhile (· == 92)).length % 2 = 1) := by
    intro R
    induction R with
    | nil => simp [dqRun]
    | cons c r ih =>
      rw [List.reverse_cons, dq_odd_snoc]
      by_cases h : c = 92
      · subst h
        rw [if_pos rfl, ih]
        have e : (List.takeWhile (fun x => x == 92) (92 :: r)).length = (List.takeWhile (fun x => x == 92) r).length + 1 := by simp
        rw [e]
        by_cases h2 : (List.takeWhile (fun x => x == 92) r).length % 2 = 1
        · have h3 : ¬ ((List.takeWhile (fun x => x == 92) r).length + 1) % 2 = 1 := by omega
          simp [h2, h3]
        · have h3 : ((List.takeWhile (fun x => x == 92) r).length + 1) % 2 = 1 := by omega
          simp [h2, h3]
      · rw [if_neg h]
        simp [h]
  have := key W.reverse
  rwa [List.reverse_reverse] at this
/-- writing a value sign by sign -/
noncomputable def wr (f : Nat → List Nat) (v : List Nat) : List Nat := v.flatMap f
theorem wr_odd (f : Nat → List Nat) (h92 : f 92 = [92]) (hf : ∀ c, c ≠ 92 → ∃ a d, f c = a ++ [d] ∧ d ≠ 92) (v : List Nat) : (dqRun (wr f v)).2 = (dqRun v).2 := by
  have key : ∀ R : List Nat, (dqRun (wr f R.reverse)).2 = (dqRun R.reverse).2 := by
    intro R
    induction R with
    | nil => simp [wr]
    | cons c r ih =>
      rw [List.reverse_cons, dq_odd_snoc]
      have e : wr f (r.reverse ++ [c]) = wr f r.reverse ++ f c := by simp [wr]
      rw [e]
      by_cases h : c = 92
      · subst h
        rw [h92, dq_odd_snoc, ih]
      · obtain ⟨a, d, e2, hd⟩ := hf c h
        rw [e2, ← List.append_assoc, dq_odd_snoc, if_neg hd, if_neg h]
  have := key v.reverse
  rwa [List.reverse_reverse] at this
end
section
open PySem PySem.W PyProof.Rows
section
variable {α : Type} [DecidableEq α]
/-- unorderable_list_difference: the expected ones from the last to the first -/
noncomputable def uld : List α → List α → List α × List α
  | [], A => ([], A)
  | x :: R, A => if x ∈ A then uld R (A.erase x) else (x :: (uld R A).1, (uld R A).2)
/-- what is left of a list when g of each are taken, f of each having been seen -/
noncomputable def leftC (f : α → Nat) : List α → (α → Nat) → List α
  | [], _ => []
  | y :: A, g => (if f y + 1 > g y then [y] else []) ++ leftC (fun z => if z = y then f z + 1 else f z) A g
theorem leftC_eqv : ∀ (A : List α) (f f' g g' : α → Nat), (∀ z, f z + g' z = f' z + g z) → leftC f A g = leftC f' A g'
  | [], _, _, _, _, _ => rfl
  | y :: A, f, f', g, g', h => by
    simp only [leftC]
    have h1 : (f y + 1 > g y) ↔ (f' y + 1 > g' y) := by have := h y; omega
    rw [leftC_eqv A _ (fun z => if z = y then f' z + 1 else f' z) g g' fun z => by have := h z; split <;> omega]
    by_cases h2 : f y + 1 > g y
    · rw [if_pos h2, if_pos (h1.mp h2)]
    · rw [if_neg h2, if_neg fun q => h2 (h1.mpr q)]
theorem leftC_erase (x : α) : ∀ (A : List α) (f g : α → Nat), f x = 0 → leftC f (A.erase x) g = leftC f A (fun z => if z = x then g z + 1 else g z)
  | [], _, _, _ => rfl
  | y :: A, f, g, hf => by
    by_cases h : y = x
    · subst h
      rw [List.erase_cons_head]
      simp only [leftC, if_true]
      rw [if_neg (by omega), List.nil_append]
      exact leftC_eqv A _ _ _ _ fun z => by
        by_cases hz : z = y
        · simp [hz]; omega
        · simp [hz]
    · rw [List.erase_cons_tail (by simpa using h)]
      simp only [leftC, if_neg h]
      rw [leftC_erase x A _ g (by rw [if_neg (Ne.symm h)]; exact hf)]
theorem leftC_zero : ∀ (A : List α) (f g : α → Nat), (∀ y ∈ A, g y ≤ f y) → leftC f A g = A
  | [], _, _, _ => rfl
  | y :: A, f, g, h => by
    simp only [leftC]
    rw [if_pos (by have := h y (.head _); omega), leftC_zero A _ g fun z hz => by have := h z (.tail _ hz); split <;> omega]
    rfl
theorem uld_left : ∀ (R A : List α), (uld R A).2 = leftC (fun _ => 0) A fun z => R.count z
  | [], A => by
    rw [uld, leftC_zero A _ _ fun y _ => by simp]
  | x :: R, A => by
    have hg : (fun z => (x :: R).count z) = fun z => if z = x then R.count z + 1 else R.count z := by
      funext z
      by_cases h : z = x
      · subst h; simp
      · rw [if_neg h, List.count_cons_of_ne (Ne.symm h)]
    rw [uld]
    split
    · rw [uld_left R (A.erase x), leftC_erase x A _ _ rfl, hg]
    · rename_i hx
      show (uld R A).2 = _
      rw [uld_left R A, hg]
      have e : A.erase x = A := List.erase_of_not_mem hx
      conv => lhs; rw [← e]
      rw [leftC_erase x A _ _ rfl]
/-- the missing ones: those seen oftener than the other list holds them -/
noncomputable def missC (f : α → Nat) : List α → (α → Nat) → List α
  | [], _ => []
  | x :: R, a => (if f x + 1 > a x then [x] else []) ++ missC (fun z => if z = x then f z + 1 else f z) R a
theorem uld_miss : ∀ (R A : List α) (f a : α → Nat), (∀ z, A.count z = a z - f z) → (uld R A).1 = missC f R a
  | [], _, _, _, _ => rfl
  | x :: R, A, f, a, h => by
    rw [uld]
    simp only [missC]
    have hx := h x
    by_cases hm : x ∈ A
    · have hp : 0 < A.count x := List.count_pos_iff.mpr hm
      rw [if_pos hm, if_neg (by omega), List.nil_append]
      refine uld_miss R (A.erase x) _ a fun z => ?_
      by_cases hz : z = x
      · subst hz; rw [List.count_erase_self]; simp; omega
      · rw [List.count_erase_of_ne hz, if_neg hz]; exact h z
    · have hp : A.count x = 0 := List.count_eq_zero.mpr hm
      rw [if_neg hm, if_pos (by omega)]
      show x :: (uld R A).1 = _
      rw [uld_miss R A _ a fun z => ?_]
      · rfl
      · by_cases hz : z = x
        · subst hz; simp; omega
        · rw [if_neg hz]; exact h z
theorem uld_spec (R A : List α) : uld R A = (missC (fun _ => 0) R fun z => A.count z, leftC (fun _ => 0) A fun z => R.count z) :=
  Prod.ext (uld_miss R A _ _ fun z => by simp) (uld_left R A)
end
end
section
open PySem PySem.W PyProof.Rows
/-- a table of single signs, as lists -/
noncomputable def escL : List (Nat × List Nat) → List Nat → List Nat
  | [], l => l
  | (c, z) :: r, l => escL r (subst c z l)
theorem subst_flat (c : Nat) (z : List Nat) (l : List Nat) (f : Nat → List Nat) : subst c z (l.flatMap f) = l.flatMap fun k => subst c z (f k) := by
  induction l with
  | nil => rfl
  | cons a r ih => simp only [List.flatMap_cons, subst_append, ih]
theorem escL_flat : ∀ (tab : List (Nat × List Nat)) (l : List Nat) (f : Nat → List Nat), escL tab (l.flatMap f) = l.flatMap fun k => escL tab (f k)
  | [], _, _ => rfl
  | (c, z) :: r, l, f => by
    simp only [escL]
    rw [subst_flat, escL_flat r]
theorem escL_one (tab : List (Nat × List Nat)) (l : List Nat) : escL tab l = wr (fun k => escL tab [k]) l := by
  have e : l = l.flatMap fun k => [k] := by simp
  conv => lhs; rw [e]
  rw [escL_flat]
  rfl
theorem esc_L : ∀ (tab : List (Nat × List Nat)) (v : Str), (esc (tab.map fun p => ((⟨#[p.1]⟩ : Str), tx p.2)) v).cps.toList = escL tab v.cps.toList
  | [], _ => rfl
  | (c, z) :: r, v => by
    have h := esc_L r (Txt.replace v ⟨#[c]⟩ (tx z))
    simp only [escL]
    have e : (Txt.replace v ⟨#[c]⟩ (tx z)).cps.toList = subst c z v.cps.toList := by
      rw [replace_subst]
    rw [← e, ← h]
    rfl
noncomputable def lA : List (Nat × List Nat) := [(38, [38, 97, 109, 112, 59]), (60, [38, 108, 116, 59]), (62, [38, 103, 116, 59]), (34, [38, 113, 117, 111, 116, 59]), (13, [38, 35, 49, 51, 59]), (10, [38, 35, 49, 48, 59]), (9, [38, 35, 48, 57, 59])]
noncomputable def lH : List (Nat × List Nat) := [(38, [38, 97, 109, 112, 59]), (62, [38, 103, 116, 59]), (34, [38, 113, 117, 111, 116, 59])]
noncomputable def lC : List (Nat × List Nat) := [(38, [38, 97, 109, 112, 59]), (60, [38, 108, 116, 59]), (34, [38, 113, 117, 111, 116, 59]), (9, [38, 35, 120, 57, 59]), (10, [38, 35, 120, 65, 59]), (13, [38, 35, 120, 68, 59])]
theorem tabA_L : tabA = lA.map fun p => ((⟨#[p.1]⟩ : Str), tx p.2) := by kernel_rfl
theorem tabH_L : tabH = lH.map fun p => ((⟨#[p.1]⟩ : Str), tx p.2) := by kernel_rfl
theorem tabC_L : tabC = lC.map fun p => ((⟨#[p.1]⟩ : Str), tx p.2) := by kernel_rfl
noncomputable def tabL (turn : Int) : List (Nat × List Nat) := if turn = 0 then lA else if turn = 1 then lH else lC
theorem tabT_L (turn : Int) : tabT turn = (tabL turn).map fun p => ((⟨#[p.1]⟩ : Str), tx p.2) := by
  unfold tabT tabL
  split
  · exact tabA_L
  · split
    · exact tabH_L
    · exact tabC_L
/-- the written form of a value -/
noncomputable def writ (turn : Int) (v : List Nat) : List Nat := wr (fun k => escL (tabL turn) [k]) v
theorem esc_writ (turn : Int) (v : Str) : (esc (tabT turn) v).cps.toList = writ turn v.cps.toList := by
  rw [tabT_L, esc_L, escL_one]
  rfl
/-- the signs that a value of the law may hold -/
noncomputable def sigs : List Nat := [92, 97, 32, 34, 60, 62, 10, 38]
theorem writ_ok (turn : Int) {v : List Nat} (hv : ∀ c ∈ v, c ∈ sigs) : ∀ c ∈ writ turn v, c ≠ 34 ∧ c ≠ 9 ∧ c ≠ 13 ∧ c ≠ 39 := by
  have key : ∀ T ∈ [lA, lH, lC], ∀ k ∈ sigs, ∀ c ∈ escL T [k], c ≠ 34 ∧ c ≠ 9 ∧ c ≠ 13 ∧ c ≠ 39 := by decide +kernel
  have ht : tabL turn ∈ [lA, lH, lC] := by
    unfold tabL
    split
    · simp
    · split <;> simp
  intro c hc
  obtain ⟨k, hk, hck⟩ := List.mem_flatMap.mp hc
  exact key _ ht k (hv k hk) c hck
theorem writ_odd (turn : Int) {v : List Nat} (hv : ∀ c ∈ v, c ∈ sigs) : (dqRun (writ turn v)).2 = (dqRun v).2 := by
  have key : ∀ T ∈ [lA, lH, lC], ∀ k ∈ sigs, k ≠ 92 → (escL T [k]).getLast? ≠ none ∧ (escL T [k]).getLast? ≠ some 92 := by decide +kernel
  have k92 : ∀ T ∈ [lA, lH, lC], escL T [92] = [92] := by decide +kernel
  have ht : tabL turn ∈ [lA, lH, lC] := by
    unfold tabL
    split
    · simp
    · split <;> simp
  let f : Nat → List Nat := fun k => if k ∈ sigs then escL (tabL turn) [k] else [0]
  have e : writ turn v = wr f v := by
    clear key k92
    induction v with
    | nil => rfl
    | cons c r ih =>
      have h1 := ih fun x hx => hv x (.tail _ hx)
      have h2 : f c = escL (tabL turn) [c] := by simp only [f, if_pos (hv c (.head _))]
      unfold writ wr at h1 ⊢
      rw [List.flatMap_cons, List.flatMap_cons, h1, h2]
  rw [e]
  refine wr_odd f ?_ ?_ v
  · have : (92 : Nat) ∈ sigs := by decide
    simp only [f, if_pos this]
    exact k92 _ ht
  · intro c hc
    by_cases hs : c ∈ sigs
    · simp only [f, if_pos hs]
      obtain ⟨h1, h2⟩ := key _ ht c hs hc
      cases hl : (escL (tabL turn) [c]).getLast? with
      | none => exact absurd hl h1
      | some d =>
        obtain ⟨a, ha⟩ := List.getLast?_eq_some_iff.mp hl
        exact ⟨a, d, ha, fun hd => h2 (hd ▸ hl)⟩
    · simp only [f, if_neg hs]
      exact ⟨[], 0, rfl, by decide⟩
end
section
open PySem PySem.W PyProof.Rows
theorem rstrip_len (x : Str) : (Txt.rstripChars x (Str.ofString "\\")).length = x.length - tb x.cps.toList := by
  have hc : ∀ c, (Str.ofString "\\").cps.contains c = (c == 92) := by
    intro c
    have : (Str.ofString "\\").cps = #[92] := by decide +kernel
    rw [this]
    rw [Bool.eq_iff_iff]
    simp
  have hg : (fun c => (Str.ofString "\\").cps.contains c) = fun c => c == 92 := funext hc
  have hg2 : (Str.ofString "\\").cps.contains = fun c => c == 92 := hg
  have htb : tb x.cps.toList ≤ x.length := by
    unfold tb
    have := takeWhile_len_le (fun c => c == 92) x.cps.toList.reverse
    simpa [Str.length] using this
  have hhi : stripHi (fun c => c == 92) true x (stripLo (fun c => c == 92) false x) = x.length - tb x.cps.toList := by
    simp [stripHi, stripLo, tb]
  unfold Txt.rstripChars Txt.stripBy
  rw [hg2]
  split
  · rename_i h
    unfold stripSame at h
    rw [hhi] at h
    simp at h
    omega
  · unfold PySem.stripped
    rw [hhi]
    have e : stripLo (fun c => c == 92) false x = 0 := rfl
    rw [e]
    unfold Builtin.Str.strSub
    simp [Str.length] at htb ⊢
theorem oddB_dq (x : Str) : oddB x = (dqRun x.cps.toList).2 := by
  have htb : tb x.cps.toList ≤ x.length := by
    unfold tb
    have := takeWhile_len_le (fun c => c == 92) x.cps.toList.reverse
    simpa [Str.length] using this
  unfold oddB
  rw [dq_odd, rstrip_len]
  congr 1
  have e : ((x.length : Int) - ((x.length - tb x.cps.toList : Nat) : Int)) = (tb x.cps.toList : Int) := by omega
  rw [e]
  have e2 : Int.fmod (tb x.cps.toList : Int) 2 = ((tb x.cps.toList % 2 : Nat) : Int) := by
    rw [Int.fmod_eq_emod_of_nonneg _ (by omega)]
    omega
  rw [e2]
  apply propext
  omega
end
section
open PySem PySem.W PyProof.Rows PyProof.Rows.LCg PySem.Calls
theorem TxsAre.snoc {t : List Nat} {tr : Tok} : ∀ {vs : List Value} {ws : List (List Nat)}, TxsAre vs ws → TxsAre (vs ++ [.str (tx t) tr]) (ws ++ [t])
  | _, _, .nil => .cons .nil
  | _, _, .cons h => .cons h.snoc
theorem TxsAre.strs : ∀ {vs : List Value} {ws : List (List Nat)}, TxsAre vs ws → StrsAre vs (ws.map tx)
  | _, _, .nil => .nil
  | _, _, .cons h => .cons _ _ h.strs
theorem TxsAre.len : ∀ {vs : List Value} {ws : List (List Nat)}, TxsAre vs ws → vs.length = ws.length
  | _, _, .nil => rfl
  | _, _, .cons h => by simp [h.len]
theorem join_nil (ws : List (List Nat)) : Txt.join (Str.ofString "") (ws.map tx) = tx ws.flatten := by
  show Builtin.Str.glued _ _ = _
  rw [StrLaws.glued_eq_join]
  have e0 : (Str.ofString "") = tx [] := by decide +kernel
  rw [e0]
  induction ws with
  | nil => rfl
  | cons a r ih =>
    cases r with
    | nil => simp [Str.join]
    | cons b r =>
      have : Str.join (tx []) ((a :: b :: r).map tx) = tx a ++ tx [] ++ Str.join (tx []) ((b :: r).map tx) := rfl
      rw [this, ih, tx_app, tx_app]
      simp
theorem sum_len_le {n : Nat} : ∀ (ws : List (List Nat)), (∀ a ∈ ws, a.length ≤ n) → ((ws.map tx).map (·.length)).sum ≤ n * ws.length
  | [], _ => by simp
  | a :: r, h => by
    have := sum_len_le r fun b hb => h b (.tail _ hb)
    have h1 := h a (.head _)
    have h2 := tx_len a
    simp only [List.map_cons, List.sum_cons, List.length_cons, Nat.mul_succ]
    omega
noncomputable def plainP (turn : Int) (c : Nat) : List Nat := if c = 38 then [38, 97, 109, 112, 59] else if c = 60 then (if turn = 1 then [60] else [38, 108, 116, 59]) else if c = 62 then (if turn = 0 ∨ turn = 1 then [38, 103, 116, 59] else [62]) else if c = 34 then [38, 113, 117, 111, 116, 59] else if c = 10 then (if turn = 0 then [38, 35, 49, 48, 59] else if turn = 1 then [10] else [38, 35, 120, 65, 59]) else [c]
theorem plainP_len (turn : Int) (c : Nat) : (plainP turn c).length ≤ 6 := by
  unfold plainP
  repeat' split
  all_goals simp
/-- a table of texts by single signs -/
noncomputable def Tab (w : World) (o : Obj) (f : Nat → List Nat) : Prop := ∃ kvs, o.IsDictOf (PySem.strKind P w) kvs ∧ ∀ c u, ∃ t, (PySem.valueAt kvs ⟨#[c]⟩).getD (.str ⟨#[c]⟩ u) = .str (tx (f c)) t
noncomputable def tabF : List (Nat × List Nat) → Nat → List Nat
  | [], c => [c]
  | (k, z) :: r, c => if c = k then z else tabF r c
theorem one_eq (a b : Nat) : ((⟨#[a]⟩ : Str) = ⟨#[b]⟩) = (a = b) := by simp
theorem tab_of {w : World} {o : Obj} : ∀ (l : List (Nat × List Nat)), TabObj (PySem.strKind P w) PyData.str (l.map fun p => (PyData.str ⟨#[p.1]⟩, PyData.str (tx p.2))) o → Tab w o (tabF l) := by
  rintro l ⟨kvs, hd, fp⟩
  refine ⟨kvs, hd, ?_⟩
  clear hd
  induction l generalizing kvs with
  | nil =>
    cases fp
    intro c u
    exact ⟨u, rfl⟩
  | cons p r ih =>
    cases fp with
    | cons fv fr =>
      intro c u
      obtain ⟨t1, rfl⟩ := fv.str_inv
      simp only [PySem.valueAt, List.find?_cons, tabF]
      by_cases h : c = p.1
      · subst h
        simp
      · have h2 : ¬ ((⟨#[p.1]⟩ : Str) = ⟨#[c]⟩) := by rw [one_eq]; exact fun e => h e.symm
        simp only [h2, decide_false, if_neg h]
        exact ih _ fr c u
theorem dict_own {w : World} {A : Around} {E : Value → Shared → Prop} {s : Shared} {env : Env} {h₀ : Heap} {L : Addr} {m : Str → Option Value} {news : List (Addr × Obj)} {Q : Value → Shared → Prop} {keys : List (Option PySem.Expr)} {values : List PySem.Expr} {pos : Pos} {D : List (PyData × PyData)} (F : Fr h₀ L s.heap m) (N : News h₀ L s.heap news) (hbig : h₀.NoLimit) (hD : litPairs keys values = some D) (hs : strKeyed D = true) (hn : (strKeysOf D).Nodup)
    (hall : keys.all (·.isSome) = true) (hl : keys.length = values.length) (h0 : keys ≠ []) (hlen : keys.length ≤ 15)
    (h : ∀ a o h' tk, Fr h₀ L h' m → News h₀ L h' ((a, o) :: news) → (∀ p ∈ news, p.1 < a) → (a == sysModules) = false → TabObj (PySem.strKind P w) PyData.str D o → Q (.ref a) { s with heap := h', toks := tk }) :
    wpAny (model P w) A (eval (.Dict keys values pos) env) Q E s := by
  refine Dict_lits_str hD hs hn hall hl h0 hlen fun a o h₁ tk ha ho ht hk => ?_
  have hlt : L < a := Nat.lt_of_lt_of_le F.ns.lt ha
  have hsm : sysModules < s.heap.objs.size := Nat.lt_of_lt_of_le (modules_low hbig) (Nat.le_trans F.above (Nat.le_of_lt F.ns.lt))
  refine h a o h₁ tk (F.keeps hk) (fun p hp => ?_) (fun p hp => Nat.lt_of_lt_of_le (Heap.lt_size (N p hp).1) ha) (by rw [beq_eq_false_iff_ne]; exact Nat.ne_of_gt (Nat.lt_of_lt_of_le hsm ha)) ht
  rcases List.mem_cons.mp hp with rfl | hp
  · refine ⟨ho, Nat.ne_of_gt hlt, ?_⟩
    cases q : h₀.get? a with
    | none => rfl
    | some o' => exact absurd (Heap.lt_size (F.keep _ _ q)) (Nat.not_lt.mpr ha)
  · exact ⟨hk _ _ (N p hp).1, (N p hp).2⟩
local macro_rules | `(tactic| walk_at "eval Dict") => `(tactic| (k_here; k_dflt (refine' dict_own ?F ?N ?b ?d ?s ?n ?a ?l ?e ?z ?_; walk_at "FN"; (case b => exact Top.nolimit (by k_asm)); (case d | s | a | l => exact rfl); (case n => decide +kernel); (case e => exact List.cons_ne_nil _ _); (case z => exact Nat.le_of_ble_eq_true rfl)); intro a9 o9 h9 tk9 F9 N9 l9 lo9 tb9; k_lt l9))
local macro_rules | `(tactic| walk_at "eval ListComp") => `(tactic| (k_here; k_dflt (refine ListComp_O (c := none) (by k_asm) (by walk_at "uf") (by decide) (by rfl) (by decide) ?_)))
noncomputable abbrev scPl : Scope := { kind := .function, names := [(".0", .local), ("sign", .local), ("table", .free)], isGenerator := false, isCoroutine := false, more := [] }
noncomputable abbrev envPl (L : Addr) : Env := envOfC (Str.ofString "_law_plain") (sScope (topAt 31)) L 786 (Value.ref 785)
theorem get_tab {w : World} {A : Around} {E : Value → Shared → Prop} {s : Shared} {h₀ : Heap} {L d : Addr} {news : List (Addr × Obj)} {o : Obj} {f : Nat → List Nat} {c : Nat} {u u' : Tok} {Q : Value → Shared → Prop} (N : News h₀ L s.heap news) (hm : (d, o) ∈ news) (tb : Tab w o f) (lo : (d == sysModules) = false)
    (h : ∀ t tk, Q (.str (tx (f c)) t) { s with toks := tk }) : wpAny (model P w) A (call (.builtin "dict.get") [.ref d, .str ⟨#[c]⟩ u, .str ⟨#[c]⟩ u']) Q E s := by
  obtain ⟨kvs, hd, hv⟩ := tb
  obtain ⟨t, e⟩ := hv c u'
  exact kdg_get2 (knd := PySem.strKind _ _) N hm hd lo (strKind_is _ _ _ _) _ rfl (by rw [e]; exact h _ _)
theorem meth_tab {w : World} {A : Around} {E : Value → Shared → Prop} {s : Shared} {h₀ : Heap} {L d : Addr} {news : List (Addr × Obj)} {o : Obj} {f : Nat → List Nat} {pl : Sem Bool} {Q : Value × List Value → Shared → Prop} (N : News h₀ L s.heap news) (hm : (d, o) ∈ news) (tb : Tab w o f)
    (h : Q (.builtin "dict.get", [.ref d]) s) : wpAny (model P w) A (getMethod (.ref d) "get" pl) Q E s := by
  obtain ⟨kvs, hd, hv⟩ := tb
  exact kdg_method N hm hd h
local macro_rules | `(tactic| walk_at "getMethod ref") => `(tactic| (k_here; k_dflt (refine meth_tab (by k_asm) (by k_mem) (by assumption) ?_)))
local macro_rules | `(tactic| walk_at "call builtin:dict.get") => `(tactic| (k_here; k_dflt (refine get_tab (by k_asm) (by k_mem) (by assumption) (by assumption) ?_); intro t9 tk9))
local macro_rules | `(tactic| k_mem) => `(tactic| assumption)
local macro_rules | `(tactic| walk_at "eval Call Attribute") => `(tactic| (k_here; k_dflt (refine MethodCall_ ?_)))
theorem plain_src {w : World} {ps : Program} {loose : List Str} {mean : ExcName → Option Value} {mg mb : Str → Option Value} {A₀ : Around} {base g : Heap} {outer : List Env} {L : Addr} {m : Str → Option Value} {s₁ : Shared} {news : List (Addr × Obj)} {d c : Addr} {o oc : Obj} {f : Nat → List Nat} {v : Str} {tv : Tok} {Fin : Shared → List Value → List (Addr × Obj) → Prop}
    (B : Below A₀ base outer g) (X : (K w.params).In g) (T : Top ps loose mean mg mb g) (hh : A₀.handled = none) (F : Fr g L s₁.heap m) (N : News g L s₁.heap news) (hd : (d, o) ∈ news) (hc : (c, oc) ∈ news) (ho : oc.data = .cell (some (.ref d))) (tb : Tab w o f) (lo : (d == sysModules) = false) (ht : 0 < s₁.toks) (hv : v.length ≤ 16)
    (fin : ∀ ys, TxsAre ys (v.cps.toList.map f) → Fin s₁ ys news) :
    CSrc P w (A₀.deeper (envPl L)) g L m (envPl L) none (.Call (.Attribute (.Name "table" ⟨812, 20, 812, 25⟩) "get" ⟨812, 20, 812, 29⟩) [.Name "sign" ⟨812, 30, 812, 34⟩, .Name "sign" ⟨812, 36, 812, 40⟩] [] ⟨812, 20, 812, 41⟩) (.Name "sign" ⟨812, 46, 812, 50⟩) scPl [(Str.ofString "table", c)] Fin (.str v tv) s₁ := by
  refine ⟨news, _, _, _, _, fun i ys nw => nw = news ∧ TxsAre ys ((v.cps.toList.take i).map f), iters_str hh, fun C => bind_name (by rfl) (by rfl), F, N, ht, by rw [show v.cps.size = v.length from rfl]; exact Nat.le_trans hv (by decide), ⟨rfl, .nil⟩, ?_, ?_⟩
  · rintro i ys nw v1 m₁ m₂ I oI C oC D h tk E' hi ⟨c1, u1, hc1, rfl⟩ ⟨rfl, hys⟩ hyl hBd hoC F1 N1 off ne hsub htk
    have hx : m₂ (Str.ofString "sign") = some (.str ⟨#[c1]⟩ u1) := by rw [hBd]; exact if_pos rfl
    show wpAny _ _ (eval _ _) _ _ _
    have hd' : (d, o) ∈ ((I, oI) :: (C, oC) :: (D, lst ys) :: nw) := .tail _ (.tail _ (.tail _ hd))
    have hc' : (c, oc) ∈ ((I, oI) :: (C, oC) :: (D, lst ys) :: nw) := .tail _ (.tail _ (.tail _ hc))
    have hC' : (C, oC) ∈ ((I, oI) :: (C, oC) :: (D, lst ys) :: nw) := .tail _ (.head _)
    k_steps
    refine ⟨h, _, nw, rfl, F1, N1, off, fun _ hp => hp, rfl, ?_⟩
    have hlt : i < v.cps.toList.length := hi
    have e : (v.cps.toList.take (i + 1)).map f = (v.cps.toList.take i).map f ++ [f c1] := by
      have hg : v.cps.toList[i] = c1 := by simpa [Array.getElem?_eq_getElem (show i < v.cps.size from hi)] using hc1
      rw [List.take_add_one, List.getElem?_eq_getElem hlt, hg]; simp
    rw [if_pos trivial, e]
    exact hys.snoc
  · rintro ys nw ⟨rfl, hys⟩
    refine fin ys ?_
    rwa [List.take_of_length_le (by simp)] at hys
theorem tab0 {w : World} {o : Obj} {turn : Int} (ht : turn = 0) (h : TabObj (PySem.strKind P w) PyData.str [(PyData.str (Str.ofString "&"), PyData.str (Str.ofString "&amp;")), (PyData.str (Str.ofString "<"), PyData.str (Str.ofString "&lt;")), (PyData.str (Str.ofString ">"), PyData.str (Str.ofString "&gt;")), (PyData.str (Str.ofString "\""), PyData.str (Str.ofString "&quot;")), (PyData.str (Str.ofString "\n"), PyData.str (Str.ofString "&#10;"))] o) : Tab w o (plainP turn) := by
  have e : plainP turn = tabF [(38, [38, 97, 109, 112, 59]), (60, [38, 108, 116, 59]), (62, [38, 103, 116, 59]), (34, [38, 113, 117, 111, 116, 59]), (10, [38, 35, 49, 48, 59])] := by
    funext c
    subst ht
    simp [plainP, tabF]
  rw [e]
  exact tab_of _ (by refine Eq.mp (congrArg (fun D => TabObj (PySem.strKind P w) PyData.str D o) ?_) h; kernel_rfl)
theorem tab1 {w : World} {o : Obj} {turn : Int} (ht : turn = 1) (h : TabObj (PySem.strKind P w) PyData.str [(PyData.str (Str.ofString "&"), PyData.str (Str.ofString "&amp;")), (PyData.str (Str.ofString ">"), PyData.str (Str.ofString "&gt;")), (PyData.str (Str.ofString "\""), PyData.str (Str.ofString "&quot;"))] o) : Tab w o (plainP turn) := by
  have e : plainP turn = tabF [(38, [38, 97, 109, 112, 59]), (62, [38, 103, 116, 59]), (34, [38, 113, 117, 111, 116, 59])] := by
    funext c
    subst ht
    simp only [plainP, tabF]
    by_cases h1 : c = 38
    · simp [h1]
    · by_cases h2 : c = 60
      · simp [h2]
      · by_cases h3 : c = 10
        · simp [h3]
        · simp [h1, h2, h3]
  rw [e]
  exact tab_of _ (by refine Eq.mp (congrArg (fun D => TabObj (PySem.strKind P w) PyData.str D o) ?_) h; kernel_rfl)
theorem tab2 {w : World} {o : Obj} {turn : Int} (h0 : ¬ turn = 0) (h1 : ¬ turn = 1) (h : TabObj (PySem.strKind P w) PyData.str [(PyData.str (Str.ofString "&"), PyData.str (Str.ofString "&amp;")), (PyData.str (Str.ofString "<"), PyData.str (Str.ofString "&lt;")), (PyData.str (Str.ofString "\""), PyData.str (Str.ofString "&quot;")), (PyData.str (Str.ofString "\n"), PyData.str (Str.ofString "&#xA;"))] o) : Tab w o (plainP turn) := by
  have e : plainP turn = tabF [(38, [38, 97, 109, 112, 59]), (60, [38, 108, 116, 59]), (34, [38, 113, 117, 111, 116, 59]), (10, [38, 35, 120, 65, 59])] := by
    funext c
    simp only [plainP, tabF, if_neg h0, if_neg h1, h0, h1, or_self, if_false]
    by_cases h2 : c = 62
    · simp [h2]
    · simp [h2]
  rw [e]
  exact tab_of _ (by refine Eq.mp (congrArg (fun D => TabObj (PySem.strKind P w) PyData.str D o) ?_) h; kernel_rfl)
theorem join_txs {w : World} {A : Around} {E : Value → Shared → Prop} {s : Shared} {h₀ : Heap} {L D : Addr} {news : List (Addr × Obj)} {ys : List Value} {ws : List (List Nat)} {t : Tok} {Q : Value → Shared → Prop} (N : News h₀ L s.heap news) (hm : (D, lst ys) ∈ news) (hy : TxsAre ys ws) (hw : ((ws.map tx).map (·.length)).sum + (ws.map tx).length ≤ 1048576)
    (h : ∀ t' tk, Q (.str (tx ws.flatten) t') { s with toks := tk }) : wpAny (model P w) A (call (.builtin "str.join") [.str (Str.ofString "") t, .ref D]) Q E s := by
  refine join_listW (News.isList N hm) (by simpa using hy.strs) (by decide +kernel) hw fun t' k => ?_
  rw [join_nil]
  exact h t' k
theorem plain_gives {w : World} {news : List (Addr × Obj)} (turn : Int) (tt : Tok) (v : Str) (tv : Tok) (hv : v.length ≤ 16) : Gives w 786 [.int turn tt, .str v tv] 3 24 news fun r news' => (∃ t, r = .str (tx (v.cps.toList.flatMap (plainP turn))) t) ∧ news' = news := by
  intro ps loose mean mg mb dp u gd cn cs a ccd cl outer A₀ base h₀ L m s Q E B F X N T hk hd hu ht ret
  refine wpAny_call ?_
  k_dflt (refine' code_defCT (binds := [("turn", .int turn tt), ("value", .str v tv)]) ht ?k1 ?k2 ?k3 ?k4 ?k5 ?kA ?kF ?kK ?k6 ?k7 ?k8 ?k9 ?kB ?kD ?_ ?c2 ?c3 ?c4; (case kA => exact rfl); (case kF => exact rfl); (case kK => assumption); (case k1 => k_asm); (case k2 => k_asm); (case k3 => k_asm); (case k4 => k_asm); (case k5 => k_asm); (case k6 => k_is); (case k7 => k_is); (case k8 => ktr_room); (case k9 => exact kp_binds (by k_in) (fun S => by kernel_rfl)); (case kB => exact rfl); (case kD => decide +kernel); (case c2 => exact rfl); (case c3 => exact rfl); (case c4 => exact rfl); k_whole; intro g' L' h' tk' cells' htk' FG' F' N' Y' B' X' T' l1; k_cells Y'; (try simp only [List.cons_append, List.nil_append] at N'); (try dsimp only); (try k_lift B'); (try k_fold))
  have hne1 : ∀ p ∈ news, p.1 ≠ L' + 1 := fun p hp => Nat.ne_of_lt (Nat.lt_succ_of_lt (l1 p hp))
  k_steps
  all_goals (
    k_dflt (refine' plain_src (f := plainP turn) B' X' T' rfl ?F ?N ?hd ?hc ?ho ?tb ?lo ?ht hv ?fin)
    (case F => k_asm)
    (case N => k_asm)
    (case hd => exact .head _)
    (case ho => first | assumption)
    (case tb => first | exact tab0 (by assumption) (by assumption) | exact tab1 (by assumption) (by assumption) | exact tab2 (by assumption) (by assumption) (by assumption))
    (case hc => repeat (first | exact .head _ | apply List.Mem.tail))
    (case lo => assumption)
    (case ht => first | assumption | exact Nat.succ_pos _ | omega)
    (case fin =>
      intro ys hys D9 h9 tk9 F9 N9 o9 htk9
      k_steps
      refine join_txs N9 (.head _) hys ?_ fun t8 tk8 => ?_
      · have h1 := sum_len_le (n := 6) (v.cps.toList.map (plainP turn)) (fun z hz => by
          obtain ⟨c, _, rfl⟩ := List.mem_map.mp hz
          exact plainP_len turn c)
        have h2 : (v.cps.toList.map (plainP turn)).length = v.length := by simp [Str.length]
        rw [List.length_map]
        omega
      · intro hle8
        k_steps
        rename News _ _ _ _ => nEnd
        exact ret _ news _ _ (by k_asm) (News.sub nEnd fun p hp => by simp [hp]) ⟨⟨_, rfl⟩, rfl⟩))
end
section
open PySem PySem.W PyProof.Rows PyProof.Rows.LCg PySem.Calls
/-- refs to pairs of texts that stand in the ledger -/
inductive PairRefs (news : List (Addr × Obj)) : List Value → List (Nat × List Nat) → Prop
  | nil : PairRefs news [] []
  | cons {T : Addr} {o : Obj} {n : Nat} {v : List Nat} {t1 t2 : Tok} {k : Nat} {vs : List Value} {ps : List (Nat × List Nat)} : (T, o) ∈ news → o.cls = .type "tuple" → o.data = .seq #[.str ⟨#[n]⟩ t1, .str (tx v) t2] k → PairRefs news vs ps → PairRefs news (.ref T :: vs) ((n, v) :: ps)
theorem PairRefs.mono {news news' : List (Addr × Obj)} (h : ∀ p ∈ news, p ∈ news') : ∀ {vs : List Value} {ps : List (Nat × List Nat)}, PairRefs news vs ps → PairRefs news' vs ps
  | _, _, .nil => .nil
  | _, _, .cons a b c r => .cons (h _ a) b c (r.mono h)
theorem PairRefs.len {news : List (Addr × Obj)} : ∀ {vs : List Value} {ps : List (Nat × List Nat)}, PairRefs news vs ps → vs.length = ps.length
  | _, _, .nil => rfl
  | _, _, .cons _ _ _ r => by simp [r.len]
theorem PairRefs.get {news : List (Addr × Obj)} : ∀ {vs : List Value} {ps : List (Nat × List Nat)} {i : Nat} {x : Value}, PairRefs news vs ps → vs[i]? = some x → ∃ T o n v t1 t2 k, x = .ref T ∧ ps[i]? = some (n, v) ∧ (T, o) ∈ news ∧ o.cls = .type "tuple" ∧ o.data = .seq #[.str ⟨#[n]⟩ t1, .str (tx v) t2] k
  | _, _, 0, _, .cons a b c r, h => by
    simp at h; subst h
    exact ⟨_, _, _, _, _, _, _, rfl, rfl, a, b, c⟩
  | _, _, i + 1, _, .cons a b c r, h => by
    simp at h
    obtain ⟨T, o, n, v, t1, t2, k, h1, h2, h3⟩ := r.get h
    exact ⟨T, o, n, v, t1, t2, k, h1, by simpa using h2, h3⟩
  | _, _, _, _, .nil, h => by simp at h
noncomputable def PairsAt (news : List (Addr × Obj)) (lp : Addr) (ps : List (Nat × List Nat)) : Prop := ∃ vs cc, (lp, listO vs.toArray cc) ∈ news ∧ PairRefs news vs ps
theorem PairsAt.mono {news news' : List (Addr × Obj)} {lp : Addr} {ps : List (Nat × List Nat)} (h : ∀ p ∈ news, p ∈ news') (x : PairsAt news lp ps) : PairsAt news' lp ps := by
  obtain ⟨vs, cc, a, b⟩ := x
  exact ⟨vs, cc, h _ a, b.mono h⟩
theorem join_sp (ws : List (Nat × List Nat)) : Txt.join (Str.ofString " ") ((ws.map seg).map tx) = tx (rowL ws) := by
  show Builtin.Str.glued _ _ = _
  rw [StrLaws.glued_eq_join]
  have e0 : (Str.ofString " ") = tx [32] := by decide +kernel
  rw [e0]
  have key : ∀ (r : List (Nat × List Nat)) (p : Nat × List Nat), Str.join (tx [32]) (((p :: r).map seg).map tx) = tx (seg p ++ rest r) := by
    intro r
    induction r with
    | nil => intro p; simp [Str.join, rest]
    | cons b r ih =>
      intro p
      have : Str.join (tx [32]) (((p :: b :: r).map seg).map tx) = tx (seg p) ++ tx [32] ++ Str.join (tx [32]) (((b :: r).map seg).map tx) := rfl
      rw [this, ih, tx_app, tx_app]
      simp [rest]
  cases ws with
  | nil => rfl
  | cons p r => exact key r p
noncomputable abbrev scRd : Scope := { kind := .function, names := [(".0", .local), ("name", .local), ("value", .local), ("_law_escaped", .globalImplicit), ("turn", .free)], isGenerator := false, isCoroutine := false, more := [] }
noncomputable abbrev envRd (L : Addr) : Env := envOfC (Str.ofString "_law_read") (sScope (topAt 32)) L 791 (Value.ref 790)
theorem esc_tx (turn : Int) (v : List Nat) : esc (tabT turn) (tx v) = tx (writ turn v) := str_ext (by rw [esc_writ])
theorem writ_len (turn : Int) {v : List Nat} (hv : ∀ c ∈ v, c ∈ sigs) : (writ turn v).length ≤ 6 * v.length := by
  have key : ∀ T ∈ [lA, lH, lC], ∀ k ∈ sigs, (escL T [k]).length ≤ 6 := by decide +kernel
  have ht : tabL turn ∈ [lA, lH, lC] := by
    unfold tabL
    split
    · simp
    · split <;> simp
  induction v with
  | nil => simp [writ, wr]
  | cons c r ih =>
    have h1 := ih fun x hx => hv x (.tail _ hx)
    have h2 := key _ ht c (hv c (.head _))
    unfold writ wr at h1 ⊢
    rw [List.flatMap_cons, List.length_append, List.length_cons]
    omega
theorem escW_gives {w : World} {news : List (Addr × Obj)} (turn : Int) (tt : Tok) (v : List Nat) (tv : Tok) (hv : v.length ≤ 16) : Gives w 781 [.int turn tt, .str (tx v) tv] 2 16 news fun r news' => (∃ t, r = .str (tx (writ turn v)) t) ∧ news' = news := by
  have := escaped_gives (w := w) (news := news) turn tt (tx v) tv (by rw [tx_len]; exact hv)
  rwa [esc_tx] at this
theorem add_pos {w : World} {A : Around} {E : Value → Shared → Prop} {s : Shared} {x y : Str} {t u : Tok} {Q : Value → Shared → Prop} (ht : 0 < s.toks) (hs : x.length + y.length ≤ 100000) (h : ∀ t' tk, 0 < tk → Q (.str (x ++ y) t') { s with toks := tk }) : wpAny (model P w) A (binaryOp .Add (.str x t) (.str y u)) Q E s :=
  wpAny_toks (SBL.add (fun t' k _ hle => h t' k (Nat.lt_of_lt_of_le ht hle)) (Nat.le_trans hs (by decide)))
local macro_rules | `(tactic| k_mem) => `(tactic| assumption)
local macro_rules | `(tactic| walk_at "binaryOp Add str str") => `(tactic| (k_here; k_dflt (refine' add_pos ?ht ?hs ?_; (case ht => walk_at "kt"); (case hs => assumption); intro t9 tk9 htk9; walk_at "ds")))
local macro_rules | `(tactic| walk_at "call ref") => `(tactic| (k_here; (with_reducible show wpAny _ _ (call (Value.ref 781) [Value.int _ _, Value.str _ _]) _ _ _); k_dflt (refine' gives_use (escW_gives _ _ _ _ ?hv) ?k1 ?k2 ?k3 ?k4 ?k5 ?kK ?kd ?ku ?kt ?_; (case hv => walk_at "as"); walk_at "use"; walk_at "p3")))
theorem read_src {w : World} {ps : Program} {loose : List Str} {mean : ExcName → Option Value} {mg mb : Str → Option Value} {dp u : Nat} {gd : Option (List Code)} {cn : Str} {cs : Scope} {a : Addr} {ccd : Value} {cl : List (Str × Addr)} {outer : List Env} {base g : Heap} {L0 L : Addr} {m : Str → Option Value} {s₁ : Shared} {news : List (Addr × Obj)} {lp c : Addr} {oc : Obj} {turn : Int} {tt : Tok} {prs : List (Nat × List Nat)} {Fin : Shared → List Value → List (Addr × Obj) → Prop}
    (B : Below (ktrTop dp u gd cn cs L0 a ccd cl outer) base (envX cn cs L0 a ccd cl :: outer) g) (X : (K w.params).In g) (T : Top ps loose mean mg mb g) (F : Fr g L s₁.heap m) (N : News g L s₁.heap news) (hp : PairsAt news lp prs) (hc : (c, oc) ∈ news) (ho : oc.data = .cell (some (.int turn tt))) (ht : 0 < s₁.toks) (hd : dp + 10 < recursionLimit) (hu : u + 60 < cLine) (hl : prs.length ≤ 20) (hv : ∀ p ∈ prs, p.2.length ≤ 16) (hsg : ∀ p ∈ prs, ∀ c ∈ p.2, c ∈ sigs)
    (fin : ∀ ys, TxsAre ys ((prs.map fun p => (p.1, writ turn p.2)).map seg) → Fin s₁ ys news) :
    CSrc P w ((ktrTop dp u gd cn cs L0 a ccd cl outer).deeper (envRd L)) g L m (envRd L) none (.BinOp (.BinOp (.BinOp (.Name "name" ⟨814, 20, 814, 24⟩) .Add (.Constant (.str "=\"") 0 ⟨814, 27, 814, 31⟩) ⟨814, 20, 814, 31⟩) .Add (.Call (.Name "_law_escaped" ⟨814, 34, 814, 46⟩) [.Name "turn" ⟨814, 47, 814, 51⟩, .Name "value" ⟨814, 53, 814, 58⟩] [] ⟨814, 34, 814, 59⟩) ⟨814, 20, 814, 59⟩) .Add (.Constant (.str "\"") 0 ⟨814, 62, 814, 65⟩) ⟨814, 20, 814, 65⟩) (.Tuple [.Name "name" ⟨814, 70, 814, 74⟩, .Name "value" ⟨814, 76, 814, 81⟩] 0 ⟨814, 70, 814, 81⟩) scRd [(Str.ofString "turn", c)] Fin (.ref lp) s₁ := by
  obtain ⟨vs, cc, hlp, hrefs⟩ := hp
  have hlen := hrefs.len
  refine ⟨news, _, _, _, _, fun i ys nw => nw = news ∧ TxsAre ys (((prs.map fun p => (p.1, writ turn p.2)).map seg).take i), iters_list rfl hlp (fun p hp => (N p hp).1), fun C => bind_pair rfl (fun i v h => ?_) (by rfl) (by rfl) (by rfl), F, N, ht, ?_, ⟨rfl, .nil⟩, ?_, ?_⟩
  · obtain ⟨T, o, n, v, t1, t2, k, h1, _, h3, h4, h5⟩ := hrefs.get (by simpa using h)
    exact ⟨T, o, _, _, k, h1, h3, h4, h5⟩
  · have : vs.toArray.size = vs.length := by simp
    rw [this, hlen]
    exact Nat.le_trans hl (by decide)
  · rintro i ys nw v1 m₁ m₂ I oI C oC D h tk E' hi hP ⟨rfl, hys⟩ hyl hBd hoC F1 N1 off ne hsub htk
    obtain ⟨T', o', n, v, t1, t2, k, rfl, hpi, h3, h4, h5⟩ := hrefs.get (x := v1) (i := i) (by simpa using hP)
    have hm2 := hBd T' o' _ _ k rfl h3 h4 h5
    have hx1 : m₂ (Str.ofString "name") = some (.str ⟨#[n]⟩ t1) := by rw [hm2]; rfl
    have hx2 : m₂ (Str.ofString "value") = some (.str (tx v) t2) := by rw [hm2]; rfl
    have hvl : v.length ≤ 16 := hv (n, v) (List.mem_of_getElem? hpi)
    have hwl := writ_len turn (hsg (n, v) (List.mem_of_getElem? hpi))
    have e1 : (⟨#[n]⟩ : Str).length = 1 := rfl
    have e2 : (Str.ofString "=\"").length = 2 := by decide +kernel
    have e3 : (Str.ofString "\"").length = 1 := by decide +kernel
    have e4 := tx_len (writ turn v)
    have hs1 : (⟨#[n]⟩ : Str).length + (Str.ofString "=\"").length ≤ 100000 := by omega
    have hs2 : ((⟨#[n]⟩ : Str) ++ Str.ofString "=\"").length + (tx (writ turn v)).length ≤ 100000 := by rw [Str.length_append]; dsimp only at hwl; omega
    have hs3 : ((⟨#[n]⟩ : Str) ++ Str.ofString "=\"" ++ tx (writ turn v)).length + (Str.ofString "\"").length ≤ 100000 := by rw [Str.length_append, Str.length_append]; dsimp only at hwl; omega
    clear e1 e2 e3 e4 hwl
    show wpAny _ _ (eval _ _) _ _ _
    have hc' : (c, oc) ∈ ((I, oI) :: (C, oC) :: (D, lst ys) :: nw) := .tail _ (.tail _ (.tail _ hc))
    have hC' : (C, oC) ∈ ((I, oI) :: (C, oC) :: (D, lst ys) :: nw) := .tail _ (.head _)
    k_steps
    rename News _ _ _ _ => nEnd
    refine ⟨_, _, nw, rfl, by k_asm, nEnd, off, fun _ hp => hp, rfl, ?_⟩
    have e : (⟨#[n]⟩ : Str) ++ Str.ofString "=\"" ++ tx (writ turn v) ++ Str.ofString "\"" = tx (seg (n, writ turn v)) := by
      have e2 : (Str.ofString "=\"") = tx [61, 34] := by decide +kernel
      have e3 : (Str.ofString "\"") = tx [34] := by decide +kernel
      rw [e2, e3]
      apply str_ext
      simp [Str.cps_append, seg]
    have hlt : i < (List.map seg (List.map (fun p => (p.fst, writ turn p.snd)) prs)).length := by
      rw [List.length_map, List.length_map]; exact (List.getElem?_eq_some_iff.mp hpi).1
    have e5 : (List.map seg (List.map (fun p => (p.fst, writ turn p.snd)) prs)).take (i + 1) = (List.map seg (List.map (fun p => (p.fst, writ turn p.snd)) prs)).take i ++ [seg (n, writ turn v)] := by
      rw [List.take_add_one]
      congr 1
      rw [List.getElem?_map, List.getElem?_map, hpi]
      rfl
    rw [if_pos rfl, e5, e]
    exact hys.snoc
  · rintro ys nw ⟨rfl, hys⟩
    refine fin ys ?_
    rwa [List.take_of_length_le (by simp [hlen])] at hys
theorem join_row {w : World} {A : Around} {E : Value → Shared → Prop} {s : Shared} {h₀ : Heap} {L D : Addr} {news : List (Addr × Obj)} {ys : List Value} {ws : List (Nat × List Nat)} {t : Tok} {Q : Value → Shared → Prop} (ht : 0 < s.toks) (N : News h₀ L s.heap news) (hm : (D, lst ys) ∈ news) (hy : TxsAre ys (ws.map seg)) (hw : ((((ws.map seg)).map tx).map (·.length)).sum + ((ws.map seg).map tx).length ≤ 1048576)
    (h : ∀ t' tk, 0 < tk → Q (.str (tx (rowL ws)) t') { s with toks := tk }) : wpAny (model P w) A (call (.builtin "str.join") [.str (Str.ofString " ") t, .ref D]) Q E s := by
  refine wpAny_toks (join_listW (News.isList N hm) (by simpa using hy.strs) (by decide +kernel) hw fun t' k hle => ?_)
  rw [join_sp]
  exact h t' k (Nat.lt_of_lt_of_le ht hle)
local macro_rules | `(tactic| walk_at "eval ListComp") => `(tactic| (k_here; k_dflt (refine ListComp_O (c := none) (by k_asm) (by walk_at "uf") (by decide) (by rfl) (by decide) ?_)))
theorem rowL_len {n : Nat} : ∀ (ws : List (Nat × List Nat)), (∀ p ∈ ws, p.2.length ≤ n) → (rowL ws).length ≤ (n + 5) * ws.length := by
  have key : ∀ (ws : List (Nat × List Nat)), (∀ p ∈ ws, p.2.length ≤ n) → (rest ws).length ≤ (n + 5) * ws.length := by
    intro ws
    induction ws with
    | nil => simp [rest]
    | cons p r ih =>
      intro h
      have h1 := ih fun q hq => h q (.tail _ hq)
      have h2 := h p (.head _)
      simp only [rest, seg, List.length_cons, List.length_append, List.length_nil, Nat.mul_succ]
      omega
  intro ws h
  cases ws with
  | nil => simp [rowL]
  | cons p r =>
    have h1 := key r fun q hq => h q (.tail _ hq)
    have h2 := h p (.head _)
    simp only [rowL, seg, List.length_cons, List.length_append, List.length_nil, Nat.mul_succ]
    omega
theorem row_39 : ∀ (ws : List (Nat × List Nat)), (∀ p ∈ ws, p.1 ≠ 39 ∧ ∀ c ∈ p.2, c ≠ 39) → ∀ ch ∈ rowL ws, ch ≠ 39 := by
  have hs : ∀ p : Nat × List Nat, (p.1 ≠ 39 ∧ ∀ c ∈ p.2, c ≠ 39) → ∀ ch ∈ seg p, ch ≠ 39 := by
    intro p h ch hc
    simp only [seg, List.mem_append, List.mem_cons, List.not_mem_nil, or_false] at hc
    rcases hc with ((rfl | rfl | rfl) | hc) | rfl
    · exact h.1
    · decide
    · decide
    · exact h.2 _ hc
    · decide
  have key : ∀ (ws : List (Nat × List Nat)), (∀ p ∈ ws, p.1 ≠ 39 ∧ ∀ c ∈ p.2, c ≠ 39) → ∀ ch ∈ rest ws, ch ≠ 39 := by
    intro ws
    induction ws with
    | nil => intro _ ch hc; simp [rest] at hc
    | cons p r ih =>
      intro h ch hc
      simp only [rest, List.mem_cons, List.mem_append] at hc
      rcases hc with rfl | hc | hc
      · decide
      · exact hs p (h p (.head _)) ch hc
      · exact ih (fun q hq => h q (.tail _ hq)) ch hc
  intro ws h ch hc
  cases ws with
  | nil => simp [rowL] at hc
  | cons p r =>
    simp only [rowL, List.mem_append] at hc
    rcases hc with hc | hc
    · exact hs p (h p (.head _)) ch hc
    · exact key r (fun q hq => h q (.tail _ hq)) ch hc
theorem read_gives {w : World} {news : List (Addr × Obj)} {ps : Program} {loose : List Str} {mean : ExcName → Option Value} {mg mb : Str → Option Value} {dp u : Nat} {gd : Option (List Code)} {cn : Str} {cs : Scope} {a : Addr} {ccd : Value} {cl : List (Str × Addr)} {outer : List Env} {A₀ : Around} {base h₀ : Heap} {L : Addr} {m : Str → Option Value} {s : Shared} {Q E : Value → Shared → Prop} {turn : Int} {tt : Tok} {lp : Addr} {prs : List (Nat × List Nat)}
    (hp : PairsAt news lp prs) (hl : prs.length ≤ 20) (hv : ∀ p ∈ prs, p.2.length ≤ 16) (hsg : ∀ p ∈ prs, ∀ c ∈ p.2, c ∈ sigs) (hn : ∀ p ∈ prs, 97 ≤ p.1)
    (B : Below A₀ base outer h₀) (F : Fr h₀ L s.heap m) (X : (K w.params).In h₀) (N : News h₀ L s.heap news) (T : Top ps loose mean mg mb h₀) (XB : (K w.params).In base) (TB : Top ps loose mean mg mb base) (KD : KtsDicts (outer.filterMap (·.frame)) h₀) (hk : cs.kind = .function) (hd : dp + 30 < recursionLimit) (hu : u + 200 < cLine) (ht : 0 < s.toks)
    (rOk : ∀ ws vals, go .ws [] (rowL (prs.map fun p => (p.1, writ turn p.2))) = some ws → TxsAre vals ws → ∀ (h₀' h' : Heap) (tk' cc' S : Nat), KtsTurn (outer.filterMap (·.frame)) h₀ h₀' → Fr h₀' L h' m → News h₀' L h' ((S, listO vals.toArray cc') :: news) → (∀ p ∈ news, p.1 < S) → Below A₀ base outer h₀' → (K w.params).In h₀' → Top ps loose mean mg mb h₀' → KtsDicts (outer.filterMap (·.frame)) h₀' → Q (.ref S) { s with heap := h', toks := tk' })
    (rBad : go .ws [] (rowL (prs.map fun p => (p.1, writ turn p.2))) = none → ∀ (h₀' h' : Heap) (tk' : Nat), KtsTurn (outer.filterMap (·.frame)) h₀ h₀' → Fr h₀' L h' m → News h₀' L h' news → Below A₀ base outer h₀' → (K w.params).In h₀' → Top ps loose mean mg mb h₀' → KtsDicts (outer.filterMap (·.frame)) h₀' → Q .none { s with heap := h', toks := tk' }) :
    wpAny (model P w) (ktrTop dp u gd cn cs L a ccd cl outer) (call (.ref 791) [.int turn tt, .ref lp]) Q E s := by
  refine wpAny_call ?_
  k_dflt (refine' code_defSC (binds := [("turn", .int turn tt), ("pairs", .ref lp)]) (K := K w.params) (env := envX cn cs L a ccd cl) ht B F X N T XB TB KD KtsTurn.refl ?kA rfl hk ?k6 ?k7 ?k8 ?k9 ?kB ?kD ?_ ?c2 ?c3 ?c4; (case kA => exact rfl); (case k6 => k_is); (case k7 => k_is); (case k8 => ktr_room); (case k9 => exact kp_binds (X.keeps F.keep) (fun S => by kernel_rfl)); (case kB => exact rfl); (case kD => decide +kernel); (case c2 => exact rfl); (case c3 => exact rfl); (case c4 => exact rfl); k_whole; intro g' L' h' tk' cells' htk' FG' F' N' Y' B' X' T' KD' l1; k_cells Y'; (try simp only [List.cons_append, List.nil_append] at N'); (try dsimp only); (try k_fold))
  have hne1 : ∀ p ∈ news, p.1 ≠ L' + 1 := fun p hp => Nat.ne_of_lt (Nat.lt_succ_of_lt (l1 p hp))
  rename_i o1 d1
  have ho1 : o1.data = .cell (some (.int turn tt)) := d1
  clear d1
  k_steps
  k_dflt (refine' read_src (turn := turn) (tt := tt) B' X' T' ?F ?N (PairsAt.mono ?sub hp) ?hc ho1 ?ht ?hd ?hu hl hv hsg ?fin)
  case F => k_asm
  case N => exact N'
  case sub => exact fun p hp => .tail _ hp
  case hc => exact .head _
  case ht => first | assumption | exact Nat.succ_pos _ | omega
  case hd => omega
  case hu => omega
  case fin =>
    intro ys hys D9 h9 tk9 F9 N9 o9 htk9
    k_steps
    have hw6 : ∀ q ∈ prs.map (fun p => (p.1, writ turn p.2)), q.2.length ≤ 96 := by
      intro q hq
      obtain ⟨p, hp1, rfl⟩ := List.mem_map.mp hq
      have h1 := writ_len turn (hsg p hp1)
      have h2 := hv p hp1
      dsimp only
      omega
    refine join_row htk9 N9 (.head _) hys ?_ fun t8 tk8 htk8 => ?_
    · have h1 := sum_len_le (n := 100) ((prs.map (fun p => (p.1, writ turn p.2))).map seg) (fun z hz => by
        obtain ⟨q, hq, rfl⟩ := List.mem_map.mp hz
        have := hw6 q hq
        simp only [seg, List.length_append, List.length_cons, List.length_nil]
        omega)
      simp only [List.length_map] at h1 ⊢
      omega
    · have hrl := rowL_len (n := 96) _ hw6
      rw [List.length_map] at hrl
      k_steps
      refine wpAny_Try_except ?_
      iterate 9 walk1
      have hgo : words ((tx (rowL (prs.map fun p => (p.1, writ turn p.2)))).length + 2) .ws (tx (rowL (prs.map fun p => (p.1, writ turn p.2)))).cps.toList = go .ws [] (rowL (prs.map fun p => (p.1, writ turn p.2))) := by
        rw [words_go _ .ws _ (.inl rfl) (by rw [tx_len]; simp)]
      k_dflt (refine' split_gives _ _ ?hvl ?h39 B' ?F X' ?N T' XB TB KD' ?hk ?hd ?hu ?ht ?rOk ?rBad)
      case F => k_asm
      case N => k_asm
      case hvl => rw [tx_len]; omega
      case h39 =>
        refine row_39 _ fun q hq => ?_
        obtain ⟨p, hp1, rfl⟩ := List.mem_map.mp hq
        have := hn p hp1
        exact ⟨by dsimp only; omega, fun c hc => (writ_ok turn (hsg p hp1) c hc).2.2.2⟩
      case hk => exact rfl
      case hd => ktr_room
      case hu => ktr_units
      case ht => first | assumption | exact Nat.succ_pos _ | omega
      case rOk =>
        intro ws vals hws hT g3 h3 tk3 cc3 S T3 F3 N3 hS B3 X3 P3 D3
        rw [hgo] at hws
        intro _ _
        refine leaveS_r (s' := { s with heap := h3, toks := tk3 }) F3 (News.sub (news' := (S, listO vals.toArray cc3) :: news) N3 fun p hp => ?_) T3 fun h4 T4 F4 N4 B4 X4 P4 D4 => ?_
        · rcases List.mem_cons.mp hp with rfl | hp
          · exact .head _
          · exact .tail _ (by first | exact hp | exact .tail _ hp | exact .tail _ (.tail _ hp))
        · exact rOk ws vals hws hT h4 h3 tk3 cc3 S T4 F4 N4 (fun p hp => hS p (by first | exact hp | exact .tail _ hp | exact .tail _ (.tail _ hp))) B4 X4 P4 D4
      case rBad =>
        intro hws e3 t3 vs3 g3 h3 tk3 F3 R3 U3
        rw [hgo] at hws
        k_dflt (refine' caught_SX (T' := "ValueError") R3 F3 B' U3 XB TB KD' KtsTurn.refl ?ex PyProof.Rows.Boot.«ValueError» ?hn PySem.F.isExc_ValueError PySem.F.notTuple_ValueError ?hs ?_; (case hs => kts_sub); (case ex => k_is); (case hn => decide); k_whole)
        intro h4 g4 tk4 hle4 T4 F4 N4 B4 X4 P4 D4
        k_steps
        rename News _ _ _ _ => nEnd
        exact rBad hws _ _ _ (by assumption) (by assumption) (News.sub nEnd fun p hp => by first | exact hp | exact .tail _ hp | exact .tail _ (.tail _ hp)) (by assumption) (by assumption) (by assumption) (by assumption)
end
section
open PySem PySem.W PyProof.Rows PyProof.Rows.LCg PySem.Calls
theorem halve_free : ∀ (l : List Nat), (∀ k, ¬ (l[k]? = some 92 ∧ l[k + 1]? = some 92)) → halve l = l
  | [], _ => rfl
  | [c], _ => rfl
  | c :: d :: r, h => by
    have h0 : ¬ (c = 92 ∧ d = 92) := fun e => h 0 (by simp [e])
    rw [halve, if_neg h0, halve_free (d :: r) fun k => by have := h (k + 1); simpa using this]
theorem halve_first : ∀ (p r : List Nat), (∀ k, k < p.length → ¬ ((p ++ 92 :: 92 :: r)[k]? = some 92 ∧ (p ++ 92 :: 92 :: r)[k + 1]? = some 92)) → halve (p ++ 92 :: 92 :: r) = p ++ 92 :: halve r
  | [], r, _ => by simp [halve]
  | [c], r, h => by
    have h0 : ¬ (c = 92) := fun e => h 0 (by simp) (by simp [e])
    simp [halve, h0]
  | c :: d :: p, r, h => by
    have h0 : ¬ (c = 92 ∧ d = 92) := fun e => h 0 (by simp) (by simp [e])
    have ih := halve_first (d :: p) r fun k hk => by have := h (k + 1) (by simpa using hk); simpa using this
    show halve (c :: d :: (p ++ 92 :: 92 :: r)) = _
    rw [halve, if_neg h0]
    have e : halve (d :: (p ++ 92 :: 92 :: r)) = (d :: p) ++ 92 :: halve r := ih
    rw [e]
    rfl
noncomputable abbrev bs2 : Str := ⟨#[92, 92]⟩
noncomputable abbrev bs1 : Str := ⟨#[92]⟩
theorem at_two (l : List Nat) (k : Nat) : StrLaws.At (tx l) bs2 (tx l).length k ↔ (l[k]? = some 92 ∧ l[k + 1]? = some 92) := by
  show (k + bs2.length ≤ (tx l).length ∧ Builtin.Str.subAt (tx l) bs2 k = true) ↔ _
  rw [StrLaws.subAt_eq, tx_len]
  show (k + 2 ≤ l.length ∧ ((l.drop k).take 2 == [92, 92]) = true) ↔ _
  rw [beq_iff_eq]
  constructor
  · rintro ⟨h1, h2⟩
    have a : l[k]? = ((l.drop k).take 2)[0]? := by simp
    have b : l[k + 1]? = ((l.drop k).take 2)[1]? := by simp
    rw [a, b, h2]; simp
  · rintro ⟨h1, h2⟩
    have a := (List.getElem?_eq_some_iff.mp h1)
    have b := (List.getElem?_eq_some_iff.mp h2)
    obtain ⟨la, ea⟩ := a
    obtain ⟨lb, eb⟩ := b
    refine ⟨lb, ?_⟩
    rw [List.drop_eq_getElem_cons la, List.drop_eq_getElem_cons lb, ea, eb]
    simp
theorem parts_halve (l : List Nat) : ∀ (cuts : List Nat) (a f : Nat), a ≤ l.length → StrLaws.ChainG (tx l) bs2 (tx l).length a cuts f → (∀ k, f ≤ k → ¬ StrLaws.At (tx l) bs2 (tx l).length k) → (Str.join bs1 (StrLaws.partsFrom (tx l) 2 a cuts)).cps.toList = halve (l.drop a)
  | [], a, f, ha, h, hn => by
    have e : f = a := h
    subst e
    have : (Str.join bs1 (StrLaws.partsFrom (tx l) 2 f [])).cps.toList = l.drop f := by
      show (Builtin.Str.strSub (tx l) f (tx l).length).cps.toList = _
      rw [StrLaws.strSub_toList]
      rw [List.take_of_length_le (by rw [List.length_drop, tx_len]; simp)]
    rw [this, halve_free]
    intro k
    have := hn (f + k) (by omega)
    rw [at_two] at this
    simpa [Nat.add_assoc] using this
  | c :: r, a, f, ha, h, hn => by
    obtain ⟨h1, h2, h3, h4⟩ := h
    have h4' : StrLaws.ChainG (tx l) bs2 (tx l).length (c + 2) r f := h4
    have hc := (at_two l c).mp h2
    obtain ⟨lb, eb⟩ := List.getElem?_eq_some_iff.mp hc.2
    obtain ⟨la, ea⟩ := List.getElem?_eq_some_iff.mp hc.1
    have ih := parts_halve l r (c + 2) f (by omega) h4' hn
    have hne : ∃ p q, StrLaws.partsFrom (tx l) 2 (c + 2) r = p :: q := by cases r <;> exact ⟨_, _, rfl⟩
    obtain ⟨p, q, hpq⟩ := hne
    have e0 : (Str.join bs1 (StrLaws.partsFrom (tx l) 2 a (c :: r))) = Builtin.Str.strSub (tx l) a c ++ bs1 ++ Str.join bs1 (StrLaws.partsFrom (tx l) 2 (c + 2) r) := by
      show Str.join bs1 (Builtin.Str.strSub (tx l) a c :: StrLaws.partsFrom (tx l) 2 (c + 2) r) = _
      rw [hpq]; rfl
    rw [e0]
    simp only [Str.cps_append, Array.toList_append]
    rw [ih, StrLaws.strSub_toList]
    have e1 : l.drop a = (l.drop a).take (c - a) ++ 92 :: 92 :: l.drop (c + 2) := by
      conv => lhs; rw [← List.take_append_drop (c - a) (l.drop a)]
      congr 1
      rw [List.drop_drop]
      have : a + (c - a) = c := by omega
      rw [this, List.drop_eq_getElem_cons la, List.drop_eq_getElem_cons lb, ea, eb]
    have e2 : halve (l.drop a) = (l.drop a).take (c - a) ++ 92 :: halve (l.drop (c + 2)) := by
      conv => lhs; rw [e1]
      refine halve_first _ _ fun k hk => ?_
      rw [← e1]
      have hk' : k < c - a := by simp at hk; omega
      have := h3 (a + k) (by omega) (by omega)
      rw [at_two] at this
      simpa [Nat.add_assoc] using this
    rw [e2]
    simp
theorem replace_halve (l : List Nat) : Txt.replace (tx l) bs2 bs1 = tx (halve l) := by
  obtain ⟨f, h1, h2⟩ := StrLaws.occ_tight (tx l) bs2 (by decide)
  have key := parts_halve l _ 0 f (Nat.zero_le _) h1 h2
  rw [List.drop_zero] at key
  unfold Txt.replace
  by_cases hc : (Builtin.Str.occurrences (tx l) bs2 0 (tx l).length ((tx l).length + 1)).isEmpty = true
  · rw [hc]
    simp only [Bool.true_or, if_true]
    have hn : Builtin.Str.occurrences (tx l) bs2 0 (tx l).length ((tx l).length + 1) = [] := by simpa using hc
    rw [hn] at key
    apply str_ext
    have : (Str.join bs1 (StrLaws.partsFrom (tx l) 2 0 [])).cps.toList = l := by
      show (Builtin.Str.strSub (tx l) 0 (tx l).length).cps.toList = _
      rw [StrLaws.strSub_toList, tx_len]
      simp
    rw [this] at key
    exact key
  · have e : ((Builtin.Str.occurrences (tx l) bs2 0 (tx l).length ((tx l).length + 1)).isEmpty || (bs2.length == 0 && bs1.length == 0)) = false := by
      have : (bs2.length == 0) = false := by decide
      simp [this, hc]
    rw [e]
    simp only [Bool.false_eq_true, if_false]
    rw [StrLaws.glued_eq_join]
    apply str_ext
    rw [← StrLaws.partsBetween_eq] at key
    exact key
end
section
open PySem PySem.W PyProof.Rows PyProof.Rows.LCg PySem.Calls
local macro_rules | `(tactic| walk_at "eval Name") => `(tactic| (k_here; k_dflt (refine nameX_L (by k_asm) (by first | with_reducible assumption | exact rfl | assumption) ?_)))
section
open PySem PySem.W PyProof.Rows PyProof.Rows.LCg PySem.Calls
noncomputable def frBody : Stmt → List Stmt
  | .For _ _ b .. => b
  | _ => []
noncomputable def wdB (i : Nat) : List Stmt := frBody (((sBody (topAt 35))[i]?).getD default)
theorem plain_writ (turn : Int) {v : List Nat} (hv : ∀ c ∈ v, c ∈ sigs) : v.flatMap (plainP turn) = writ turn v := by
  have key : ∀ k ∈ sigs, plainP turn k = escL (tabL turn) [k] := by
    by_cases h0 : turn = 0
    · subst h0; decide +kernel
    · by_cases h1 : turn = 1
      · subst h1; decide +kernel
      · have e2 : tabL turn = tabL 2 := by simp [tabL, h0, h1]
        have e3 : ∀ k, plainP turn k = plainP 2 k := by intro k; simp [plainP, h0, h1]
        rw [e2]
        intro k hk
        rw [e3]
        revert k
        decide +kernel
  induction v with
  | nil => rfl
  | cons c r ih =>
    have h1 := ih fun x hx => hv x (.tail _ hx)
    unfold writ wr at h1 ⊢
    rw [List.flatMap_cons, List.flatMap_cons, h1, key c (hv c (.head _))]
theorem plainW_gives {w : World} {news : List (Addr × Obj)} (turn : Int) (tt : Tok) (v : List Nat) (tv : Tok) (hv : v.length ≤ 16) (hs : ∀ c ∈ v, c ∈ sigs) : Gives w 786 [.int turn tt, .str (tx v) tv] 3 24 news fun r news' => (∃ t, r = .str (tx (writ turn v)) t) ∧ news' = news := by
  have := plain_gives (w := w) (news := news) turn tt (tx v) tv (by rw [tx_len]; exact hv)
  rwa [plain_writ turn hs] at this
theorem oddW_gives {w : World} {news : List (Addr × Obj)} {o : Bool} (v : List Nat) (tv : Tok) (hv : v.length ≤ 16) (ho : (dqRun v).2 = o) : Gives w 798 [.str (tx v) tv] 1 8 news fun r news' => r = .bool o ∧ news' = news := by
  have := odd_gives (w := w) (news := news) (tx v) tv (by rw [tx_len]; omega)
  rwa [oddB_dq, ho] at this
theorem ext_pop {w : World} {A : Around} {E : Value → Shared → Prop} {s : Shared} {h₀ : Heap} {L D b : Addr} {m : Str → Option Value} {news : List (Addr × Obj)} {its its2 : Array Value} {n n2 : Nat} {Q : Value → Shared → Prop} (F : Fr h₀ L s.heap m) (N : News h₀ L s.heap ((b, listO its2 n2) :: (D, listO its n) :: news)) (hl : ∀ p ∈ news, p.1 ≠ D) (hz : its.size ≤ 100000) (hz2 : its2.size ≤ 100000)
    (h : ∀ h' n', Fr h₀ L h' m → News h₀ L h' ((D, listO (its ++ its2) n') :: news) → Q .none { s with heap := h' }) : wpAny (model P w) A (call (.builtin "list.extend") [.ref D, .ref b]) Q E s := by
  have z := N (D, listO its n) (.tail _ (.head _))
  have hb1 := (N (b, listO its2 n2) (.head _)).1
  have hs : sizeLine = 16777216 := rfl
  refine call_meets PySem.F.slot_list_extend ⟨_, z.1, rfl⟩ PySem.F.entry_list_extend (PySem.F.args_list_extend_2 _ _) (PySem.AutoSeq1.list_extend_list_list_0 D its n b its2 n2 ?_ (by omega) (by omega)) ⟨z.1, hb1, ?_⟩
  · have : Builtin.List.listTooLong (its.size + its2.size) = false := by
      unfold Builtin.List.listTooLong
      simp
      omega
    simp [this]
  · obtain ⟨n', hn'⟩ : ∃ n', (s.heap.update D (Obj.mapSeq fun x => x ++ its2)).get? D = some (listO (its ++ its2) n') := ⟨_, Heap.get?_update_self _ z.1 rfl⟩
    refine h _ n' (F.change (Heap.SameBut.update ..) z.2.1 z.2.2) ?_
    intro p hp
    rcases List.mem_cons.mp hp with rfl | hp
    · exact ⟨hn', z.2.1, z.2.2⟩
    · have q := N p (.tail _ (.tail _ hp))
      exact ⟨(Heap.get?_update_other _ _ (Ne.symm (hl p hp))).trans q.1, q.2.1, q.2.2⟩
theorem TapeAre.lit {x : Str} {c : Nat} {t : Tok} {vs : List Value} {T : List (Option Nat)} (hx : x = ⟨#[c]⟩) (h : TapeAre vs T) : TapeAre (.str x t :: vs) (some c :: T) := by
  subst hx; exact .sign h
theorem quo_tape (t : Tok) : TapeAre [.str (Str.ofString "\"") t] [some 34] := .lit (by decide +kernel) .nil
theorem TapeAre.len {vs : List Value} {T : List (Option Nat)} (h : TapeAre vs T) : vs.length = T.length := by
  induction h with
  | nil => rfl
  | cut _ ih => simp [ih]
  | sign _ ih => simp [ih]
theorem bare_len : ∀ (W : List Nat), (bare W).length ≤ W.length
  | [] => by simp [bare]
  | [c] => by simp only [bare]; split <;> simp
  | c :: d :: r => by
    have h1 := bare_len r
    have h2 := bare_len (d :: r)
    simp only [bare]
    split
    · simp only [List.length_cons]; omega
    · simp only [List.length_cons] at h2 ⊢; omega
theorem bareW_gives {w : World} {news : List (Addr × Obj)} (W : List Nat) (tv : Tok) (hW : W.length ≤ 96) : Gives w 805 [.str (tx W) tv] 12 80 news fun r news' => ∃ l vals cc, r = .ref l ∧ news' = (l, listO vals.toArray cc) :: news ∧ TapeAre vals (bare W) ∧ (∀ p ∈ news, p.1 < l) ∧ vals.length ≤ 96 := by
  have := bare_gives (w := w) (news := news) W tv (by omega)
  intro ps loose mean mg mb dp u gd cn cs a ccd cl outer A₀ base h₀ L m s Q E B F X N T hk hd hu ht ret
  refine this ps loose mean mg mb dp u gd cn cs a ccd cl outer A₀ base h₀ L m s Q E B F X N T hk hd hu ht ?_
  rintro r news' h' tk' F' N' ⟨l, vals, cc, e1, e2, h3, h4⟩
  refine ret r news' h' tk' F' N' ⟨l, vals, cc, e1, e2, h3, h4, ?_⟩
  have := h3.len
  have := bare_len W
  omega
local macro_rules | `(tactic| walk_at "m:use") => `(tactic| walk_at "use")
local macro_rules | `(tactic| walk_at "call ref") => `(tactic| (k_here; (with_reducible show wpAny _ _ (call (Value.ref 786) [Value.int _ _, Value.str _ _]) _ _ _); k_dflt (refine' gives_use (plainW_gives _ _ _ _ ?hv ?hs) ?k1 ?k2 ?k3 ?k4 ?k5 ?kK ?kd ?ku ?kt ?_; (case hv | hs => assumption); walk_at "use"; walk_at "p3")))
local macro_rules | `(tactic| walk_at "call ref") => `(tactic| (k_here; (with_reducible show wpAny _ _ (call (Value.ref 798) [Value.str _ _]) _ _ _); k_dflt (refine' gives_use (oddW_gives _ _ ?hv ?hs) ?k1 ?k2 ?k3 ?k4 ?k5 ?kK ?kd ?ku ?kt ?_; (case hv | hs => assumption); walk_at "use"; walk_at "p2")))
local macro_rules | `(tactic| walk_at "call ref") => `(tactic| (k_here; (with_reducible show wpAny _ _ (call (Value.ref 805) [Value.str _ _]) _ _ _); k_dflt (refine' gives_use (bareW_gives _ _ ?hv) ?k1 ?k2 ?k3 ?k4 ?k5 ?kK ?kd ?ku ?kt ?_; (case hv => assumption); walk_at "use"; k_whole; intro r9 n9 h9 tk9 F9 N9 p9; obtain ⟨lb, vb, cb, e9, e8, hTb, hlb, hzb⟩ := p9; subst e9; subst e8; walk_at "ds")))
theorem halve_len : ∀ (W : List Nat), (halve W).length ≤ W.length
  | [] => by simp [halve]
  | [c] => by simp [halve]
  | c :: d :: r => by
    have h1 := halve_len r
    have h2 := halve_len (d :: r)
    simp only [halve]
    split
    · simp only [List.length_cons]; omega
    · simp only [List.length_cons] at h2 ⊢; omega
theorem repl_own {w : World} {A : Around} {E : Value → Shared → Prop} {s : Shared} {W : List Nat} {t u u2 : Tok} {Q : Value → Shared → Prop} (hu : 0 < u) (hu2 : u2 = u + 1) (hW : W.length ≤ 1000) (h : ∀ t' k, Q (.str (tx (halve W)) t') { s with toks := k }) : wpAny (model P w) A (call (.builtin "str.replace") [.str (tx W) t, .str (Str.ofString "\\\\") u, .str (Str.ofString "\\") u2]) Q E s := by
  have e2 : Str.ofString "\\\\" = bs2 := by decide +kernel
  have e1 : Str.ofString "\\" = bs1 := by decide +kernel
  rw [e2, e1]
  subst hu2
  refine SC.replaceW (Nat.ne_of_gt hu) (Nat.succ_ne_zero _) (Nat.ne_of_lt (Nat.lt_succ_self _)) (by decide +kernel) (by rw [tx_len]; omega) (by decide +kernel) fun t' k' => ?_
  rw [replace_halve]
  exact h t' k'
local macro_rules | `(tactic| walk_at "call builtin:str.replace") => `(tactic| (k_here; k_dflt (refine' repl_own ?u ?v ?W ?_; (case u => assumption); (case v => exact rfl); (case W => omega); k_whole; intro t9 tk9; walk_at "ds")))
theorem slice_last (l : List Nat) : Txt.slice (tx l) none (some (-1)) = tx l.dropLast := by
  have e0 : Txt.slice (tx l) none (some (-1)) = StrLaws.sliceText (tx l) none (some (-1)) := rfl
  rw [e0]
  by_cases h0 : l = []
  · subst h0; decide +kernel
  · have hl : 0 < l.length := List.length_pos_iff.mpr h0
    have hx := tx_len l
    have e : Builtin.Str.strSliceIndices none (some (-1)) 1 (tx l).length = Builtin.Str.strSliceIndices (some ((0 : Nat) : Int)) (some ((l.length - 1 : Nat) : Int)) 1 (tx l).length := by
      rw [hx]
      have a : ¬ (((l.length - 1 : Nat) : Int) < 0) := by omega
      have b : min ((l.length - 1 : Nat) : Int) (l.length : Int) = ((l.length - 1 : Nat) : Int) := by omega
      have c : max 0 (min (-1 + (l.length : Int)) (l.length : Int)) = ((l.length - 1 : Nat) : Int) := by omega
      have d : max 0 (min 0 (l.length : Int)) = 0 := by omega
      simp [Builtin.Str.strSliceIndices, a, b, c, d]
    have e2 : StrLaws.sliceText (tx l) none (some (-1)) = StrLaws.sliceText (tx l) (some ((0 : Nat) : Int)) (some ((l.length - 1 : Nat) : Int)) := by
      unfold StrLaws.sliceText
      rw [e]
    rw [e2, StrLaws.sliceText_nat (tx l) (by omega) (by omega)]
    simp [List.dropLast_eq_take]
theorem list_txs {w : World} {A : Around} {E : Value → Shared → Prop} {s : Shared} {h₀ : Heap} {L : Addr} {m : Str → Option Value} {news : List (Addr × Obj)} {l : List Nat} {t : Tok} {Q : Value → Shared → Prop} (hh : A.handled = none) (F : Fr h₀ L s.heap m) (N : News h₀ L s.heap news) (hl : l.length ≤ 50000)
    (h : ∀ b ys c h' tk, Fr h₀ L h' m → News h₀ L h' ((b, listO (ys : List Value).toArray c) :: news) → TapeAre ys (l.map some) → ys.length = l.length → Q (.ref b) { s with heap := h', toks := tk }) : wpAny (model P w) A (call (.type "list") [.str (tx l) t]) Q E s := by
  refine list_strD hh F N (fun h' tk ys F' N' hk hn hL hP hC => ?_) (by rw [tx_len]; exact Nat.le_trans hl (by decide))
  obtain ⟨⟨c, hc⟩, hne⟩ := id hP
  refine h _ ys c h' tk F' (fun p hp => ?_) (txs_tape hC) (by rw [(txs_tape hC).len, List.length_map])
  rcases List.mem_cons.mp hp with rfl | hp
  · exact ⟨hc, hP.ne_locals F', hn⟩
  · exact N' p hp
local macro_rules | `(tactic| walk_at "call type:list") => `(tactic| (k_here; k_dflt (refine' list_txs ?hh ?F ?N ?z ?_; walk_at "FN"; (case hh => exact rfl); (case z => assumption); k_whole; intro b9 y9 c9 h9 tk9 F9 N9 T9 Z9; walk_at "sw")))
theorem slice_own {w : World} {A : Around} {E : Value → Shared → Prop} {s : Shared} {h₀ : Heap} {L : Addr} {m : Str → Option Value} {news : List (Addr × Obj)} {value slice : Expr} {uj : Tok} {l : List Nat} {t : Tok} {Q : Value → Shared → Prop} (F : Fr h₀ L s.heap m) (N : News h₀ L s.heap news) (hl : l.length ≤ 50000) (h : ∀ h' t' k, Fr h₀ L h' m → News h₀ L h' news → Q (.str (tx l.dropLast) t') { s with heap := h', toks := k })
    (hs : subscripted slice false (.str (tx l) t) (.ref s.heap.objs.size) = operate [.ref s.heap.objs.size, .str (tx l) t] (getItem (.str (tx l) t) (.ref s.heap.objs.size)) := by with_unfolding_all rfl)
    (ht : ∀ r, letTemporaryGo value (.str (tx l) t) r = pure () := by intro _; with_unfolding_all rfl) :
    wpAny (model P w) A (subscriptTail value slice (.str (tx l) t) (.ref s.heap.objs.size)) Q E { s with heap := s.heap.push { cls := .type "slice", data := .fields #[.none, .int (-1) uj, .none] } } :=
  slice_strN_ns F N (fun h' t' k a b => by rw [slice_last]; exact h h' t' k a b) hs ht (by rw [tx_len]; exact Nat.le_trans hl (by decide))
local macro_rules | `(tactic| walk_at "subscriptTail Name Slice str ref") => `(tactic| ((with_reducible rename Fr _ _ _ _ => F'); (with_reducible rename News _ _ _ _ => N'); k_dflt (refine' slice_own (s := ⟨_, _, _, _, _⟩) F' N' ?hsz ?_ ?a ?b; (case hsz => assumption); walk_at "uu"; k_whole); intro h9 t9 k9 F9 N9; walk_at "sw"))
local macro_rules | `(tactic| walk_at "m:sz") => `(tactic| first | assumption | (simp; done) | (simp; omega))
local macro_rules | `(tactic| walk_at "call builtin:list.extend") => `(tactic| (k_here; k_dflt (refine' ext_pop ?F ?N ?l ?z ?y ?_; walk_at "FN"; (case l => assumption); (case z | y => walk_at "m:sz"); k_whole; intro h9 n9 F9 N9; walk_at "sw")))
noncomputable def stepT (b o : Bool) (n : Nat) (W : List Nat) : List (Option Nat) := if b = true then some 32 :: some n :: some 61 :: (bare W ++ if o = true then [some 34] else []) else none :: some n :: some 61 :: ((dqRun W).1.map some ++ if o = true then [some 34] else [])
theorem wd_tt {w : World} {ps : Program} {loose : List Str} {mean : ExcName → Option Value} {mg mb : Str → Option Value} {dp u : Nat} {gd : Option (List Code)} {cl : List (Str × Addr)} {outer : List Env} {A₀ : Around} {base h₀ : Heap} {L : Addr} {m : Str → Option Value} {s : Shared} {nw : List (Addr × Obj)} {Q : Flow → Shared → Prop} {E : Value → Shared → Prop} {l n cc : Nat} {v : List Nat} {vals : List Value} {turn : Int} {tt t1 t2 : Tok}
    (hv : v.length ≤ 16) (hs : ∀ c ∈ v, c ∈ sigs) (ho : (dqRun v).2 = true) (hsz : vals.length ≤ 50000) (hl : ∀ p ∈ nw, p.1 ≠ l) (m1 : m "turn" = some (.int turn tt)) (m2 : m "tape" = some (.ref l)) (m3 : m "turned" = some (.bool true)) (m4 : m "name" = some (.str ⟨#[n]⟩ t1)) (m5 : m "value" = some (.str (tx v) t2))
    (B : Below A₀ base outer h₀) (X : (K w.params).In h₀) (T : Top ps loose mean mg mb h₀) (F : Fr h₀ L s.heap m) (N : News h₀ L s.heap ((l, listO vals.toArray cc) :: nw)) (hd : dp + 20 < recursionLimit) (hu : u + 120 < cLine) (ht : 0 < s.toks)
    (ret : ∀ (h' : Heap) (tk' cc' : Nat) (m' : Str → Option Value) (its : Array Value), 0 < tk' → Fr h₀ L h' m' → m' "turn" = some (.int turn tt) → m' "tape" = some (.ref l) → m' "turned" = some (.bool false) → (∃ ys, its.toList = vals ++ ys ∧ TapeAre ys (stepT true true n (writ turn v))) → News h₀ L h' ((l, listO its cc') :: nw) → Q .next { s with heap := h', toks := tk' }) :
    wpAny (model P w) (ktrTop dp u gd "_law_words" (sScope (topAt 35)) L 812 (.ref 811) cl outer) (execs (wdB 2) (envOf "_law_words" (sScope (topAt 35)) L 812 (.ref 811))) Q E s := by
  obtain ⟨hh, gg, dd, tkz, oo⟩ := s
  dsimp only at F N ht ⊢
  have hW := writ_len turn hs
  have hW96 : (writ turn v).length ≤ 96 := by omega
  have hH := halve_len (writ turn v)
  have hH96 : (halve (writ turn v)).length ≤ 50000 := by omega
  have hD96 : (halve (writ turn v)).dropLast.length ≤ 50000 := by rw [List.length_dropLast]; omega
  k_steps
  rename News _ _ _ _ => nEnd
  rename Fr _ _ _ _ => fEnd
  refine ret _ _ _ _ _ (by first | assumption | exact Nat.succ_pos _ | omega) fEnd m1 m2 rfl ⟨?ys, ?e, ?t⟩ nEnd
  case e =>
    simp only [Array.toList_append, Array.toList_push, List.append_assoc]
    exact rfl
  case t =>
    have e : stepT true true n (writ turn v) = some 32 :: some n :: some 61 :: (bare (writ turn v) ++ [some 34]) := by simp [stepT]
    rw [e]
    rename TapeAre _ _ => hT9
    exact .lit (by decide +kernel) (.sign (.lit (by decide +kernel) (hT9.app (quo_tape _))))
theorem wd_tf {w : World} {ps : Program} {loose : List Str} {mean : ExcName → Option Value} {mg mb : Str → Option Value} {dp u : Nat} {gd : Option (List Code)} {cl : List (Str × Addr)} {outer : List Env} {A₀ : Around} {base h₀ : Heap} {L : Addr} {m : Str → Option Value} {s : Shared} {nw : List (Addr × Obj)} {Q : Flow → Shared → Prop} {E : Value → Shared → Prop} {l n cc : Nat} {v : List Nat} {vals : List Value} {turn : Int} {tt t1 t2 : Tok}
    (hv : v.length ≤ 16) (hs : ∀ c ∈ v, c ∈ sigs) (ho : (dqRun v).2 = false) (hsz : vals.length ≤ 50000) (hl : ∀ p ∈ nw, p.1 ≠ l) (m1 : m "turn" = some (.int turn tt)) (m2 : m "tape" = some (.ref l)) (m3 : m "turned" = some (.bool true)) (m4 : m "name" = some (.str ⟨#[n]⟩ t1)) (m5 : m "value" = some (.str (tx v) t2))
    (B : Below A₀ base outer h₀) (X : (K w.params).In h₀) (T : Top ps loose mean mg mb h₀) (F : Fr h₀ L s.heap m) (N : News h₀ L s.heap ((l, listO vals.toArray cc) :: nw)) (hd : dp + 20 < recursionLimit) (hu : u + 120 < cLine) (ht : 0 < s.toks)
    (ret : ∀ (h' : Heap) (tk' cc' : Nat) (m' : Str → Option Value) (its : Array Value), 0 < tk' → Fr h₀ L h' m' → m' "turn" = some (.int turn tt) → m' "tape" = some (.ref l) → m' "turned" = some (.bool true) → (∃ ys, its.toList = vals ++ ys ∧ TapeAre ys (stepT true false n (writ turn v))) → News h₀ L h' ((l, listO its cc') :: nw) → Q .next { s with heap := h', toks := tk' }) :
    wpAny (model P w) (ktrTop dp u gd "_law_words" (sScope (topAt 35)) L 812 (.ref 811) cl outer) (execs (wdB 2) (envOf "_law_words" (sScope (topAt 35)) L 812 (.ref 811))) Q E s := by
  obtain ⟨hh, gg, dd, tkz, oo⟩ := s
  dsimp only at F N ht ⊢
  have hW := writ_len turn hs
  have hW96 : (writ turn v).length ≤ 96 := by omega
  have hH := halve_len (writ turn v)
  have hH96 : (halve (writ turn v)).length ≤ 50000 := by omega
  have hD96 : (halve (writ turn v)).dropLast.length ≤ 50000 := by rw [List.length_dropLast]; omega
  k_steps
  rename News _ _ _ _ => nEnd
  rename Fr _ _ _ _ => fEnd
  refine ret _ _ _ _ _ (by first | assumption | exact Nat.succ_pos _ | omega) fEnd m1 m2 rfl ⟨?ys, ?e, ?t⟩ nEnd
  case e =>
    simp only [Array.toList_append, Array.toList_push, List.append_assoc]
    exact rfl
  case t =>
    have e : stepT true false n (writ turn v) = some 32 :: some n :: some 61 :: bare (writ turn v) := by simp [stepT]
    rw [e]
    exact .lit (by decide +kernel) (.sign (.lit (by decide +kernel) (by assumption)))
theorem wd_ft {w : World} {ps : Program} {loose : List Str} {mean : ExcName → Option Value} {mg mb : Str → Option Value} {dp u : Nat} {gd : Option (List Code)} {cl : List (Str × Addr)} {outer : List Env} {A₀ : Around} {base h₀ : Heap} {L : Addr} {m : Str → Option Value} {s : Shared} {nw : List (Addr × Obj)} {Q : Flow → Shared → Prop} {E : Value → Shared → Prop} {l n cc : Nat} {v : List Nat} {vals : List Value} {turn : Int} {tt t1 t2 : Tok}
    (hv : v.length ≤ 16) (hs : ∀ c ∈ v, c ∈ sigs) (ho : (dqRun v).2 = true) (hsz : vals.length ≤ 50000) (hl : ∀ p ∈ nw, p.1 ≠ l) (m1 : m "turn" = some (.int turn tt)) (m2 : m "tape" = some (.ref l)) (m3 : m "turned" = some (.bool false)) (m4 : m "name" = some (.str ⟨#[n]⟩ t1)) (m5 : m "value" = some (.str (tx v) t2))
    (B : Below A₀ base outer h₀) (X : (K w.params).In h₀) (T : Top ps loose mean mg mb h₀) (F : Fr h₀ L s.heap m) (N : News h₀ L s.heap ((l, listO vals.toArray cc) :: nw)) (hd : dp + 20 < recursionLimit) (hu : u + 120 < cLine) (ht : 0 < s.toks)
    (ret : ∀ (h' : Heap) (tk' cc' : Nat) (m' : Str → Option Value) (its : Array Value), 0 < tk' → Fr h₀ L h' m' → m' "turn" = some (.int turn tt) → m' "tape" = some (.ref l) → m' "turned" = some (.bool true) → (∃ ys, its.toList = vals ++ ys ∧ TapeAre ys (stepT false true n (writ turn v))) → News h₀ L h' ((l, listO its cc') :: nw) → Q .next { s with heap := h', toks := tk' }) :
    wpAny (model P w) (ktrTop dp u gd "_law_words" (sScope (topAt 35)) L 812 (.ref 811) cl outer) (execs (wdB 2) (envOf "_law_words" (sScope (topAt 35)) L 812 (.ref 811))) Q E s := by
  obtain ⟨hh, gg, dd, tkz, oo⟩ := s
  dsimp only at F N ht ⊢
  have hW := writ_len turn hs
  have hW96 : (writ turn v).length ≤ 96 := by omega
  have hH := halve_len (writ turn v)
  have hH96 : (halve (writ turn v)).length ≤ 50000 := by omega
  have hD96 : (halve (writ turn v)).dropLast.length ≤ 50000 := by rw [List.length_dropLast]; omega
  k_steps
  rename News _ _ _ _ => nEnd
  rename Fr _ _ _ _ => fEnd
  refine ret _ _ _ _ _ (by first | assumption | exact Nat.succ_pos _ | omega) fEnd m1 m2 rfl ⟨?ys, ?e, ?t⟩ nEnd
  case e =>
    simp only [Array.toList_append, Array.toList_push, List.append_assoc]
    exact rfl
  case t =>
    have hq := halve_dq (writ turn v)
    rw [writ_odd turn hs, ho, if_pos rfl] at hq
    rename TapeAre _ _ => hT9
    rw [hq, List.dropLast_concat] at hT9
    have e : stepT false true n (writ turn v) = none :: some n :: some 61 :: ((dqRun (writ turn v)).1.map some ++ [some 34]) := by simp [stepT]
    rw [e]
    exact .cut (.sign (.lit (by decide +kernel) (hT9.app (quo_tape _))))
theorem wd_ff {w : World} {ps : Program} {loose : List Str} {mean : ExcName → Option Value} {mg mb : Str → Option Value} {dp u : Nat} {gd : Option (List Code)} {cl : List (Str × Addr)} {outer : List Env} {A₀ : Around} {base h₀ : Heap} {L : Addr} {m : Str → Option Value} {s : Shared} {nw : List (Addr × Obj)} {Q : Flow → Shared → Prop} {E : Value → Shared → Prop} {l n cc : Nat} {v : List Nat} {vals : List Value} {turn : Int} {tt t1 t2 : Tok}
    (hv : v.length ≤ 16) (hs : ∀ c ∈ v, c ∈ sigs) (ho : (dqRun v).2 = false) (hsz : vals.length ≤ 50000) (hl : ∀ p ∈ nw, p.1 ≠ l) (m1 : m "turn" = some (.int turn tt)) (m2 : m "tape" = some (.ref l)) (m3 : m "turned" = some (.bool false)) (m4 : m "name" = some (.str ⟨#[n]⟩ t1)) (m5 : m "value" = some (.str (tx v) t2))
    (B : Below A₀ base outer h₀) (X : (K w.params).In h₀) (T : Top ps loose mean mg mb h₀) (F : Fr h₀ L s.heap m) (N : News h₀ L s.heap ((l, listO vals.toArray cc) :: nw)) (hd : dp + 20 < recursionLimit) (hu : u + 120 < cLine) (ht : 0 < s.toks)
    (ret : ∀ (h' : Heap) (tk' cc' : Nat) (m' : Str → Option Value) (its : Array Value), 0 < tk' → Fr h₀ L h' m' → m' "turn" = some (.int turn tt) → m' "tape" = some (.ref l) → m' "turned" = some (.bool false) → (∃ ys, its.toList = vals ++ ys ∧ TapeAre ys (stepT false false n (writ turn v))) → News h₀ L h' ((l, listO its cc') :: nw) → Q .next { s with heap := h', toks := tk' }) :
    wpAny (model P w) (ktrTop dp u gd "_law_words" (sScope (topAt 35)) L 812 (.ref 811) cl outer) (execs (wdB 2) (envOf "_law_words" (sScope (topAt 35)) L 812 (.ref 811))) Q E s := by
  obtain ⟨hh, gg, dd, tkz, oo⟩ := s
  dsimp only at F N ht ⊢
  have hW := writ_len turn hs
  have hW96 : (writ turn v).length ≤ 96 := by omega
  have hH := halve_len (writ turn v)
  have hH96 : (halve (writ turn v)).length ≤ 50000 := by omega
  have hD96 : (halve (writ turn v)).dropLast.length ≤ 50000 := by rw [List.length_dropLast]; omega
  k_steps
  rename News _ _ _ _ => nEnd
  rename Fr _ _ _ _ => fEnd
  refine ret _ _ _ _ _ (by first | assumption | exact Nat.succ_pos _ | omega) fEnd m1 m2 rfl ⟨?ys, ?e, ?t⟩ nEnd
  case e =>
    simp only [Array.toList_append, Array.toList_push, List.append_assoc]
    exact rfl
  case t =>
    have e : stepT false false n (writ turn v) = none :: some n :: some 61 :: (dqRun (writ turn v)).1.map some := by simp [stepT]
    rw [e]
    have hq := halve_dq (writ turn v)
    rw [writ_odd turn hs, ho, if_neg (by decide), List.append_nil] at hq
    rename TapeAre _ _ => hT9
    rw [hq] at hT9
    exact .cut (.sign (.lit (by decide +kernel) hT9))
end
section
open PySem PySem.W PyProof.Rows PyProof.Rows.LCg PySem.Calls
local macro_rules | `(tactic| walk_at "compareOp NotEq str str") => `(tactic| (k_here; (first | refine ne_known (b := true) (by walk_at "kn") ?_ | refine ne_known (b := false) (by walk_at "kn") ?_)))
theorem add_pos' {w : World} {A : Around} {E : Value → Shared → Prop} {s : Shared} {x : List Nat} {c : Nat} {t u : Tok} {Q : Value → Shared → Prop} (hs : x.length ≤ 50000) (h : ∀ t' tk, Q (.str (tx (x ++ [c])) t') { s with toks := tk }) : wpAny (model P w) A (binaryOp .Add (.str (tx x) t) (.str ⟨#[c]⟩ u)) Q E s :=
  SBL.add (fun t' k _ => by
    have e : tx x ++ (⟨#[c]⟩ : Str) = tx (x ++ [c]) := tx_app x [c]
    rw [e]
    exact h t' k) (Nat.le_trans (show (tx x).length + 1 ≤ 60000 by rw [tx_len]; omega) (by decide))
local macro_rules | `(tactic| walk_at "binaryOp Add str str") => `(tactic| (k_here; k_dflt (refine' add_pos' ?hs ?_; (case hs => assumption); intro t9 tk9; walk_at "ds")))
theorem w2_sign {w : World} {ps : Program} {loose : List Str} {mean : ExcName → Option Value} {mg mb : Str → Option Value} {dp u : Nat} {gd : Option (List Code)} {cl : List (Str × Addr)} {outer : List Env} {A₀ : Around} {base h₀ : Heap} {L : Addr} {m : Str → Option Value} {s : Shared} {nw : List (Addr × Obj)} {Q : Flow → Shared → Prop} {E : Value → Shared → Prop} {l cc : Nat} {x : List Nat} {vals : List Value} {t1 t2 : Tok} {c : Nat}
    (hx : x.length ≤ 50000) (h1 : ((⟨#[c]⟩ : Str).cps.toList == (Str.ofString "").cps.toList) = false) (hsz : vals.length ≤ 50000) (hl : ∀ p ∈ nw, p.1 ≠ l) (m1 : m "words" = some (.ref l)) (m2 : m "word" = some (.str (tx x) t1)) (m3 : m "sign" = some (.str ⟨#[c]⟩ t2))
    (B : Below A₀ base outer h₀) (X : (K w.params).In h₀) (T : Top ps loose mean mg mb h₀) (F : Fr h₀ L s.heap m) (N : News h₀ L s.heap ((l, listO vals.toArray cc) :: nw)) (hd : dp + 20 < recursionLimit) (hu : u + 120 < cLine) (ht : 0 < s.toks)
    (ret : ∀ (h' : Heap) (tk' cc' : Nat) (m' : Str → Option Value) (its : Array Value) (t' t'' : Tok), Fr h₀ L h' m' → m' "words" = some (.ref l) → m' "word" = some (.str (tx (x ++ [c])) t') → its.toList = vals → News h₀ L h' ((l, listO its cc') :: nw) → Q .next { s with heap := h', toks := tk' }) :
    wpAny (model P w) (ktrTop dp u gd "_law_words" (sScope (topAt 35)) L 812 (.ref 811) cl outer) (execs (wdB 5) (envOf "_law_words" (sScope (topAt 35)) L 812 (.ref 811))) Q E s := by
  obtain ⟨hh, gg, dd, tkz, oo⟩ := s
  dsimp only at F N ht ⊢
  k_steps
  rename News _ _ _ _ => nEnd
  rename Fr _ _ _ _ => fEnd
  exact ret _ _ _ _ _ _ 0 fEnd m1 rfl (by simp) nEnd
theorem w2_cut {w : World} {ps : Program} {loose : List Str} {mean : ExcName → Option Value} {mg mb : Str → Option Value} {dp u : Nat} {gd : Option (List Code)} {cl : List (Str × Addr)} {outer : List Env} {A₀ : Around} {base h₀ : Heap} {L : Addr} {m : Str → Option Value} {s : Shared} {nw : List (Addr × Obj)} {Q : Flow → Shared → Prop} {E : Value → Shared → Prop} {l cc : Nat} {x : List Nat} {vals : List Value} {t1 t2 : Tok}
    (hx : x.length ≤ 50000) (h1 : ((tx x).cps.toList == (Str.ofString "").cps.toList) = false) (hsz : vals.length ≤ 50000) (hl : ∀ p ∈ nw, p.1 ≠ l) (m1 : m "words" = some (.ref l)) (m2 : m "word" = some (.str (tx x) t1)) (m3 : m "sign" = some (.str "" t2))
    (B : Below A₀ base outer h₀) (X : (K w.params).In h₀) (T : Top ps loose mean mg mb h₀) (F : Fr h₀ L s.heap m) (N : News h₀ L s.heap ((l, listO vals.toArray cc) :: nw)) (hd : dp + 20 < recursionLimit) (hu : u + 120 < cLine) (ht : 0 < s.toks)
    (ret : ∀ (h' : Heap) (tk' cc' : Nat) (m' : Str → Option Value) (its : Array Value) (t' t'' : Tok), Fr h₀ L h' m' → m' "words" = some (.ref l) → m' "word" = some (.str "" t') → its.toList = vals ++ [.str (tx x) t''] → News h₀ L h' ((l, listO its cc') :: nw) → Q .next { s with heap := h', toks := tk' }) :
    wpAny (model P w) (ktrTop dp u gd "_law_words" (sScope (topAt 35)) L 812 (.ref 811) cl outer) (execs (wdB 5) (envOf "_law_words" (sScope (topAt 35)) L 812 (.ref 811))) Q E s := by
  obtain ⟨hh, gg, dd, tkz, oo⟩ := s
  dsimp only at F N ht ⊢
  k_steps
  rename News _ _ _ _ => nEnd
  rename Fr _ _ _ _ => fEnd
  exact ret _ _ _ _ _ _ _ fEnd m1 rfl (by simp; rfl) nEnd
theorem w2_none {w : World} {ps : Program} {loose : List Str} {mean : ExcName → Option Value} {mg mb : Str → Option Value} {dp u : Nat} {gd : Option (List Code)} {cl : List (Str × Addr)} {outer : List Env} {A₀ : Around} {base h₀ : Heap} {L : Addr} {m : Str → Option Value} {s : Shared} {nw : List (Addr × Obj)} {Q : Flow → Shared → Prop} {E : Value → Shared → Prop} {l cc : Nat} {x : List Nat} {vals : List Value} {t1 t2 : Tok}
    (hx : x.length ≤ 50000) (h1 : ((tx x).cps.toList == (Str.ofString "").cps.toList) = true) (hsz : vals.length ≤ 50000) (hl : ∀ p ∈ nw, p.1 ≠ l) (m1 : m "words" = some (.ref l)) (m2 : m "word" = some (.str (tx x) t1)) (m3 : m "sign" = some (.str "" t2))
    (B : Below A₀ base outer h₀) (X : (K w.params).In h₀) (T : Top ps loose mean mg mb h₀) (F : Fr h₀ L s.heap m) (N : News h₀ L s.heap ((l, listO vals.toArray cc) :: nw)) (hd : dp + 20 < recursionLimit) (hu : u + 120 < cLine) (ht : 0 < s.toks)
    (ret : ∀ (h' : Heap) (tk' cc' : Nat) (m' : Str → Option Value) (its : Array Value) (t' t'' : Tok), Fr h₀ L h' m' → m' "words" = some (.ref l) → m' "word" = some (.str (tx x) t') → its.toList = vals → News h₀ L h' ((l, listO its cc') :: nw) → Q .next { s with heap := h', toks := tk' }) :
    wpAny (model P w) (ktrTop dp u gd "_law_words" (sScope (topAt 35)) L 812 (.ref 811) cl outer) (execs (wdB 5) (envOf "_law_words" (sScope (topAt 35)) L 812 (.ref 811))) Q E s := by
  obtain ⟨hh, gg, dd, tkz, oo⟩ := s
  dsimp only at F N ht ⊢
  k_steps
  rename News _ _ _ _ => nEnd
  rename Fr _ _ _ _ => fEnd
  exact ret _ _ _ _ _ _ 0 fEnd m1 m2 (by simp) nEnd
end
section
open PySem PySem.W PyProof.Rows PyProof.Rows.LCg PySem.Calls
noncomputable def tapeB (b : Bool) (l : List (Nat × List Nat)) : List (Option Nat) := if b = true then tapeT l else tapeN l
theorem tape_step (b o : Bool) (p : Nat × List Nat) (r : List (Nat × List Nat)) (ho : (dqRun p.2).2 = o) : tapeB b (p :: r) = stepT b o p.1 p.2 ++ tapeB (b != o) r := by
  cases b <;> cases o <;> simp [tapeB, stepT, tapeN, tapeT, odd1, ho]
theorem TapeAre.get {vs : List Value} {T : List (Option Nat)} (h : TapeAre vs T) : ∀ {i : Nat} {v : Value}, vs[i]? = some v → (∃ t, v = .str "" t ∧ T[i]? = some none) ∨ (∃ c t, v = .str ⟨#[c]⟩ t ∧ T[i]? = some (some c)) := by
  induction h with
  | nil => intro i v h; simp at h
  | cut _ ih =>
    intro i v h
    cases i with
    | zero => simp at h; subst h; exact .inl ⟨_, rfl, rfl⟩
    | succ i => simpa using ih (by simpa using h)
  | sign _ ih =>
    intro i v h
    cases i with
    | zero => simp at h; subst h; exact .inr ⟨_, _, rfl, rfl⟩
    | succ i => simpa using ih (by simpa using h)
theorem tw_last (T : List (Option Nat)) : ∀ w, tw w (T ++ [none]) = tw w T := by
  induction T with
  | nil => intro w; simp [tw]
  | cons a r ih =>
    intro w
    cases a with
    | none => simp [tw, ih]
    | some c => simp [tw, ih]
theorem empty_txt {x : List Nat} (b : Bool) (h : decide (x = []) = b) : ((tx x).cps.toList == (Str.ofString "").cps.toList) = b := by
  have : (Str.ofString "").cps.toList = [] := by decide +kernel
  rw [this, ← h]
  cases x <;> simp
theorem concat_own {w : World} {A : Around} {E : Value → Shared → Prop} {s : Shared} {h₀ : Heap} {L D b : Addr} {m : Str → Option Value} {news : List (Addr × Obj)} {its its2 : Array Value} {n n2 : Nat} {Q : Value → Shared → Prop} (F : Fr h₀ L s.heap m) (N : News h₀ L s.heap news) (h1 : (D, listO its n) ∈ news) (h2 : (b, listO its2 n2) ∈ news) (hz : its.size + its2.size ≤ 100000)
    (h : ∀ D' h' n', Fr h₀ L h' m → News h₀ L h' ((D', listO (its ++ its2) n') :: news) → (∀ p ∈ news, p.1 < D') → Q (.ref D') { s with heap := h' }) : wpAny (model P w) A (binaryOp .Add (.ref D) (.ref b)) Q E s := by
  refine kmk_add_lit F N (N.isList h1) (N.isList h2) rfl (fun D' h' F' N' l' => h D' h' 0 F' (by rw [← Array.toList_append, Array.toArray_toList] at N'; exact N') l') ?_
  simp only [Array.length_toList]
  exact Nat.le_trans hz (by decide)
theorem stepT_len (b o : Bool) (n : Nat) (W : List Nat) (hW : W.length ≤ 96) : (stepT b o n W).length ≤ 200 := by
  have h1 := bare_len W
  have h2 : (dqRun W).1.length ≤ W.length := by
    have e := congrArg List.length (halve_dq W)
    rw [List.length_append] at e
    have := halve_len W
    omega
  unfold stepT
  split
  · simp only [List.length_cons, List.length_append]; split <;> simp <;> omega
  · simp only [List.length_cons, List.length_append, List.length_map]; split <;> simp <;> omega
local macro_rules | `(tactic| walk_at "binaryOp Add ref ref") => `(tactic| (k_here; k_dflt (refine' concat_own ?F ?N ?a ?b ?z ?_; walk_at "FN"; (case a | b => k_mem); (case z => first | assumption | (simp; done) | (simp; omega)); k_whole; intro D9 h9 n9 F9 N9 l9; (try k_lt l9); walk_at "sw")))
theorem AllLt.all {d : Addr} : ∀ {l : List (Addr × Obj)}, AllLt d l → ∀ p ∈ l, p.1 < d
  | [], _, _, h => nomatch h
  | _ :: _, h, p, hp => by
    rcases List.mem_cons.mp hp with rfl | hp
    · exact h.1
    · exact AllLt.all h.2 p hp
theorem tx_nil : (Str.ofString "") = tx [] := by decide +kernel
inductive W2J (l2 : Nat) (nw0 : List (Addr × Obj)) (TT : List (Option Nat)) (i : Nat) (m₁ : Str → Option Value) (nw : List (Addr × Obj)) : Prop
  | mk (wv : List Value) (ws : List (List Nat)) (x : List Nat) (t7 : Tok) (cc : Nat) (a1 : nw = (l2, listO wv.toArray cc) :: nw0) (a2 : TxsAre wv ws) (a3 : wv.length ≤ i) (a4 : x.length ≤ i) (a5 : ws ++ tw x ((TT ++ [none]).drop i) = tw [] TT) (a6 : i = TT.length + 1 → x = []) (a7 : m₁ "words" = some (.ref l2)) (a8 : m₁ "word" = some (.str (tx x) t7)) : W2J l2 nw0 TT i m₁ nw
theorem words_loop2 {w : World} {ps : Program} {loose : List Str} {mean : ExcName → Option Value} {mg mb : Str → Option Value} {dp u : Nat} {gd : Option (List Code)} {cl : List (Str × Addr)} {outer : List Env} {A₀ : Around} {base h₀ : Heap} {L : Addr} {m : Str → Option Value} {s : Shared} {news : List (Addr × Obj)} {Q : Flow → Shared → Prop} {E : Value → Shared → Prop} {l l2 l3 D c2 c4 : Nat} {o1 o3 : Obj} {vals : List Value} {TT : List (Option Nat)} {t t0 : Tok} {px : Pos} (hT : TapeAre vals TT) (hvl : vals.length ≤ 4000)
    (hl : ∀ p ∈ news, p.1 < l2) (hD : l2 < D) (m1 : m "words" = some (.ref l2)) (m2 : m "word" = some (.str (Str.ofString "") t0))
    (B : Below A₀ base outer h₀) (X : (K w.params).In h₀) (T : Top ps loose mean mg mb h₀) (F : Fr h₀ L s.heap m) (N : News h₀ L s.heap ((D, listO (vals.toArray ++ #[Value.str (Str.ofString "") t]) c4) :: (l3, o3) :: (l2, listO #[] c2) :: (l, o1) :: news)) (hd : dp + 25 < recursionLimit) (hu : u + 150 < cLine) (ht : 0 < s.toks)
    (done : ∀ (h' : Heap) (tk' cc' : Nat) (m' : Str → Option Value) (vals : List Value), 0 < tk' → Fr h₀ L h' m' → m' "words" = some (.ref l2) → TxsAre vals (tw [] TT) → News h₀ L h' ((l2, listO vals.toArray cc') :: news) → Q .next { s with heap := h', toks := tk' }) :
    wpAny (model P w) (ktrTop dp u gd "_law_words" (sScope (topAt 35)) L 812 (.ref 811) cl outer) (pyIter (.ref D)) (fun it s₂ => codeAny (model P w) (ktrTop dp u gd "_law_words" (sScope (topAt 35)) L 812 (.ref 811) cl outer) (.forLoop (.Name "sign" px) it (wdB 5) [] (envOf "_law_words" (sScope (topAt 35)) L 812 (.ref 811))) (fun r s' => match r with | .ok f => Q f s' | .error e => cameBackBy (model P w) (ktrTop dp u gd "_law_words" (sScope (topAt 35)) L 812 (.ref 811) cl outer) (envOf "_law_words" (sScope (topAt 35)) L 812 (.ref 811)) E e s') s₂) E s := by
  have hT2 : TapeAre (vals ++ [Value.str "" t]) (TT ++ [none]) := hT.app (.cut .nil)
  have N1 : News h₀ L s.heap ((l2, listO (([] : List Value)).toArray c2) :: (D, listO (vals ++ [Value.str "" t]).toArray c4) :: news) := by
    have e : (vals ++ [Value.str "" t]).toArray = vals.toArray ++ #[Value.str (Str.ofString "") t] := by simp
    rw [e]
    exact News.sub N (aM (.tail _ (.tail _ (.head _))) (aM (.head _) fun p hp => .tail _ (.tail _ (.tail _ (.tail _ hp)))))
  have hlen := hT.len
  have hTl : (TT ++ [none]).length = TT.length + 1 := by simp
  k_dflt (refine' ForIter_own (src := (D, listO (vals ++ [Value.str "" t]).toArray c4) :: news) (iters_list rfl (.head _) (fun p hp => (N1 p (.tail _ hp)).1)) (bind_name (by rfl) (by rfl)) F N1 (fun p hp => .tail _ hp) ht (W2J l2 ((D, listO (vals ++ [Value.str "" t]).toArray c4) :: news) TT) ?hJ ?turn ?done)
  case hJ => exact ⟨[], [], [], t0, c2, rfl, .nil, by simp, by simp, by rw [List.drop_zero, tw_last]; rfl, by simp, m1, by rw [m2, tx_nil]⟩
  case turn =>
    rintro i v1 mm m2' news1 I oI h tk E' hi hP ⟨wv, ws, x, t1, cc, rfl, hws, hwl, hxl, hinv, hz, n1, n2⟩ hBd hsub htk F1 N2 off
    have hm2 : m2' = fun (y : Str) => if y = "sign" then some v1 else mm y := hBd
    subst hm2
    have hi' : i < (vals ++ [Value.str "" t]).length := by simpa using hi
    have hil : i < (TT ++ [none]).length := by rw [← hT2.len]; exact hi'
    have hne : ∀ p ∈ ((I, oI) :: (D, listO (vals ++ [Value.str "" t]).toArray c4) :: news), p.1 ≠ l2 := by
      exact aN (fun e => off (l2, listO wv.toArray cc) (.head _) e.symm) (aN (Nat.ne_of_gt hD) fun p hp => Nat.ne_of_lt (hl p hp))
    have N3 : News h₀ L h ((l2, listO wv.toArray cc) :: (I, oI) :: (D, listO (vals ++ [Value.str "" t]).toArray c4) :: news) := nSw N2
    have hw5 : wv.length ≤ 50000 := by omega
    have hx5 : x.length ≤ 50000 := by omega
    have hdr : ∀ a, (TT ++ [none])[i]? = some a → (TT ++ [none]).drop i = a :: (TT ++ [none]).drop (i + 1) := by
      intro a ha
      rw [List.drop_eq_getElem_cons hil]
      congr 1
      exact Option.some.inj ((List.getElem?_eq_getElem hil).symm.trans ha)
    have fin : ∀ (h' : Heap) (tk' cc' : Nat) (m' : Str → Option Value) (its : Array Value) (t' : Tok) (wv' : List Value) (ws' : List (List Nat)) (x' : List Nat), Fr h₀ L h' m' → m' "words" = some (.ref l2) → m' "word" = some (.str (tx x') t') → its.toList = wv' → News h₀ L h' ((l2, listO its cc') :: (I, oI) :: (D, listO (vals ++ [Value.str "" t]).toArray c4) :: news) → TxsAre wv' ws' → wv'.length ≤ i + 1 → x'.length ≤ i + 1 → ws' ++ tw x' ((TT ++ [none]).drop (i + 1)) = tw [] TT → (i + 1 = TT.length + 1 → x' = []) →
        FNext s h₀ L ((D, listO (vals ++ [Value.str "" t]).toArray c4) :: news) I oI (W2J l2 ((D, listO (vals ++ [Value.str "" t]).toArray c4) :: news) TT (i + 1)) { s with heap := h', toks := tk' } := by
      rintro h' tk' cc' m' its t' wv' ws' x' F2 k1 k2 rfl N4 q1 q2 q3 q4 q5
      exact ⟨h', tk', m', (l2, listO its cc') :: (D, listO (vals ++ [Value.str "" t]).toArray c4) :: news, rfl, F2, nSw N4, aN (fun e => hne (I, oI) (.head _) e.symm) fun p hp => off p (.tail _ hp), fun p hp => .tail _ hp, its.toList, ws', x', t', cc', by rw [Array.toArray_toList], q1, q2, q3, q4, q5, k1, k2⟩
    rcases hT2.get (i := i) (v := v1) (by simpa using hP) with ⟨t5, rfl, hg⟩ | ⟨c, t5, rfl, hg⟩
    · rw [hdr _ hg] at hinv
      by_cases hxe : x = []
      · subst hxe
        k_dflt (refine' w2_none (x := []) hx5 (empty_txt true (by simp)) hw5 hne ?x1 ?x2 ?x3 B X T F1 N3 ?hd ?hu htk ?ret)
        case x1 => exact n1
        case x2 => exact n2
        case x3 => rfl
        case hd => omega
        case hu => omega
        case ret =>
          intro h' tk' cc' m' its t' t'' F2 k1 k2 k3 N4
          refine fin h' tk' cc' m' its t' wv ws [] F2 k1 k2 k3 N4 hws (by omega) (by simp) ?_ (fun _ => rfl)
          rw [← hinv]; simp [tw]
      · k_dflt (refine' w2_cut (x := x) hx5 (empty_txt false (by simp [hxe])) hw5 hne ?x1 ?x2 ?x3 B X T F1 N3 ?hd ?hu htk ?ret)
        case x1 => exact n1
        case x2 => exact n2
        case x3 => rfl
        case hd => omega
        case hu => omega
        case ret =>
          intro h' tk' cc' m' its t' t'' F2 k1 k2 k3 N4
          refine fin h' tk' cc' m' its t' (wv ++ [Value.str (tx x) t'']) (ws ++ [x]) [] F2 k1 (by rw [k2]; exact congrArg (fun z => some (Value.str z t')) tx_nil) k3 N4 hws.snoc (by simp; omega) (by simp) ?_ (fun _ => rfl)
          rw [← hinv]; simp [tw, hxe]
    · rw [hdr _ hg] at hinv
      have hc : ((⟨#[c]⟩ : Str).cps.toList == (Str.ofString "").cps.toList) = false := empty_txt (x := [c]) false (by simp)
      k_dflt (refine' w2_sign (x := x) (c := c) hx5 hc hw5 hne ?x1 ?x2 ?x3 B X T F1 N3 ?hd ?hu htk ?ret)
      case x1 => exact n1
      case x2 => exact n2
      case x3 => rfl
      case hd => omega
      case hu => omega
      case ret =>
        intro h' tk' cc' m' its t' t'' F2 k1 k2 k3 N4
        refine fin h' tk' cc' m' its t' wv ws (x ++ [c]) F2 k1 k2 k3 N4 hws (by omega) (by simp; omega) ?_ ?_
        · rw [← hinv]; simp [tw]
        · intro he
          have : i = TT.length := by omega
          subst this
          simp at hg
  case done =>
    rintro mm news1 h tk ⟨wv, ws, x, t1, cc, rfl, hws, hwl, hxl, hinv, hz, n1, n2⟩ F1 N2 htk
    have hsz : (vals ++ [Value.str "" t]).toArray.size = TT.length + 1 := by simp [hlen]
    rw [hsz] at hinv hz
    have e0 : (TT ++ [none]).drop (TT.length + 1) = [] := List.drop_eq_nil_of_le (by simp)
    rw [e0, hz rfl] at hinv
    have e1 : ws = tw [] TT := by rw [← hinv]; simp [tw]
    subst e1
    exact done h tk cc mm wv htk F1 n1 hws (News.sub N2 fun p hp => by
      simp only [List.mem_cons] at hp ⊢
      rcases hp with h | h <;> simp [h])
theorem words_tail2 {w : World} {ps : Program} {loose : List Str} {mean : ExcName → Option Value} {mg mb : Str → Option Value} {dp u : Nat} {gd : Option (List Code)} {cl : List (Str × Addr)} {outer : List Env} {A₀ : Around} {base h₀ : Heap} {L : Addr} {m : Str → Option Value} {s : Shared} {news : List (Addr × Obj)} {Q : Flow → Shared → Prop} {E : Value → Shared → Prop} {l cc0 : Nat} {vals : List Value} {TT : List (Option Nat)} (hT : TapeAre vals TT) (hvl : vals.length ≤ 4000)
    (hl : ∀ p ∈ news, p.1 < l) (m2 : m "tape" = some (.ref l))
    (B : Below A₀ base outer h₀) (X : (K w.params).In h₀) (T : Top ps loose mean mg mb h₀) (F : Fr h₀ L s.heap m) (N : News h₀ L s.heap ((l, listO vals.toArray cc0) :: news)) (hd : dp + 25 < recursionLimit) (hu : u + 150 < cLine) (ht : 0 < s.toks)
    (ret : ∀ (h' : Heap) (tk' cc' l2 : Nat) (m' : Str → Option Value) (vals : List Value), Fr h₀ L h' m' → TxsAre vals (tw [] TT) → News h₀ L h' ((l2, listO vals.toArray cc') :: news) → (∀ p ∈ news, p.1 < l2) → Q (.ret (.ref l2)) { s with heap := h', toks := tk' }) :
    wpAny (model P w) (ktrTop dp u gd "_law_words" (sScope (topAt 35)) L 812 (.ref 811) cl outer) (execs ((sBody (topAt 35)).drop 3) (envOf "_law_words" (sScope (topAt 35)) L 812 (.ref 811))) Q E s := by
  obtain ⟨hh, gg, dd, tkz, oo⟩ := s
  dsimp only at F N ht ⊢
  iterate 12 walk1
  refine wpAny_For ?_
  iterate 8 walk1
  k_dflt (refine' words_loop2 hT hvl ?hl ?hD ?m1 ?m2 B X T ?F ?N ?hd ?hu ?ht ?done)
  case F => k_asm
  case N => k_asm
  case hl => exact AllLt.all (And.right (by assumption))
  case hD => omega
  case m1 => rfl
  case m2 => rfl
  case hd => exact hd
  case hu => exact hu
  case ht => first | assumption | exact Nat.succ_pos _ | omega
  case done =>
    intro h2 tk2 cc2 m2 wv htk2 F2 k1 hw N2
    dsimp only
    k_steps
    refine ret _ _ _ _ _ wv (by k_asm) hw (by k_asm) ?_
    exact AllLt.all (And.right (by assumption))
inductive WTJ (l : Nat) (news : List (Addr × Obj)) (Ws : List (Nat × List Nat)) (turn : Int) (tt : Tok) (i : Nat) (m₁ : Str → Option Value) (nw : List (Addr × Obj)) : Prop
  | mk (vals : List Value) (T : List (Option Nat)) (b : Bool) (cc : Nat) (a1 : nw = (l, listO vals.toArray cc) :: news) (a2 : TapeAre vals T) (a3 : vals.length ≤ 200 * i) (a4 : T ++ tapeB b (Ws.drop i) = tapeN Ws) (a5 : m₁ "turn" = some (.int turn tt)) (a6 : m₁ "tape" = some (.ref l)) (a7 : m₁ "turned" = some (.bool b)) : WTJ l news Ws turn tt i m₁ nw
theorem words_tail {w : World} {ps : Program} {loose : List Str} {mean : ExcName → Option Value} {mg mb : Str → Option Value} {dp u : Nat} {gd : Option (List Code)} {cl : List (Str × Addr)} {outer : List Env} {A₀ : Around} {base h₀ : Heap} {L : Addr} {m : Str → Option Value} {s : Shared} {news : List (Addr × Obj)} {Q : Flow → Shared → Prop} {E : Value → Shared → Prop} {l cc0 : Nat} {turn : Int} {tt : Tok} {lp : Addr} {prs : List (Nat × List Nat)} (hp : PairsAt news lp prs) (hpl : prs.length ≤ 20) (hv : ∀ p ∈ prs, p.2.length ≤ 16) (hsg : ∀ p ∈ prs, ∀ c ∈ p.2, c ∈ sigs)
    (hl : ∀ p ∈ news, p.1 < l) (m1 : m "turn" = some (.int turn tt)) (m2 : m "tape" = some (.ref l)) (m3 : m "turned" = some (.bool false)) (m4 : m "pairs" = some (.ref lp))
    (B : Below A₀ base outer h₀) (X : (K w.params).In h₀) (T : Top ps loose mean mg mb h₀) (F : Fr h₀ L s.heap m) (N : News h₀ L s.heap ((l, listO #[] cc0) :: news)) (hd : dp + 25 < recursionLimit) (hu : u + 150 < cLine) (ht : 0 < s.toks)
    (ret : ∀ (h' : Heap) (tk' cc' l2 : Nat) (m' : Str → Option Value) (vals : List Value), Fr h₀ L h' m' → TxsAre vals (tw [] (tapeN (prs.map fun p => (p.1, writ turn p.2)))) → News h₀ L h' ((l2, listO vals.toArray cc') :: news) → (∀ p ∈ news, p.1 < l2) → Q (.ret (.ref l2)) { s with heap := h', toks := tk' }) :
    wpAny (model P w) (ktrTop dp u gd "_law_words" (sScope (topAt 35)) L 812 (.ref 811) cl outer) (execs ((sBody (topAt 35)).drop 2) (envOf "_law_words" (sScope (topAt 35)) L 812 (.ref 811))) Q E s := by
  obtain ⟨hh, gg, dd, tkz, oo⟩ := s
  dsimp only at F N ht ⊢
  obtain ⟨vs, cc1, hlp, hrefs⟩ := hp
  have hlen := hrefs.len
  walk1
  refine wpAny_For ?_
  walk1
  generalize hWs : (prs.map fun p => (p.1, writ turn p.2)) = Ws at ret
  k_dflt (refine' ForIter_own (src := news) (iters_list rfl hlp (fun p hp => (N p (.tail _ hp)).1)) (bind_pair rfl ?hP (by rfl) (by rfl) (by rfl)) F N (fun p hp => .tail _ hp) ht (WTJ l news Ws turn tt) ?hJ ?turn ?done)
  case hP =>
    intro i v h
    obtain ⟨T, o, n, v, t1, t2, k, h1, _, h3, h4, h5⟩ := hrefs.get (by simpa using h)
    exact ⟨T, o, _, _, k, h1, h3, h4, h5⟩
  case hJ => exact ⟨[], [], false, cc0, rfl, .nil, by simp, by simp [tapeB], m1, m2, m3⟩
  case turn =>
    rintro i v1 mm m2' news1 I oI h tk E' hi hP ⟨vals, T1, b, cc, rfl, hT1, hvl, hinv, n1, n2, n3⟩ hBd hsub htk F1 N1 off
    obtain ⟨T', o', n, v, t1, t2, k, rfl, hpi, h3, h4, h5⟩ := hrefs.get (x := v1) (i := i) (by simpa using hP)
    have hm2 := hBd T' o' _ _ k rfl h3 h4 h5
    subst hm2
    have hmem := List.mem_of_getElem? hpi
    have hil : i < prs.length := (List.getElem?_eq_some_iff.mp hpi).1
    have hne : ∀ p ∈ ((I, oI) :: news), p.1 ≠ l := by
      exact aN (fun e => off (l, listO vals.toArray cc) (.head _) e.symm) fun p hp => Nat.ne_of_lt (hl p hp)
    have N2 : News h₀ L h ((l, listO vals.toArray cc) :: (I, oI) :: news) := nSw N1
    have hwi : Ws.drop i = (n, writ turn v) :: Ws.drop (i + 1) := by
      have hlt : i < Ws.length := by rw [← hWs, List.length_map]; exact hil
      rw [List.drop_eq_getElem_cons hlt]
      congr 1
      have : Ws[i]? = some (n, writ turn v) := by rw [← hWs, List.getElem?_map, hpi]; rfl
      exact Option.some.inj ((List.getElem?_eq_getElem hlt).symm.trans this)
    have hodd := writ_odd turn (hsg (n, v) hmem)
    have hW96 : (writ turn v).length ≤ 96 := by have := writ_len turn (hsg (n, v) hmem); have := hv (n, v) hmem; dsimp only at *; omega
    have fin : ∀ (o : Bool), (dqRun v).2 = o → ∀ (h' : Heap) (tk' cc' : Nat) (m' : Str → Option Value) (its : Array Value), 0 < tk' → Fr h₀ L h' m' → m' "turn" = some (.int turn tt) → m' "tape" = some (.ref l) → m' "turned" = some (.bool (b != o)) → (∃ ys, its.toList = vals ++ ys ∧ TapeAre ys (stepT b o n (writ turn v))) → News h₀ L h' ((l, listO its cc') :: (I, oI) :: news) →
        FNext ⟨hh, gg, dd, tkz, oo⟩ h₀ L news I oI (WTJ l news Ws turn tt (i + 1)) { heap := h', gens := gg, drawn := dd, toks := tk', os := oo } := by
      rintro o ho h' tk' cc' m' its _ F2 k1 k2 k3 ⟨ys, e1, hys⟩ N3
      refine ⟨h', tk', m', (l, listO (vals ++ ys).toArray cc') :: news, rfl, F2, ?_, aN (fun e => hne (I, oI) (.head _) e.symm) fun p hp => off p (.tail _ hp), fun p hp => .tail _ hp, vals ++ ys, T1 ++ stepT b o n (writ turn v), b != o, cc', rfl, hT1.app hys, ?_, ?_, k1, k2, k3⟩
      · rw [← e1, Array.toArray_toList]
        exact nSw N3
      · have := hys.len
        have := stepT_len b o n (writ turn v) hW96
        rw [List.length_append]
        omega
      · rw [← hinv, hwi, tape_step b o (n, writ turn v) _ (by rw [hodd, ho]), List.append_assoc]
    have hsz : vals.length ≤ 50000 := by omega
    cases b with
    | true =>
      cases ho : (dqRun v).2 with
      | true =>
        k_dflt (refine' wd_tt (hv (n, v) hmem) (hsg (n, v) hmem) ho hsz hne ?x1 ?x2 ?x3 ?x4 ?x5 B X T F1 N2 ?hd ?hu htk ?ret)
        case x1 => exact n1
        case x2 => exact n2
        case x3 => exact n3
        case x4 => rfl
        case x5 => rfl
        case hd => omega
        case hu => omega
        case ret => exact fin true ho
      | false =>
        k_dflt (refine' wd_tf (hv (n, v) hmem) (hsg (n, v) hmem) ho hsz hne ?x1 ?x2 ?x3 ?x4 ?x5 B X T F1 N2 ?hd ?hu htk ?ret)
        case x1 => exact n1
        case x2 => exact n2
        case x3 => exact n3
        case x4 => rfl
        case x5 => rfl
        case hd => omega
        case hu => omega
        case ret => exact fin false ho
    | false =>
      cases ho : (dqRun v).2 with
      | true =>
        k_dflt (refine' wd_ft (hv (n, v) hmem) (hsg (n, v) hmem) ho hsz hne ?x1 ?x2 ?x3 ?x4 ?x5 B X T F1 N2 ?hd ?hu htk ?ret)
        case x1 => exact n1
        case x2 => exact n2
        case x3 => exact n3
        case x4 => rfl
        case x5 => rfl
        case hd => omega
        case hu => omega
        case ret => exact fin true ho
      | false =>
        k_dflt (refine' wd_ff (hv (n, v) hmem) (hsg (n, v) hmem) ho hsz hne ?x1 ?x2 ?x3 ?x4 ?x5 B X T F1 N2 ?hd ?hu htk ?ret)
        case x1 => exact n1
        case x2 => exact n2
        case x3 => exact n3
        case x4 => rfl
        case x5 => rfl
        case hd => omega
        case hu => omega
        case ret => exact fin false ho
  case done =>
    rintro mm news1 h tk ⟨vals, T1, b, cc, rfl, hT1, hvl, hinv, n1, n2, n3⟩ F1 N1 htk
    have e0 : Ws.drop vs.toArray.size = [] := List.drop_eq_nil_of_le (by rw [← hWs]; simp [hlen])
    rw [e0] at hinv
    have e1 : T1 = tapeN Ws := by
      rw [← hinv]
      cases b <;> simp [tapeB, tapeN, tapeT]
    subst e1
    have hsz : vals.length ≤ 4000 := by
      have : vs.toArray.size = vs.length := by simp
      omega
    k_dflt (refine' words_tail2 hT1 hsz hl n2 B X T F1 N1 hd hu htk ret)
theorem words_gives {w : World} {news : List (Addr × Obj)} {turn : Int} {tt : Tok} {lp : Addr} {prs : List (Nat × List Nat)} (hp : PairsAt news lp prs) (hpl : prs.length ≤ 20) (hv : ∀ p ∈ prs, p.2.length ≤ 16) (hsg : ∀ p ∈ prs, ∀ c ∈ p.2, c ∈ sigs) : Gives w 812 [.int turn tt, .ref lp] 30 200 news fun r news' => ∃ l vals cc, r = .ref l ∧ news' = (l, listO vals.toArray cc) :: news ∧ TxsAre vals (tw [] (tapeN (prs.map fun p => (p.1, writ turn p.2)))) ∧ (∀ p ∈ news, p.1 < l) := by
  intro ps loose mean mg mb dp u gd cn cs a ccd cl outer A₀ base h₀ L m s Q E B F X N T hk hd hu ht ret
  refine wpAny_call ?_
  k_dflt (refine' code_def (binds := [("turn", .int turn tt), ("pairs", .ref lp)]) ?k1 ?k2 ?k3 ?k4 ?k5 ?kA ?kF ?kK ?k6 ?k7 ?k8 ?k9 ?kB ?_ ?c2 ?c3 ?c4 ?c5; (case kA => exact rfl); (case kF => exact rfl); (case kK => assumption); (case k1 => k_asm); (case k2 => k_asm); (case k3 => k_asm); (case k4 => k_asm); (case k5 => k_asm); (case k6 => k_is); (case k7 => k_is); (case k8 => ktr_room); (case k9 => exact kp_binds (by k_in) (fun S => by kernel_rfl)); (case c5 => decide); (case kB => exact locs rfl); (case c2 => exact rfl); (case c3 => exact rfl); (case c4 => exact rfl); k_whole; intro g' L' h' FG' F' N' B' X' T'; (try dsimp only); (try k_fold))
  iterate 11 walk1
  k_dflt (refine' words_tail hp hpl hv hsg ?hl ?m1 ?m2 ?m3 ?m4 B' X' T' ?F ?N ?hd ?hu ?ht ?ret)
  case F => k_asm
  case N => k_asm
  case hl => assumption
  case m1 => rfl
  case m2 => rfl
  case m3 => rfl
  case m4 => rfl
  case hd => ktr_room
  case hu => ktr_units
  case ht => first | assumption | exact Nat.succ_pos _ | omega
  case ret =>
    intro h2 tk2 cc2 l2 m2 vals F2 hT N2 hl2
    k_steps
    exact ret _ _ _ _ (by assumption) (by assumption) ⟨l2, vals, cc2, rfl, rfl, hT, hl2⟩
end
section
open PySem PySem.W PyProof.Rows PySem.Spec PySem.Calls
section
variable {prog : Program} {w : World} {A₀ A : Around} {s : Shared} {base h₀ g₀ : Heap} {outer : List Env} {L a : Addr} {m : Str → Option Value} {env : Env} {news : List (Addr × Obj)} {K : Frag} {p : Program} {loose : List Str} {mean : ExcName → Option Value} {mg mb : Str → Option Value}
/-- a call of a def with cells; tokens do not fall -/
theorem code_defCL {env : Env} {outer : List Env} (B : Below A₀ base outer h₀) (F : Fr h₀ L s.heap m) (X₀ : K.In h₀) (N : News h₀ L s.heap news) (T : Top p loose mean mg mb h₀) (hA : A.frames = some (env :: outer)) (hf : env.frame = some L) (hke : env.scope.kind = .function)
    (ho : K.lookup f = some ⟨oc, od, .func (fnOf name qual params body scope dV kV doc pm an cdv ct), osl⟩) (hcd : codeIn K cdv qual = true) (hroom : A.depth < recursionLimit)
    (hbind : BindsTo s (fnOf name qual params body scope dV kV doc pm an cdv ct) args binds) (hkind : (binds.all fun y => scope.names.lookup y.1 == some .local || scope.names.lookup y.1 == some .cell) = true)
    (hnd : ((cellsFrom 0 scope.names []).map (·.1)).Nodup)
    (h : ∀ g L' h₁ tk cells, s.toks ≤ tk → Fr h₀ L g m → Fr g L' h₁ (bindL (envOfC qual scope L' f cdv).kindOf binds fun _ => none) → News g L' h₁ (cells ++ news) →
      CellsAre (bindC (envOfC qual scope L' f cdv).kindOf binds fun _ => none) (cellsFrom (L' + 1) scope.names []) cells → Below A base (env :: outer) g → K.In g → Top p loose mean mg mb g → (∀ p ∈ news, p.1 < L') →
      wpAny (model prog w) (A.deeper (envOfC qual scope L' f cdv)) (execs body (envOfC qual scope L' f cdv))
        (fun fl s' => LeaveK h₀ L m g R (match fl with | .ret v => v | _ => .none) s')
        (fun e s' => wpAny (model prog w) (A.deeper (envOfC qual scope L' f cdv)) (leaving (envOfC qual scope L' f cdv) e) (fun _ s'' => R (.error e) s'') (fun e' s'' => R (.error e') s'') s')
        { s with heap := h₁, toks := tk })
    (hco : scope.isCoroutine = false) (hgen : scope.isGenerator = false) (hk : scope.kind = .function) : codeAny (model prog w) A (.call (.ref f) args) R s := by
  have X := X₀.keeps F.keep
  obtain ⟨FG, BG, st, lv⟩ := groundX (R := R) B F N hA hf hke
  refine codeAny_call_function hroom (X _ _ ho) rfl hco hgen rfl (codeRec_of X hcd) (hbind _ _ _ _ ?_)
  refine wpAny_toks (wpAny_newFunctionEnv_cells hk (kindsX hkind _) fun env' he s' x => ?_)
  intro hle
  subst he
  refine ⟨(T.nolimit.keeps F.keep).keeps x.toInCall.keep, codeAny_func ?_⟩
  obtain ⟨h₁, tk, rfl, _⟩ := x.done
  have hk₁ := x.toInCall.keep
  obtain ⟨cells, NC, Y⟩ := Cl.news (h₀ := s.heap) (Nat.le_refl _) fun n c hm => ⟨x.cell n c (lookup_of_mem_nodup (cellsFrom_names scope.names 0 (s.heap.objs.size + 1) [] [] rfl ▸ hnd) hm), x.above n c hm⟩
  refine wpAny_mono (h _ s.heap.objs.size h₁ tk cells hle FG ⟨x.toInCall.ns, fun b o e => hk₁ b o (of_hideAll _ e), Nat.le_of_eq (hideAll_size _ _)⟩ (fun p hp => ?_) Y BG (X₀.keeps st) (T.keeps st) (fun p hp => Heap.lt_size (N p hp).1)) (fun fl s' hl => lv _ _ hl) fun _ _ y => y
  rcases List.mem_append.mp hp with hp | hp
  · refine ⟨(NC p hp).1, (NC p hp).2.1, ?_⟩
    cases q : (hideAll s.heap (news.map (·.1))).get? p.1 with
    | none => rfl
    | some o => have := of_hideAll _ q; rw [(NC p hp).2.2] at this; cases this
  · exact ⟨hk₁ _ _ (N p hp).1, Nat.ne_of_lt (Heap.lt_size (N p hp).1), hideAll_none _ (List.mem_map_of_mem hp)⟩
end
end
section
open PySem PySem.W PyProof.Rows PyProof.Rows.LCg PySem.Calls
local macro_rules | `(tactic| walk_at "ite") => `(tactic| first | with_reducible refine ite_pos (decide_eq_true (by assumption)) ?_ | with_reducible refine ite_neg (ne_true_of_eq_false (decide_eq_false (by assumption))) ?_ | with_reducible refine ite_pos (by decide) ?_ | with_reducible refine ite_neg (by decide) ?_)
local macro_rules | `(tactic| k_mem) => `(tactic| assumption)
noncomputable abbrev envPr (L : Addr) : Env := envOfC (Str.ofString "_law_pairs") (sScope (topAt 29)) L 774 (Value.ref 773)
noncomputable def sigV : List Nat := [92, 97, 32, 34, 92, 60, 62, 10, 38]
noncomputable def prB : List Stmt := frBody (((sBody (topAt 29))[2]?).getD default)
theorem setItem_neg {w : World} {A : Around} {E : Value → Shared → Prop} {s : Shared} {l : Addr} {items : Array Value} {k : Int} {t : Tok} {v : Value} {Q : Unit → Shared → Prop} (hl : s.heap.IsList l items)
    (h0 : k < 0) (h1 : -(items.size : Int) ≤ k) (hfit : -(2 ^ 63) ≤ k)
    (hQ : Q () { s with heap := s.heap.update l (Obj.mapSeq (·.setIfInBounds (k + items.size).toNat v)) }) :
    wpAny (model P w) A (setItem (.ref l) (.int k t) v) Q E s := by
  obtain ⟨o, ho, hc, ne, hd⟩ := id hl
  unfold setItem
  try with_reducible refine wpAny_holding ?_
  first | refine wpAny_bind (wpAny_pure ?_) | skip
  refine wpAny_bind (wpAny_sequenceKey hl.typeIs (by decide) ?_)
  refine wpAny_bind (wpAny_callSpecial?_slot (name := Str.ofString "__setitem__") hl.typeIs slot_list_setitem
    (wpAny_call_entry slot_list_setitem hl.typeIs entry_list_setitem ?_ (args_list_setitem _ _ _)))
  show wpAny _ _ (Builtin.List.listSubscript? (.int k t) >>= _) _ _ s
  refine wpAny_bind (wpAny_listSubscript_int (fitsIndex_neg h0 hfit) ?_)
  clear hfit
  have hidx := PySem.seqIndex_neg (n := items.size) h0 (by omega)
  obtain ⟨j, rfl⟩ : ∃ j : Nat, k = Int.negSucc j := by
    cases k with
    | ofNat n => exact absurd h0 (Int.not_lt.mpr (Int.natCast_nonneg n))
    | negSucc n => exact ⟨n, rfl⟩
  generalize hjj : (Int.negSucc j + items.size).toNat = jj at *
  have hj : jj < items.size := by omega
  have hx' : items[jj]? = some items[jj] := Array.getElem?_eq_getElem hj
  show wpAny _ _ ((Builtin.List.listItems (.ref l) >>= fun xs => pure ((seqIndex? (Int.negSucc j) xs.size).bind fun i => xs[i]?.map (i, ·))) >>= _) _ _ s
  refine wpAny_bind (wpAny_bind ?_)
  show wpAny _ _ (seqItems? (.ref l) >>= _) _ _ s
  refine wpAny_bind (wpAny_seqItems ho hd (wpAny_pure (wpAny_pure ?_)))
  rw [hidx]
  simp only [Option.bind_some, hx', Option.map_some]
  show wpAny _ _ (setSeqItemAt l jj v >>= _) _ _ s
  refine wpAny_bind (wpAny_setSeqItemAt ho hd ?_)
  first
    | exact wpAny_bind (wpAny_pure (wpAny_pure ⟨.none, rfl, wpAny_pure hQ⟩))
    | exact wpAny_pure ⟨.none, rfl, wpAny_pure hQ⟩
theorem set_last {w : World} {A : Around} {E : Value → Shared → Prop} {s : Shared} {h₀ : Heap} {L lv : Addr} {m : Str → Option Value} {nw : List (Addr × Obj)} {vals : List Value} {x v : Value} {cc : Nat} {t : Tok} {Q : Unit → Shared → Prop} (F : Fr h₀ L s.heap m) (N : News h₀ L s.heap ((lv, listO (vals ++ [x]).toArray cc) :: nw)) (hl : ∀ p ∈ nw, p.1 ≠ lv)
    (h : ∀ h' n', Fr h₀ L h' m → News h₀ L h' ((lv, listO (vals ++ [v]).toArray n') :: nw) → Q () { s with heap := h' }) : wpAny (model P w) A (setItem (.ref lv) (.int (-1) t) v) Q E s := by
  have z := N _ (.head _)
  refine setItem_neg (items := (vals ++ [x]).toArray) ⟨_, z.1, rfl, _, rfl⟩ (by decide) (by simp; omega) (by decide) ?_
  obtain ⟨n', hn'⟩ : ∃ n', (s.heap.update lv (Obj.mapSeq (·.setIfInBounds (-1 + ((vals ++ [x]).toArray.size : Int)).toNat v))).get? lv = some (listO ((vals ++ [x]).toArray.setIfInBounds (-1 + ((vals ++ [x]).toArray.size : Int)).toNat v) n') := ⟨_, Heap.get?_update_self _ z.1 rfl⟩
  have e : (vals ++ [x]).toArray.setIfInBounds (-1 + ((vals ++ [x]).toArray.size : Int)).toNat v = (vals ++ [v]).toArray := by
    have e1 : (-1 + ((vals ++ [x]).toArray.size : Int)).toNat = vals.length := by simp; omega
    rw [e1]
    apply Array.toList_inj.mp
    simp
  rw [e] at hn'
  refine h _ n' (F.change (Heap.SameBut.update ..) z.2.1 z.2.2) fun p hp => ?_
  rcases List.mem_cons.mp hp with rfl | hp
  · exact ⟨hn', z.2.1, z.2.2⟩
  · have q := N p (.tail _ hp)
    exact ⟨(Heap.get?_update_other _ _ (Ne.symm (hl p hp))).trans q.1, q.2.1, q.2.2⟩
theorem item_last {w : World} {A : Around} {E : Value → Shared → Prop} {s : Shared} {h₀ : Heap} {L lv : Addr} {nw : List (Addr × Obj)} {vals : List Value} {x : Value} {cc : Nat} {t : Tok} {value slice : Expr} {Q : Value → Shared → Prop} (N : News h₀ L s.heap ((lv, listO (vals ++ [x]).toArray cc) :: nw)) (h : Q x s)
    (hs : subscripted slice false (.ref lv) (.int (-1) t) = operate [.ref lv, .int (-1) t] (getItem (.ref lv) (.int (-1) t)) := by with_unfolding_all rfl) (hg : ∀ r, letTemporaryGo value (.ref lv) r = pure () := by intro _; with_unfolding_all rfl) :
    wpAny (model P w) A (subscriptTail value slice (.ref lv) (.int (-1) t)) Q E s := by
  have z := N _ (.head _)
  have hl : s.heap.IsList lv (vals ++ [x]).toArray := ⟨_, z.1, rfl, _, rfl⟩
  exact subscriptTail_builtin hl.typeIs slot_list_getitem.lookup (wpAny_getItem_list_neg hl (by decide) (by simp; omega) (by decide) (by
    have e1 : (-1 + ((vals ++ [x]).toArray.size : Int)).toNat = vals.length := by simp; omega
    rw [e1]; simp) h) hs hg
theorem item_at {w : World} {A : Around} {E : Value → Shared → Prop} {s : Shared} {h₀ : Heap} {L l : Addr} {news : List (Addr × Obj)} {its : Array Value} {x : Value} {k : Int} {r : Nat} {cc : Nat} {t : Tok} {value slice : Expr} {Q : Value → Shared → Prop} (N : News h₀ L s.heap news) (hm : (l, listO its cc) ∈ news) (hk : k = (r : Int)) (hx : its[r]? = some x) (hr : r < 100000) (h : Q x s)
    (hs : subscripted slice false (.ref l) (.int k t) = operate [.ref l, .int k t] (getItem (.ref l) (.int k t)) := by with_unfolding_all rfl) (hg : ∀ r, letTemporaryGo value (.ref l) r = pure () := by intro _; with_unfolding_all rfl) :
    wpAny (model P w) A (subscriptTail value slice (.ref l) (.int k t)) Q E s := by
  have z := N _ hm
  have hl : s.heap.IsList l its := ⟨_, z.1, rfl, _, rfl⟩
  subst hk
  exact subscriptTail_builtin hl.typeIs slot_list_getitem.lookup (wpAny_getItem_list hl (by omega) (by omega) (by simpa using hx) h) hs hg
local macro_rules | `(tactic| walk_at "subscriptTail") => `(tactic| (k_here; k_dflt (refine' item_last ?N ?_ ?a ?b; (case N => k_asm); walk_at "uu"); walk_at "ds"))
local macro_rules | `(tactic| walk_at "m:item") => `(tactic| (k_here; k_dflt (refine' item_at ?N ?h ?k ?x ?r ?_ ?a ?b; (case N => k_asm); (case h | k | x | r => assumption); walk_at "uu"); walk_at "ds"))
local macro_rules | `(tactic| walk_at "subscriptTail Name BinOp ref int") => `(tactic| walk_at "m:item")
local macro_rules | `(tactic| walk_at "binaryOp Add str str") => `(tactic| (k_here; k_dflt (refine' add_pos' ?hs ?_; (case hs => assumption); intro t9 tk9; walk_at "ds")))
local macro_rules | `(tactic| walk_at "setItem ref int") => `(tactic| (k_here; k_dflt (refine' set_last ?F ?N ?l ?_; walk_at "FN"; (case l => assumption); k_whole; intro h9 n9 F9 N9; walk_at "sw")))
theorem pb_app {w : World} {ps : Program} {loose : List Str} {mean : ExcName → Option Value} {mg mb : Str → Option Value} {dp u : Nat} {gd : Option (List Code)} {cn : Str} {cs : Scope} {a : Addr} {ccd : Value} {cl : List (Str × Addr)} {outer : List Env} {base g : Heap} {L0 L : Addr} {m : Str → Option Value} {s : Shared} {nw : List (Addr × Obj)} {Q : Flow → Shared → Prop} {E : Value → Shared → Prop} {lv cc : Nat} {oc : Obj} {vals : List Value} {x : Int} {t1 : Tok}
    (hx : Int.fmod x 10 = 9) (hsz : vals.length ≤ 50000) (hl : ∀ p ∈ nw, p.1 ≠ lv) (hc : (L + 1, oc) ∈ nw) (ho : oc.data = .cell (some (.ref lv))) (m1 : m "x" = some (.int x t1))
    (B : Below (ktrTop dp u gd cn cs L0 a ccd cl outer) base (envX cn cs L0 a ccd cl :: outer) g) (X : (K w.params).In g) (T : Top ps loose mean mg mb g) (F : Fr g L s.heap m) (N : News g L s.heap ((lv, listO vals.toArray cc) :: nw)) (hd : dp + 10 < recursionLimit) (hu : u + 60 < cLine) (ht : 0 < s.toks)
    (ret : ∀ (h' : Heap) (tk' cc' : Nat) (its : Array Value) (t' : Tok), Fr g L h' m → its.toList = vals ++ [Value.str (Str.ofString "") t'] → News g L h' ((lv, listO its cc') :: nw) → Q .next { s with heap := h', toks := tk' }) :
    wpAny (model P w) ((ktrTop dp u gd cn cs L0 a ccd cl outer).deeper (envPr L)) (execs prB (envPr L)) Q E s := by
  obtain ⟨hh, gg, dd, tkz, oo⟩ := s
  dsimp only at F N ht ⊢
  have hc' : (L + 1, oc) ∈ ((lv, listO vals.toArray cc) :: nw) := .tail _ hc
  k_steps
  rename News _ _ _ _ => nEnd
  refine ret _ _ _ _ ?t (by k_asm) ?e nEnd
  case e =>
    simp only [Array.toList_push]
    exact rfl
theorem pb_set {w : World} {ps : Program} {loose : List Str} {mean : ExcName → Option Value} {mg mb : Str → Option Value} {dp u : Nat} {gd : Option (List Code)} {cn : Str} {cs : Scope} {a : Addr} {ccd : Value} {cl : List (Str × Addr)} {outer : List Env} {base g : Heap} {L0 L : Addr} {m : Str → Option Value} {s : Shared} {nw : List (Addr × Obj)} {Q : Flow → Shared → Prop} {E : Value → Shared → Prop} {lv lsg cc cg : Nat} {oc : Obj} {vals svs : List Value} {x : Int} {r c : Nat} {y : List Nat} {t1 t2 t3 : Tok}
    (hx : Int.fmod x 10 = (r : Int)) (h9 : ¬ Int.fmod x 10 = 9) (hr : r < 9) (hy : y.length ≤ 50000) (hsz : vals.length ≤ 50000) (hl : ∀ p ∈ nw, p.1 ≠ lv) (hc : (L + 1, oc) ∈ nw) (hg : (lsg, listO svs.toArray cg) ∈ nw) (hsv : svs.toArray[r]? = some (.str ⟨#[c]⟩ t3)) (ho : oc.data = .cell (some (.ref lv))) (m1 : m "x" = some (.int x t1)) (m2 : m "signs" = some (.ref lsg))
    (B : Below (ktrTop dp u gd cn cs L0 a ccd cl outer) base (envX cn cs L0 a ccd cl :: outer) g) (X : (K w.params).In g) (T : Top ps loose mean mg mb g) (F : Fr g L s.heap m) (N : News g L s.heap ((lv, listO (vals ++ [Value.str (tx y) t2]).toArray cc) :: nw)) (hd : dp + 10 < recursionLimit) (hu : u + 60 < cLine) (ht : 0 < s.toks)
    (ret : ∀ (h' : Heap) (tk' cc' : Nat) (t' : Tok), Fr g L h' m → News g L h' ((lv, listO (vals ++ [Value.str (tx (y ++ [c])) t']).toArray cc') :: nw) → Q .next { s with heap := h', toks := tk' }) :
    wpAny (model P w) ((ktrTop dp u gd cn cs L0 a ccd cl outer).deeper (envPr L)) (execs prB (envPr L)) Q E s := by
  obtain ⟨hh, gg, dd, tkz, oo⟩ := s
  dsimp only at F N ht ⊢
  have hc' : (L + 1, oc) ∈ ((lv, listO (vals ++ [Value.str (tx y) t2]).toArray cc) :: nw) := .tail _ hc
  have hg' : (lsg, listO svs.toArray cg) ∈ ((lv, listO (vals ++ [Value.str (tx y) t2]).toArray cc) :: nw) := .tail _ hg
  have hr' : r < 100000 := by omega
  k_steps
  rename News _ _ _ _ => nEnd
  exact ret _ _ _ _ (by k_asm) nEnd
noncomputable def vstep (vs : List (List Nat)) (x : Int) : List (List Nat) := if Int.fmod x 10 = 9 then vs ++ [[]] else vs.dropLast ++ [vs.getLastD [] ++ [sigV.getD (Int.fmod x 10).toNat 0]]
noncomputable def vals12 (ns : List Int) : List (List Nat) := ([0, 9, 0] ++ ns.take 12).foldl vstep [[]]
theorem TxsAre.get {y : List Nat} : ∀ {vals : List Value} {ws : List (List Nat)} {i : Nat}, TxsAre vals ws → ws[i]? = some y → ∃ t, vals[i]? = some (.str (tx y) t)
  | _, _, 0, .cons (tr := t) _, h => by simp at h; subst h; exact ⟨t, rfl⟩
  | _, _, i + 1, .cons r, h => by simpa using r.get (i := i) (by simpa using h)
  | _, _, _, .nil, h => by simp at h
theorem TxsAre.split {y : List Nat} : ∀ {ws : List (List Nat)} {vals : List Value}, TxsAre vals (ws ++ [y]) → ∃ vals' t, vals = vals' ++ [Value.str (tx y) t] ∧ TxsAre vals' ws
  | [], _, .cons (tr := t) .nil => ⟨[], t, rfl, .nil⟩
  | _ :: _, _, .cons (tr := t) h => by
    obtain ⟨v', t', rfl, h'⟩ := h.split
    exact ⟨_ :: v', t', rfl, .cons h'⟩
theorem vfold_ne (xs : List Int) : xs.foldl vstep [[]] ≠ [] := by
  have key : ∀ (xs : List Int) (a : List (List Nat)), a ≠ [] → xs.foldl vstep a ≠ [] := by
    intro xs
    induction xs with
    | nil => intro a h; exact h
    | cons x r ih =>
      intro a _
      refine ih _ ?_
      unfold vstep
      split <;> simp
  exact key xs _ (by simp)
theorem last_mem {a : List (List Nat)} (h0 : a ≠ []) : a.getLastD [] ∈ a := by
  obtain ⟨ws, y, rfl⟩ : ∃ ws y, a = ws ++ [y] := ⟨_, _, (List.dropLast_concat_getLast h0).symm⟩
  rw [List.getLastD_concat]; simp
theorem vfold_len (xs : List Int) : (xs.foldl vstep [[]]).length ≤ xs.length + 1 ∧ ∀ y ∈ xs.foldl vstep [[]], y.length ≤ xs.length := by
  have key : ∀ (xs : List Int) (a : List (List Nat)) (n : Nat), a ≠ [] → a.length ≤ n + 1 → (∀ y ∈ a, y.length ≤ n) → (xs.foldl vstep a).length ≤ n + xs.length + 1 ∧ ∀ y ∈ xs.foldl vstep a, y.length ≤ n + xs.length := by
    intro xs
    induction xs with
    | nil => intro a n _ h1 h2; exact ⟨h1, h2⟩
    | cons x r ih =>
      intro a n h0 h1 h2
      have h3 : vstep a x ≠ [] := by unfold vstep; split <;> simp
      have h4 : (vstep a x).length ≤ n + 1 + 1 := by
        have := List.length_pos_iff.mpr h0
        unfold vstep; split <;> simp <;> omega
      have h5 : ∀ y ∈ vstep a x, y.length ≤ n + 1 := by
        intro y hy
        unfold vstep at hy
        split at hy
        · rcases List.mem_append.mp hy with hy | hy
          · have := h2 y hy; omega
          · simp at hy; subst hy; simp
        · rcases List.mem_append.mp hy with hy | hy
          · have := h2 y (List.dropLast_subset _ hy); omega
          · simp only [List.mem_singleton] at hy
            subst hy
            have := h2 _ (last_mem h0)
            rw [List.length_append]
            simp only [List.length_cons, List.length_nil]
            omega
      have := ih (vstep a x) (n + 1) h3 h4 h5
      simp only [List.foldl_cons, List.length_cons]
      constructor
      · have := this.1; omega
      · intro y hy; have := this.2 y hy; omega
  have := key xs [[]] 0 (by simp) (by simp) (by simp)
  simpa using this
theorem vfold_sigs (xs : List Int) : ∀ y ∈ xs.foldl vstep [[]], ∀ c ∈ y, c ∈ sigs := by
  have hs : ∀ r : Nat, r < 9 → sigV.getD r 0 ∈ sigs := by decide
  have key : ∀ (xs : List Int) (a : List (List Nat)), (∀ y ∈ a, ∀ c ∈ y, c ∈ sigs) → ∀ y ∈ xs.foldl vstep a, ∀ c ∈ y, c ∈ sigs := by
    intro xs
    induction xs with
    | nil => intro a h; exact h
    | cons x r ih =>
      intro a h
      refine ih _ ?_
      intro y hy c hc
      unfold vstep at hy
      split at hy
      · rcases List.mem_append.mp hy with hy | hy
        · exact h y hy c hc
        · simp at hy; subst hy; simp at hc
      · rename_i h9
        rcases List.mem_append.mp hy with hy | hy
        · exact h y (List.dropLast_subset _ hy) c hc
        · simp only [List.mem_singleton] at hy
          subst hy
          rcases List.mem_append.mp hc with hc | hc
          · by_cases h0 : a = []
            · subst h0; simp at hc
            · exact h _ (last_mem h0) c hc
          · simp only [List.mem_singleton] at hc
            subst hc
            have h1 := Int.fmod_nonneg_of_pos x (show (0 : Int) < 10 by decide)
            have h2 := Int.fmod_lt_of_pos x (show (0 : Int) < 10 by decide)
            exact hs _ (by omega)
  exact key xs _ (by simp)
inductive PJ (lv lsg : Nat) (nw0 : List (Addr × Obj)) (xs : List Int) (i : Nat) (m₁ : Str → Option Value) (nw : List (Addr × Obj)) : Prop
  | mk (vals : List Value) (cc : Nat) (e : nw = (lv, listO vals.toArray cc) :: nw0) (T : TxsAre vals ((xs.take i).foldl vstep [[]])) (g : m₁ "signs" = some (.ref lsg)) : PJ lv lsg nw0 xs i m₁ nw
theorem pairs_loop {w : World} {ps : Program} {loose : List Str} {mean : ExcName → Option Value} {mg mb : Str → Option Value} {dp u : Nat} {gd : Option (List Code)} {cn : Str} {cs : Scope} {a : Addr} {ccd : Value} {cl : List (Str × Addr)} {outer : List Env} {base g : Heap} {L0 L : Addr} {m : Str → Option Value} {s : Shared} {news : List (Addr × Obj)} {Q : Flow → Shared → Prop} {E : Value → Shared → Prop} {D D1 D2 l3 lv lsg cD c0 cg : Nat} {o1 o2 o3 oc : Obj} {us svs : List Value} {xs : List Int} {t0 : Tok} {px : Pos}
    (hi : IntsAre us xs) (hxl : xs.length ≤ 20) (hsv : ∀ r, r < 9 → ∃ t3, svs.toArray[r]? = some (.str ⟨#[sigV.getD r 0]⟩ t3)) (hD : lv < D) (h1 : lv < D1) (h2 : lv < D2) (h3 : lv < l3) (h4 : lsg < lv) (h5 : L + 1 < lv) (hl : ∀ p ∈ news, p.1 < lv) (ho : oc.data = .cell (some (.ref lv))) (m2 : m "signs" = some (.ref lsg))
    (B : Below (ktrTop dp u gd cn cs L0 a ccd cl outer) base (envX cn cs L0 a ccd cl :: outer) g) (X : (K w.params).In g) (T : Top ps loose mean mg mb g) (F : Fr g L s.heap m)
    (N : News g L s.heap ((D, listO us.toArray cD) :: (D1, o1) :: (D2, o2) :: (l3, o3) :: (lv, listO #[Value.str (Str.ofString "") t0] c0) :: (lsg, listO svs.toArray cg) :: (L + 1, oc) :: news)) (hd : dp + 10 < recursionLimit) (hu : u + 60 < cLine) (ht : 0 < s.toks)
    (done : ∀ (h' : Heap) (tk' cc' : Nat) (m' : Str → Option Value) (vals : List Value), 0 < tk' → Fr g L h' m' → TxsAre vals (xs.foldl vstep [[]]) → News g L h' ((lv, listO vals.toArray cc') :: (L + 1, oc) :: news) → Q .next { s with heap := h', toks := tk' }) :
    wpAny (model P w) ((ktrTop dp u gd cn cs L0 a ccd cl outer).deeper (envPr L)) (pyIter (.ref D)) (fun it s₂ => codeAny (model P w) ((ktrTop dp u gd cn cs L0 a ccd cl outer).deeper (envPr L)) (.forLoop (.Name "x" px) it prB [] (envPr L)) (fun r s' => match r with | .ok f => Q f s' | .error e => cameBackBy (model P w) ((ktrTop dp u gd cn cs L0 a ccd cl outer).deeper (envPr L)) (envPr L) E e s') s₂) E s := by
  generalize hnw : (D, listO us.toArray cD) :: (lsg, listO svs.toArray cg) :: (L + 1, oc) :: news = nw0
  have N1 : News g L s.heap ((lv, listO ([Value.str (tx []) t0]).toArray c0) :: nw0) := by
    rw [← tx_nil, ← hnw]
    exact News.sub N (aM (.tail _ (.tail _ (.tail _ (.tail _ (.head _))))) (aM (.head _) fun p hp => .tail _ (.tail _ (.tail _ (.tail _ (.tail _ hp))))))
  have hne : ∀ p ∈ nw0, p.1 ≠ lv := by
    rw [← hnw]
    exact aN (Nat.ne_of_gt hD) (aN (Nat.ne_of_lt h4) (aN (Nat.ne_of_lt h5) fun p hp => Nat.ne_of_lt (hl p hp)))
  have hc : (L + 1, oc) ∈ nw0 := by rw [← hnw]; exact .tail _ (.tail _ (.head _))
  have hsg : (lsg, listO svs.toArray cg) ∈ nw0 := by rw [← hnw]; exact .tail _ (.head _)
  have hDm : (D, listO us.toArray cD) ∈ nw0 := by rw [← hnw]; exact .head _
  have hlen := hi.length
  k_dflt (refine' ForIter_own (src := nw0) (iters_list rfl hDm (fun p hp => (N1 p (.tail _ hp)).1)) (bind_name (by rfl) (by rfl)) F N1 (fun p hp => .tail _ hp) ht (PJ lv lsg nw0 xs) ?hJ ?turn ?done)
  case hJ => exact ⟨_, c0, rfl, .cons .nil, m2⟩
  case turn =>
    rintro i v1 mm m2' news1 I oI h tk E' hii hP ⟨vals, cc, rfl, hT, n2⟩ hBd hsub htk F1 N2 off
    have hm2 : m2' = fun (y : Str) => if y = "x" then some v1 else mm y := hBd
    subst hm2
    have hlt : i < xs.length := by simp at hii; omega
    obtain ⟨t1, hx⟩ := hi.get i xs[i] (by simp [hlt])
    have hv : v1 = .int xs[i] t1 := by
      have hP' : us[i]? = some v1 := by simpa using hP
      rw [hx] at hP'; exact (Option.some.inj hP').symm
    subst hv
    have hne2 : ∀ p ∈ ((I, oI) :: nw0), p.1 ≠ lv := aN (fun e => off (lv, listO vals.toArray cc) (.head _) e.symm) hne
    have N3 : News g L h ((lv, listO vals.toArray cc) :: (I, oI) :: nw0) := nSw N2
    have hfl := vfold_len (xs.take i)
    have htl : (xs.take i).length ≤ 20 := by rw [List.length_take]; omega
    have hvs : vals.length ≤ 50000 := by rw [hT.len]; omega
    have hst : (xs.take (i + 1)).foldl vstep [[]] = vstep ((xs.take i).foldl vstep [[]]) xs[i] := by
      rw [List.take_add_one, List.getElem?_eq_getElem hlt]; simp only [Option.toList_some, List.foldl_append, List.foldl_cons, List.foldl_nil]
    have fin : ∀ (h' : Heap) (tk' cc' : Nat) (vals' : List Value), Fr g L h' (fun (y : Str) => if y = "x" then some (.int xs[i] t1) else mm y) → TxsAre vals' ((xs.take (i + 1)).foldl vstep [[]]) → News g L h' ((lv, listO vals'.toArray cc') :: (I, oI) :: nw0) →
        FNext s g L nw0 I oI (PJ lv lsg nw0 xs (i + 1)) { s with heap := h', toks := tk' } := by
      intro h' tk' cc' vals' F2 hT2 N4
      exact ⟨h', tk', _, (lv, listO vals'.toArray cc') :: nw0, rfl, F2, nSw N4, aN (fun e => hne2 (I, oI) (.head _) e.symm) fun p hp => off p (.tail _ hp), fun p hp => .tail _ hp, vals', cc', rfl, hT2, n2⟩
    by_cases h9 : Int.fmod xs[i] 10 = 9
    · k_dflt (refine' pb_app (oc := oc) h9 hvs hne2 (.tail _ hc) ho ?x1 B X T F1 N3 hd hu htk ?ret)
      case x1 => rfl
      case ret =>
        intro h' tk' cc' its t' F2 e1 N4
        refine fin h' tk' cc' its.toList F2 ?_ (by rw [Array.toArray_toList]; exact N4)
        rw [e1, hst, vstep, if_pos h9, tx_nil]
        exact hT.snoc
    · have hf0 := vfold_ne (xs.take i)
      have hr1 := Int.fmod_nonneg_of_pos xs[i] (show (0 : Int) < 10 by decide)
      have hr2 := Int.fmod_lt_of_pos xs[i] (show (0 : Int) < 10 by decide)
      obtain ⟨ws, y, hwy⟩ : ∃ ws y, (xs.take i).foldl vstep [[]] = ws ++ [y] := ⟨_, _, (List.dropLast_concat_getLast hf0).symm⟩
      rw [hwy] at hT hfl
      obtain ⟨vals', t2, rfl, hT'⟩ := hT.split
      obtain ⟨t3, hs3⟩ := hsv (Int.fmod xs[i] 10).toNat (by omega)
      have hy5 : y.length ≤ 50000 := by have := hfl.2 y (by simp); omega
      have hv5 : vals'.length ≤ 50000 := by rw [List.length_append] at hvs; omega
      k_dflt (refine' pb_set (oc := oc) (r := (Int.fmod xs[i] 10).toNat) (y := y) (svs := svs) ?hx h9 ?hr hy5 hv5 hne2 (.tail _ hc) (.tail _ hsg) hs3 ho ?x1 ?x2 B X T F1 N3 hd hu htk ?ret)
      case hx => omega
      case hr => omega
      case x1 => rfl
      case x2 => exact n2
      case ret =>
        intro h' tk' cc' t' F2 N4
        refine fin h' tk' cc' _ F2 ?_ N4
        rw [hst, hwy, vstep, if_neg h9]
        simp only [List.dropLast_concat, List.getLastD_concat]
        exact hT'.snoc
  case done =>
    rintro mm news1 h tk ⟨vals, cc, rfl, hT, n2⟩ F1 N2 htk
    have e : us.toArray.size = xs.length := by simp [hlen]
    rw [e, List.take_length] at hT
    exact done h tk cc mm vals htk F1 hT (News.sub N2 fun p hp => by
      rw [← hnw]
      simp only [List.mem_cons] at hp ⊢
      rcases hp with h | h | h <;> simp [h])
local macro_rules | `(tactic| walk_at "exec For") => `(tactic| (k_here; k_dflt (refine wpAny_For ?_)))
theorem sig_at (t0 t1 t2 t3 t4 t5 t6 t7 t8 : Tok) : ∀ r, r < 9 → ∃ t, ([Value.str (Str.ofString "\\") t0, Value.str (Str.ofString "a") t1, Value.str (Str.ofString " ") t2, Value.str (Str.ofString "\"") t3, Value.str (Str.ofString "\\") t4, Value.str (Str.ofString "<") t5, Value.str (Str.ofString ">") t6, Value.str (Str.ofString "\n") t7, Value.str (Str.ofString "&") t8] : List Value).toArray[r]? = some (.str ⟨#[sigV.getD r 0]⟩ t) := by
  have e1 : Str.ofString "\\" = ⟨#[92]⟩ := by decide +kernel
  have e2 : Str.ofString "a" = ⟨#[97]⟩ := by decide +kernel
  have e3 : Str.ofString " " = ⟨#[32]⟩ := by decide +kernel
  have e4 : Str.ofString "\"" = ⟨#[34]⟩ := by decide +kernel
  have e5 : Str.ofString "<" = ⟨#[60]⟩ := by decide +kernel
  have e6 : Str.ofString ">" = ⟨#[62]⟩ := by decide +kernel
  have e7 : Str.ofString "\n" = ⟨#[10]⟩ := by decide +kernel
  have e8 : Str.ofString "&" = ⟨#[38]⟩ := by decide +kernel
  rw [e1, e2, e3, e4, e5, e6, e7, e8]
  intro r hr
  match r, hr with
  | 0, _ => exact ⟨_, rfl⟩
  | 1, _ => exact ⟨_, rfl⟩
  | 2, _ => exact ⟨_, rfl⟩
  | 3, _ => exact ⟨_, rfl⟩
  | 4, _ => exact ⟨_, rfl⟩
  | 5, _ => exact ⟨_, rfl⟩
  | 6, _ => exact ⟨_, rfl⟩
  | 7, _ => exact ⟨_, rfl⟩
  | 8, _ => exact ⟨_, rfl⟩
local macro_rules | `(tactic| walk_at "eval ListComp") => `(tactic| (k_here; k_dflt (refine ListComp_O (c := none) (by k_asm) (by walk_at "uf") (by decide) (by rfl) (by decide) ?_)))
theorem len_own {w : World} {A : Around} {E : Value → Shared → Prop} {s : Shared} {h₀ : Heap} {L l : Addr} {news : List (Addr × Obj)} {its : Array Value} {cc : Nat} {Q : Value → Shared → Prop} (N : News h₀ L s.heap news) (hm : (l, listO its cc) ∈ news) (hz : its.size ≤ 100000)
    (h : Q (.int (its.size : Int) (s.toks + 1)) { s with toks := s.toks + 1 + 1 }) : wpAny (model P w) A (call (.builtin "len") [.ref l]) Q E s :=
  len_list ⟨_, (N _ hm).1, rfl, _, rfl⟩ (by omega) h
theorem range_own {w : World} {A : Around} {E : Value → Shared → Prop} {s : Shared} {h₀ : Heap} {L : Addr} {m : Str → Option Value} {news : List (Addr × Obj)} {n : Int} {t : Tok} {Q : Value → Shared → Prop} (F : Fr h₀ L s.heap m) (N : News h₀ L s.heap news)
    (h : ∀ r h' t1 u1 v1, IsRange h' r 0 n 1 t1 u1 v1 → Fr h₀ L h' m → News h₀ L h' news → Q (.ref r) { s with heap := h', toks := s.toks + 1 + 1 }) : wpAny (model P w) A (call (.type "range") [.int n t]) Q E s :=
  call_range_1 (h _ _ _ _ _ (IsRange.new ..) (F.push _) (fun p hp => ⟨Heap.get?_push_of_some _ (N p hp).1, (N p hp).2⟩))
noncomputable def letW : List Nat := [97, 98, 99, 100, 101, 102, 103, 104, 105, 106, 107, 108, 109, 110, 111, 112]
theorem let_item {i : Nat} (hi : i < 16) : Txt.item (Str.ofString "abcdefghijklmnop") (0 + (i : Int) * 1) = ⟨#[97 + i]⟩ := by
  have e : Str.ofString "abcdefghijklmnop" = tx letW := by decide +kernel
  have hk : (0 + (i : Int) * 1) = ((i : Nat) : Int) := by omega
  rw [e, hk]
  have hc : ∀ i, i < 16 → letW[i]? = some (97 + i) := by decide
  exact PyProof.Rows.item_meets (by omega) (by simpa using hc i hi)
theorem tup_end {g : Heap} {L : Addr} {m : Str → Option Value} {s : Shared} {I C D T : Addr} {oI oC oD o : Obj} {nw news : List (Addr × Obj)} {h' : Heap} {tk : Nat} {rest : Value → List (Addr × Obj) → Prop} (F : Fr g L h' m) (N : News g L h' ((T, o) :: (I, oI) :: (C, oC) :: (D, oD) :: nw)) (l : I < T ∧ C < T ∧ D < T ∧ AllLt T nw) (off : Off3 I C D nw) (hsub : ∀ p ∈ news, p ∈ nw) (r : rest (.ref T) ((T, o) :: nw)) : CompEnd g L m s I oI C oC D oD (fun nw => ∀ p ∈ news, p ∈ nw) rest (.ref T) { s with heap := h', toks := tk } := by
  refine ⟨h', tk, (T, o) :: nw, rfl, F, News.sub N fun p hp => ?_, ⟨⟨Nat.ne_of_gt l.1, Nat.ne_of_gt l.2.1, Nat.ne_of_gt l.2.2.1⟩, off⟩, fun p hp => .tail _ (hsub p hp), r⟩
  simp only [List.mem_cons] at hp ⊢
  rcases hp with h | h | h | h | h <;> simp [h]
noncomputable abbrev scPr : Scope := { kind := .function, names := [(".0", .local), ("k", .local), ("values", .free)], isGenerator := false, isCoroutine := false, more := [] }
noncomputable def prsOf (vs : List (List Nat)) : List (Nat × List Nat) := vs.zipIdx.map fun p => (97 + p.2, p.1)
theorem PairRefs.app {news : List (Addr × Obj)} : ∀ {vs us : List Value} {ps qs : List (Nat × List Nat)}, PairRefs news vs ps → PairRefs news us qs → PairRefs news (vs ++ us) (ps ++ qs)
  | _, _, _, _, .nil, h => h
  | _, _, _, _, .cons a b c r, h => .cons a b c (r.app h)
local macro_rules | `(tactic| walk_at "subscriptTail Name Name ref int") => `(tactic| walk_at "m:item")
theorem pairs_src {w : World} {ps : Program} {loose : List Str} {mean : ExcName → Option Value} {mg mb : Str → Option Value} {A₀ : Around} {base g : Heap} {outer : List Env} {L : Addr} {m : Str → Option Value} {s₁ : Shared} {news : List (Addr × Obj)} {lv cc r : Nat} {oc : Obj} {vals : List Value} {ws : List (List Nat)} {t1 u1 v1 : Tok} {Fin : Shared → List Value → List (Addr × Obj) → Prop}
    (B : Below A₀ base outer g) (X : (K w.params).In g) (T : Top ps loose mean mg mb g) (hh : A₀.handled = none) (F : Fr g L s₁.heap m) (N : News g L s₁.heap news) (hv : (lv, listO vals.toArray cc) ∈ news) (hc : (L + 1, oc) ∈ news) (ho : oc.data = .cell (some (.ref lv))) (hT : TxsAre vals ws) (hwl : ws.length ≤ 16) (hr : IsRange s₁.heap r 0 (vals.toArray.size : Int) 1 t1 u1 v1) (ht : 0 < s₁.toks)
    (fin : ∀ ys tup, PairRefs tup ys (prsOf ws) → Fin s₁ ys (tup ++ news)) :
    CSrc P w (A₀.deeper (envPr L)) g L m (envPr L) none (.Tuple [.Subscript (.Constant (.str "abcdefghijklmnop") 0 ⟨799, 13, 799, 31⟩) (.Name "k" ⟨799, 32, 799, 33⟩) ⟨799, 13, 799, 34⟩, .Subscript (.Name "values" ⟨799, 36, 799, 42⟩) (.Name "k" ⟨799, 43, 799, 44⟩) ⟨799, 36, 799, 45⟩] 0 ⟨799, 12, 799, 46⟩) (.Name "k" ⟨799, 51, 799, 52⟩) scPr [(Str.ofString "values", L + 1)] Fin (.ref r) s₁ := by
  have hlen := hT.len
  have hsz : vals.toArray.size = ws.length := by simp [hlen]
  refine ⟨news, vals.toArray.size, _, _, _, fun i ys nw => ∃ tup, nw = tup ++ news ∧ PairRefs tup ys ((prsOf ws).take i), iters_range hh hr (small_one (by decide) (by decide) (by omega) (by omega)) (by rw [rangeSize_nat]; simp), fun C => bind_name (by rfl) (by rfl), F, N, ht, by rw [hsz]; exact Nat.le_trans hwl (by decide), ⟨[], rfl, .nil⟩, ?_, ?_⟩
  · rintro i ys nw v1 m₁ m₂ I oI C oC D h tk E' hi ⟨t5, rfl⟩ ⟨tup, rfl, hys⟩ hyl hBd hoC F1 N1 off ne hsub htk
    have hx : m₂ (Str.ofString "k") = some (.int (0 + (i : Int) * 1) t5) := by rw [hBd]; exact if_pos rfl
    have hk : (0 + (i : Int) * 1) = ((i : Nat) : Int) := by omega
    have hi16 : i < 16 := by omega
    have hi5 : i < 100000 := by omega
    obtain ⟨y, hy⟩ : ∃ y, ws[i]? = some y := ⟨_, List.getElem?_eq_getElem (by omega)⟩
    obtain ⟨t6, hv6⟩ : ∃ t6, vals.toArray[i]? = some (.str (tx y) t6) := by
      have := hT.get hy
      simpa using this
    show wpAny _ _ (eval _ _) _ _ _
    have hc' : (L + 1, oc) ∈ ((I, oI) :: (C, oC) :: (D, lst ys) :: (tup ++ news)) := .tail _ (.tail _ (.tail _ (List.mem_append_right _ hc)))
    have hv' : (lv, listO vals.toArray cc) ∈ ((I, oI) :: (C, oC) :: (D, lst ys) :: (tup ++ news)) := .tail _ (.tail _ (.tail _ (List.mem_append_right _ hv)))
    have hC' : (C, oC) ∈ ((I, oI) :: (C, oC) :: (D, lst ys) :: (tup ++ news)) := .tail _ (.head _)
    k_steps
    rename News _ _ _ _ => nEnd
    rename Fr _ _ _ _ => fEnd
    rename _ ∧ _ ∧ _ ∧ AllLt _ _ => lEnd
    rw [let_item hi16] at nEnd
    refine tup_end (s := { s₁ with heap := h, toks := tk }) fEnd nEnd lEnd off hsub ⟨_ :: tup, rfl, ?_⟩
    have e5 : (prsOf ws).take (i + 1) = (prsOf ws).take i ++ [(97 + i, y)] := by
      rw [List.take_add_one]
      congr 1
      simp [prsOf, hy]
    rw [if_pos trivial, e5]
    exact (hys.mono fun p hp => .tail _ hp).app (.cons (.head _) rfl rfl .nil)
  · rintro ys nw ⟨tup, rfl, hys⟩
    refine fin ys tup ?_
    rwa [List.take_of_length_le (by simp [prsOf, hsz])] at hys
local macro_rules | `(tactic| walk_at "call builtin:len") => `(tactic| (k_here; k_dflt (refine' len_own ?N ?m ?z ?_; (case N => k_asm); (case m => exact .head _); (case z => assumption)); walk_at "ds"))
local macro_rules | `(tactic| walk_at "call type:range") => `(tactic| (k_here; (with_reducible show wpAny _ _ (call _ [_]) _ _ _); k_dflt (refine' range_own ?F ?N ?_; walk_at "FN"; k_whole; intro r9 h9 t9 u9 v9 R9 F9 N9; walk_at "sw")))
theorem pairs_gives {w : World} {news : List (Addr × Obj)} {ps : Program} {loose : List Str} {mean : ExcName → Option Value} {mg mb : Str → Option Value} {dp u : Nat} {gd : Option (List Code)} {cn : Str} {cs : Scope} {a : Addr} {ccd : Value} {cl : List (Str × Addr)} {outer : List Env} {A₀ : Around} {base h₀ : Heap} {L : Addr} {m : Str → Option Value} {s : Shared} {Q E : Value → Shared → Prop} {lsc : Addr} {vs : List Value} {ns : List Int}
    (B : Below A₀ base outer h₀) (F : Fr h₀ L s.heap m) (X : (K w.params).In h₀) (N : News h₀ L s.heap news) (T : Top ps loose mean mg mb h₀) (hk : cs.kind = .function) (hl : base.IsList lsc vs.toArray) (hi : IntsAre vs ns) (hn : ns.length < 64) (hd : dp + 20 < recursionLimit) (hu : u + 120 < cLine)
    (ret : ∀ lp extra h' tk', 0 < tk' → Fr h₀ L h' m → News h₀ L h' (extra ++ news) → PairsAt (extra ++ news) lp (prsOf (vals12 ns)) → Q (.ref lp) { s with heap := h', toks := tk' }) :
    wpAny (model P w) (ktrTop dp u gd cn cs L a ccd cl outer) (call (.ref 774) [.ref lsc]) Q E s := by
  refine wpAny_call ?_
  k_dflt (refine' code_defCL (binds := [("script", .ref lsc)]) ?k1 ?k2 ?k3 ?k4 ?k5 ?kA ?kF ?kK ?k6 ?k7 ?k8 ?k9 ?kB ?kD ?_ ?c2 ?c3 ?c4; (case kA => exact rfl); (case kF => exact rfl); (case kK => assumption); (case k1 => k_asm); (case k2 => k_asm); (case k3 => k_asm); (case k4 => k_asm); (case k5 => k_asm); (case k6 => k_is); (case k7 => k_is); (case k8 => ktr_room); (case k9 => exact kp_binds (by k_in) (fun S => by kernel_rfl)); (case kB => exact rfl); (case kD => decide +kernel); (case c2 => exact rfl); (case c3 => exact rfl); (case c4 => exact rfl); k_whole; intro g' L' h' tk' cells' htk' FG' F' N' Y' B' X' T' l1; k_cells Y'; (try simp only [List.cons_append, List.nil_append] at N'); (try dsimp only); (try k_lift B'); (try k_fold))
  have hne1 : ∀ p ∈ news, p.1 ≠ L' + 1 := fun p hp => Nat.ne_of_lt (Nat.lt_succ_of_lt (l1 p hp))
  repeat walk1
  k_dflt (refine' pairs_loop (L := L') ?hi ?hxl ?hsv ?hD ?h1 ?h2 ?h3 ?h4 ?h5 ?hl ?ho ?m2 B' X' T' ?F ?N ?hd ?hu ?ht ?done)
  case F => k_asm
  case N => k_asm
  case hi => assumption
  case hxl => simp; omega
  case hsv => exact sig_at _ _ _ _ _ _ _ _ _
  case hD => omega
  case h1 => omega
  case h2 => omega
  case h3 => omega
  case h4 => omega
  case h5 => (refine ltN ?_; omega)
  case hl => exact AllLt.all (And.right (And.right (by assumption)))
  case ho => assumption
  case m2 => rfl
  case hd => omega
  case hu => omega
  case ht => first | assumption | exact Nat.succ_pos _ | omega
  case done =>
    intro h9 tk9 cc9 m9 vals htk9 F9 hT9 N9
    dsimp only
    have hvl := vfold_len ([0, 9, 0] ++ ns.take 12)
    have htl : ([0, 9, 0] ++ ns.take 12).length ≤ 15 := by simp; omega
    have hvz : vals.toArray.size ≤ 100000 := by have := hT9.len; simp; omega
    k_steps
    k_dflt (refine' pairs_src B' X' T' rfl ?F ?N ?hv ?hc ?ho hT9 ?hwl ?hr ?ht ?fin)
    case F => k_asm
    case N => k_asm
    case hv => exact .head _
    case hc => exact .tail _ (.head _)
    case ho => assumption
    case hwl => omega
    case hr => assumption
    case ht => first | assumption | exact Nat.succ_pos _ | omega
    case fin =>
      intro ys tup hp D8 h8 tk8 F8 N8 o8 htk8
      k_steps
      rename News _ _ _ _ => nEnd
      refine ret D8 ((D8, lst ys) :: tup) _ _ (by first | assumption | exact Nat.succ_pos _ | omega) (by assumption) (News.sub nEnd fun p hp => ?_) ⟨ys, ys.length, .head _, hp.mono fun p hp => .tail _ (List.mem_append_left _ hp)⟩
      simp only [List.mem_cons, List.cons_append, List.mem_append] at hp ⊢
      rcases hp with h | h | h <;> simp [h]
end
section
open PySem PySem.W PyProof.Rows PyProof.Rows.LCg PySem.Calls
open PySem.Spec
section
variable {prog : Program} {w : World} {A₀ : Around} {E : Value → Shared → Prop} {s' : Shared} {base g g₀ h : Heap} {outer : List Env} {L a e : Addr} {m : Str → Option Value} {name : Str} {scope : Scope} {cd : Value} {cl : List (Str × Addr)}
  {b₀ : Stmt} {suite : List Stmt} {pos np : Pos} {rest : List ExceptHandler} {Q : Flow → Shared → Prop} {news : List (Addr × Obj)} {KF : Frag}
  {p : Program} {loose : List Str} {mean : ExcName → Option Value} {mg mb : Str → Option Value} {x : Str} {X T' : String}
/-- an exception that is new in this frame, caught in it -/
theorem caught_NX (hx : Heap.NewExc h s'.heap e X) (F : Fr g L h m) (N : News g L h news) (K : Below A₀ base outer g) (XB : KF.In base) (TB : Top p loose mean mg mb base)
    (D : KtsDicts (outer.filterMap (·.frame)) g) (T0 : KtsTurn (outer.filterMap (·.frame)) g₀ g)
    (ex : nsIn KF mainGlobals x = some none) (hv : bootBuiltins x = some (.type T')) (hn' : x ≠ "__name__")
    (hexc : isSubtype (.type T') (.type "BaseException") = pure true) (hnt : isSubtype (.type ((Manifest.find? T').elim "type" fun y => y.metatype)) (.type "tuple") = pure false) (hsub : isSubtype (.type X) (.type T') = pure true)
    (k : ∀ h' g' tk', s'.toks ≤ tk' → KtsTurn (outer.filterMap (·.frame)) g₀ g' → Fr g' L h' m → News g' L h' news → Below A₀ base outer g' → KF.In g' → Top p loose mean mg mb g' → KtsDicts (outer.filterMap (·.frame)) g' →
      wpAny (model prog w) ((A₀.deeper (envX name scope L a cd cl)).mark (some (.ref e))) (execs (b₀ :: suite) (envX name scope L a cd cl)) Q E { s' with heap := h', toks := tk' })
    (hk : scope.kind = .function := by rfl) (hxk : (envX name scope L a cd cl).kindOf x = some .globalImplicit := by rfl) (hd : (x == ("__debug__" : Str)) = false := by decide)
    (hE : PassesOwnAt (model prog w) ((A₀.deeper (envX name scope L a cd cl)).mark (some (.ref e))) (A₀.deeper (envX name scope L a cd cl)) (envX name scope L a cd cl) E := by passes_own) :
    wpAny (model prog w) (A₀.deeper (envX name scope L a cd cl)) (noteFrame (.ref e) (envX name scope L a cd cl))
      (fun _ s₂ => wpAny (model prog w) (A₀.deeper (envX name scope L a cd cl)) (setFlight (.ref e) none) (fun _ s₃ =>
        wpAny (model prog w) (A₀.deeper (envX name scope L a cd cl)) (handleBy (.ref e) (envX name scope L a cd cl) (.ExceptHandler (some (.Name x np)) none (b₀ :: suite) pos :: rest)) Q E s₃) E s₂) E s' := by
  have K' : Below (A₀.deeper (envX name scope L a cd cl)) base (envX name scope L a cd cl :: outer) h := pushX K F rfl hk
  have hin : ∀ env ∈ (envX name scope L a cd cl :: outer), ∀ b, env.frame = some b → b ∈ (envX name scope L a cd cl :: outer).filterMap (·.frame) := fun env he b hb => List.mem_filterMap.mpr ⟨env, he, hb⟩
  generalize hB : hideAll h ((envX name scope L a cd cl :: outer).filterMap (·.frame)) = B
  have hBG : ∀ b o, h.get? b = some o → b ∉ (envX name scope L a cd cl :: outer).filterMap (·.frame) → B.get? b = some o := fun b o q nm => hB ▸ hideAll_get _ q nm
  have hBh : B.StaysIn h := fun b o q => of_hideAll _ (hB.symm ▸ q)
  have hfun : h.FunFrames B (envX name scope L a cd cl :: outer) := hB ▸ funFrames_hide K'.frames hin
  have hUp : h.UpToSlots s'.heap := Heap.UpToSlots.of_keeps hx.keeps
  have hL : B.get? L = none := (hfun.mem (List.mem_filterMap.mpr ⟨_, List.mem_cons_self, rfl⟩)).1
  have heB : B.get? e = none := by
    cases q : B.get? e with
    | none => rfl
    | some o => have := hBh e o q; rw [hx.new] at this; cases this
  have hl : ∀ q ∈ news, B.get? q.1 = some q.2 := fun q hq => by
    refine hBG _ _ (N q hq).1 fun hm => ?_
    rcases frame_mem rfl hm with z | z
    · exact (N q hq).2.1 z
    · obtain ⟨o, ho, _⟩ := (K.frames.mem z).2
      rw [(N q hq).2.2] at ho; cases ho
  obtain ⟨ob, tp, he, hcls, hdd⟩ := hx.there
  unfold noteFrame
  simp only [show (envX name scope L a cd cl).frame = some L from rfl]
  refine wpAny_bind (wpAny_field he hdd (x := .none) rfl ?_)
  rw [if_neg (by decide)]
  refine wpAny_entryW (a0 := tp) (Around.frames_deeper K.stack) (hfun.of_keeps fun b o hb _ => ⟨o, hx.keeps b o hb, rfl⟩) rfl he (fun b o eb => hx.keeps b o (hBh b o eb)) heB hdd (by show 1 < 6; decide) rfl fun h₄ hN => ?_
  obtain ⟨k1, k2, k3, k4⟩ := hN
  rw [hcls] at k3
  have hheld₄ : Heap.HeldW B (envX name scope L a cd cl :: outer) e (.type X) tp L h₄ := ⟨k1, heB, k2, k3⟩
  have hsm₄ : s'.heap.UpToSlots h₄ := k4
  refine wpAny_landsW hheld₄ fun h₅ hheld hsm₅' => ?_
  have hsm₅ := hsm₄.trans hsm₅'
  obtain ⟨g₅, T₅, F₅, K₅⟩ := groundT (env := envX name scope L a cd cl) rfl K F hBG hheld.1 (hUp.trans hsm₅)
  have X₅ : KF.In g₅ := XB.keeps K₅.stays
  have P₅ : TopRead p loose mg mb g₅ := topRead_of (TB.keeps K₅.stays)
  obtain ⟨ob', hob, hobc⟩ := hheld.there
  refine wpAny_handleBy_builtin (X := X) (T := T') (b := true) hexc hnt hsub (nameX_B F₅ X₅ P₅ ex hv hn' ⟨rfl, ⟨ob', hob, hobc⟩, ?_⟩ hk hxk hd)
  refine lands_againW hheld fun h₆ hfl₆ hsm₆ => ?_
  obtain ⟨g₆, T₆, F₆, K₆⟩ := groundT (env := envX name scope L a cd cl) rfl K F hBG hfl₆.1 ((hUp.trans hsm₅).trans hsm₆)
  have Nl : News g₆ L h₆ news := fun q hq => ⟨hfl₆.1 _ _ (hl q hq), (N q hq).2.1, T₆.none_ _ (N q hq).2.2⟩
  have X₆ : KF.In g₆ := XB.keeps K₆.stays
  have P₆ : Top p loose mean mg mb g₆ := TB.keeps K₆.stays
  have D₆ : KtsDicts (outer.filterMap (·.frame)) g₆ := D.turn T₆
  exact wpAny_passesOwnAt hE (k h₆ g₆ _ (Nat.le_refl _) (T0.trans T₆) F₆ Nl K₆ X₆ P₆ D₆)
end
end
section
open PySem PySem.W PyProof.Rows PyProof.Rows.LCg PySem.Calls
theorem tx_beq (a b : List Nat) : ((tx a : Str) == tx b) = decide (a = b) := by
  rw [Bool.eq_iff_iff]
  simp
theorem erase_at {x : List Nat} : ∀ {vals : List Value} {ws : List (List Nat)}, TxsAre vals ws → x ∈ ws → ∃ j, ∃ hj : j < vals.length, isStrOf (tx x) vals[j] = true ∧ (∀ m (hm : m < vals.length), m < j → isStrOf (tx x) vals[m] = false) ∧ TxsAre (vals.eraseIdx j) (ws.erase x)
  | _, _, .nil, h => nomatch h
  | _, _, .cons (t := t) (tr := tr) (vs := vs) (ws := ws) r, h => by
    by_cases hx : t = x
    · subst hx
      refine ⟨0, by simp, ?_, fun m _ hm => absurd hm (Nat.not_lt_zero _), ?_⟩
      · show ((tx t : Str) == tx t) = true
        simp
      · simpa using r
    · have hm : x ∈ ws := by
        rcases List.mem_cons.mp h with e | h
        · exact absurd e.symm hx
        · exact h
      obtain ⟨j, hj, h1, h2, h3⟩ := erase_at r hm
      refine ⟨j + 1, by simpa using hj, by simpa using h1, ?_, ?_⟩
      · intro m hm' hlt
        cases m with
        | zero =>
          show ((tx t : Str) == tx x) = false
          rw [tx_beq]; simp [hx]
        | succ m => simpa using h2 m (by simpa using hm') (by omega)
      · rw [List.erase_cons_tail (by simpa using hx)]
        exact .cons h3
theorem erase_no {x : List Nat} : ∀ {vals : List Value} {ws : List (List Nat)}, TxsAre vals ws → x ∉ ws → ∀ m (hm : m < vals.length), isStrOf (tx x) vals[m] = false
  | _, _, .nil, _, m, hm => by simp at hm
  | _, _, .cons (t := t) r, h, m, hm => by
    cases m with
    | zero =>
      show ((tx t : Str) == tx x) = false
      rw [tx_beq]
      simp only [decide_eq_false_iff_not]
      exact fun e => h (e ▸ List.mem_cons_self ..)
    | succ m => simpa using erase_no r (fun hx => h (List.mem_cons_of_mem _ hx)) m (by simpa using hm)
section
variable {w : World} {A : Around} {E : Value → Shared → Prop} {s : Shared} {h₀ : Heap} {L l : Addr} {m : Str → Option Value} {news : List (Addr × Obj)} {cc : Nat}
theorem truthy_own {its : Array Value} {Q : Bool → Shared → Prop} (N : News h₀ L s.heap news) (hm : (l, listO its cc) ∈ news) (hz : its.size ≤ 100000) (h : Q (!its.isEmpty) { s with toks := s.toks + 1 + 1 }) : wpAny (model P w) A (truthy (.ref l)) Q E s :=
  wpAny_truthy_list ⟨_, (N _ hm).1, rfl, _, rfl⟩ (by omega) h
theorem turned {news' : List (Addr × Obj)} {its its' : Array Value} {f : Array Value → Array Value} {g : Obj → List (Addr × Obj)} (F : Fr h₀ L s.heap m) (N : News h₀ L s.heap news) (U : UpdF l (listO its cc) news g) (e : f its = its') : ∃ n', Fr h₀ L (s.heap.update l (Obj.mapSeq f)) m ∧ News h₀ L (s.heap.update l (Obj.mapSeq f)) (g (listO its' n')) := by
  obtain ⟨pre, post, rfl, hg, a, b⟩ := U.split
  have z := N (l, listO its cc) (List.mem_append_right _ (.head _))
  obtain ⟨n', hn'⟩ : ∃ n', (s.heap.update l (Obj.mapSeq f)).get? l = some (listO (f its) n') := ⟨_, Heap.get?_update_self _ z.1 rfl⟩
  subst e
  refine ⟨n', F.change (Heap.SameBut.update ..) z.2.1 z.2.2, ?_⟩
  rw [hg]
  intro p hp
  have other : ∀ q ∈ pre ++ (l, listO its cc) :: post, q.1 ≠ l → (s.heap.update l (Obj.mapSeq f)).get? q.1 = some q.2 ∧ q.1 ≠ L ∧ h₀.get? q.1 = none := fun q hq hne => by
    have y := N q hq
    exact ⟨(Heap.get?_update_other _ _ (Ne.symm hne)).trans y.1, y.2⟩
  rcases List.mem_append.mp hp with hp | hp
  · exact other p (List.mem_append_left _ hp) (a p hp)
  · rcases List.mem_cons.mp hp with rfl | hp
    · exact ⟨hn', z.2⟩
    · exact other p (List.mem_append_right _ (.tail _ hp)) (b p hp)
theorem pop_own {vals : List Value} {x : Value} {g : Obj → List (Addr × Obj)} {Q : Value → Shared → Prop} (F : Fr h₀ L s.heap m) (N : News h₀ L s.heap news) (U : UpdF l (listO (vals ++ [x]).toArray cc) news g) (hz : vals.length ≤ 50000)
    (h : ∀ h' n', Fr h₀ L h' m → News h₀ L h' (g (listO vals.toArray n')) → Q x { s with heap := h' }) : wpAny (model P w) A (call (.builtin "list.pop") [.ref l]) Q E s := by
  have hm : (l, listO (vals ++ [x]).toArray cc) ∈ news := by obtain ⟨pre, post, rfl, _⟩ := U.split; exact List.mem_append_right _ (.head _)
  have z := N _ hm
  have e : ((vals ++ [x]).toArray.eraseIdxIfInBounds ((vals ++ [x]).toArray.size - 1)) = vals.toArray := by
    apply Array.toList_inj.mp
    have e1 : (vals ++ [x]).toArray.size - 1 = vals.length := by simp
    rw [e1]
    simp [Array.toList_eraseIdxIfInBounds, List.eraseIdx_append_of_length_le]
  obtain ⟨n', F', N'⟩ := turned (news' := []) (f := fun xs => xs.eraseIdxIfInBounds ((vals ++ [x]).toArray.size - 1)) F N U e
  exact call_meets PySem.F.slot_list_pop ⟨_, z.1, rfl⟩ PySem.F.entry_list_pop (PySem.F.args_list_pop_1 _) (MeetsSeq.list_pop_last l _ cc x (by simp) (by simp; exact Nat.le_trans (Nat.succ_le_succ hz) (by decide))) ⟨z.1, h _ n' F' N'⟩
theorem rem_yes {vals : List Value} {ws : List (List Nat)} {x : List Nat} {t : Tok} {g : Obj → List (Addr × Obj)} {Q : Value → Shared → Prop} (F : Fr h₀ L s.heap m) (N : News h₀ L s.heap news) (U : UpdF l (listO vals.toArray cc) news g) (hT : TxsAre vals ws) (hx : x ∈ ws) (hz : vals.length ≤ 50000)
    (h : ∀ h' vals' n', Fr h₀ L h' m → TxsAre vals' (ws.erase x) → News h₀ L h' (g (listO (vals' : List Value).toArray n')) → Q .none { s with heap := h' }) : wpAny (model P w) A (call (.builtin "list.remove") [.ref l, .str (tx x) t]) Q E s := by
  have hm : (l, listO vals.toArray cc) ∈ news := by obtain ⟨pre, post, rfl, _⟩ := U.split; exact List.mem_append_right _ (.head _)
  have z := N _ hm
  obtain ⟨j, hj, h1, h2, h3⟩ := erase_at hT hx
  have e : vals.toArray.eraseIdxIfInBounds j = (vals.eraseIdx j).toArray := by
    apply Array.toList_inj.mp
    simp [Array.toList_eraseIdxIfInBounds]
  obtain ⟨n', F', N'⟩ := turned (news' := []) (f := fun xs => xs.eraseIdxIfInBounds j) F N U e
  exact call_meets PySem.F.slot_list_remove ⟨_, z.1, rfl⟩ PySem.F.entry_list_remove (PySem.F.args_list_remove_2 _ _)
    (MeetsSeq.list_remove l vals.toArray cc (.str (tx x) t) (isStrOf (tx x)) (fun y hy => eq_isStrOf (tx x) t hT.strs y (by simpa using hy)) j (by simpa using hj) (by simpa using h1) (fun i hi hlt => by simpa using h2 i (by simpa using hi) hlt) (by simp; exact Nat.le_trans hz (by decide))) ⟨z.1, h _ _ n' F' h3 N'⟩
theorem rem_no {vals : List Value} {ws : List (List Nat)} {x : List Nat} {t : Tok} {Q : Value → Shared → Prop} (hh : A.handled = none) (N : News h₀ L s.heap news) (hm : (l, listO vals.toArray cc) ∈ news) (hT : TxsAre vals ws) (hx : x ∉ ws)
    (h : ∀ h' tk e, Heap.NewExc s.heap h' e "ValueError" → E (.ref e) { s with heap := h', toks := tk }) : wpAny (model P w) A (call (.builtin "list.remove") [.ref l, .str (tx x) t]) Q E s :=
  call_meets PySem.F.slot_list_remove ⟨_, (N _ hm).1, rfl⟩ PySem.F.entry_list_remove (PySem.F.args_list_remove_2 _ _)
    (MeetsSeq.list_remove_none l vals.toArray cc (.str (tx x) t) (isStrOf (tx x)) (fun y hy => eq_isStrOf (tx x) t hT.strs y (by simpa using hy)) (fun i hi => by simpa using erase_no hT hx i (by simpa using hi))) ⟨(N _ hm).1, hh, h⟩
end
local macro_rules | `(tactic| walk_at "call builtin:list.pop") => `(tactic| (k_here; k_dflt (refine' pop_own ?F ?N ?U ?z ?_; walk_at "FN"; (case U => k_updF); (case z => assumption); k_whole; intro h9 n9 F9 N9; walk_at "sw")))
noncomputable abbrev envUd (L : Addr) : Env := envOf "unorderable_list_difference" (sScope (topAt 27)) L 769 (.ref 768)
noncomputable def udB : List Stmt := whBody (sBody (topAt 27))
section
variable {w : World} {ps : Program} {loose : List Str} {mean : ExcName → Option Value} {mg mb : Str → Option Value} {dp u : Nat} {gd : Option (List Code)} {cn : Str} {cs : Scope} {a : Addr} {ccd : Value} {cl : List (Str × Addr)} {outer : List Env} {base g g₀ : Heap} {L0 L : Addr} {m : Str → Option Value} {s : Shared} {news : List (Addr × Obj)} {Q : Flow → Shared → Prop} {E : Value → Shared → Prop} {le la lm ce ca cm : Nat} {ev av mv : List Value} {wa : List (List Nat)} {x : List Nat} {t : Tok}
theorem ud_yes (hx : x ∈ wa) (hT : TxsAre av wa) (hze : ev.length ≤ 50000) (hza : av.length ≤ 50000) (n1 : le < lm) (n2 : la < lm) (n3 : le ≠ la) (hle : ∀ p ∈ news, p.1 ≠ le) (hla : ∀ p ∈ news, p.1 ≠ la) (hlm : ∀ p ∈ news, p.1 ≠ lm) (m1 : m "expected" = some (.ref le)) (m2 : m "actual" = some (.ref la)) (m3 : m "missing" = some (.ref lm))
    (B : Below (ktrTop dp u gd cn cs L0 a ccd cl outer) base (envX cn cs L0 a ccd cl :: outer) g) (X : (K w.params).In g) (T : Top ps loose mean mg mb g) (F : Fr g L s.heap m)
    (N : News g L s.heap ((le, listO (ev ++ [Value.str (tx x) t]).toArray ce) :: (la, listO av.toArray ca) :: (lm, listO mv.toArray cm) :: news)) (hd : dp + 10 < recursionLimit) (hu : u + 60 < cLine) (ht : 0 < s.toks)
    (ret : ∀ (h' : Heap) (tk' ce' ca' : Nat) (m' : Str → Option Value) (av' : List Value), Fr g L h' m' → m' "expected" = some (.ref le) → m' "actual" = some (.ref la) → m' "missing" = some (.ref lm) → TxsAre av' (wa.erase x) → News g L h' ((le, listO ev.toArray ce') :: (la, listO av'.toArray ca') :: (lm, listO mv.toArray cm) :: news) → Q .next { s with heap := h', toks := tk' }) :
    wpAny (model P w) ((ktrTop dp u gd cn cs L0 a ccd cl outer).deeper (envUd L)) (execs udB (envUd L)) Q E s := by
  obtain ⟨hh, gg, dd, tkz, oo⟩ := s
  dsimp only at F N ht ⊢
  k_steps
  k_dflt (refine' rem_yes ?F ?N ?U hT hx hza ?h; (case F => k_asm); (case N => k_asm); (case U => k_updF))
  case h =>
    intro h9 av9 n9 F9 T9 N9
    dsimp only
    k_steps
    exact ret _ _ _ _ _ av9 F9 m1 m2 m3 T9 N9
theorem ud_no (hx : x ∉ wa) (hT : TxsAre av wa) (hze : ev.length ≤ 50000) (hzm : mv.length ≤ 50000) (n1 : le < lm) (n2 : la < lm) (n3 : le ≠ la) (hle : ∀ p ∈ news, p.1 ≠ le) (hla : ∀ p ∈ news, p.1 ≠ la) (hlm : ∀ p ∈ news, p.1 ≠ lm) (m1 : m "expected" = some (.ref le)) (m2 : m "actual" = some (.ref la)) (m3 : m "missing" = some (.ref lm))
    (B : Below (ktrTop dp u gd cn cs L0 a ccd cl outer) base (envX cn cs L0 a ccd cl :: outer) g) (X : (K w.params).In g) (T : Top ps loose mean mg mb g) (F : Fr g L s.heap m) (XB : (K w.params).In base) (TB : Top ps loose mean mg mb base) (D : KtsDicts ((envX cn cs L0 a ccd cl :: outer).filterMap (·.frame)) g) (T0 : KtsTurn ((envX cn cs L0 a ccd cl :: outer).filterMap (·.frame)) g₀ g)
    (hE : ∀ e, PassesOwnAt (model P w) (((ktrTop dp u gd cn cs L0 a ccd cl outer).deeper (envUd L)).mark (some (.ref e))) ((ktrTop dp u gd cn cs L0 a ccd cl outer).deeper (envUd L)) (envUd L) E)
    (N : News g L s.heap ((le, listO (ev ++ [Value.str (tx x) t]).toArray ce) :: (la, listO av.toArray ca) :: (lm, listO mv.toArray cm) :: news)) (hd : dp + 10 < recursionLimit) (hu : u + 60 < cLine) (ht : 0 < s.toks)
    (ret : ∀ (g' h' : Heap) (tk' ce' cm' : Nat) (m' : Str → Option Value) (its : Array Value), KtsTurn ((envX cn cs L0 a ccd cl :: outer).filterMap (·.frame)) g₀ g' → Below (ktrTop dp u gd cn cs L0 a ccd cl outer) base (envX cn cs L0 a ccd cl :: outer) g' → (K w.params).In g' → Top ps loose mean mg mb g' → KtsDicts ((envX cn cs L0 a ccd cl :: outer).filterMap (·.frame)) g' → Fr g' L h' m' → m' "expected" = some (.ref le) → m' "actual" = some (.ref la) → m' "missing" = some (.ref lm) → its.toList = mv ++ [Value.str (tx x) t] → News g' L h' ((le, listO ev.toArray ce') :: (la, listO av.toArray ca) :: (lm, listO its cm') :: news) → Q .next { s with heap := h', toks := tk' }) :
    wpAny (model P w) ((ktrTop dp u gd cn cs L0 a ccd cl outer).deeper (envUd L)) (execs udB (envUd L)) Q E s := by
  obtain ⟨hh, gg, dd, tkz, oo⟩ := s
  dsimp only at F N ht ⊢
  k_steps
  k_dflt (refine' rem_no ?hh ?N ?m hT hx ?h; (case hh => exact rfl); (case N => k_asm); (case m => exact .tail _ (.head _)))
  case h =>
    intro h9 tk9 e9 x9
    dsimp only
    k_dflt (refine' caught_NX (T' := "ValueError") x9 ?F ?N B XB TB D T0 ?ex PyProof.Rows.Boot.«ValueError» ?hn PySem.F.isExc_ValueError PySem.F.notTuple_ValueError ?hs ?_ ?hk ?hxk ?hd ?hE; (case F => k_asm); (case N => k_asm); (case hs => kts_sub); (case ex => k_is); (case hn => decide); (case hk => rfl); (case hxk => rfl); (case hd => decide); k_whole)
    case hE => exact hE e9
    intro h8 g8 tk8 hle8 T8 F8 N8 B8 X8 P8 D8
    clear B X T D T0
    k_steps
    rename News _ _ _ _ => nEnd
    rename Fr _ _ _ _ => fEnd
    refine ret g8 _ _ _ _ _ _ T8 B8 X8 P8 D8 fEnd m1 m2 m3 ?e nEnd
    simp only [Array.toList_push]
end
end
section
open PySem PySem.W PyProof.Rows PyProof.Rows.LCg PySem.Calls
theorem beq_inst {α : Type} (i₁ i₂ : BEq α) (l₁ : @LawfulBEq α i₁) (l₂ : @LawfulBEq α i₂) : i₁ = i₂ := by
  have h : i₁.beq = i₂.beq := by
    funext a b
    rw [Bool.eq_iff_iff]
    constructor
    · intro q
      have : a = b := @LawfulBEq.eq_of_beq α i₁ l₁ a b q
      subst this
      exact @ReflBEq.rfl α i₂ l₂.toReflBEq a
    · intro q
      have : a = b := @LawfulBEq.eq_of_beq α i₂ l₂ a b q
      subst this
      exact @ReflBEq.rfl α i₁ l₁.toReflBEq a
  cases i₁; cases i₂
  exact congrArg BEq.mk h
theorem uld_snoc (E A : List (List Nat)) (x : List Nat) : uld (E ++ [x]).reverse A = if x ∈ A then uld E.reverse (A.erase x) else (x :: (uld E.reverse A).1, (uld E.reverse A).2) := by
  have e : (instBEqOfDecidableEq : BEq (List Nat)) = List.instBEq := beq_inst _ _ inferInstance inferInstance
  by_cases h : x ∈ A
  · simp only [List.reverse_append, List.reverse_cons, List.reverse_nil, List.nil_append, List.cons_append, uld, if_pos h]
    rw [e]
  · simp only [List.reverse_append, List.reverse_cons, List.reverse_nil, List.nil_append, List.cons_append, uld, if_neg h]
local macro_rules | `(tactic| walk_at "truthy ref") => `(tactic| (k_here; k_dflt (refine' truthy_own ?N ?hm ?hz ?_; (case N => k_asm); (case hm => exact .head _); (case hz => simp; omega); k_whole)))
inductive UdJ (base : Heap) (A : Around) (envs : List Env) (fr : List Addr) (Kf : Frag) (ps : Program) (loose : List Str) (mean : ExcName → Option Value) (mg mb : Str → Option Value) (news : List (Addr × Obj)) (g₀ : Heap) (L le la lm : Addr) (tot : List (List Nat) × List (List Nat)) (n : Nat) (h : Heap) (tk : Nat) : Prop
  | mk (g : Heap) (ev av mv : List Value) (we wa wm : List (List Nat)) (ce ca cm : Nat) (m : Str → Option Value) (a1 : 0 < tk) (a2 : KtsTurn fr g₀ g) (a3 : Below A base envs g) (a4 : Kf.In g) (a5 : Top ps loose mean mg mb g) (a6 : KtsDicts fr g) (a7 : Fr g L h m) (a8 : m "expected" = some (.ref le)) (a9 : m "actual" = some (.ref la)) (a10 : m "missing" = some (.ref lm)) (a11 : TxsAre ev we) (a12 : TxsAre av wa) (a13 : TxsAre mv wm) (a14 : we.length = n) (a15 : n ≤ 5000) (a16 : wa.length ≤ 5000) (a17 : wm.length + n ≤ 5000) (a18 : wm ++ (uld we.reverse wa).1 = tot.1) (a19 : (uld we.reverse wa).2 = tot.2) (a20 : News g L h ((le, listO ev.toArray ce) :: (la, listO av.toArray ca) :: (lm, listO mv.toArray cm) :: news)) : UdJ base A envs fr Kf ps loose mean mg mb news g₀ L le la lm tot n h tk
theorem diff_gives {w : World} {news : List (Addr × Obj)} {ps : Program} {loose : List Str} {mean : ExcName → Option Value} {mg mb : Str → Option Value} {dp u : Nat} {gd : Option (List Code)} {cn : Str} {cs : Scope} {a : Addr} {ccd : Value} {cl : List (Str × Addr)} {outer : List Env} {A₀ : Around} {base h₀ : Heap} {L : Addr} {m : Str → Option Value} {s : Shared} {Q E : Value → Shared → Prop} {le la ce ca : Nat} {ev av : List Value} {we wa : List (List Nat)}
    (hTe : TxsAre ev we) (hTa : TxsAre av wa) (hze : we.length ≤ 5000) (hza : wa.length ≤ 5000) (n3 : le ≠ la) (hle : ∀ p ∈ news, p.1 ≠ le) (hla : ∀ p ∈ news, p.1 ≠ la)
    (B : Below A₀ base outer h₀) (F : Fr h₀ L s.heap m) (X : (K w.params).In h₀) (N : News h₀ L s.heap ((le, listO ev.toArray ce) :: (la, listO av.toArray ca) :: news)) (T : Top ps loose mean mg mb h₀) (XB : (K w.params).In base) (TB : Top ps loose mean mg mb base) (KD : KtsDicts (outer.filterMap (·.frame)) h₀) (hk : cs.kind = .function) (hd : dp + 30 < recursionLimit) (hu : u + 200 < cLine) (ht : 0 < s.toks)
    (rOk : ∀ (h₀' h' : Heap) (tk' T1 lm cm ca' ce' : Nat) (mv av' : List Value), KtsTurn (outer.filterMap (·.frame)) h₀ h₀' → Fr h₀' L h' m → TxsAre mv (uld we.reverse wa).1 → TxsAre av' (uld we.reverse wa).2 → News h₀' L h' ((T1, ({ cls := .type "tuple", data := .seq #[.ref lm, .ref la] } : Obj)) :: (lm, listO mv.toArray cm) :: (la, listO av'.toArray ca') :: (le, listO #[] ce') :: news) → Below A₀ base outer h₀' → (K w.params).In h₀' → Top ps loose mean mg mb h₀' → KtsDicts (outer.filterMap (·.frame)) h₀' → Q (.ref T1) { s with heap := h', toks := tk' }) :
    wpAny (model P w) (ktrTop dp u gd cn cs L a ccd cl outer) (call (.ref 769) [.ref le, .ref la]) Q E s := by
  refine wpAny_call ?_
  k_dflt (refine' code_defSX (binds := [("expected", .ref le), ("actual", .ref la)]) (K := K w.params) (env := envX cn cs L a ccd cl) B F X N T XB TB KD KtsTurn.refl ?kA rfl hk ?k6 ?k7 ?k8 ?k9 ?kB ?_ ?c2 ?c3 ?c4 ?c5; (case kA => exact rfl); (case k6 => k_is); (case k7 => k_is); (case k8 => ktr_room); (case k9 => exact kp_binds (X.keeps F.keep) (fun S => by kernel_rfl)); (case c5 => decide); (case kB => exact locs rfl); (case c2 => exact rfl); (case c3 => exact rfl); (case c4 => exact rfl); k_whole; intro g' L' h' FG' F' N' B' X' T' KD'; (try dsimp only); (try k_fold))
  iterate 7 walk1
  rename _ ∧ _ ∧ AllLt _ _ => l1
  rename Fr _ _ _ _ => F3
  rename News _ _ _ _ => N3
  rename_i lm hA hB tk3 htk3
  k_dflt (refine' While_own (UdJ base (ktrTop dp u gd cn cs L a ccd cl outer) (envX cn cs L a ccd cl :: outer) ((envX cn cs L a ccd cl :: outer).filterMap (·.frame)) (K w.params) ps loose mean mg mb news g' L' le la lm (uld we.reverse wa)) (n₀ := we.length) ?J ?turn ?hE)
  case hE => passes_own
  case J => 
    refine ⟨g', ev, av, [], we, wa, [], ce, ca, 0, _, (by first | assumption | exact Nat.succ_pos _ | omega), KtsTurn.refl, B', X', T', KD', F3, rfl, rfl, rfl, hTe, hTa, .nil, rfl, hze, hza, by simpa using hze, rfl, rfl, News.sub N3 fun p hp => ?_⟩
    rcases List.mem_cons.mp hp with rfl | hp
    · exact .tail _ (.head _)
    · rcases List.mem_cons.mp hp with rfl | hp
      · exact .tail _ (.tail _ (.head _))
      · rcases List.mem_cons.mp hp with rfl | hp
        · exact .head _
        · exact .tail _ (.tail _ (.tail _ hp))
  case turn =>
    clear N3 F3 B' X' T' KD' B X T
    rintro n h1 tk1 ⟨g1, ev1, av1, mv1, we1, wa1, wm1, ce1, ca1, cm1, m1, ht1, KT1, B1, X1, T1, KD1, F1, e1, e2, e3, hTe1, hTa1, hTm1, hn, hn5, hwa, hwm, tot1, tot2, N1⟩
    have hle1 : ev1.length = we1.length := hTe1.len
    have hla1 : av1.length = wa1.length := hTa1.len
    have hlm1 : mv1.length = wm1.length := hTm1.len
    have hlm2 : ∀ p ∈ news, p.1 ≠ lm := fun p hp => Nat.ne_of_lt (AllLt.all l1.2.2 p hp)
    iterate 3 walk1
    rcases List.eq_nil_or_concat we1 with h0 | ⟨we2, x, h0⟩
    · subst h0
      cases hTe1
      rw [if_neg (by simp)]
      simp only [List.reverse_nil, uld, List.append_nil] at tot1 tot2
      subst tot1
      subst tot2
      have N3 : News g1 L' h1 ((le, listO #[] ce1) :: (la, listO av1.toArray ca1) :: (lm, listO mv1.toArray cm1) :: news) := N1
      clear N1
      k_steps
      rename News _ _ _ _ => nEnd
      rename Fr _ _ _ _ => fEnd
      refine rOk _ _ _ _ lm cm1 ca1 ce1 mv1 av1 (by assumption) fEnd hTm1 hTa1 (News.sub nEnd fun p hp => ?_) (by assumption) (by assumption) (by assumption) (by assumption)
      rcases List.mem_cons.mp hp with rfl | hp
      · exact .head _
      · rcases List.mem_cons.mp hp with rfl | hp
        · exact .tail _ (.tail _ (.tail _ (.head _)))
        · rcases List.mem_cons.mp hp with rfl | hp
          · exact .tail _ (.tail _ (.head _))
          · rcases List.mem_cons.mp hp with rfl | hp
            · exact .tail _ (.head _)
            · exact .tail _ (.tail _ (.tail _ (.tail _ hp)))
    · rw [List.concat_eq_append] at h0
      subst h0
      obtain ⟨ev2, t2, rfl, hTe2⟩ := hTe1.split
      rw [if_pos (by simp)]
      rw [uld_snoc] at tot1 tot2
      have hl2 : ev2.length = we2.length := hTe2.len
      have hn2 : we2.length + 1 = n := by simpa using hn
      refine wpAny_toks ?_
      by_cases hx : x ∈ wa1
      · rw [if_pos hx] at tot1 tot2
        k_dflt (refine' ud_yes (mv := mv1) (news := news) (ev := ev2) hx hTa1 (by omega) (by omega) l1.1 l1.2.1 n3 hle hla hlm2 e1 e2 e3 B1 X1 T1 F1 N1 ?hd ?hu ?ht ?_)
        case hd => first | ktr_room | omega
        case hu => first | ktr_units | omega
        case ht => exact Nat.succ_pos _
        intro h2 tk2 ce2 ca2 m2 av2 F2 f1 f2 f3 hTa2 N2 htk2
        have hlw : (wa1.erase x).length = wa1.length - 1 := List.length_erase_of_mem hx
        refine ⟨n - 1, h2, tk2, rfl, by omega, g1, ev2, av2, mv1, we2, wa1.erase x, wm1, ce2, ca2, cm1, m2, ?_, KT1, B1, X1, T1, KD1, F2, f1, f2, f3, hTe2, hTa2, hTm1, by omega, by omega, by omega, by omega, tot1, tot2, N2⟩
        exact Nat.lt_of_lt_of_le (Nat.succ_pos _) htk2
      · rw [if_neg hx] at tot1 tot2
        k_dflt (refine' ud_no (mv := mv1) (news := news) (ev := ev2) (g₀ := g') hx hTa1 (by omega) (by omega) l1.1 l1.2.1 n3 hle hla hlm2 e1 e2 e3 B1 X1 T1 F1 XB TB KD1 KT1 ?hE N1 ?hd ?hu ?ht ?_)
        case hE => intro e; passes_own
        case hd => first | ktr_room | omega
        case hu => first | ktr_units | omega
        case ht => exact Nat.succ_pos _
        intro g2 h2 tk2 ce2 cm2 m2 its KT2 B2 X2 T2 KD2 F2 f1 f2 f3 hits N2 htk2
        have hits' : its = (mv1 ++ [Value.str (tx x) t2]).toArray := by rw [← hits]
        subst hits'
        refine ⟨n - 1, h2, tk2, rfl, by omega, g2, ev2, av1, _, we2, wa1, wm1 ++ [x], ce2, ca1, cm2, m2, ?_, KT2, B2, X2, T2, KD2, F2, f1, f2, f3, hTe2, hTa1, hTm1.snoc, by omega, by omega, by omega, by simp; omega, ?_, tot2, N2⟩
        · exact Nat.lt_of_lt_of_le (Nat.succ_pos _) htk2
        · rw [← tot1]; simp
end
section
open PySem PySem.W PyProof.Rows PyProof.Rows.LCg PySem.Calls
noncomputable abbrev envLw (L a : Addr) (cd : Value) : Env := envOfC (Str.ofString "law") (sScope (topAt 36)) L a cd
noncomputable def isSeq (p : Addr × Obj) : Bool := match p.2.data with | .seq .. => true | _ => false
theorem PairRefs.filter {news : List (Addr × Obj)} : ∀ {vs : List Value} {ps : List (Nat × List Nat)}, PairRefs news vs ps → PairRefs (news.filter isSeq) vs ps
  | _, _, .nil => .nil
  | _, _, .cons a b c r => .cons (List.mem_filter.mpr ⟨a, by simp [isSeq, c]⟩) b c r.filter
theorem PairsAt.filter {news : List (Addr × Obj)} {lp : Addr} {ps : List (Nat × List Nat)} (x : PairsAt news lp ps) : PairsAt (news.filter isSeq) lp ps := by
  obtain ⟨vs, cc, a, b⟩ := x
  exact ⟨vs, cc, List.mem_filter.mpr ⟨a, rfl⟩, b.filter⟩
theorem seq_ne {h₀ h : Heap} {L c : Addr} {o : Obj} {v : Option Value} {news : List (Addr × Obj)} (N : News h₀ L h news) (hm : (c, o) ∈ news) (ho : o.data = .cell v) : ∀ p ∈ news.filter isSeq, p.1 ≠ c := by
  intro p hp e
  obtain ⟨h1, h2⟩ := List.mem_filter.mp hp
  subst e
  have : o = p.2 := Option.some.inj ((N _ hm).1.symm.trans (N _ h1).1)
  rw [isSeq, ← this, ho] at h2
  simp at h2
noncomputable def lwB : List Stmt := sBody (topAt 36)
theorem PairRefs.reverse {news : List (Addr × Obj)} : ∀ {vs : List Value} {ps : List (Nat × List Nat)}, PairRefs news vs ps → PairRefs news vs.reverse ps.reverse
  | _, _, .nil => .nil
  | _, _, .cons a b c r => by
    rw [List.reverse_cons, List.reverse_cons]
    exact r.reverse.app (.cons a b c .nil)
noncomputable def wrs (turn : Int) (prs : List (Nat × List Nat)) : List (Nat × List Nat) := prs.map fun p => (p.1, writ turn p.2)
section
variable {w : World} {ps : Program} {loose : List Str} {mean : ExcName → Option Value} {mg mb : Str → Option Value} {a : Addr} {cd : Value} {base g : Heap} {L : Addr} {m : Str → Option Value} {s : Shared} {news : List (Addr × Obj)} {Q : Flow → Shared → Prop} {E : Value → Shared → Prop} {turn : Int} {tt : Tok} {lp : Addr} {prs : List (Nat × List Nat)} {vt : Value}
theorem law_back (P : PairsAt news lp prs) (hl : prs.length ≤ 20) (hv : ∀ p ∈ prs, p.2.length ≤ 16) (hsg : ∀ p ∈ prs, ∀ c ∈ p.2, c ∈ sigs) (hn : ∀ p ∈ prs, 97 ≤ p.1)
    (m1 : m "pairs" = some (.ref lp)) (m2 : m "turn" = some (.int turn tt)) (m3 : m "there" = some vt)
    (B : Below callerA base [] g) (X : (K w.params).In g) (T : Top ps loose mean mg mb g) (XB : (K w.params).In base) (TB : Top ps loose mean mg mb base) (KD : KtsDicts (([] : List Env).filterMap (·.frame)) g)
    (F : Fr g L s.heap m) (N : News g L s.heap news) (ht : 0 < s.toks)
    (kS : ∀ ws vals, go .ws [] (rowL (wrs turn prs.reverse)) = some ws → TxsAre vals ws → ∀ (g' h' : Heap) (tk' S cc : Nat) (m' : Str → Option Value), 0 < tk' → KtsTurn [] g g' → Fr g' L h' m' → m' "pairs" = some (.ref lp) → m' "turn" = some (.int turn tt) → m' "there" = some vt → m' "back" = some (.ref S) → News g' L h' ((S, listO vals.toArray cc) :: news) → (∀ p ∈ news, p.1 < S) → Below callerA base [] g' → (K w.params).In g' → Top ps loose mean mg mb g' → KtsDicts (([] : List Env).filterMap (·.frame)) g' → wpAny (model Mine.P w) (callerA.deeper (envLw L a cd)) (execs (lwB.drop 4) (envLw L a cd)) Q E { s with heap := h', toks := tk' })
    (kN : go .ws [] (rowL (wrs turn prs.reverse)) = none → ∀ (g' h' : Heap) (tk' : Nat) (m' : Str → Option Value), 0 < tk' → KtsTurn [] g g' → Fr g' L h' m' → m' "pairs" = some (.ref lp) → m' "turn" = some (.int turn tt) → m' "there" = some vt → m' "back" = some .none → News g' L h' news → Below callerA base [] g' → (K w.params).In g' → Top ps loose mean mg mb g' → KtsDicts (([] : List Env).filterMap (·.frame)) g' → wpAny (model Mine.P w) (callerA.deeper (envLw L a cd)) (execs (lwB.drop 4) (envLw L a cd)) Q E { s with heap := h', toks := tk' }) :
    wpAny (model Mine.P w) (callerA.deeper (envLw L a cd)) (execs (lwB.drop 3) (envLw L a cd)) Q E s := by
  obtain ⟨hh, gg, dd, tkz, oo⟩ := s
  dsimp only at F N ht kS kN ⊢
  obtain ⟨us, ccp, hpm, hpr⟩ := P
  have hus : us.length ≤ sizeLine := Nat.le_trans (hpr.len ▸ hl) (by decide)
  repeat walk1
  k_dflt (refine' krv_lit (its := us.toArray) ?F ?N ?l ?k rfl ?_ ?s ?t ?z)
  case F => k_asm
  case N => k_asm
  case l => exact ⟨_, (N _ hpm).1, rfl, _, rfl⟩
  case k => exact IsPart.int _ _
  case s => with_unfolding_all rfl
  case t => (intro _; with_unfolding_all rfl)
  case z => simp only [List.size_toArray]; assumption
  intro D h1 F1 N1 l1
  dsimp only
  iterate 2 walk1
  have P1 : PairsAt ((D, listO us.reverse.toArray 0) :: news) D prs.reverse := ⟨us.reverse, 0, .head _, (hpr.mono fun p hp => .tail _ hp).reverse⟩
  k_dflt (refine' read_gives P1 ?hl ?hv ?hsg ?hn B ?F X ?N T XB TB KD ?hk ?hd ?hu ?ht ?rOk ?rBad)
  case F => k_asm
  case N => exact N1
  case hl => rw [List.length_reverse]; exact hl
  case hv => exact fun p hp => hv p (List.mem_reverse.mp hp)
  case hsg => exact fun p hp => hsg p (List.mem_reverse.mp hp)
  case hn => exact fun p hp => hn p (List.mem_reverse.mp hp)
  case hk => exact rfl
  case hd => decide
  case hu => decide
  case ht => first | assumption | exact Nat.succ_pos _ | omega
  case rOk =>
    intro ws vals hws hT g2 h2 tk2 cc2 S KT2 F2 N2 hS B2 X2 T2 KD2
    iterate 1 walk1
    rename News _ _ _ _ => nEnd
    rename Fr _ _ _ _ => fEnd
    k_dflt (refine' kS ws vals hws hT g2 _ _ S cc2 _ (by exact Nat.succ_pos _) KT2 fEnd m1 m2 m3 rfl (News.sub nEnd fun p hp => ?_) (fun p hp => hS p (.tail _ hp)) B2 X2 T2 KD2)
    rcases List.mem_cons.mp hp with rfl | hp
    · exact .head _
    · exact .tail _ (.tail _ hp)
  case rBad =>
    intro hws g2 h2 tk2 KT2 F2 N2 B2 X2 T2 KD2
    iterate 1 walk1
    rename News _ _ _ _ => nEnd
    rename Fr _ _ _ _ => fEnd
    k_dflt (refine' kN hws g2 _ _ _ (by exact Nat.succ_pos _) KT2 fEnd m1 m2 m3 rfl (News.sub nEnd fun p hp => .tail _ hp) B2 X2 T2 KD2)
theorem law_there (P : PairsAt news lp prs) (hl : prs.length ≤ 20) (hv : ∀ p ∈ prs, p.2.length ≤ 16) (hsg : ∀ p ∈ prs, ∀ c ∈ p.2, c ∈ sigs) (hn : ∀ p ∈ prs, 97 ≤ p.1)
    (m1 : m "pairs" = some (.ref lp)) (m2 : m "turn" = some (.int turn tt))
    (B : Below callerA base [] g) (X : (K w.params).In g) (T : Top ps loose mean mg mb g) (XB : (K w.params).In base) (TB : Top ps loose mean mg mb base) (KD : KtsDicts (([] : List Env).filterMap (·.frame)) g)
    (F : Fr g L s.heap m) (N : News g L s.heap news) (ht : 0 < s.toks)
    (kS : ∀ ws vals, go .ws [] (rowL (wrs turn prs)) = some ws → TxsAre vals ws → ∀ (g' h' : Heap) (tk' S cc : Nat) (m' : Str → Option Value), 0 < tk' → KtsTurn [] g g' → Fr g' L h' m' → m' "pairs" = some (.ref lp) → m' "turn" = some (.int turn tt) → m' "there" = some (.ref S) → News g' L h' ((S, listO vals.toArray cc) :: news) → (∀ p ∈ news, p.1 < S) → Below callerA base [] g' → (K w.params).In g' → Top ps loose mean mg mb g' → KtsDicts (([] : List Env).filterMap (·.frame)) g' → wpAny (model Mine.P w) (callerA.deeper (envLw L a cd)) (execs (lwB.drop 3) (envLw L a cd)) Q E { s with heap := h', toks := tk' })
    (kN : go .ws [] (rowL (wrs turn prs)) = none → ∀ (g' h' : Heap) (tk' : Nat) (m' : Str → Option Value), 0 < tk' → KtsTurn [] g g' → Fr g' L h' m' → m' "pairs" = some (.ref lp) → m' "turn" = some (.int turn tt) → m' "there" = some .none → News g' L h' news → Below callerA base [] g' → (K w.params).In g' → Top ps loose mean mg mb g' → KtsDicts (([] : List Env).filterMap (·.frame)) g' → wpAny (model Mine.P w) (callerA.deeper (envLw L a cd)) (execs (lwB.drop 3) (envLw L a cd)) Q E { s with heap := h', toks := tk' }) :
    wpAny (model Mine.P w) (callerA.deeper (envLw L a cd)) (execs (lwB.drop 2) (envLw L a cd)) Q E s := by
  obtain ⟨hh, gg, dd, tkz, oo⟩ := s
  dsimp only at F N ht kS kN ⊢
  iterate 11 walk1
  k_dflt (refine' read_gives P hl hv hsg hn B ?F X ?N T XB TB KD ?hk ?hd ?hu ?ht ?rOk ?rBad)
  case F => k_asm
  case N => exact N
  case hk => exact rfl
  case hd => decide
  case hu => decide
  case ht => first | assumption | exact Nat.succ_pos _ | omega
  case rOk =>
    intro ws vals hws hT g2 h2 tk2 cc2 S KT2 F2 N2 hS B2 X2 T2 KD2
    iterate 1 walk1
    rename News _ _ _ _ => nEnd
    rename Fr _ _ _ _ => fEnd
    k_dflt (refine' kS ws vals hws hT g2 _ _ S cc2 _ (by exact Nat.succ_pos _) KT2 fEnd m1 m2 rfl nEnd hS B2 X2 T2 KD2)
  case rBad =>
    intro hws g2 h2 tk2 KT2 F2 N2 B2 X2 T2 KD2
    iterate 1 walk1
    rename News _ _ _ _ => nEnd
    rename Fr _ _ _ _ => fEnd
    k_dflt (refine' kN hws g2 _ _ _ (by exact Nat.succ_pos _) KT2 fEnd m1 m2 rfl nEnd B2 X2 T2 KD2)
end
end
section
open PySem PySem.W PyProof.Rows PyProof.Rows.LCg PySem.Calls
noncomputable def oddV (p : Nat × List Nat) : Bool := (dqRun p.2).2
noncomputable abbrev scOdd : Scope := { kind := .function, names := [(".0", .local), ("name", .local), ("value", .local), ("_law_odd", .globalImplicit)], isGenerator := false, isCoroutine := false, more := [] }
local macro_rules | `(tactic| walk_at "call ref") => `(tactic| (k_here; (with_reducible show wpAny _ _ (call (Value.ref 798) [Value.str _ _]) _ _ _); k_dflt (refine' gives_use (oddW_gives _ _ ?hv rfl) ?k1 ?k2 ?k3 ?k4 ?k5 ?kK ?kd ?ku ?kt ?_; (case hv => walk_at "as"); (case kK => walk_at "K"); (case kd | ku => decide); (case kt => walk_at "kt"); walk_at "A5"; walk_at "p2")))
section
local macro_rules | `(tactic| k_mem) => `(tactic| assumption)
theorem odd_src {w : World} {ps : Program} {loose : List Str} {mean : ExcName → Option Value} {mg mb : Str → Option Value} {a : Addr} {cd : Value} {base g : Heap} {L : Addr} {m : Str → Option Value} {s₁ : Shared} {news : List (Addr × Obj)} {lp : Addr} {prs : List (Nat × List Nat)} {Fin : Shared → List Value → List (Addr × Obj) → Prop}
    (B : Below callerA base [] g) (X : (K w.params).In g) (T : Top ps loose mean mg mb g) (F : Fr g L s₁.heap m) (N : News g L s₁.heap news) (hp : PairsAt news lp prs) (ht : 0 < s₁.toks) (hl : prs.length ≤ 20) (hv : ∀ p ∈ prs, p.2.length ≤ 16)
    (fin : ∀ ys, ys.length = prs.countP oddV → Fin s₁ ys news) :
    CSrc P w (callerA.deeper (envLw L a cd)) g L m (envLw L a cd) (some (.Call (.Name "_law_odd" ⟨862, 45, 862, 53⟩) [.Name "value" ⟨862, 54, 862, 59⟩] [] ⟨862, 45, 862, 60⟩)) (.Name "name" ⟨862, 12, 862, 16⟩) (.Tuple [.Name "name" ⟨862, 21, 862, 25⟩, .Name "value" ⟨862, 27, 862, 32⟩] 0 ⟨862, 21, 862, 32⟩) scOdd [] Fin (.ref lp) s₁ := by
  obtain ⟨vs, cc, hlp, hrefs⟩ := hp
  have hlen := hrefs.len
  refine ⟨news, _, _, _, _, fun i ys nw => nw = news ∧ ys.length = (prs.take i).countP oddV, iters_list rfl hlp (fun p hp => (N p hp).1), fun C => bind_pair rfl (fun i v h => ?_) (by rfl) (by rfl) (by rfl), F, N, ht, ?_, ⟨rfl, rfl⟩, ?_, ?_⟩
  · obtain ⟨T, o, n, v, t1, t2, k, h1, _, h3, h4, h5⟩ := hrefs.get (by simpa using h)
    exact ⟨T, o, _, _, k, h1, h3, h4, h5⟩
  · have : vs.toArray.size = vs.length := by simp
    rw [this, hlen]
    exact Nat.le_trans hl (by decide)
  · rintro i ys nw v1 m₁ m₂ I oI C oC D h tk E' hi hP ⟨rfl, hys⟩ hyl hBd hoC F1 N1 off ne hsub htk
    obtain ⟨T', o', n, v, t1, t2, k, rfl, hpi, h3, h4, h5⟩ := hrefs.get (x := v1) (i := i) (by simpa using hP)
    have hm2 := hBd T' o' _ _ k rfl h3 h4 h5
    have hx1 : m₂ (Str.ofString "name") = some (.str ⟨#[n]⟩ t1) := by rw [hm2]; rfl
    have hx2 : m₂ (Str.ofString "value") = some (.str (tx v) t2) := by rw [hm2]; rfl
    have hvl : v.length ≤ 16 := hv (n, v) (List.mem_of_getElem? hpi)
    have hC' : (C, oC) ∈ ((I, oI) :: (C, oC) :: (D, lst ys) :: nw) := .tail _ (.head _)
    have e5 : (prs.take (i + 1)).countP oddV = (prs.take i).countP oddV + (if (dqRun v).2 = true then 1 else 0) := by
      rw [List.take_add_one, hpi]
      simp only [Option.toList_some, List.countP_append, List.countP_cons, List.countP_nil, Nat.zero_add]
      rfl
    show wpAny _ _ (isTrue _ _ (eval _ _)) _ _ _
    repeat walk1
    · rename (dqRun v).2 = true => ho
      rename News _ _ _ _ => nEnd
      refine ⟨_, _, nw, rfl, by k_asm, nEnd, off, fun _ hp => hp, rfl, ?_⟩
      rw [if_pos rfl, e5, if_pos ho, List.length_append, hys]
      rfl
    · rename (dqRun v).2 = false => ho
      rename News _ _ _ _ => nEnd
      refine ⟨_, _, nw, rfl, by k_asm, nEnd, off, fun _ hp => hp, rfl, ?_⟩
      rw [if_neg (by decide), e5, if_neg (by rw [ho]; decide), hys]
      rfl
  · rintro ys nw ⟨rfl, hys⟩
    refine fin ys ?_
    rwa [List.take_of_length_le (by simp [hlen])] at hys
end
section
variable {w : World} {ps : Program} {loose : List Str} {mean : ExcName → Option Value} {mg mb : Str → Option Value} {a : Addr} {cd : Value} {base g : Heap} {L : Addr} {m : Str → Option Value} {s : Shared} {news : List (Addr × Obj)} {Q : Flow → Shared → Prop} {E : Value → Shared → Prop} {turn : Int} {tt : Tok} {lp : Addr} {prs : List (Nat × List Nat)} {vt : Value}
local macro_rules | `(tactic| walk_at "eval ListComp") => `(tactic| (k_here; k_dflt (refine ListComp_O (c := some _) (by k_asm) (by walk_at "uf") (by decide) (by rfl) (by decide) ?_)))
local macro_rules | `(tactic| walk_at "call builtin:len") => `(tactic| (k_here; k_dflt (refine' len_own ?N ?m ?z ?_; (case N => k_asm); (case m => exact .head _); (case z => assumption)); walk_at "ds"))
theorem law_if (P' : PairsAt news lp prs) (hl : prs.length ≤ 20) (hv : ∀ p ∈ prs, p.2.length ≤ 16)
    (m1 : m "pairs" = some (.ref lp))
    (B : Below callerA base [] g) (X : (K w.params).In g) (T : Top ps loose mean mg mb g)
    (F : Fr g L s.heap m) (N : News g L s.heap news) (ht : 0 < s.toks)
    (kT : prs.countP oddV % 2 = 1 → m "there" = some .none ∧ m "back" = some .none ∧ ∀ (h' : Heap) (tk' : Nat), Fr g L h' m → Q (.ret (.bool true)) { s with heap := h', toks := tk' })
    (kF : prs.countP oddV % 2 = 0 → ∀ (h' : Heap) (tk' : Nat), 0 < tk' → Fr g L h' m → News g L h' news → wpAny (model P w) (callerA.deeper (envLw L a cd)) (execs (lwB.drop 5) (envLw L a cd)) Q E { s with heap := h', toks := tk' }) :
    wpAny (model P w) (callerA.deeper (envLw L a cd)) (execs (lwB.drop 4) (envLw L a cd)) Q E s := by
  obtain ⟨hh, gg, dd, tkz, oo⟩ := s
  dsimp only at F N ht kT kF ⊢
  repeat walk1
  refine odd_src B X T F N P' ht hl hv fun ys hys D h1 tk1 F1 N1 o1 htk1 => ?_
  have hc := List.countP_le_length (p := oddV) (l := prs)
  have hsz : ys.toArray.size ≤ 100000 := by simp; omega
  dsimp only
  iterate 7 walk1
  have hfm : ((ys.toArray.size : Nat) : Int).fmod 2 = ((prs.countP oddV % 2 : Nat) : Int) := by
    rw [Int.fmod_eq_emod_of_nonneg _ (by decide)]
    simp only [List.size_toArray, hys]
    omega
  have hN' : ∀ {h'}, News g L h' ((D, lst ys) :: news) → News g L h' news := fun n => News.sub n fun p hp => .tail _ hp
  by_cases h1 : prs.countP oddV % 2 = 1
  · rw [if_pos (by rw [hfm, h1]; decide)]
    obtain ⟨t1, t2, ret⟩ := kT h1
    repeat walk1
    exact ret _ _ (by k_asm)
  · have h0 : prs.countP oddV % 2 = 0 := by omega
    rw [if_neg (by rw [hfm, h0]; decide)]
    iterate 1 walk1
    rename News _ _ _ _ => nEnd
    k_dflt (refine' kF h0 _ _ ?h (by k_asm) (hN' nEnd))
    case h => first | assumption | exact Nat.succ_pos _ | omega
end
end
section
open PySem PySem.W PyProof.Rows PyProof.Rows.LCg PySem.Calls
section
variable {w : World} {ps : Program} {loose : List Str} {mean : ExcName → Option Value} {mg mb : Str → Option Value} {a : Addr} {cd : Value} {base g : Heap} {L : Addr} {m : Str → Option Value} {s : Shared} {nw : List (Addr × Obj)} {Q : Flow → Shared → Prop} {E : Value → Shared → Prop} {turn : Int} {tt : Tok} {lp : Addr} {prs : List (Nat × List Nat)} {o1 o2 : Obj} {v1 v2 : Option Value}
theorem law_words (P : PairsAt nw lp prs) (hl : prs.length ≤ 20) (hv : ∀ p ∈ prs, p.2.length ≤ 16) (hsg : ∀ p ∈ prs, ∀ c ∈ p.2, c ∈ sigs)
    (m1 : m "pairs" = some (.ref lp)) (m2 : m "turn" = some (.int turn tt)) (d1 : o1.data = .cell v1) (d2 : o2.data = .cell v2) (hc1 : ∀ p ∈ nw, p.1 ≠ L + 1) (hc2 : ∀ p ∈ nw, p.1 ≠ L + 1 + 1)
    (B : Below callerA base [] g) (X : (K w.params).In g) (T : Top ps loose mean mg mb g)
    (F : Fr g L s.heap m) (N : News g L s.heap ((L + 1 + 1, o2) :: (L + 1, o1) :: nw)) (ht : 0 < s.toks)
    (kC : ∀ (h' : Heap) (tk' la lb ca cb : Nat) (va vb : List Value) (o1' o2' : Obj), 0 < tk' → TxsAre va (tw [] (tapeN (wrs turn prs))) → TxsAre vb (tw [] (tapeN (wrs turn prs.reverse))) → o1'.data = .cell (some (.ref la)) → o2'.data = .cell (some (.ref lb)) → Fr g L h' m → News g L h' ((lb, listO vb.toArray cb) :: (la, listO va.toArray ca) :: (L + 1 + 1, o2') :: (L + 1, o1') :: nw) → wpAny (model Mine.P w) (callerA.deeper (envLw L a cd)) (execs (lwB.drop 7) (envLw L a cd)) Q E { s with heap := h', toks := tk' }) :
    wpAny (model Mine.P w) (callerA.deeper (envLw L a cd)) (execs (lwB.drop 5) (envLw L a cd)) Q E s := by
  obtain ⟨hh, gg, dd, tkz, oo⟩ := s
  dsimp only at F N ht kC ⊢
  iterate 11 walk1
  k_dflt (refine' gives_use (words_gives (P.mono ?sub) hl hv hsg) B ?F X ?N T ?hk ?hd ?hu ?ht ?_)
  case F => k_asm
  case N => exact N
  case sub => exact fun p hp => .tail _ (.tail _ hp)
  case hk => exact rfl
  case hd => decide
  case hu => decide
  case ht => first | assumption | exact Nat.succ_pos _ | omega
  rintro r n9 h1 tk1 F1 N1 ⟨la, va, ca, rfl, rfl, hTa, hla⟩
  k_dflt (refine' storeX_C (c := L + 1) F1 N1 rfl (.tail (Nat.ne_of_gt (hla _ (.tail _ (.head _)))) (.tail (Nat.succ_ne_self _) (.head hc1))) d1 ?_ rfl rfl)
  intro h2 o1' F2 N2 d1'
  dsimp only at N2 F2 ⊢
  obtain ⟨us, ccp, hpm, hpr⟩ := P
  have hus : us.length ≤ sizeLine := Nat.le_trans (hpr.len ▸ hl) (by decide)
  have hpm2 : (lp, listO us.toArray ccp) ∈ ((la, listO va.toArray ca) :: (L + 1 + 1, o2) :: (L + 1, o1') :: nw) := .tail _ (.tail _ (.tail _ hpm))
  clear N N1 F F1
  repeat walk1
  k_dflt (refine' krv_lit (its := us.toArray) ?F ?N ?l ?k rfl ?_ ?s ?t ?z)
  case F => k_asm
  case N => k_asm
  case l => exact ⟨_, (N2 _ hpm2).1, rfl, _, rfl⟩
  case k => exact IsPart.int _ _
  case s => with_unfolding_all rfl
  case t => (intro _; with_unfolding_all rfl)
  case z => simp only [List.size_toArray]; assumption
  intro D h3 F3 N3 l3
  dsimp only
  iterate 2 walk1
  have P1 : PairsAt ((D, listO us.reverse.toArray 0) :: (la, listO va.toArray ca) :: (L + 1 + 1, o2) :: (L + 1, o1') :: nw) D prs.reverse := ⟨us.reverse, 0, .head _, (hpr.mono fun p hp => .tail _ (.tail _ (.tail _ (.tail _ hp)))).reverse⟩
  refine wpAny_toks ?_
  k_dflt (refine' gives_use (words_gives P1 ?hl ?hv ?hsg) B ?F X ?N T ?hk ?hd ?hu ?ht ?_)
  case F => k_asm
  case N => exact N3
  case hl => rw [List.length_reverse]; exact hl
  case hv => exact fun p hp => hv p (List.mem_reverse.mp hp)
  case hsg => exact fun p hp => hsg p (List.mem_reverse.mp hp)
  case hk => exact rfl
  case hd => decide
  case hu => decide
  case ht => first | assumption | exact Nat.succ_pos _ | omega
  rintro r n9 h4 tk4 F4 N4 ⟨lb, vb, cb, rfl, rfl, hTb, hlb⟩ hle4
  k_dflt (refine' storeX_C (c := L + 1 + 1) F4 N4 rfl (.tail (Nat.ne_of_gt (hlb _ (.tail _ (.tail _ (.head _))))) (.tail (Nat.ne_of_gt (l3 _ (.tail _ (.head _)))) (.tail (Nat.ne_of_gt (hla _ (.head _))) (.head ?hne)))) d2 ?_ rfl rfl)
  case hne =>
    intro p hp
    rcases List.mem_cons.mp hp with rfl | hp
    · exact (Nat.succ_ne_self _).symm
    · exact hc2 p hp
  intro h5 o2' F5 N5 d2'
  dsimp only at N5 F5 ⊢
  k_dflt (refine' kC _ _ la lb ca cb va vb o1' o2' (Nat.lt_of_lt_of_le (Nat.succ_pos _) hle4) hTa hTb d1' d2' F5 (News.sub N5 fun p hp => ?_))
  rcases List.mem_cons.mp hp with rfl | hp
  · exact .head _
  · exact .tail _ (.tail _ hp)
end
end
section
open PySem PySem.W PyProof.Rows PyProof.Rows.LCg PySem.Calls
open PySem.Spec
noncomputable def txd (ws : List (List Nat)) : List PyData := ws.map fun x => PyData.str (tx x)
noncomputable def TxOk (ws : List (List Nat)) : Prop := ∀ x ∈ ws, PyData.strOk (tx x) = true
theorem txd_lay : ∀ ws, TxOk ws → PyData.canLayAll0 (txd ws) = true
  | [], _ => rfl
  | x :: r, h => by
    have := txd_lay r fun y hy => h y (.tail _ hy)
    have hx := h x (.head _)
    unfold txd at this ⊢
    simp [PyData.canLayAll0, PyData.canLay0, this, hx]
theorem txd_depth : ∀ ws, PyData.depthAll (txd ws) = 0
  | [] => rfl
  | _ :: r => by
    have := txd_depth r
    unfold txd at this ⊢
    simp [PyData.depthAll, PyData.depth, this]
theorem txd_eqv : ∀ ns ms, PyData.eqvAll (txd ns) (txd ms) = decide (ns = ms)
  | [], [] => by simp [txd, PyData.eqvAll]
  | [], _ :: _ => by simp [txd, PyData.eqvAll]
  | _ :: _, [] => by simp [txd, PyData.eqvAll]
  | a :: r, b :: t => by
    have := txd_eqv r t
    unfold txd at this ⊢
    simp only [List.map_cons, PyData.eqvAll, PyData.eqv, this, tx_beq]
    by_cases h : a = b <;> by_cases h' : r = t <;> simp [h, h']
theorem tx_carried : ∀ {vs : List Value} {ws : List (List Nat)}, TxsAre vs ws → CarriedAll vs (txd ws)
  | _, _, .nil => .nil
  | _, _, .cons r => .cons (.str _ _) (tx_carried r)
section
variable {prog : Program} {w : World} {A : Around} {E : Value → Shared → Prop} {s : Shared} {a b : Addr} {xs ys : List Value} {ns ms : List (List Nat)} {Q : Value → Shared → Prop}
theorem ne_txs (ha : s.heap.IsList a xs.toArray) (hb : s.heap.IsList b ys.toArray) (hi : TxsAre xs ns) (hj : TxsAre ys ms) (o1 : TxOk ns) (o2 : TxOk ms) (hu : A.units + 64 < cLine) (h : Q (.bool (!decide (ns = ms))) s) :
    wpAny (model prog w) A (compareOp .NotEq (.ref a) (.ref b)) Q E s := by
  refine ne_dataH (reads_newData ha (tx_carried hi)) (reads_newData hb (tx_carried hj)) (by simp [SeqAt.shaped, PyData.canLay0, PyData.depth, txd_lay, txd_depth, o1, o2]) (by simp [SeqAt.shaped, PyData.canLay0, PyData.depth, txd_lay, txd_depth, o1, o2]) hu ?_
  simp only [PyData.eqv, txd_eqv]
  exact h
end
section
variable {w : World} {ps : Program} {loose : List Str} {mean : ExcName → Option Value} {mg mb : Str → Option Value} {a : Addr} {cd : Value} {base g : Heap} {L : Addr} {m : Str → Option Value} {s : Shared} {news : List (Addr × Obj)} {Q : Flow → Shared → Prop} {E : Value → Shared → Prop} {la lb S1 S2 c1 c2 : Nat} {va vb u1 u2 : List Value} {wa wb : List (List Nat)} {o1 o2 : Obj}
local macro_rules | `(tactic| k_mem) => `(tactic| assumption)
theorem law_cmp (m1 : m "there" = some (.ref S1)) (m2 : m "back" = some (.ref S2)) (d1 : o1.data = .cell (some (.ref la))) (d2 : o2.data = .cell (some (.ref lb)))
    (h1 : (S1, listO u1.toArray c1) ∈ news) (h2 : (S2, listO u2.toArray c2) ∈ news) (h3 : (L + 1, o1) ∈ news) (h4 : (L + 1 + 1, o2) ∈ news) (hT1 : TxsAre u1 wa) (hT2 : TxsAre u2 wb) (hTa : TxsAre va wa) (hTb : TxsAre vb wb) {ca cb : Nat} (h5 : (la, listO va.toArray ca) ∈ news) (h6 : (lb, listO vb.toArray cb) ∈ news)
    (ok1 : TxOk wa) (ok2 : TxOk wb)
    (B : Below callerA base [] g) (X : (K w.params).In g) (T : Top ps loose mean mg mb g)
    (F : Fr g L s.heap m) (N : News g L s.heap news) (ht : 0 < s.toks)
    (kC : ∀ (h' : Heap) (tk' : Nat), 0 < tk' → Fr g L h' m → News g L h' news → wpAny (model P w) (callerA.deeper (envLw L a cd)) (execs (lwB.drop 8) (envLw L a cd)) Q E { s with heap := h', toks := tk' }) :
    wpAny (model P w) (callerA.deeper (envLw L a cd)) (execs (lwB.drop 7) (envLw L a cd)) Q E s := by
  obtain ⟨hh, gg, dd, tkz, oo⟩ := s
  dsimp only at F N ht kC ⊢
  iterate 6 walk1
  k_dflt (refine' ne_txs ⟨_, (N _ h1).1, rfl, _, rfl⟩ ⟨_, (N _ h5).1, rfl, _, rfl⟩ hT1 hTa ok1 ok1 (Nat.le_of_ble_eq_true rfl) ?_)
  rw [decide_eq_true (show wa = wa from rfl)]
  iterate 6 walk1
  k_dflt (refine' ne_txs ⟨_, (N _ h2).1, rfl, _, rfl⟩ ⟨_, (N _ h6).1, rfl, _, rfl⟩ hT2 hTb ok2 ok2 (Nat.le_of_ble_eq_true rfl) ?_)
  rw [decide_eq_true (show wb = wb from rfl)]
  iterate 5 walk1
  k_dflt (refine' kC _ _ ?h F N)
  case h => first | assumption | exact Nat.succ_pos _ | omega
end
end
section
open PySem PySem.W PyProof.Rows PyProof.Rows.LCg PySem.Calls
theorem miss_snoc {α : Type} [DecidableEq α] (x : α) (a : α → Nat) : ∀ (l : List α) (f : α → Nat), missC f (l ++ [x]) a = missC f l a ++ (if f x + l.count x + 1 > a x then [x] else [])
  | [], f => by simp [missC]
  | y :: l, f => by
    rw [List.cons_append, missC, miss_snoc x a l, missC, List.append_assoc]
    by_cases h : x = y
    · subst h
      simp only [if_true, List.count_cons_self]
      rw [show f x + 1 + l.count x + 1 = f x + (l.count x + 1) + 1 by omega]
    · simp only [if_neg h, List.count_cons_of_ne (Ne.symm h)]
theorem beq_list : (instBEqOfDecidableEq : BEq (List Nat)) = List.instBEq := beq_inst _ _ inferInstance inferInstance
theorem miss_snocL (x : List Nat) (a : List Nat → Nat) (l : List (List Nat)) (f : List Nat → Nat) : missC f (l ++ [x]) a = missC f l a ++ (if f x + l.count x + 1 > a x then [x] else []) := by
  have h := miss_snoc x a l f
  rw [beq_list] at h
  exact h
theorem left_miss {α : Type} [DecidableEq α] : ∀ (l : List α) (f a : α → Nat), leftC f l a = missC f l a
  | [], _, _ => rfl
  | y :: l, f, a => by rw [leftC, missC, left_miss l]
theorem cnt_tx (x : List Nat) : ∀ ws : List (List Nat), Spec.countIn (.str (tx x)) ((ws.map tx).map PyData.str) = ws.count x
  | [] => rfl
  | y :: r => by
    have := cnt_tx x r
    rw [cnt_strs] at this ⊢
    have this' : (r.map tx).count (tx x) = r.count x := Int.ofNat.inj this
    rw [List.map_cons, List.count_cons, List.count_cons, this', tx_beq]
    by_cases h : y = x <;> simp [h]
theorem count_own {w : World} {A : Around} {E : Value → Shared → Prop} {s : Shared} {h₀ : Heap} {L l : Addr} {news : List (Addr × Obj)} {vals : List Value} {ws : List (List Nat)} {cc : Nat} {x : List Nat} {t : Tok} {Q : Value → Shared → Prop} (N : News h₀ L s.heap news) (hm : (l, listO vals.toArray cc) ∈ news) (hT : TxsAre vals ws)
    (h : Q (.int (ws.count x : Nat) s.toks) { s with toks := s.toks + 1 }) : wpAny (model P w) A (call (.builtin "list.count") [.ref l, .str (tx x) t]) Q E s :=
  count_list_strs ⟨_, (N _ hm).1, rfl, _, rfl⟩ hT.strs (by rw [cnt_tx]; exact h)
theorem slice_from {w : World} {A : Around} {E : Value → Shared → Prop} {s : Shared} {h₀ : Heap} {L l : Addr} {m : Str → Option Value} {news : List (Addr × Obj)} {vals : List Value} {cc k : Nat} {t : Tok} {value slice : Expr} {Q : Value → Shared → Prop} (F : Fr h₀ L s.heap m) (N : News h₀ L s.heap news) (hm : (l, listO vals.toArray cc) ∈ news) (hk : k ≤ vals.length) (hz : vals.length ≤ 100000)
    (h : ∀ D h', Fr h₀ L h' m → News h₀ L h' ((D, listO (vals.drop k).toArray 0) :: news) → Q (.ref D) { s with heap := h' })
    (hs : subscripted slice false (.ref l) (.ref s.heap.objs.size) = operate [.ref s.heap.objs.size, .ref l] (getItem (.ref l) (.ref s.heap.objs.size))) (ht : ∀ r, letTemporaryGo value (.ref l) r = pure ()) :
    wpAny (model P w) A (subscriptTail value slice (.ref l) (.ref s.heap.objs.size)) Q E { s with heap := s.heap.push { cls := .type "slice", data := .fields #[.int ((k : Nat) : Int) t, .none, .none] } } := by
  refine kmk_slice (its := vals.toArray) F N ⟨_, (N _ hm).1, rfl, _, rfl⟩ (.int _ _) .none (fun D h' F' N' _ => h D h' F' ?_) hs ht (by rw [List.size_toArray]; exact Nat.le_trans hz (by decide))
  have e : sliceBounds (some (k : Int)) none none vals.toArray.size = ((k : Int), ((vals.length : Nat) : Int), 1) := by
    simp only [sliceBounds, Option.getD_none, show (1 : Int) > 0 by decide, if_true, if_neg (show ¬ ((k : Int) < 0) by omega), List.size_toArray]
    congr 1
    omega
  rw [kmk_pick_nat _ e] at N'
  have e2 : (vals.toArray.toList.drop k).take (vals.length - k) = vals.drop k := List.take_of_length_le (by simp)
  rw [e2] at N'
  exact N'
theorem slice_upto {w : World} {A : Around} {E : Value → Shared → Prop} {s : Shared} {h₀ : Heap} {L l : Addr} {m : Str → Option Value} {news : List (Addr × Obj)} {vals : List Value} {cc k : Nat} {t : Tok} {value slice : Expr} {Q : Value → Shared → Prop} (F : Fr h₀ L s.heap m) (N : News h₀ L s.heap news) (hm : (l, listO vals.toArray cc) ∈ news) (hk : k + 1 ≤ vals.length) (hz : vals.length ≤ 100000)
    (h : ∀ D h', Fr h₀ L h' m → News h₀ L h' ((D, listO (vals.take (k + 1)).toArray 0) :: news) → Q (.ref D) { s with heap := h' })
    (hs : subscripted slice false (.ref l) (.ref s.heap.objs.size) = operate [.ref s.heap.objs.size, .ref l] (getItem (.ref l) (.ref s.heap.objs.size))) (ht : ∀ r, letTemporaryGo value (.ref l) r = pure ()) :
    wpAny (model P w) A (subscriptTail value slice (.ref l) (.ref s.heap.objs.size)) Q E { s with heap := s.heap.push { cls := .type "slice", data := .fields #[.none, .int (((k : Nat) : Int) + 1) t, .none] } } := by
  refine kmk_slice (its := vals.toArray) F N ⟨_, (N _ hm).1, rfl, _, rfl⟩ .none (.int _ _) (fun D h' F' N' _ => h D h' F' ?_) hs ht (by rw [List.size_toArray]; exact Nat.le_trans hz (by decide))
  have e : sliceBounds none (some ((k : Int) + 1)) none vals.toArray.size = (((0 : Nat) : Int), ((k + 1 : Nat) : Int), 1) := by
    simp only [sliceBounds, Option.getD_none, show (1 : Int) > 0 by decide, if_true, if_neg (show ¬ ((k : Int) + 1 < 0) by omega), List.size_toArray]
    congr 2
    omega
  rw [kmk_pick_nat _ e] at N'
  have e2 : (vals.toArray.toList.drop 0).take (k + 1 - 0) = vals.take (k + 1) := by simp
  rw [e2] at N'
  exact N'
section
variable {w : World} {ps : Program} {loose : List Str} {mean : ExcName → Option Value} {mg mb : Str → Option Value} {a : Addr} {cd : Value} {base g : Heap} {L : Addr} {m : Str → Option Value} {s : Shared} {news : List (Addr × Obj)} {Q : Flow → Shared → Prop} {E : Value → Shared → Prop} {la lb ca cb : Nat} {va vb : List Value} {wa wb : List (List Nat)} {o1 o2 : Obj}
local macro_rules | `(tactic| k_mem) => `(tactic| first | assumption | exact .head _ | exact .tail _ (by assumption))
local macro_rules | `(tactic| walk_at "call builtin:len") => `(tactic| (k_here; k_dflt (refine' len_own ?N ?m ?z ?_; (case N => k_asm); (case m => k_mem); (case z => assumption)); walk_at "ds"))
noncomputable abbrev scLk : Scope := { kind := .function, names := [(".0", .local), ("k", .local), ("ahead", .free), ("behind", .free)], isGenerator := false, isCoroutine := false, more := [] }
theorem small_neg {n : Nat} (hn : n ≤ 5000) : Builtin.Range.small ((n : Int) - 1) (-1) (-1) = true := by
  unfold Builtin.Range.small Builtin.Range.rangeSize
  simp only [Builtin.Range.rangeFitsLong, Bool.and_eq_true, Bool.or_eq_true, decide_eq_true_eq, beq_iff_eq]
  rw [if_neg (by decide), show (- -1 : Int) = 1 by decide, Int.ediv_one]
  refine ⟨?_, Or.inr (by decide)⟩
  split <;> omega
theorem size_neg (n : Nat) : Builtin.Range.rangeSize ((n : Int) - 1) (-1) (-1) = (n : Int) := by
  unfold Builtin.Range.rangeSize
  rw [if_neg (by decide), show (- -1 : Int) = 1 by decide, Int.ediv_one]
  split <;> omega
local macro_rules | `(tactic| walk_at "subscriptTail Name Name ref int") => `(tactic| (k_here; k_dflt (refine' item_at ?N ?m rfl ?x ?r ?_ ?a ?b; (case N => k_asm); (case m => k_mem); (case x | r => assumption); walk_at "uu"; k_whole)))
local macro_rules | `(tactic| walk_at "call builtin:list.count") => `(tactic| (k_here; k_dflt (refine' count_own ?N ?m ?T ?_; (case N => k_asm); (case m => k_mem); (case T => assumption); k_whole); walk_at "ds"))
theorem getC_own {w : World} {A : Around} {E : Value → Shared → Prop} {s : Shared} {h₀ : Heap} {L l : Addr} {news : List (Addr × Obj)} {its : Array Value} {cc : Nat} {pl : Sem Bool} {Q : Value × List Value → Shared → Prop} (N : News h₀ L s.heap news) (hm : (l, listO its cc) ∈ news) (h : Q (.builtin "list.count", [.ref l]) s) : wpAny (model P w) A (getMethod (.ref l) "count" pl) Q E s :=
  getMethod_list_of PySem.F.slot_list_count PySem.F.type_list_count ⟨_, (N _ hm).1, rfl, _, rfl⟩ ⟨_, (N _ hm).1, rfl⟩ h
local macro_rules | `(tactic| walk_at "getMethod ref") => `(tactic| (k_here; k_dflt (refine' getC_own ?N ?m ?_; (case N => k_asm); (case m => k_mem); k_whole)))
theorem TxsAre.drop : ∀ {vs : List Value} {ws : List (List Nat)} (k : Nat), TxsAre vs ws → TxsAre (vs.drop k) (ws.drop k)
  | _, _, 0, h => h
  | _, _, _ + 1, .nil => .nil
  | _, _, k + 1, .cons r => r.drop k
theorem TxsAre.take : ∀ {vs : List Value} {ws : List (List Nat)} (k : Nat), TxsAre vs ws → TxsAre (vs.take k) (ws.take k)
  | _, _, 0, _ => .nil
  | _, _, _ + 1, .nil => .nil
  | _, _, k + 1, .cons r => .cons (r.take k)
theorem lack_src {s₁ : Shared} {r : Nat} {t1 u1 v1 : Tok} {Fin : Shared → List Value → List (Addr × Obj) → Prop} (d1 : o1.data = .cell (some (.ref la))) (d2 : o2.data = .cell (some (.ref lb)))
    (h3 : (L + 1, o1) ∈ news) (h4 : (L + 1 + 1, o2) ∈ news) (hTa : TxsAre va wa) (hTb : TxsAre vb wb) (h5 : (la, listO va.toArray ca) ∈ news) (h6 : (lb, listO vb.toArray cb) ∈ news) (hza : wa.length ≤ 5000) (hzb : wb.length ≤ 5000)
    (B : Below callerA base [] g) (X : (K w.params).In g) (T : Top ps loose mean mg mb g)
    (F : Fr g L s₁.heap m) (N : News g L s₁.heap news) (ht : 0 < s₁.toks) (hr : IsRange s₁.heap r ((va.toArray.size : Int) - 1) (-1) (-1) t1 u1 v1)
    (fin : ∀ ys, TxsAre ys (missC (fun _ => 0) wa.reverse fun z => wb.count z) → Fin s₁ ys news) :
    CSrc P w (callerA.deeper (envLw L a cd)) g L m (envLw L a cd) (some (((((Expr.Name (Str.ofString "ahead") { line := 868, col := 66, endLine := 868, endCol := 71 }).Subscript
                    (Expr.Slice
                      (some (Expr.Name (Str.ofString "k") { line := 868, col := 72, endLine := 868, endCol := 73 }))
                      none none { line := 868, col := 72, endLine := 868, endCol := 74 })
                    { line := 868, col := 66, endLine := 868, endCol := 75 }).Attribute
                (Str.ofString "count") { line := 868, col := 66, endLine := 868, endCol := 81 }).Call
            [(Expr.Name (Str.ofString "ahead") { line := 868, col := 82, endLine := 868, endCol := 87 }).Subscript
                (Expr.Name (Str.ofString "k") { line := 868, col := 88, endLine := 868, endCol := 89 })
                { line := 868, col := 82, endLine := 868, endCol := 90 }]
            [] { line := 868, col := 66, endLine := 868, endCol := 91 }).Compare
        [CmpOp.Gt]
        [((Expr.Name (Str.ofString "behind") { line := 868, col := 94, endLine := 868, endCol := 100 }).Attribute
                (Str.ofString "count") { line := 868, col := 94, endLine := 868, endCol := 106 }).Call
            [(Expr.Name (Str.ofString "ahead") { line := 868, col := 107, endLine := 868, endCol := 112 }).Subscript
                (Expr.Name (Str.ofString "k") { line := 868, col := 113, endLine := 868, endCol := 114 })
                { line := 868, col := 107, endLine := 868, endCol := 115 }]
            [] { line := 868, col := 94, endLine := 868, endCol := 116 }]
        { line := 868, col := 66, endLine := 868, endCol := 116 }))
    ((Expr.Name (Str.ofString "ahead") { line := 868, col := 15, endLine := 868, endCol := 20 }).Subscript
      (Expr.Name (Str.ofString "k") { line := 868, col := 21, endLine := 868, endCol := 22 })
      { line := 868, col := 15, endLine := 868, endCol := 23 }) (Expr.Name (Str.ofString "k") { line := 868, col := 28, endLine := 868, endCol := 29 }) scLk [(Str.ofString "behind", L + 1 + 1), (Str.ofString "ahead", L + 1)] Fin (.ref r) s₁ := by
  have hva := hTa.len
  have hsz : va.toArray.size = wa.length := by simp [hva]
  rw [hsz] at hr
  refine ⟨news, wa.length, _, _, _, fun i ys nw => nw = news ∧ TxsAre ys (missC (fun _ => 0) (wa.reverse.take i) fun z => wb.count z), iters_range rfl hr (small_neg hza) (size_neg _), fun C => bind_name (by rfl) (by rfl), F, N, ht, Nat.le_trans hza (by decide), ⟨rfl, .nil⟩, ?_, ?_⟩
  · rintro i ys nw v1 m₁ m₂ I oI C oC D h tk E' hi ⟨t5, rfl⟩ ⟨rfl, hys⟩ hyl hBd hoC F1 N1 off ne hsub htk
    obtain ⟨k, hk⟩ : ∃ k, k = wa.length - 1 - i := ⟨_, rfl⟩
    have hk1 : ((wa.length : Int) - 1 + (i : Int) * -1) = ((k : Nat) : Int) := by omega
    have hx : m₂ (Str.ofString "k") = some (.int ((k : Nat) : Int) t5) := by rw [hBd, ← hk1]; exact if_pos rfl
    have hkl : k < wa.length := by omega
    have hk5 : k < 100000 := by omega
    have hkv : k ≤ va.length := by omega
    have hvz : va.length ≤ 100000 := by omega
    obtain ⟨x, hxk⟩ : ∃ x, wa[k]? = some x := ⟨_, List.getElem?_eq_getElem hkl⟩
    obtain ⟨t6, hv6⟩ : ∃ t6, va.toArray[k]? = some (.str (tx x) t6) := by
      have := hTa.get hxk
      simpa using this
    have hTd := hTa.drop k
    have e5 : missC (fun _ => 0) (wa.reverse.take (i + 1)) (fun z => wb.count z) = missC (fun _ => 0) (wa.reverse.take i) (fun z => wb.count z) ++ if wb.count x < (wa.drop k).count x then [x] else [] := by
      have e1 : wa.reverse[i]? = some x := by
        rw [List.getElem?_reverse hi, ← hk, hxk]
      have e2 : (wa.drop k) = x :: wa.drop (k + 1) := by
        rw [List.drop_eq_getElem_cons hkl]
        rw [List.getElem?_eq_getElem hkl] at hxk
        rw [Option.some.inj hxk]
      have e3 : (wa.reverse.take i).count x = (wa.drop (k + 1)).count x := by
        rw [List.take_reverse, List.count_reverse]
        have : wa.length - i = k + 1 := by omega
        rw [this]
      rw [List.take_add_one, e1, Option.toList_some, miss_snocL, e2, List.count_cons_self, e3]
      simp only [Nat.zero_add, gt_iff_lt]
    show wpAny _ _ (isTrue _ _ (eval _ _)) _ _ _
    have h3' : (L + 1, o1) ∈ ((I, oI) :: (C, oC) :: (D, lst ys) :: nw) := .tail _ (.tail _ (.tail _ h3))
    have h4' : (L + 1 + 1, o2) ∈ ((I, oI) :: (C, oC) :: (D, lst ys) :: nw) := .tail _ (.tail _ (.tail _ h4))
    have h5' : (la, listO va.toArray ca) ∈ ((I, oI) :: (C, oC) :: (D, lst ys) :: nw) := .tail _ (.tail _ (.tail _ h5))
    have h6' : (lb, listO vb.toArray cb) ∈ ((I, oI) :: (C, oC) :: (D, lst ys) :: nw) := .tail _ (.tail _ (.tail _ h6))
    have hC' : (C, oC) ∈ ((I, oI) :: (C, oC) :: (D, lst ys) :: nw) := .tail _ (.head _)
    repeat walk1
    k_dflt (refine' slice_from (vals := va) (k := k) F1 N1 h5' hkv hvz ?_ ?hs ?ht)
    case hs => with_unfolding_all rfl
    case ht => (intro _; with_unfolding_all rfl)
    intro D2 h2 F2 N2
    dsimp only
    repeat walk1
    · rename (_ : Int) < _ => hc
      have hc' : wb.count x < (wa.drop k).count x := Int.ofNat_lt.mp hc
      rename News _ _ _ _ => nEnd
      refine ⟨_, _, nw, rfl, by k_asm, News.sub nEnd fun p hp => .tail _ hp, off, fun _ hp => hp, rfl, ?_⟩
      rw [if_pos rfl, e5, if_pos hc']
      exact hys.snoc
    · rename ¬ (_ : Int) < _ => hc
      have hc' : ¬ wb.count x < (wa.drop k).count x := fun q => hc (Int.ofNat_lt.mpr q)
      rename News _ _ _ _ => nEnd
      refine ⟨_, _, nw, rfl, by k_asm, News.sub nEnd fun p hp => .tail _ hp, off, fun _ hp => hp, rfl, ?_⟩
      rw [if_neg (by decide), e5, if_neg hc', List.append_nil]
      exact hys
  · rintro ys nw ⟨rfl, hys⟩
    refine fin ys ?_
    rwa [List.take_of_length_le (by simp)] at hys
theorem law_lack (d1 : o1.data = .cell (some (.ref la))) (d2 : o2.data = .cell (some (.ref lb)))
    (h3 : (L + 1, o1) ∈ news) (h4 : (L + 1 + 1, o2) ∈ news) (hTa : TxsAre va wa) (hTb : TxsAre vb wb) (h5 : (la, listO va.toArray ca) ∈ news) (h6 : (lb, listO vb.toArray cb) ∈ news) (hza : wa.length ≤ 5000) (hzb : wb.length ≤ 5000)
    (B : Below callerA base [] g) (X : (K w.params).In g) (T : Top ps loose mean mg mb g)
    (F : Fr g L s.heap m) (N : News g L s.heap news) (ht : 0 < s.toks)
    (kC : ∀ (D : Addr) (h' : Heap) (tk' cc : Nat) (ys : List Value), 0 < tk' → TxsAre ys (missC (fun _ => 0) wa.reverse fun z => wb.count z) → Fr g L h' (fun z => if z = "lacking" then some (.ref D) else m z) → News g L h' ((D, listO ys.toArray cc) :: news) → Off1 D news → wpAny (model P w) (callerA.deeper (envLw L a cd)) (execs (lwB.drop 9) (envLw L a cd)) Q E { s with heap := h', toks := tk' }) :
    wpAny (model P w) (callerA.deeper (envLw L a cd)) (execs (lwB.drop 8) (envLw L a cd)) Q E s := by
  obtain ⟨hh, gg, dd, tkz, oo⟩ := s
  dsimp only at F N ht kC ⊢
  have hva := hTa.len
  have hsz : va.toArray.size ≤ 100000 := by simp; omega
  iterate 1 walk1
  k_dflt (refine Assign_ListComp_O (c := some _) F rfl (by with_unfolding_all rfl) (by with_unfolding_all rfl) (by decide) (by rfl) (by decide) (by rfl) (by rfl) ?_)
  iterate 23 walk1
  refine wpAny_toks ?_
  iterate 1 walk1
  intro hle
  rename IsRange _ _ _ _ _ _ _ _ => hr
  rename Fr _ _ _ _ => F1
  rename News _ _ _ _ => N1
  k_dflt (refine' lack_src d1 d2 h3 h4 hTa hTb h5 h6 hza hzb B X T F1 N1 ?ht hr ?fin)
  case ht => exact Nat.lt_of_lt_of_le (Nat.succ_pos _) hle
  case fin =>
    intro ys hT D h1 tk1 F2 N2 o2 htk2
    exact kC D h1 tk1 _ ys htk2 hT F2 N2 o2
end
end
section
open PySem PySem.W PyProof.Rows PyProof.Rows.LCg PySem.Calls
section
variable {w : World} {ps : Program} {loose : List Str} {mean : ExcName → Option Value} {mg mb : Str → Option Value} {a : Addr} {cd : Value} {base g : Heap} {L : Addr} {m : Str → Option Value} {s : Shared} {news : List (Addr × Obj)} {Q : Flow → Shared → Prop} {E : Value → Shared → Prop} {la lb ca cb : Nat} {va vb : List Value} {wa wb : List (List Nat)} {o1 o2 : Obj}
local macro_rules | `(tactic| k_mem) => `(tactic| first | assumption | exact .head _ | exact .tail _ (by assumption))
local macro_rules | `(tactic| walk_at "call builtin:len") => `(tactic| (k_here; k_dflt (refine' len_own ?N ?m ?z ?_; (case N => k_asm); (case m => k_mem); (case z => assumption)); walk_at "ds"))
local macro_rules | `(tactic| walk_at "subscriptTail Name Name ref int") => `(tactic| (k_here; k_dflt (refine' item_at ?N ?m rfl ?x ?r ?_ ?a ?b; (case N => k_asm); (case m => k_mem); (case x | r => assumption); walk_at "uu"; k_whole)))
local macro_rules | `(tactic| walk_at "call builtin:list.count") => `(tactic| (k_here; k_dflt (refine' count_own ?N ?m ?T ?_; (case N => k_asm); (case m => k_mem); (case T => assumption); k_whole); walk_at "ds"))
local macro_rules | `(tactic| walk_at "getMethod ref") => `(tactic| (k_here; k_dflt (refine' getC_own ?N ?m ?_; (case N => k_asm); (case m => k_mem); k_whole)))
theorem left_src {s₁ : Shared} {r : Nat} {t1 u1 v1 : Tok} {Fin : Shared → List Value → List (Addr × Obj) → Prop} (d1 : o1.data = .cell (some (.ref la))) (d2 : o2.data = .cell (some (.ref lb)))
    (h3 : (L + 1, o1) ∈ news) (h4 : (L + 1 + 1, o2) ∈ news) (hTa : TxsAre va wa) (hTb : TxsAre vb wb) (h5 : (la, listO va.toArray ca) ∈ news) (h6 : (lb, listO vb.toArray cb) ∈ news) (hza : wa.length ≤ 5000) (hzb : wb.length ≤ 5000)
    (B : Below callerA base [] g) (X : (K w.params).In g) (T : Top ps loose mean mg mb g)
    (F : Fr g L s₁.heap m) (N : News g L s₁.heap news) (ht : 0 < s₁.toks) (hr : IsRange s₁.heap r 0 (vb.toArray.size : Int) 1 t1 u1 v1)
    (fin : ∀ ys, TxsAre ys (missC (fun _ => 0) wb fun z => wa.count z) → Fin s₁ ys news) :
    CSrc P w (callerA.deeper (envLw L a cd)) g L m (envLw L a cd) (some (((((Expr.Name (Str.ofString "behind") { line := 869, col := 53, endLine := 869, endCol := 59 }).Subscript
                                        (Expr.Slice none
                                          (some
                                            ((Expr.Name (Str.ofString "k")
                                                  { line := 869, col := 61, endLine := 869, endCol := 62 }).BinOp
                                              Operator.Add
                                              (Expr.Constant (Const.int 1) 0
                                                { line := 869, col := 65, endLine := 869, endCol := 66 })
                                              { line := 869, col := 61, endLine := 869, endCol := 66 }))
                                          none { line := 869, col := 60, endLine := 869, endCol := 66 })
                                        { line := 869, col := 53, endLine := 869, endCol := 67 }).Attribute
                                    (Str.ofString "count")
                                    { line := 869, col := 53, endLine := 869, endCol := 73 }).Call
                                [(Expr.Name (Str.ofString "behind")
                                        { line := 869, col := 74, endLine := 869, endCol := 80 }).Subscript
                                    (Expr.Name (Str.ofString "k")
                                      { line := 869, col := 81, endLine := 869, endCol := 82 })
                                    { line := 869, col := 74, endLine := 869, endCol := 83 }]
                                [] { line := 869, col := 53, endLine := 869, endCol := 84 }).Compare
                            [CmpOp.Gt]
                            [((Expr.Name (Str.ofString "ahead")
                                        { line := 869, col := 87, endLine := 869, endCol := 92 }).Attribute
                                    (Str.ofString "count")
                                    { line := 869, col := 87, endLine := 869, endCol := 98 }).Call
                                [(Expr.Name (Str.ofString "behind")
                                        { line := 869, col := 99, endLine := 869, endCol := 105 }).Subscript
                                    (Expr.Name (Str.ofString "k")
                                      { line := 869, col := 106, endLine := 869, endCol := 107 })
                                    { line := 869, col := 99, endLine := 869, endCol := 108 }]
                                [] { line := 869, col := 87, endLine := 869, endCol := 109 }]
                            { line := 869, col := 53, endLine := 869, endCol := 109 }))
    ((Expr.Name (Str.ofString "behind") { line := 869, col := 12, endLine := 869, endCol := 18 }).Subscript
                      (Expr.Name (Str.ofString "k") { line := 869, col := 19, endLine := 869, endCol := 20 })
                      { line := 869, col := 12, endLine := 869, endCol := 21 }) (Expr.Name (Str.ofString "k") { line := 869, col := 26, endLine := 869, endCol := 27 }) scLk [(Str.ofString "behind", L + 1 + 1), (Str.ofString "ahead", L + 1)] Fin (.ref r) s₁ := by
  have hva := hTb.len
  have hsz : vb.toArray.size = wb.length := by simp [hva]
  rw [hsz] at hr
  refine ⟨news, wb.length, _, _, _, fun i ys nw => nw = news ∧ TxsAre ys (missC (fun _ => 0) (wb.take i) fun z => wa.count z), iters_range rfl hr (small_one (by decide) (by decide) (by omega) (by omega)) (by rw [rangeSize_nat]; simp), fun C => bind_name (by rfl) (by rfl), F, N, ht, Nat.le_trans hzb (by decide), ⟨rfl, .nil⟩, ?_, ?_⟩
  · rintro i ys nw v1 m₁ m₂ I oI C oC D h tk E' hi ⟨t5, rfl⟩ ⟨rfl, hys⟩ hyl hBd hoC F1 N1 off ne hsub htk
    obtain ⟨k, hk⟩ : ∃ k, k = i := ⟨_, rfl⟩
    have hk1 : (0 + (i : Int) * 1) = ((k : Nat) : Int) := by omega
    have hx : m₂ (Str.ofString "k") = some (.int ((k : Nat) : Int) t5) := by rw [hBd, ← hk1]; exact if_pos rfl
    have hkl : k < wb.length := by omega
    have hk5 : k < 100000 := by omega
    have hkv : k + 1 ≤ vb.length := by omega
    have hvz : vb.length ≤ 100000 := by omega
    obtain ⟨x, hxk⟩ : ∃ x, wb[k]? = some x := ⟨_, List.getElem?_eq_getElem hkl⟩
    obtain ⟨t6, hv6⟩ : ∃ t6, vb.toArray[k]? = some (.str (tx x) t6) := by
      have := hTb.get hxk
      simpa using this
    have hTd := hTb.take (k + 1)
    have e5 : missC (fun _ => 0) (wb.take (i + 1)) (fun z => wa.count z) = missC (fun _ => 0) (wb.take i) (fun z => wa.count z) ++ if wa.count x < (wb.take (k + 1)).count x then [x] else [] := by
      subst hk
      rw [List.take_add_one, hxk, Option.toList_some, miss_snocL, List.count_append, List.count_cons_self, List.count_nil]
      simp only [Nat.zero_add, gt_iff_lt]
    show wpAny _ _ (isTrue _ _ (eval _ _)) _ _ _
    have h3' : (L + 1, o1) ∈ ((I, oI) :: (C, oC) :: (D, lst ys) :: nw) := .tail _ (.tail _ (.tail _ h3))
    have h4' : (L + 1 + 1, o2) ∈ ((I, oI) :: (C, oC) :: (D, lst ys) :: nw) := .tail _ (.tail _ (.tail _ h4))
    have h5' : (la, listO va.toArray ca) ∈ ((I, oI) :: (C, oC) :: (D, lst ys) :: nw) := .tail _ (.tail _ (.tail _ h5))
    have h6' : (lb, listO vb.toArray cb) ∈ ((I, oI) :: (C, oC) :: (D, lst ys) :: nw) := .tail _ (.tail _ (.tail _ h6))
    have hC' : (C, oC) ∈ ((I, oI) :: (C, oC) :: (D, lst ys) :: nw) := .tail _ (.head _)
    repeat walk1
    k_dflt (refine' slice_upto (vals := vb) (k := k) F1 N1 h6' hkv hvz ?_ ?hs ?ht)
    case hs => with_unfolding_all rfl
    case ht => (intro _; with_unfolding_all rfl)
    intro D2 h2 F2 N2
    dsimp only
    repeat walk1
    · rename (_ : Int) < _ => hc
      have hc' : wa.count x < (wb.take (k + 1)).count x := Int.ofNat_lt.mp hc
      rename News _ _ _ _ => nEnd
      refine ⟨_, _, nw, rfl, by k_asm, News.sub nEnd fun p hp => .tail _ hp, off, fun _ hp => hp, rfl, ?_⟩
      rw [if_pos rfl, e5, if_pos hc']
      exact hys.snoc
    · rename ¬ (_ : Int) < _ => hc
      have hc' : ¬ wa.count x < (wb.take (k + 1)).count x := fun q => hc (Int.ofNat_lt.mpr q)
      rename News _ _ _ _ => nEnd
      refine ⟨_, _, nw, rfl, by k_asm, News.sub nEnd fun p hp => .tail _ hp, off, fun _ hp => hp, rfl, ?_⟩
      rw [if_neg (by decide), e5, if_neg hc', List.append_nil]
      exact hys
  · rintro ys nw ⟨rfl, hys⟩
    refine fin ys ?_
    rwa [List.take_of_length_le (by simp)] at hys
theorem law_left (d1 : o1.data = .cell (some (.ref la))) (d2 : o2.data = .cell (some (.ref lb)))
    (h3 : (L + 1, o1) ∈ news) (h4 : (L + 1 + 1, o2) ∈ news) (hTa : TxsAre va wa) (hTb : TxsAre vb wb) (h5 : (la, listO va.toArray ca) ∈ news) (h6 : (lb, listO vb.toArray cb) ∈ news) (hza : wa.length ≤ 5000) (hzb : wb.length ≤ 5000)
    (B : Below callerA base [] g) (X : (K w.params).In g) (T : Top ps loose mean mg mb g)
    (F : Fr g L s.heap m) (N : News g L s.heap news) (ht : 0 < s.toks)
    (kC : ∀ (D : Addr) (h' : Heap) (tk' cc : Nat) (ys : List Value), 0 < tk' → TxsAre ys (missC (fun _ => 0) wb fun z => wa.count z) → Fr g L h' (fun z => if z = "left" then some (.ref D) else m z) → News g L h' ((D, listO ys.toArray cc) :: news) → Off1 D news → wpAny (model P w) (callerA.deeper (envLw L a cd)) (execs (lwB.drop 10) (envLw L a cd)) Q E { s with heap := h', toks := tk' }) :
    wpAny (model P w) (callerA.deeper (envLw L a cd)) (execs (lwB.drop 9) (envLw L a cd)) Q E s := by
  obtain ⟨hh, gg, dd, tkz, oo⟩ := s
  dsimp only at F N ht kC ⊢
  have hva := hTb.len
  have hsz : vb.toArray.size ≤ 100000 := by simp; omega
  iterate 1 walk1
  k_dflt (refine Assign_ListComp_O (c := some _) F rfl (by with_unfolding_all rfl) (by with_unfolding_all rfl) (by decide) (by rfl) (by decide) (by rfl) (by rfl) ?_)
  iterate 12 walk1
  refine wpAny_toks ?_
  iterate 1 walk1
  intro hle
  rename IsRange _ _ _ _ _ _ _ _ => hr
  rename Fr _ _ _ _ => F1
  rename News _ _ _ _ => N1
  k_dflt (refine' left_src d1 d2 h3 h4 hTa hTb h5 h6 hza hzb B X T F1 N1 ?ht hr ?fin)
  case ht => exact Nat.lt_of_lt_of_le (Nat.succ_pos _) hle
  case fin =>
    intro ys hT D h1 tk1 F2 N2 o2 htk2
    exact kC D h1 tk1 _ ys htk2 hT F2 N2 o2
end
end
section
open PySem PySem.W PyProof.Rows PyProof.Rows.LCg PySem.Calls
section
variable {w : World} {ps : Program} {loose : List Str} {mean : ExcName → Option Value} {mg mb : Str → Option Value} {a : Addr} {cd : Value} {base g : Heap} {L : Addr} {m : Str → Option Value} {s : Shared} {nw : List (Addr × Obj)} {Q : Flow → Shared → Prop} {E : Value → Shared → Prop} {S1 S2 Dk Df c1 c2 ck cf : Nat} {u1 u2 yk yf : List Value} {we wa : List (List Nat)}
theorem eq_two {w : World} {A : Around} {E : Value → Shared → Prop} {s : Shared} {T1 T2 a1 a2 b1 b2 k1 k2 : Nat} {xs ys xs' ys' : List Value} {ns ms : List (List Nat)} {Q : Value → Shared → Prop} (h1 : s.heap.get? T1 = some ({ cls := .type "tuple", data := .seq #[.ref a1, .ref b1] k1 } : Obj)) (h2 : s.heap.get? T2 = some ({ cls := .type "tuple", data := .seq #[.ref a2, .ref b2] k2 } : Obj))
    (ha1 : s.heap.IsList a1 xs.toArray) (hb1 : s.heap.IsList b1 ys.toArray) (ha2 : s.heap.IsList a2 xs'.toArray) (hb2 : s.heap.IsList b2 ys'.toArray) (e1 : TxsAre xs ns) (e2 : TxsAre ys ms) (e3 : TxsAre xs' ns) (e4 : TxsAre ys' ms) (o1 : TxOk ns) (o2 : TxOk ms) (hu : A.units + 64 < cLine) (hq : Q (.bool true) s) :
    wpAny (model P w) A (compareOp .Eq (.ref T1) (.ref T2)) Q E s := by
  refine eq_dataH (reads_tuple_at h1 rfl rfl (.cons (reads_newData ha1 (tx_carried e1)) (.cons (reads_newData hb1 (tx_carried e2)) .nil))) (reads_tuple_at h2 rfl rfl (.cons (reads_newData ha2 (tx_carried e3)) (.cons (reads_newData hb2 (tx_carried e4)) .nil))) ?_ ?_ hu ?_
  · simp [SeqAt.shaped, PyData.canLay0, PyData.canLayAll0, PyData.depth, PyData.depthAll, txd_lay, txd_depth, o1, o2]
  · simp [SeqAt.shaped, PyData.canLay0, PyData.canLayAll0, PyData.depth, PyData.depthAll, txd_lay, txd_depth, o1, o2]
  · simp only [PyData.eqv, PyData.eqvAll, txd_eqv, decide_true, Bool.and_true]
    exact hq
theorem law_end (m1 : m "there" = some (.ref S1)) (m2 : m "back" = some (.ref S2)) (m3 : m "lacking" = some (.ref Dk)) (m4 : m "left" = some (.ref Df))
    (n12 : S1 ≠ S2) (hn1 : ∀ p ∈ nw, p.1 ≠ S1) (hn2 : ∀ p ∈ nw, p.1 ≠ S2) (hk : (Dk, listO yk.toArray ck) ∈ nw) (hf : (Df, listO yf.toArray cf) ∈ nw)
    (hT1 : TxsAre u1 we) (hT2 : TxsAre u2 wa) (hTk : TxsAre yk (uld we.reverse wa).1) (hTf : TxsAre yf (uld we.reverse wa).2) (hze : we.length ≤ 5000) (hza : wa.length ≤ 5000) (ok1 : TxOk (uld we.reverse wa).1) (ok2 : TxOk (uld we.reverse wa).2)
    (B : Below callerA base [] g) (X : (K w.params).In g) (T : Top ps loose mean mg mb g) (XB : (K w.params).In base) (TB : Top ps loose mean mg mb base) (KD : KtsDicts (([] : List Env).filterMap (·.frame)) g)
    (F : Fr g L s.heap m) (N : News g L s.heap ((S1, listO u1.toArray c1) :: (S2, listO u2.toArray c2) :: nw)) (ht : 0 < s.toks)
    (ret : ∀ (g' h' : Heap) (tk' : Nat) (m' : Str → Option Value), KtsTurn [] g g' → Fr g' L h' m' → Q (.ret (.bool true)) { s with heap := h', toks := tk' }) :
    wpAny (model Mine.P w) (callerA.deeper (envLw L a cd)) (execs (lwB.drop 10) (envLw L a cd)) Q E s := by
  obtain ⟨hh, gg, dd, tkz, oo⟩ := s
  dsimp only at F N ht ret ⊢
  iterate 12 walk1
  k_dflt (refine' diff_gives hT1 hT2 hze hza n12 hn1 hn2 B F X N T XB TB KD ?hk ?hd ?hu ?ht ?rOk)
  case hk => exact rfl
  case hd => decide
  case hu => decide
  case ht => first | assumption | exact Nat.succ_pos _ | omega
  case rOk =>
    intro g2 h2 tk2 T1 lm cm ca2 ce2 mv av2 KT2 F2 hTm hTv N2 B2 X2 T2 KD2
    clear B X T N F KD
    iterate 7 walk1
    rename News _ _ _ _ => N3
    rename Fr _ _ _ _ => F3
    k_dflt (refine' eq_two (N3 _ (.tail _ (.head _))).1 (N3 _ (.head _)).1 ⟨_, (N3 _ (.tail _ (.tail _ (.head _)))).1, rfl, _, rfl⟩ ⟨_, (N3 _ (.tail _ (.tail _ (.tail _ (.head _))))).1, rfl, _, rfl⟩ ⟨_, (N3 _ (.tail _ (.tail _ (.tail _ (.tail _ (.tail _ hk)))))).1, rfl, _, rfl⟩ ⟨_, (N3 _ (.tail _ (.tail _ (.tail _ (.tail _ (.tail _ hf)))))).1, rfl, _, rfl⟩ hTm hTv hTk hTf ok1 ok2 ?hu ?_)
    case hu => exact Nat.le_of_ble_eq_true rfl
    exact ret g2 _ _ _ KT2 F3
end
end
section
open PySem PySem.W PyProof.Rows PyProof.Rows.LCg PySem.Calls
theorem tw_len : ∀ (T : List (Option Nat)) (w : List Nat), (tw w T).length ≤ T.length + 1
  | [], w => by by_cases h : w = [] <;> simp [tw, h]
  | some c :: r, w => by
    have := tw_len r (w ++ [c])
    simp only [tw, List.length_cons]; omega
  | none :: r, w => by
    have := tw_len r []
    by_cases h : w = []
    · simp only [tw, if_pos h, List.length_cons]; omega
    · simp only [tw, if_neg h, List.length_cons]; omega
theorem tw_chars (P : Nat → Prop) : ∀ (T : List (Option Nat)) (w : List Nat), (∀ c ∈ w, P c) → (∀ c, some c ∈ T → P c) → ∀ x ∈ tw w T, ∀ c ∈ x, P c
  | [], w, hw, _, x, hx, c, hc => by
    by_cases h : w = []
    · simp [tw, h] at hx
    · simp [tw, h] at hx; subst hx; exact hw c hc
  | some d :: r, w, hw, hT, x, hx, c, hc => by
    simp only [tw] at hx
    refine tw_chars P r _ (fun e he => ?_) (fun e he => hT e (.tail _ he)) x hx c hc
    rcases List.mem_append.mp he with he | he
    · exact hw e he
    · rw [List.mem_singleton.mp he]; exact hT d (.head _)
  | none :: r, w, hw, hT, x, hx, c, hc => by
    have hr : ∀ e, some e ∈ r → P e := fun e he => hT e (.tail _ he)
    have h0 : ∀ e ∈ ([] : List Nat), P e := fun _ he => nomatch he
    by_cases h : w = []
    · simp only [tw, if_pos h] at hx
      exact tw_chars P r _ h0 hr x hx c hc
    · simp only [tw, if_neg h] at hx
      rcases List.mem_cons.mp hx with rfl | hx
      · exact hw c hc
      · exact tw_chars P r _ h0 hr x hx c hc
theorem dqr_len : ∀ W : List Nat, (dqRun W).1.length ≤ W.length
  | [] => by simp [dqRun]
  | [c] => by by_cases h : c = 92 <;> simp [dqRun, h]
  | c :: d :: r => by
    by_cases h : c = 92
    · have := dqr_len r
      by_cases h2 : d = 92 <;> simp [dqRun, h, h2] <;> omega
    · have := dqr_len (d :: r)
      simp [dqRun, h] at this ⊢; omega
theorem dq_chars (P : Nat → Prop) (h92 : P 92) : ∀ W : List Nat, (∀ c ∈ W, P c) → ∀ c ∈ (dqRun W).1, P c
  | [], _, c, hc => by simp [dqRun] at hc
  | [a], h, c, hc => by
    by_cases ha : a = 92
    · simp [dqRun, ha] at hc
    · simp [dqRun, ha] at hc; subst hc; exact h _ (.head _)
  | a :: d :: r, h, c, hc => by
    by_cases ha : a = 92
    · have ih := dq_chars P h92 r fun e he => h e (.tail _ (.tail _ he))
      simp only [dqRun, if_pos ha] at hc
      rcases List.mem_append.mp hc with hc | hc
      · by_cases h2 : d = 92
        · simp [h2] at hc; subst hc; exact h92
        · simp [h2] at hc
          rcases hc with rfl | rfl
          · exact h92
          · exact h _ (.tail _ (.head _))
      · exact ih c hc
    · have ih := dq_chars P h92 (d :: r) fun e he => h e (.tail _ he)
      simp only [dqRun, if_neg ha] at hc
      rcases List.mem_cons.mp hc with rfl | hc
      · exact h _ (.head _)
      · exact ih c hc
theorem bareL_len : ∀ W : List Nat, (bare W).length ≤ W.length
  | [] => by simp [bare]
  | [c] => by by_cases h : c = 92 <;> simp [bare, h]
  | c :: d :: r => by
    by_cases h : c = 92
    · have := bareL_len r
      simp [bare, h]; omega
    · have := bareL_len (d :: r)
      simp [bare, h] at this ⊢; omega
theorem bare_chars (P : Nat → Prop) : ∀ W : List Nat, (∀ c ∈ W, P c) → ∀ c, some c ∈ bare W → P c
  | [], _, c, hc => by simp [bare] at hc
  | [a], h, c, hc => by
    by_cases ha : a = 92
    · simp [bare, ha] at hc
    · by_cases h2 : a = 32 ∨ a = 10
      · simp [bare, ha, h2] at hc
      · simp [bare, ha, h2] at hc; subst hc; exact h _ (.head _)
  | a :: d :: r, h, c, hc => by
    by_cases ha : a = 92
    · simp only [bare, if_pos ha] at hc
      rcases List.mem_cons.mp hc with hc | hc
      · cases hc; exact h _ (.tail _ (.head _))
      · exact bare_chars P r (fun e he => h e (.tail _ (.tail _ he))) c hc
    · simp only [bare, if_neg ha] at hc
      rcases List.mem_cons.mp hc with hc | hc
      · by_cases h2 : a = 32 ∨ a = 10
        · rw [if_pos h2] at hc; cases hc
        · rw [if_neg h2] at hc; cases hc; exact h _ (.head _)
      · exact bare_chars P (d :: r) (fun e he => h e (.tail _ he)) c hc
theorem tape_len (n : Nat) : ∀ ps : List (Nat × List Nat), (∀ p ∈ ps, p.2.length ≤ n) → (tapeN ps).length ≤ (n + 5) * ps.length ∧ (tapeT ps).length ≤ (n + 5) * ps.length
  | [], _ => by simp [tapeN, tapeT]
  | p :: r, h => by
    obtain ⟨i1, i2⟩ := tape_len n r fun q hq => h q (.tail _ hq)
    have hp := h p (.head _)
    have h1 := dqr_len p.2
    have h2 := bareL_len p.2
    have e : (n + 5) * (p :: r).length = (n + 5) * r.length + (n + 5) := by rw [List.length_cons, Nat.mul_succ]
    constructor
    · rw [tapeN, e]
      by_cases ho : odd1 p
      · rw [if_pos ho]; simp only [List.length_cons, List.length_append, List.length_map]; omega
      · rw [if_neg ho]; simp only [List.length_cons, List.length_append, List.length_map]; omega
    · rw [tapeT, e]
      by_cases ho : odd1 p
      · rw [if_pos ho]; simp only [List.length_cons, List.length_append]; omega
      · rw [if_neg ho]; simp only [List.length_cons, List.length_append]; omega
theorem tape_chars (P : Nat → Prop) (h92 : P 92) (h61 : P 61) (h34 : P 34) (h32 : P 32) : ∀ ps : List (Nat × List Nat), (∀ p ∈ ps, P p.1 ∧ ∀ c ∈ p.2, P c) → (∀ c, some c ∈ tapeN ps → P c) ∧ (∀ c, some c ∈ tapeT ps → P c)
  | [], _ => by simp [tapeN, tapeT]
  | p :: r, h => by
    obtain ⟨i1, i2⟩ := tape_chars P h92 h61 h34 h32 r fun q hq => h q (.tail _ hq)
    obtain ⟨h1, h2⟩ := h p (.head _)
    have d1 := dq_chars P h92 p.2 h2
    have d2 := bare_chars P p.2 h2
    constructor
    · intro c hc
      rw [tapeN] at hc
      simp only [List.mem_cons, List.mem_append, List.mem_map, Option.some.injEq, reduceCtorEq, false_or] at hc
      rcases hc with rfl | rfl | ⟨x, hx, rfl⟩ | hc
      · exact h1
      · exact h61
      · exact d1 _ hx
      · by_cases ho : odd1 p
        · rw [if_pos ho] at hc
          rcases List.mem_cons.mp hc with hc | hc
          · cases hc; exact h34
          · exact i2 c hc
        · rw [if_neg ho] at hc; exact i1 c hc
    · intro c hc
      rw [tapeT] at hc
      simp only [List.mem_cons, List.mem_append, Option.some.injEq] at hc
      rcases hc with rfl | rfl | rfl | hc | hc
      · exact h32
      · exact h1
      · exact h61
      · exact d2 _ hc
      · by_cases ho : odd1 p
        · rw [if_pos ho] at hc
          rcases List.mem_cons.mp hc with hc | hc
          · cases hc; exact h34
          · exact i1 c hc
        · rw [if_neg ho] at hc; exact i2 c hc
theorem tabL_mem (turn : Int) : tabL turn ∈ [lA, lH, lC] := by
  unfold tabL
  split
  · simp
  · split <;> simp
theorem writ_small (turn : Int) {v : List Nat} (hv : ∀ c ∈ v, c ∈ sigs) : ∀ c ∈ writ turn v, c < 0x110000 := by
  have key : ∀ T ∈ [lA, lH, lC], ∀ k ∈ sigs, ∀ c ∈ escL T [k], c < 0x110000 := by decide +kernel
  intro c hc
  obtain ⟨k, hk, hck⟩ := List.mem_flatMap.mp hc
  exact key _ (tabL_mem turn) k (hv k hk) c hck
theorem wrs_mem {turn : Int} {prs : List (Nat × List Nat)} {q : Nat × List Nat} (h : q ∈ wrs turn prs) : ∃ p ∈ prs, q = (p.1, writ turn p.2) := by
  obtain ⟨p, hp, rfl⟩ := List.mem_map.mp h
  exact ⟨p, hp, rfl⟩
/-- what a list of pairs of this law keeps -/
structure Nice (prs : List (Nat × List Nat)) : Prop where
  hl : prs.length ≤ 20
  hv : ∀ p ∈ prs, p.2.length ≤ 16
  hsg : ∀ p ∈ prs, ∀ c ∈ p.2, c ∈ sigs
  hn : ∀ p ∈ prs, 97 ≤ p.1
  hn2 : ∀ p ∈ prs, p.1 ≤ 122
theorem Nice.rev {prs : List (Nat × List Nat)} (h : Nice prs) : Nice prs.reverse :=
  ⟨by rw [List.length_reverse]; exact h.hl, fun p hp => h.hv p (List.mem_reverse.mp hp), fun p hp => h.hsg p (List.mem_reverse.mp hp), fun p hp => h.hn p (List.mem_reverse.mp hp), fun p hp => h.hn2 p (List.mem_reverse.mp hp)⟩
theorem Nice.words {prs : List (Nat × List Nat)} (h : Nice prs) (turn : Int) : (tw [] (tapeN (wrs turn prs))).length ≤ 5000 ∧ TxOk (tw [] (tapeN (wrs turn prs))) := by
  constructor
  · have h1 := tw_len (tapeN (wrs turn prs)) []
    have h2 := (tape_len 96 (wrs turn prs) fun q hq => by
      obtain ⟨p, hp, rfl⟩ := wrs_mem hq
      have a := writ_len turn (h.hsg p hp)
      have b := h.hv p hp
      dsimp only; omega).1
    have h3 : (wrs turn prs).length = prs.length := by simp [wrs]
    rw [h3] at h2
    have h4 := h.hl
    omega
  · intro x hx
    have := tw_chars (fun c => c < 0x110000) (tapeN (wrs turn prs)) [] (fun _ he => nomatch he) (tape_chars (fun c => c < 0x110000) (by decide) (by decide) (by decide) (by decide) (wrs turn prs) fun q hq => by
      obtain ⟨p, hp, rfl⟩ := wrs_mem hq
      have := h.hn2 p hp
      exact ⟨by dsimp only; omega, writ_small turn (h.hsg p hp)⟩).1 x hx
    simp only [PyData.strOk, Array.all_eq_true_iff_forall_mem, decide_eq_true_eq]
    intro c hc
    exact this c (by simpa using hc)
theorem par_count (turn : Int) : ∀ prs : List (Nat × List Nat), (∀ p ∈ prs, ∀ c ∈ p.2, c ∈ sigs) → par (wrs turn prs) = decide (prs.countP oddV % 2 = 1)
  | [], _ => by simp [wrs, par]
  | p :: r, h => by
    have ih := par_count turn r fun q hq => h q (.tail _ hq)
    have e : par (wrs turn (p :: r)) = xor ((dqRun (writ turn p.2)).2) (par (wrs turn r)) := rfl
    rw [e, ih, writ_odd turn (h p (.head _)), List.countP_cons]
    show xor (oddV p) _ = _
    cases ho : oddV p
    · simp
    · simp only [Bool.true_xor, if_true]
      by_cases h2 : r.countP oddV % 2 = 1
      · rw [decide_eq_true h2, Bool.not_true, Eq.comm, decide_eq_false_iff_not]; omega
      · rw [decide_eq_false h2, Bool.not_false, Eq.comm, decide_eq_true_eq]; omega
theorem Nice.ok {prs : List (Nat × List Nat)} (h : Nice prs) (turn : Int) : Ok (wrs turn prs) := by
  intro q hq
  obtain ⟨p, hp, rfl⟩ := wrs_mem hq
  exact ⟨h.hn p hp, h.hn2 p hp, fun c hc => ⟨(writ_ok turn (h.hsg p hp) c hc).1, (writ_ok turn (h.hsg p hp) c hc).2.1, (writ_ok turn (h.hsg p hp) c hc).2.2.1⟩⟩
theorem Nice.go {prs : List (Nat × List Nat)} (h : Nice prs) (turn : Int) : go .ws [] (rowL (wrs turn prs)) = if prs.countP oddV % 2 = 1 then none else some (tw [] (tapeN (wrs turn prs))) := by
  rw [go_row _ (h.ok turn), par_count turn prs h.hsg]
  by_cases h2 : prs.countP oddV % 2 = 1
  · rw [decide_eq_true h2, if_pos rfl, if_pos h2]
  · rw [decide_eq_false h2, if_neg (by decide), if_neg h2]
theorem nice_prs (ns : List Int) : Nice (prsOf (vals12 ns)) := by
  have hl : ([0, 9, 0] ++ ns.take 12).length ≤ 15 := by simp; omega
  have h1 := vfold_len ([0, 9, 0] ++ ns.take 12)
  have h2 := vfold_sigs ([0, 9, 0] ++ ns.take 12)
  have key : ∀ p ∈ prsOf (vals12 ns), p.2 ∈ vals12 ns ∧ 97 ≤ p.1 ∧ p.1 < 97 + (vals12 ns).length := by
    intro p hp
    obtain ⟨q, hq, rfl⟩ := List.mem_map.mp hp
    obtain ⟨i, hi⟩ := List.getElem?_of_mem hq
    rw [List.getElem?_zipIdx] at hi
    obtain ⟨y, hy, rfl⟩ := Option.map_eq_some_iff.mp hi
    have := (List.getElem?_eq_some_iff.mp hy).1
    exact ⟨List.mem_of_getElem? hy, by dsimp only; omega, by dsimp only; omega⟩
  have hlen : (vals12 ns).length ≤ 16 := by unfold vals12; omega
  refine ⟨by simp [prsOf]; omega, fun p hp => ?_, fun p hp => h2 p.2 (key p hp).1, fun p hp => (key p hp).2.1, fun p hp => ?_⟩
  · have := h1.2 p.2 (key p hp).1; omega
  · have := (key p hp).2.2; omega
theorem uld_lists (we wa : List (List Nat)) : uld we.reverse wa = (missC (fun _ => 0) we.reverse fun z => wa.count z, missC (fun _ => 0) wa fun z => we.count z) := by
  have h := uld_spec we.reverse wa
  rw [left_miss] at h
  rw [beq_list] at h
  rw [h]
  congr 2
  funext z
  exact List.count_reverse
theorem miss_sub {P : List Nat → Prop} (a : List Nat → Nat) : ∀ (l : List (List Nat)) (f : List Nat → Nat), (∀ x ∈ l, P x) → ∀ x ∈ missC f l a, P x
  | [], _, _, x, hx => by simp [missC] at hx
  | y :: l, f, h, x, hx => by
    rw [missC] at hx
    rcases List.mem_append.mp hx with hx | hx
    · split at hx
      · rw [List.mem_singleton.mp hx]; exact h y (.head _)
      · simp at hx
    · exact miss_sub a l _ (fun z hz => h z (.tail _ hz)) x hx
end
section
open PySem PySem.W PyProof.Rows PyProof.Rows.LCg PySem.Calls
section
variable {w : World} {ps : Program} {loose : List Str} {mean : ExcName → Option Value} {mg mb : Str → Option Value} {a : Addr} {cd : Value} {base g g₀ : Heap} {L : Addr} {m : Str → Option Value} {s : Shared} {ex : List (Addr × Obj)} {Q : Flow → Shared → Prop} {E : Value → Shared → Prop} {turn : Int} {tt : Tok} {lp : Addr} {prs : List (Nat × List Nat)} {o1 o2 : Obj} {v1 v2 : Option Value} {S1 S2 : Addr} {c1 c2 : Nat} {u1 u2 : List Value}
theorem off_all {D : Addr} : ∀ {l : List (Addr × Obj)}, Off1 D l → ∀ p ∈ l, p.1 ≠ D
  | [], _, _, hp => nomatch hp
  | _ :: _, h, _, .head _ => h.1
  | _ :: _, h, p, .tail _ hp => off_all h.2 p hp
theorem lt_ne {a b : Addr} (h : a < b) : a ≠ b := Nat.ne_of_lt h
theorem law_even (nice : Nice prs) (P : PairsAt ex lp prs) (m1 : m "pairs" = some (.ref lp)) (m2 : m "turn" = some (.int turn tt)) (m3 : m "there" = some (.ref S1)) (m4 : m "back" = some (.ref S2)) (d1 : o1.data = .cell v1) (d2 : o2.data = .cell v2) (hc1 : ∀ p ∈ ex, p.1 ≠ L + 1) (hc2 : ∀ p ∈ ex, p.1 ≠ L + 1 + 1)
    (hS1 : ∀ p ∈ ((L + 1 + 1, o2) :: (L + 1, o1) :: ex), p.1 < S1) (hS2 : ∀ p ∈ ((S1, listO u1.toArray c1) :: (L + 1 + 1, o2) :: (L + 1, o1) :: ex), p.1 < S2)
    (hT1 : TxsAre u1 (tw [] (tapeN (wrs turn prs)))) (hT2 : TxsAre u2 (tw [] (tapeN (wrs turn prs.reverse))))
    (B : Below callerA base [] g) (X : (K w.params).In g) (T : Top ps loose mean mg mb g) (XB : (K w.params).In base) (TB : Top ps loose mean mg mb base) (KD : KtsDicts (([] : List Env).filterMap (·.frame)) g)
    (F : Fr g L s.heap m) (N : News g L s.heap ((S2, listO u2.toArray c2) :: (S1, listO u1.toArray c1) :: (L + 1 + 1, o2) :: (L + 1, o1) :: ex)) (ht : 0 < s.toks)
    (ret : ∀ (g' h' : Heap) (tk' : Nat) (m' : Str → Option Value), KtsTurn [] g g' → Fr g' L h' m' → Q (.ret (.bool true)) { s with heap := h', toks := tk' }) :
    wpAny (model Mine.P w) (callerA.deeper (envLw L a cd)) (execs (lwB.drop 5) (envLw L a cd)) Q E s := by
  obtain ⟨hh, gg, dd, tkz, oo⟩ := s
  dsimp only at F N ht ret ⊢
  obtain ⟨w1, k1⟩ := nice.words turn
  obtain ⟨w2, k2⟩ := nice.rev.words turn
  refine law_words (nw := (S2, listO u2.toArray c2) :: (S1, listO u1.toArray c1) :: ex) (prs := prs) (turn := turn) (P.mono fun p hp => .tail _ (.tail _ hp)) nice.hl nice.hv nice.hsg m1 m2 d1 d2 ?_ ?_ B X T F (News.sub N fun p hp => ?_) ht ?_
  · intro p hp
    rcases List.mem_cons.mp hp with rfl | hp
    · exact (lt_ne (hS2 _ (.tail _ (.tail _ (.head _))))).symm
    · rcases List.mem_cons.mp hp with rfl | hp
      · exact (lt_ne (hS1 _ (.tail _ (.head _)))).symm
      · exact hc1 p hp
  · intro p hp
    rcases List.mem_cons.mp hp with rfl | hp
    · exact (lt_ne (hS2 _ (.tail _ (.head _)))).symm
    · rcases List.mem_cons.mp hp with rfl | hp
      · exact (lt_ne (hS1 _ (.head _))).symm
      · exact hc2 p hp
  · simp only [List.mem_cons] at hp ⊢
    rcases hp with h | h | h | h | h <;> simp [h]
  intro h1 tk1 la lb ca cb va vb o1' o2' ht1 hTa hTb d1' d2' F1 N1
  refine law_cmp (la := la) (lb := lb) (va := va) (vb := vb) (S1 := S1) (S2 := S2) m3 m4 d1' d2' (.tail _ (.tail _ (.tail _ (.tail _ (.tail _ (.head _)))))) (.tail _ (.tail _ (.tail _ (.tail _ (.head _))))) (.tail _ (.tail _ (.tail _ (.head _)))) (.tail _ (.tail _ (.head _))) hT1 hT2 hTa hTb (.tail _ (.head _)) (.head _) k1 k2 B X T F1 N1 ht1 ?_
  intro h2 tk2 ht2 F2 N2
  refine law_lack (la := la) (lb := lb) d1' d2' (.tail _ (.tail _ (.tail _ (.head _)))) (.tail _ (.tail _ (.head _))) hTa hTb (.tail _ (.head _)) (.head _) w1 w2 B X T F2 N2 ht2 ?_
  intro Dk h3 tk3 ck yk ht3 hTk F3 N3 ok
  refine law_left (la := la) (lb := lb) d1' d2' (.tail _ (.tail _ (.tail _ (.tail _ (.head _))))) (.tail _ (.tail _ (.tail _ (.head _)))) hTa hTb (.tail _ (.tail _ (.head _))) (.tail _ (.head _)) w1 w2 B X T F3 N3 ht3 ?_
  intro Df h4 tk4 cf yf ht4 hTf F4 N4 of
  have hu := uld_lists (tw [] (tapeN (wrs turn prs))) (tw [] (tapeN (wrs turn prs.reverse)))
  refine law_end (m := fun z => if z = "left" then some (.ref Df) else if z = "lacking" then some (.ref Dk) else m z) (c1 := c1) (c2 := c2) (S1 := S1) (S2 := S2) (Dk := Dk) (Df := Df) (nw := [(Df, listO yf.toArray cf), (Dk, listO yk.toArray ck)]) m3 m4 rfl rfl (lt_ne (hS2 _ (.head _))) ?_ ?_ (.tail _ (.head _)) (.head _) hT1 hT2 (by rw [hu]; exact hTk) (by rw [hu]; exact hTf) w1 w2 (by rw [hu]; exact miss_sub _ _ _ fun x hx => k1 x (List.mem_reverse.mp hx)) (by rw [hu]; exact miss_sub _ _ _ k2) B X T XB TB KD F4 (News.sub N4 fun p hp => ?_) ht4 ret
  · intro p hp
    simp only [List.mem_cons, List.not_mem_nil, or_false] at hp
    rcases hp with rfl | rfl
    · exact (off_all of _ (.tail _ (.tail _ (.tail _ (.tail _ (.tail _ (.tail _ (.head _)))))))).symm
    · exact (off_all ok _ (.tail _ (.tail _ (.tail _ (.tail _ (.tail _ (.head _))))))).symm
  · intro p hp
    simp only [List.mem_cons, List.not_mem_nil, or_false] at hp
    rcases hp with rfl | rfl
    · exact (off_all of _ (.tail _ (.tail _ (.tail _ (.tail _ (.tail _ (.head _))))))).symm
    · exact (off_all ok _ (.tail _ (.tail _ (.tail _ (.tail _ (.head _)))))).symm
  · simp only [List.mem_cons, List.not_mem_nil, or_false] at hp ⊢
    rcases hp with h | h | h | h <;> simp [h]
end
theorem law_rest {w : World} {ps : Program} {loose : List Str} {mean : ExcName → Option Value} {mg mb : Str → Option Value} {a : Addr} {cd : Value} {base g : Heap} {L : Addr} {m : Str → Option Value} {s : Shared} {ex : List (Addr × Obj)} {Q : Flow → Shared → Prop} {E : Value → Shared → Prop} {turn : Int} {tt : Tok} {lp : Addr} {prs : List (Nat × List Nat)} {o1 o2 : Obj} {v1 v2 : Option Value}
    (nice : Nice prs) (P : PairsAt ex lp prs) (m1 : m "pairs" = some (.ref lp)) (m2 : m "turn" = some (.int turn tt)) (d1 : o1.data = .cell v1) (d2 : o2.data = .cell v2) (hc1 : ∀ p ∈ ex, p.1 ≠ L + 1) (hc2 : ∀ p ∈ ex, p.1 ≠ L + 1 + 1)
    (B : Below callerA base [] g) (X : (K w.params).In g) (T : Top ps loose mean mg mb g) (XB : (K w.params).In base) (TB : Top ps loose mean mg mb base) (KD : KtsDicts (([] : List Env).filterMap (·.frame)) g)
    (F : Fr g L s.heap m) (N : News g L s.heap ((L + 1 + 1, o2) :: (L + 1, o1) :: ex)) (ht : 0 < s.toks)
    (ret : ∀ (g' h' : Heap) (tk' : Nat) (m' : Str → Option Value), KtsTurn [] g g' → Fr g' L h' m' → Q (.ret (.bool true)) { s with heap := h', toks := tk' }) :
    wpAny (model Mine.P w) (callerA.deeper (envLw L a cd)) (execs (lwB.drop 2) (envLw L a cd)) Q E s := by
  obtain ⟨hh, gg, dd, tkz, oo⟩ := s
  dsimp only at F N ht ret ⊢
  have P1 : PairsAt ((L + 1 + 1, o2) :: (L + 1, o1) :: ex) lp prs := P.mono fun p hp => .tail _ (.tail _ hp)
  have hg1 := nice.go turn
  have hg2 := nice.rev.go turn
  rw [List.countP_reverse] at hg2
  refine law_there P1 nice.hl nice.hv nice.hsg nice.hn m1 m2 B X T XB TB KD F N ht ?_ ?_
  · intro ws vals hws hT g1 h1 tk1 S1 c1 m1' ht1 KT1 F1 e1 e2 e3 N1 hS1 B1 X1 T1 KD1
    rw [hg1] at hws
    by_cases hodd : prs.countP oddV % 2 = 1
    · rw [if_pos hodd] at hws; cases hws
    · rw [if_neg hodd] at hws hg2
      cases hws
      refine law_back (P1.mono fun p hp => .tail _ hp) nice.hl nice.hv nice.hsg nice.hn e1 e2 e3 B1 X1 T1 XB TB KD1 F1 N1 ht1 ?_ ?_
      · intro ws2 vals2 hws2 hT2 g2 h2 tk2 S2 c2 m2' ht2 KT2 F2 f1 f2 f3 f4 N2 hS2 B2 X2 T2 KD2
        rw [hg2] at hws2
        cases hws2
        refine law_if (P1.mono fun p hp => .tail _ (.tail _ hp)) nice.hl nice.hv f1 B2 X2 T2 F2 N2 ht2 (fun h => absurd h hodd) ?_
        intro _ h3 tk3 ht3 F3 N3
        exact law_even nice P f1 f2 f3 f4 d1 d2 hc1 hc2 hS1 hS2 hT hT2 B2 X2 T2 XB TB KD2 F3 N3 ht3 fun g' h' tk' m' KT' F' => ret g' h' tk' m' ((KT1.trans KT2).trans KT') F'
      · intro hws2
        rw [hg2] at hws2; cases hws2
  · intro hws g1 h1 tk1 m1' ht1 KT1 F1 e1 e2 e3 N1 B1 X1 T1 KD1
    rw [hg1] at hws
    by_cases hodd : prs.countP oddV % 2 = 1
    · rw [if_pos hodd] at hg2
      refine law_back P1 nice.hl nice.hv nice.hsg nice.hn e1 e2 e3 B1 X1 T1 XB TB KD1 F1 N1 ht1 ?_ ?_
      · intro ws2 vals2 hws2
        rw [hg2] at hws2; cases hws2
      · intro hws2 g2 h2 tk2 m2' ht2 KT2 F2 f1 f2 f3 f4 N2 B2 X2 T2 KD2
        refine law_if P1 nice.hl nice.hv f1 B2 X2 T2 F2 N2 ht2 (fun _ => ⟨f3, f4, fun h' tk' F' => ret g2 h' tk' m2' (KT1.trans KT2) F'⟩) ?_
        intro h0
        omega
    · rw [if_neg hodd] at hws; cases hws
end
section
open PySem PySem.W PyProof.Rows PyProof.Rows.LCg PySem.Calls
theorem law_code {w : World} {ps : Program} {loose : List Str} {mean : ExcName → Option Value} {mg mb : Str → Option Value} {a : Addr} {cd : Value} {base g : Heap} {L : Addr} {s : Shared} {Q : Flow → Shared → Prop} {E : Value → Shared → Prop} {lsc : Addr} {vs : List Value} {ns : List Int} {o1 o2 : Obj} {v1 v2 : Option Value}
    (hi : IntsAre vs ns) (hl : base.IsList lsc vs.toArray) (hn : ns.length < 64) (ho1 : o1.data = .cell v1) (ho2 : o2.data = .cell v2)
    (B : Below callerA base [] g) (X : (K w.params).In g) (T : Top ps loose mean mg mb g) (XB : (K w.params).In base) (TB : Top ps loose mean mg mb base)
    {m : Str → Option Value} (m0 : m "script" = some (.ref lsc)) (F : Fr g L s.heap m) (N : News g L s.heap [(L + 1 + 1, o2), (L + 1, o1)])
    (ret : ∀ (g' h' : Heap) (tk' : Nat) (m' : Str → Option Value), KtsTurn [] g g' → Fr g' L h' m' → Q (.ret (.bool true)) { s with heap := h', toks := tk' }) :
    wpAny (model Mine.P w) (callerA.deeper (envLw L a cd)) (execs (sBody (topAt 36)) (envLw L a cd)) Q E s := by
  obtain ⟨hh, gg, dd, tkz, oo⟩ := s
  dsimp only at F N ⊢
  have KD : KtsDicts (([] : List Env).filterMap (·.frame)) g := ktsDicts_nil
  iterate 9 walk1
  k_dflt (refine' pairs_gives B ?F X ?N T ?hk hl hi hn ?hd ?hu ?ret)
  case F => k_asm
  case N => k_asm
  case hk => exact rfl
  case hd => decide
  case hu => decide
  case ret =>
  intro lp extra h1 tk1 htk1 F1 N1 P1
  have hc1 := seq_ne N1 (List.mem_append_right _ (.tail _ (.head _))) ho1
  have hc2 := seq_ne N1 (List.mem_append_right _ (.head _)) ho2
  have P2 := P1.filter
  have N2 : News g L h1 ((L + 1 + 1, o2) :: (L + 1, o1) :: (extra ++ [(L + 1 + 1, o2), (L + 1, o1)]).filter isSeq) := News.sub N1 fun p hp => by
    simp only [List.mem_cons, List.mem_filter] at hp
    rcases hp with h | h | h
    · subst h; simp
    · subst h; simp
    · exact h.1
  generalize (extra ++ [(L + 1 + 1, o2), (L + 1, o1)]).filter isSeq = ex at hc1 hc2 P2 N2
  clear N1 P1 N F
  have hlg : g.IsList lsc vs.toArray := by obtain ⟨o, ho, r⟩ := hl; exact ⟨o, B.stays _ _ ho, r⟩
  have hvl : vs.length = ns.length := hi.length
  iterate 23 walk1
  rename News _ _ _ _ => N3
  rename Fr _ _ _ _ => F3
  rename 0 < _ => h0
  k_dflt (refine' law_rest (nice_prs ns) P2 (m := _) ?m1 ?m2 ho1 ho2 hc1 hc2 B X T XB TB KD F3 (News.sub N3 fun p hp => .tail _ (.tail _ hp)) ?ht ret)
  case m1 => rfl
  case m2 => rfl
  case ht => first | assumption | exact Nat.succ_pos _ | omega
theorem law_walk : WalkO q loose (XL q []) hook.says row.toRowW lawRec.1 lawRec.2 fun f vs => PySem.call f vs := by
  intro w s₀ s₁ mg mb G Y fa o pm cd doc dV kV ho hd hcd hD hmg hg args vals as hpre hlay hrd hwl hlo
  have KX : (K w.params).In s₁.heap := km_in_of Y
  refine Ground.open G ?_
  intro T B D TE TW
  try (refine guard_noD D (by decide +kernel) ?_; clear D)
  have TA := at_of_top T
  clear hmg
  wrow_args hpre hlay hrd hwl hlo
  all_goals (
    first | refine callC_kw (enter_call ?_) | refine enter_call ?_
    w_top on
    try refine codeAny_mono ?_ (fun _ _ g => GoodW.toG g)
    have K0 := below_caller (Top.heap T)
    w_call any ho hd hcd hD T F
    clear hd TA
    k_drop)
  all_goals try k_fold
  rename IntsAre _ _ => hi
  rename Heap.IsList _ _ _ => hl
  rename Top _ _ _ _ _ _ => T
  rename Below _ _ _ _ => B
  rename News _ _ _ _ => N
  rename Fr _ _ _ _ => F
  rename ¬ _ < _ => hn
  k_dflt (refine' law_code (base := s₁.heap) hi hl ?hn ?d1 ?d2 B KX T KX T ?m0 F N ?ret)
  case d1 => assumption
  case d2 => assumption
  case m0 => rfl
  case hn => omega
  case ret =>
    intro g' h' tk' m' KT' F'
    have F2 : Fr s₁.heap s₁.heap.objs.size h' m' := ⟨F'.ns, fun b o e => F'.keep b o (KT'.other b o e fun q => nomatch q), Nat.le_refl _⟩
    refine goodW_bool F2 hg (raisesW_false ?_) ?_
    · wrow_none_raised
    · wrow_post
end
end
end
end Mine
theorem PySem.Challenge.cw_of0092_01_holds : PySem.Challenge.rw_of0092_01.Holds := by
  exact Mine.hd Mine.law_walk
