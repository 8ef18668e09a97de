import PyProof.Rows.All
import Wide.All
import OpenK.AllK
import Wide.FinOn
import PySem.Challenge.RW_dn0072_01
open PySem PySem.W PyProof.Rows
set_option linter.unusedVariables false
set_option Elab.async false
set_option maxRecDepth 100000
set_option maxHeartbeats 8000000
namespace Mine
abbrev prg : Program := PySem.Challenge.rw_dn0072_01.row.prog
/-- the opening's run, over a tree of objects -/
def impT (stp : SharedT → Thread → Option (SharedT × Thread)) : Nat → SharedT → Thread → Option SharedT
  | 0, _, _ => none
  | n + 1, s, t => match t.atExitBegin with
    | some [] => some s
    | some (_ :: _) => none
    | none => match stp s t with
      | some (s', t') => impT stp n s' t'
      | none => none
theorem impT_of {tb : String → Option Builtin} {p : Program} {w : World} : ∀ {n : Nat} {s s' : SharedT} {t : Thread}, impT (stepT (denote tb) p w) n s t = some s' → importEnds tb p w n s.abs t = some s'.abs
  | 0, _, _, _, h => by cases h
  | n + 1, s, s', t, h => by
    unfold impT at h
    unfold importEnds
    cases ht : t.atExitBegin with
    | some l =>
      rw [ht] at h
      cases l with
      | nil => cases h; rfl
      | cons _ _ => cases h
    | none =>
      rw [ht] at h
      dsimp only at h ⊢
      cases hs : stepT (denote tb) p w s t with
      | none => rw [hs] at h; cases h
      | some st =>
        obtain ⟨s₂, t₂⟩ := st
        rw [hs] at h
        rw [stepT_spec hs]
        exact impT_of h
theorem open_T {p p' : Program} {w : World} {N : Nat} {s0 : SharedT} {α : Type} {f : Shared → α} {r : α} (e : (start (opening p)).1 = s0.abs)
    (h : ((impT (stepT (denote treeTable) p' w) N s0 (start (opening p)).2).bind fun s => fenceModules? p s.abs).map f = some r) (e' : p' = opening p) : (fencedOpening treeTable p w N).map f = some r := by
  subst e'
  cases hi : impT (stepT (denote treeTable) (opening p) w) N s0 (start (opening p)).2 with
  | none => rw [hi] at h; cases h
  | some s =>
    rw [hi] at h
    unfold fencedOpening
    rw [e, impT_of hi]
    exact h
/-- where the opening ends; the twins are the library's -/
noncomputable def runO (w : World) : Option Shared := (impT (PySem.W.Fast.tw10156331382660048174 (PySem.W.Fast.tw11892475500146522536 PySem.W.Fast.tw14364793385576792824) (opening prg) w) 5764 ⟨.nil, 0, {}, #[], {}, 1, (PySem.W.Fast.tw1435165496053646825 (opening prg)).1.os⟩ (PySem.W.Fast.tw1435165496053646825 (opening prg)).2).bind fun s => PySem.W.Fast.tw14289696077712309145 prg s.abs
theorem runO_of {w : World} {α : Type} {f : Shared → α} {r : α} (h : (runO w).map f = some r) : (fencedOpening treeTable prg w 5764).map f = some r := by
  refine open_T (s0 := ⟨.nil, 0, {}, #[], {}, 1, (start (opening prg)).1.os⟩) (by kernel_rfl) ?_ rfl
  rewrite [PySem.W.Fast.te10156331382660048174, PySem.W.Fast.te11892475500146522536, PySem.W.Fast.te14364793385576792824, PySem.W.Fast.te14289696077712309145, PySem.W.Fast.te1435165496053646825]
  exact h
noncomputable def obK (k : Nat) (P : Params) : Obj := ((runO ⟨fun _ _ => 0, P⟩).bind fun s => s.heap.objs.toList[k]?).getD default
noncomputable abbrev pickB {α : Type} {a : α} (b : α) (_ : a = b) : α := b
noncomputable def nthS (i : Nat) : Option Stmt := PySem.Challenge.pw_dn0072_01.main.body[i]?
noncomputable def nthC (i j : Nat) : Option Stmt := match nthS i with
  | some (.ClassDef _ _ _ body ..) => body[j]?
  | _ => none
noncomputable def fnPar : Option Stmt → Arguments
  | some (.FunctionDef _ a ..) => a
  | _ => ⟨[], [], .none, [], [], .none, []⟩
noncomputable def fnBody : Option Stmt → List Stmt
  | some (.FunctionDef _ _ b ..) => b
  | _ => []
noncomputable def fnScope : Option Stmt → Scope
  | some (.FunctionDef _ _ _ _ _ _ s ..) => s
  | _ => ⟨.function, [], false, false, []⟩
noncomputable def fnDoc (o : Option Stmt) : Str := match fnBody o with
  | .Expr (.Constant (.str s) ..) .. :: _ => s
  | _ => .ofString ""
noncomputable abbrev pf1 : Arguments := pickB _ (a := fnPar (nthS 1)) (by conv => lhs; whnf)
noncomputable abbrev bf1 : List Stmt := pickB _ (a := fnBody (nthS 1)) (by conv => lhs; whnf)
noncomputable abbrev sf1 : Scope := pickB _ (a := fnScope (nthS 1)) (by conv => lhs; whnf)
noncomputable abbrev pf2 : Arguments := pickB _ (a := fnPar (nthS 2)) (by conv => lhs; whnf)
noncomputable abbrev bf2 : List Stmt := pickB _ (a := fnBody (nthS 2)) (by conv => lhs; whnf)
noncomputable abbrev sf2 : Scope := pickB _ (a := fnScope (nthS 2)) (by conv => lhs; whnf)
noncomputable abbrev pf4 : Arguments := pickB _ (a := fnPar (nthS 4)) (by conv => lhs; whnf)
noncomputable abbrev bf4 : List Stmt := pickB _ (a := fnBody (nthS 4)) (by conv => lhs; whnf)
noncomputable abbrev sf4 : Scope := pickB _ (a := fnScope (nthS 4)) (by conv => lhs; whnf)
noncomputable abbrev pf6_0 : Arguments := pickB _ (a := fnPar (nthC 6 0)) (by conv => lhs; whnf)
noncomputable abbrev bf6_0 : List Stmt := pickB _ (a := fnBody (nthC 6 0)) (by conv => lhs; whnf)
noncomputable abbrev sf6_0 : Scope := pickB _ (a := fnScope (nthC 6 0)) (by conv => lhs; whnf)
noncomputable abbrev pf8_0 : Arguments := pickB _ (a := fnPar (nthC 8 0)) (by conv => lhs; whnf)
noncomputable abbrev bf8_0 : List Stmt := pickB _ (a := fnBody (nthC 8 0)) (by conv => lhs; whnf)
noncomputable abbrev sf8_0 : Scope := pickB _ (a := fnScope (nthC 8 0)) (by conv => lhs; whnf)
noncomputable abbrev pf8_1 : Arguments := pickB _ (a := fnPar (nthC 8 1)) (by conv => lhs; whnf)
noncomputable abbrev bf8_1 : List Stmt := pickB _ (a := fnBody (nthC 8 1)) (by conv => lhs; whnf)
noncomputable abbrev sf8_1 : Scope := pickB _ (a := fnScope (nthC 8 1)) (by conv => lhs; whnf)
noncomputable abbrev pf8_2 : Arguments := pickB _ (a := fnPar (nthC 8 2)) (by conv => lhs; whnf)
noncomputable abbrev bf8_2 : List Stmt := pickB _ (a := fnBody (nthC 8 2)) (by conv => lhs; whnf)
noncomputable abbrev pf9 : Arguments := pickB _ (a := fnPar (nthS 9)) (by conv => lhs; whnf)
noncomputable abbrev bf9 : List Stmt := pickB _ (a := fnBody (nthS 9)) (by conv => lhs; whnf)
noncomputable abbrev sf9 : Scope := pickB _ (a := fnScope (nthS 9)) (by conv => lhs; whnf)
noncomputable abbrev pf11 : Arguments := pickB _ (a := fnPar (nthS 11)) (by conv => lhs; whnf)
noncomputable abbrev bf11 : List Stmt := pickB _ (a := fnBody (nthS 11)) (by conv => lhs; whnf)
noncomputable abbrev sf11 : Scope := pickB _ (a := fnScope (nthS 11)) (by conv => lhs; whnf)
noncomputable abbrev pf13 : Arguments := pickB _ (a := fnPar (nthS 13)) (by conv => lhs; whnf)
noncomputable abbrev bf13 : List Stmt := pickB _ (a := fnBody (nthS 13)) (by conv => lhs; whnf)
noncomputable abbrev sf13 : Scope := pickB _ (a := fnScope (nthS 13)) (by conv => lhs; whnf)
noncomputable abbrev pf14 : Arguments := pickB _ (a := fnPar (nthS 14)) (by conv => lhs; whnf)
noncomputable abbrev bf14 : List Stmt := pickB _ (a := fnBody (nthS 14)) (by conv => lhs; whnf)
noncomputable abbrev sf14 : Scope := pickB _ (a := fnScope (nthS 14)) (by conv => lhs; whnf)
noncomputable abbrev pf16 : Arguments := pickB _ (a := fnPar (nthS 16)) (by conv => lhs; whnf)
noncomputable abbrev bf16 : List Stmt := pickB _ (a := fnBody (nthS 16)) (by conv => lhs; whnf)
noncomputable abbrev sf16 : Scope := pickB _ (a := fnScope (nthS 16)) (by conv => lhs; whnf)
noncomputable abbrev pf17 : Arguments := pickB _ (a := fnPar (nthS 17)) (by conv => lhs; whnf)
noncomputable abbrev bf17 : List Stmt := pickB _ (a := fnBody (nthS 17)) (by conv => lhs; whnf)
noncomputable abbrev sf17 : Scope := pickB _ (a := fnScope (nthS 17)) (by conv => lhs; whnf)
noncomputable abbrev pf18 : Arguments := pickB _ (a := fnPar (nthS 18)) (by conv => lhs; whnf)
noncomputable abbrev bf18 : List Stmt := pickB _ (a := fnBody (nthS 18)) (by conv => lhs; whnf)
noncomputable abbrev sf18 : Scope := pickB _ (a := fnScope (nthS 18)) (by conv => lhs; whnf)
noncomputable abbrev pf20 : Arguments := pickB _ (a := fnPar (nthS 20)) (by conv => lhs; whnf)
noncomputable abbrev bf20 : List Stmt := pickB _ (a := fnBody (nthS 20)) (by conv => lhs; whnf)
noncomputable abbrev sf20 : Scope := pickB _ (a := fnScope (nthS 20)) (by conv => lhs; whnf)
noncomputable abbrev pf24 : Arguments := pickB _ (a := fnPar (nthS 24)) (by conv => lhs; whnf)
noncomputable abbrev bf24 : List Stmt := pickB _ (a := fnBody (nthS 24)) (by conv => lhs; whnf)
noncomputable abbrev sf24 : Scope := pickB _ (a := fnScope (nthS 24)) (by conv => lhs; whnf)
noncomputable abbrev pf26 : Arguments := pickB _ (a := fnPar (nthS 26)) (by conv => lhs; whnf)
noncomputable abbrev bf26 : List Stmt := pickB _ (a := fnBody (nthS 26)) (by conv => lhs; whnf)
noncomputable abbrev sf26 : Scope := pickB _ (a := fnScope (nthS 26)) (by conv => lhs; whnf)
noncomputable abbrev pf28 : Arguments := pickB _ (a := fnPar (nthS 28)) (by conv => lhs; whnf)
noncomputable abbrev bf28 : List Stmt := pickB _ (a := fnBody (nthS 28)) (by conv => lhs; whnf)
noncomputable abbrev sf28 : Scope := pickB _ (a := fnScope (nthS 28)) (by conv => lhs; whnf)
noncomputable abbrev pf29 : Arguments := pickB _ (a := fnPar (nthS 29)) (by conv => lhs; whnf)
noncomputable abbrev bf29 : List Stmt := pickB _ (a := fnBody (nthS 29)) (by conv => lhs; whnf)
noncomputable abbrev sf29 : Scope := pickB _ (a := fnScope (nthS 29)) (by conv => lhs; whnf)
noncomputable abbrev pf30 : Arguments := pickB _ (a := fnPar (nthS 30)) (by conv => lhs; whnf)
noncomputable abbrev bf30 : List Stmt := pickB _ (a := fnBody (nthS 30)) (by conv => lhs; whnf)
noncomputable abbrev sf30 : Scope := pickB _ (a := fnScope (nthS 30)) (by conv => lhs; whnf)
noncomputable abbrev pf31 : Arguments := pickB _ (a := fnPar (nthS 31)) (by conv => lhs; whnf)
noncomputable abbrev bf31 : List Stmt := pickB _ (a := fnBody (nthS 31)) (by conv => lhs; whnf)
noncomputable abbrev sf31 : Scope := pickB _ (a := fnScope (nthS 31)) (by conv => lhs; whnf)
noncomputable abbrev pf32 : Arguments := pickB _ (a := fnPar (nthS 32)) (by conv => lhs; whnf)
noncomputable abbrev bf32 : List Stmt := pickB _ (a := fnBody (nthS 32)) (by conv => lhs; whnf)
noncomputable abbrev sf32 : Scope := pickB _ (a := fnScope (nthS 32)) (by conv => lhs; whnf)
noncomputable def KH : Params → Frag := fun P =>
  (nat_lit 2, ⟨.none, .none, .dict (List.toArray [⟨PySem.PyData.keyHash P (.ofString "\x69mport.loaded._sre"), .str (.ofString "\x69mport.loaded._sre") 183, .bool true⟩, ⟨PySem.PyData.keyHash P (.ofString "class._frozen_importlib.BuiltinImporter"), .str (.ofString "class._frozen_importlib.BuiltinImporter") 185, .ref 14⟩, ⟨PySem.PyData.keyHash P (.ofString "watched.\x69mport"), .str (.ofString "watched.\x69mport") 206, .ref 18⟩, ⟨PySem.PyData.keyHash P (.ofString "class._frozen_importlib.ModuleSpec"), .str (.ofString "class._frozen_importlib.ModuleSpec") 216, .ref 22⟩, ⟨PySem.PyData.keyHash P (.ofString "sys.modules.booked-epoch"), .str (.ofString "sys.modules.booked-epoch") 245, .int 3 0⟩, ⟨PySem.PyData.keyHash P (.ofString "\x69mport.later-laid._sre"), .str (.ofString "\x69mport.later-laid._sre") 270, .bool true⟩, ⟨PySem.PyData.keyHash P (.ofString "watched.library"), .str (.ofString "watched.library") 272, .ref 27⟩, ⟨PySem.PyData.keyHash P (.ofString "watched.library-objects"), .str (.ofString "watched.library-objects") 0, .str (.ofString "\x0c") 0⟩, ⟨PySem.PyData.keyHash P (.ofString "watched.library-deep._sre"), .str (.ofString "watched.library-deep._sre") 273, .str (.ofString "\x04\x00\x00\x0b\x04\x00\x00\x0b\x04\x00\x00\x03\x04\x00\x00\x0b\x08\x04dict\x02") 0⟩]) 9, List.toArray []⟩) ::
  (nat_lit 3, ⟨.type "dict", .none, .dict (List.toArray [⟨PySem.PyData.keyHash P (.ofString "__name__"), .str (.ofString "__name__") 165, .str (.ofString "law_dn0072_01") 714⟩, ⟨PySem.PyData.keyHash P (.ofString "__doc__"), .str (.ofString "__doc__") 166, .none⟩, ⟨PySem.PyData.keyHash P (.ofString "__package__"), .str (.ofString "__package__") 167, .none⟩, ⟨PySem.PyData.keyHash P (.ofString "__loader__"), .str (.ofString "__loader__") 168, .builtin "__main__.__loader__#opaque"⟩, ⟨PySem.PyData.keyHash P (.ofString "__spec__"), .str (.ofString "__spec__") 169, .none⟩, ⟨PySem.PyData.keyHash P (.ofString "__annotations__"), .str (.ofString "__annotations__") 170, .ref 6⟩, ⟨PySem.PyData.keyHash P (.ofString "__builtins__"), .str (.ofString "__builtins__") 171, .ref 4⟩, ⟨PySem.PyData.keyHash P (.ofString "__file__"), .str (.ofString "__file__") 173, .str (.ofString "/claim/cut.py") 172⟩, ⟨PySem.PyData.keyHash P (.ofString "__cached__"), .str (.ofString "__cached__") 174, .none⟩, ⟨PySem.PyData.keyHash P (.ofString "_sre"), .str (.ofString "_sre") 275, .ref 12⟩, ⟨PySem.PyData.keyHash P (.ofString "_wall"), .str (.ofString "_wall") 288, .ref 38⟩, ⟨PySem.PyData.keyHash P (.ofString "_pe_doc"), .str (.ofString "_pe_doc") 297, .ref 45⟩, ⟨PySem.PyData.keyHash P (.ofString "_plain_name"), .str (.ofString "_plain_name") 308, .ref 52⟩, ⟨PySem.PyData.keyHash P (.ofString "ABCMeta"), .str (.ofString "ABCMeta") 334, .ref 69⟩, ⟨PySem.PyData.keyHash P (.ofString "_ABCLike"), .str (.ofString "_ABCLike") 377, .ref 102⟩, ⟨PySem.PyData.keyHash P (.ofString "_abc_plain_meta"), .str (.ofString "_abc_plain_meta") 384, .ref 111⟩, ⟨PySem.PyData.keyHash P (.ofString "fspath"), .str (.ofString "fspath") 396, .ref 118⟩, ⟨PySem.PyData.keyHash P (.ofString "_splitext"), .str (.ofString "_splitext") 413, .ref 125⟩, ⟨PySem.PyData.keyHash P (.ofString "_check_arg_types"), .str (.ofString "_check_arg_types") 424, .ref 132⟩, ⟨PySem.PyData.keyHash P (.ofString "_get_sep"), .str (.ofString "_get_sep") 433, .ref 139⟩, ⟨PySem.PyData.keyHash P (.ofString "join"), .str (.ofString "join") 445, .ref 146⟩, ⟨PySem.PyData.keyHash P (.ofString "splitext"), .str (.ofString "splitext") 454, .ref 153⟩, ⟨PySem.PyData.keyHash P (.ofString "basename"), .str (.ofString "basename") 499, .ref 163⟩, ⟨PySem.PyData.keyHash P (.ofString "_twin_re_1"), .str (.ofString "_twin_re_1") 537, .ref 168⟩, ⟨PySem.PyData.keyHash P (.ofString "_special_chars_map"), .str (.ofString "_special_chars_map") 685, .ref 170⟩, ⟨PySem.PyData.keyHash P (.ofString "escape"), .str (.ofString "escape") 692, .ref 180⟩, ⟨PySem.PyData.keyHash P (.ofString "_translate"), .str (.ofString "_translate") 713, .ref 187⟩, ⟨PySem.PyData.keyHash P (.ofString "_law_one"), .str (.ofString "_law_one") 729, .ref 194⟩, ⟨PySem.PyData.keyHash P (.ofString "_law_takes"), .str (.ofString "_law_takes") 735, .ref 199⟩, ⟨PySem.PyData.keyHash P (.ofString "_law_quoted"), .str (.ofString "_law_quoted") 741, .ref 204⟩, ⟨PySem.PyData.keyHash P (.ofString "_law_drawn"), .str (.ofString "_law_drawn") 750, .ref 211⟩, ⟨PySem.PyData.keyHash P (.ofString "law"), .str (.ofString "law") 756, .ref 216⟩]) 32, List.toArray []⟩) ::
  (nat_lit 32, ⟨.type "tuple", .none, .seq (List.toArray []) 0, List.toArray []⟩) ::
  (nat_lit 34, ⟨.type "tuple", .none, .seq (List.toArray [.str (.ofString "k") 285]) 0, List.toArray []⟩) ::
  (nat_lit 35, ⟨.type "tuple", .none, .seq (List.toArray []) 0, List.toArray []⟩) ::
  (nat_lit 37, ⟨.type "code", .none, .fields (List.toArray [.str (.ofString "_wall") 282, .str (.ofString "_wall") 283, .str (.ofString "/claim/cut.py") 284, .int 2 0, .int 1 0, .int 0 0, .int 0 0, .int 3 0, .ref 32, .bool true, .int 276 0, .ref 33, .none, .ref 34, .ref 35, .ref 36, .int 286 0, .int 2 0, .str (.ofString "/claim/cut.py") 287]), List.toArray []⟩) ::
  (nat_lit 38, ⟨.type "function", .none, .func ⟨.ofString "_wall", .ofString "_wall", pf1, .stmts bf1, sf1, 3, [], .none, .none, .none, .str (.ofString "__main__") 164, .none, .ref 37, .none, 0⟩, List.toArray []⟩) ::
  (nat_lit 46, ⟨.type "tuple", .none, .seq (List.toArray []) 0, List.toArray []⟩) ::
  (nat_lit 48, ⟨.type "tuple", .none, .seq (List.toArray [.str (.ofString "x") 303, .str (.ofString "what") 304, .str (.ofString "kind") 305]) 0, List.toArray []⟩) ::
  (nat_lit 49, ⟨.type "tuple", .none, .seq (List.toArray []) 0, List.toArray []⟩) ::
  (nat_lit 51, ⟨.type "code", .none, .fields (List.toArray [.str (.ofString "_plain_name") 300, .str (.ofString "_plain_name") 301, .str (.ofString "/claim/cut.py") 302, .int 14 0, .int 2 0, .int 0 0, .int 0 0, .int 3 0, .ref 46, .bool true, .int 276 0, .ref 47, .none, .ref 48, .ref 49, .ref 50, .int 306 0, .int 14 0, .str (.ofString "/claim/cut.py") 307]), List.toArray []⟩) ::
  (nat_lit 52, ⟨.type "function", .none, .func ⟨.ofString "_plain_name", .ofString "_plain_name", pf4, .stmts bf4, sf4, 3, [], .none, .none, .none, .str (.ofString "os") 298, .none, .ref 51, .none, 0⟩, List.toArray []⟩) ::
  (nat_lit 53, ⟨.type "tuple", .none, .seq (List.toArray [.type "type"]) 0, List.toArray []⟩) ::
  (nat_lit 60, ⟨.type "tuple", .none, .seq (List.toArray []) 0, List.toArray []⟩) ::
  (nat_lit 62, ⟨.type "tuple", .none, .seq (List.toArray [.str (.ofString "cls") 326, .str (.ofString "subclass") 327]) 0, List.toArray []⟩) ::
  (nat_lit 63, ⟨.type "tuple", .none, .seq (List.toArray []) 0, List.toArray []⟩) ::
  (nat_lit 65, ⟨.type "code", .none, .fields (List.toArray [.str (.ofString "register") 323, .str (.ofString "ABCMeta.register") 324, .str (.ofString "/claim/cut.py") 325, .int 22 0, .int 2 0, .int 0 0, .int 0 0, .int 3 0, .ref 60, .bool true, .int 276 0, .ref 61, .none, .ref 62, .ref 63, .ref 64, .int 328 0, .int 22 0, .str (.ofString "/claim/cut.py") 329]), List.toArray []⟩) ::
  (nat_lit 66, ⟨.type "function", .none, .func ⟨.ofString "register", .ofString "ABCMeta.register", pf6_0, .stmts bf6_0, sf6_0, 3, [], .none, .none, .none, .str (.ofString "abc") 309, .none, .ref 65, .none, 0⟩, List.toArray []⟩) ::
  (nat_lit 67, ⟨.type "tuple", .none, .seq (List.toArray []) 0, List.toArray []⟩) ::
  (nat_lit 68, ⟨.type "dict", .none, .dict (List.toArray [⟨PySem.PyData.keyHash P (.ofString "__module__"), .str (.ofString "__module__") 318, .str (.ofString "abc") 309⟩, ⟨PySem.PyData.keyHash P (.ofString "__firstlineno__"), .str (.ofString "__firstlineno__") 322, .int 20 321⟩, ⟨PySem.PyData.keyHash P (.ofString "register"), .str (.ofString "register") 330, .ref 66⟩, ⟨PySem.PyData.keyHash P (.ofString "__static_attributes__"), .str (.ofString "__static_attributes__") 331, .ref 67⟩, ⟨PySem.PyData.keyHash P (.ofString "__doc__"), .str (.ofString "__doc__") 332, .none⟩]) 2, List.toArray []⟩) ::
  (nat_lit 69, ⟨.type "type", .none, .cls ⟨.ofString "ABCMeta", [.type "type"], [.ref 69, .type "type", .type "object"], 68, .ofString "ABCMeta", true, [], [.ref 102], false, .none, false⟩, List.toArray [.some (.ref 53), .none, .some (.str (.ofString "ABCMeta") 311), .some (.str (.ofString "ABCMeta") 319), .some (.builtin "type.__new__"), .some (.bool true)]⟩) ::
  (nat_lit 72, ⟨.type "tuple", .none, .seq (List.toArray [.ref 69]) 0, List.toArray []⟩) ::
  (nat_lit 79, ⟨.type "tuple", .none, .seq (List.toArray []) 0, List.toArray []⟩) ::
  (nat_lit 81, ⟨.type "tuple", .none, .seq (List.toArray [.str (.ofString "cls") 352, .str (.ofString "\x69nstance") 353, .str (.ofString "C") 354]) 0, List.toArray []⟩) ::
  (nat_lit 82, ⟨.type "tuple", .none, .seq (List.toArray []) 0, List.toArray []⟩) ::
  (nat_lit 84, ⟨.type "code", .none, .fields (List.toArray [.str (.ofString "__instancecheck__") 349, .str (.ofString "_ABCLike.__instancecheck__") 350, .str (.ofString "/claim/cut.py") 351, .int 27 0, .int 2 0, .int 0 0, .int 0 0, .int 3 0, .ref 79, .bool true, .int 276 0, .ref 80, .none, .ref 81, .ref 82, .ref 83, .int 355 0, .int 27 0, .str (.ofString "/claim/cut.py") 356]), List.toArray []⟩) ::
  (nat_lit 85, ⟨.type "function", .none, .func ⟨.ofString "__instancecheck__", .ofString "_ABCLike.__instancecheck__", pf8_0, .stmts bf8_0, sf8_0, 3, [], .none, .none, .none, .str (.ofString "collections.abc") 335, .none, .ref 84, .none, 0⟩, List.toArray []⟩) ::
  (nat_lit 86, ⟨.type "tuple", .none, .seq (List.toArray []) 0, List.toArray []⟩) ::
  (nat_lit 88, ⟨.type "tuple", .none, .seq (List.toArray [.str (.ofString "cls") 361, .str (.ofString "C") 362]) 0, List.toArray []⟩) ::
  (nat_lit 89, ⟨.type "tuple", .none, .seq (List.toArray []) 0, List.toArray []⟩) ::
  (nat_lit 91, ⟨.type "code", .none, .fields (List.toArray [.str (.ofString "__subclasscheck__") 358, .str (.ofString "_ABCLike.__subclasscheck__") 359, .str (.ofString "/claim/cut.py") 360, .int 33 0, .int 2 0, .int 0 0, .int 0 0, .int 3 0, .ref 86, .bool true, .int 276 0, .ref 87, .none, .ref 88, .ref 89, .ref 90, .int 363 0, .int 33 0, .str (.ofString "/claim/cut.py") 364]), List.toArray []⟩) ::
  (nat_lit 92, ⟨.type "function", .none, .func ⟨.ofString "__subclasscheck__", .ofString "_ABCLike.__subclasscheck__", pf8_1, .stmts bf8_1, sf8_1, 3, [], .none, .none, .none, .str (.ofString "collections.abc") 335, .none, .ref 91, .none, 0⟩, List.toArray []⟩) ::
  (nat_lit 93, ⟨.type "tuple", .none, .seq (List.toArray []) 0, List.toArray []⟩) ::
  (nat_lit 95, ⟨.type "tuple", .none, .seq (List.toArray [.str (.ofString "cls") 369, .str (.ofString "subclass") 370]) 0, List.toArray []⟩) ::
  (nat_lit 96, ⟨.type "tuple", .none, .seq (List.toArray []) 0, List.toArray []⟩) ::
  (nat_lit 98, ⟨.type "code", .none, .fields (List.toArray [.str (.ofString "register") 366, .str (.ofString "_ABCLike.register") 367, .str (.ofString "/claim/cut.py") 368, .int 38 0, .int 2 0, .int 0 0, .int 0 0, .int 3 0, .ref 93, .bool true, .int 276 0, .ref 94, .none, .ref 95, .ref 96, .ref 97, .int 371 0, .int 38 0, .str (.ofString "/claim/cut.py") 372]), List.toArray []⟩) ::
  (nat_lit 99, ⟨.type "function", .none, .func ⟨.ofString "register", .ofString "_ABCLike.register", pf8_2, .stmts bf8_2, sf6_0, 3, [], .none, .none, .none, .str (.ofString "collections.abc") 335, .none, .ref 98, .none, 0⟩, List.toArray []⟩) ::
  (nat_lit 100, ⟨.type "tuple", .none, .seq (List.toArray []) 0, List.toArray []⟩) ::
  (nat_lit 101, ⟨.type "dict", .none, .dict (List.toArray [⟨PySem.PyData.keyHash P (.ofString "__module__"), .str (.ofString "__module__") 344, .str (.ofString "collections.abc") 335⟩, ⟨PySem.PyData.keyHash P (.ofString "__firstlineno__"), .str (.ofString "__firstlineno__") 348, .int 25 347⟩, ⟨PySem.PyData.keyHash P (.ofString "__instancecheck__"), .str (.ofString "__instancecheck__") 357, .ref 85⟩, ⟨PySem.PyData.keyHash P (.ofString "__subclasscheck__"), .str (.ofString "__subclasscheck__") 365, .ref 92⟩, ⟨PySem.PyData.keyHash P (.ofString "register"), .str (.ofString "register") 373, .ref 99⟩, ⟨PySem.PyData.keyHash P (.ofString "__static_attributes__"), .str (.ofString "__static_attributes__") 374, .ref 100⟩, ⟨PySem.PyData.keyHash P (.ofString "__doc__"), .str (.ofString "__doc__") 375, .none⟩]) 2, List.toArray []⟩) ::
  (nat_lit 102, ⟨.type "type", .none, .cls ⟨.ofString "_ABCLike", [.ref 69], [.ref 102, .ref 69, .type "type", .type "object"], 101, .ofString "_ABCLike", true, [], [], false, .none, false⟩, List.toArray [.some (.ref 72), .none, .some (.str (.ofString "_ABCLike") 337), .some (.str (.ofString "_ABCLike") 345), .some (.builtin "type.__new__"), .some (.bool true)]⟩) ::
  (nat_lit 105, ⟨.type "tuple", .none, .seq (List.toArray []) 0, List.toArray []⟩) ::
  (nat_lit 107, ⟨.type "tuple", .none, .seq (List.toArray [.str (.ofString "C") 381]) 0, List.toArray []⟩) ::
  (nat_lit 108, ⟨.type "tuple", .none, .seq (List.toArray []) 0, List.toArray []⟩) ::
  (nat_lit 110, ⟨.type "code", .none, .fields (List.toArray [.str (.ofString "_abc_plain_meta") 378, .str (.ofString "_abc_plain_meta") 379, .str (.ofString "/claim/cut.py") 380, .int 40 0, .int 1 0, .int 0 0, .int 0 0, .int 3 0, .ref 105, .bool true, .int 276 0, .ref 106, .none, .ref 107, .ref 108, .ref 109, .int 382 0, .int 40 0, .str (.ofString "/claim/cut.py") 383]), List.toArray []⟩) ::
  (nat_lit 111, ⟨.type "function", .none, .func ⟨.ofString "_abc_plain_meta", .ofString "_abc_plain_meta", pf9, .stmts bf9, sf9, 3, [], .none, .none, .none, .str (.ofString "collections.abc") 335, .none, .ref 110, .none, 0⟩, List.toArray []⟩) ::
  (nat_lit 112, ⟨.type "tuple", .none, .seq (List.toArray []) 0, List.toArray []⟩) ::
  (nat_lit 114, ⟨.type "tuple", .none, .seq (List.toArray [.str (.ofString "path") 390, .str (.ofString "kind") 391, .str (.ofString "hook") 392, .str (.ofString "given") 393]) 0, List.toArray []⟩) ::
  (nat_lit 115, ⟨.type "tuple", .none, .seq (List.toArray []) 0, List.toArray []⟩) ::
  (nat_lit 117, ⟨.type "code", .none, .fields (List.toArray [.str (.ofString "fspath") 387, .str (.ofString "fspath") 388, .str (.ofString "/claim/cut.py") 389, .int 44 0, .int 1 0, .int 0 0, .int 0 0, .int 3 0, .ref 112, .bool true, .int 276 0, .ref 113, .none, .ref 114, .ref 115, .ref 116, .int 394 0, .int 44 0, .str (.ofString "/claim/cut.py") 395]), List.toArray []⟩) ::
  (nat_lit 118, ⟨.type "function", .none, .func ⟨.ofString "fspath", .ofString "fspath", pf11, .stmts bf11, sf11, 3, [], .none, .none, .none, .str (.ofString "os") 385, .none, .ref 117, .none, 0⟩, List.toArray []⟩) ::
  (nat_lit 119, ⟨.type "tuple", .none, .seq (List.toArray []) 0, List.toArray []⟩) ::
  (nat_lit 121, ⟨.type "tuple", .none, .seq (List.toArray [.str (.ofString "p") 402, .str (.ofString "sep") 403, .str (.ofString "altsep") 404, .str (.ofString "extsep") 405, .str (.ofString "sepIndex") 406, .str (.ofString "altsepIndex") 407, .str (.ofString "dotIndex") 408, .str (.ofString "filenameIndex") 409]) 0, List.toArray []⟩) ::
  (nat_lit 122, ⟨.type "tuple", .none, .seq (List.toArray []) 0, List.toArray []⟩) ::
  (nat_lit 124, ⟨.type "code", .none, .fields (List.toArray [.str (.ofString "_splitext") 399, .str (.ofString "_splitext") 400, .str (.ofString "/claim/cut.py") 401, .int 61 0, .int 4 0, .int 0 0, .int 0 0, .int 3 0, .ref 119, .bool true, .int 276 0, .ref 120, .none, .ref 121, .ref 122, .ref 123, .int 410 0, .int 61 0, .str (.ofString "/claim/cut.py") 411]), List.toArray []⟩) ::
  (nat_lit 125, ⟨.type "function", .none, .func ⟨.ofString "_splitext", .ofString "_splitext", pf13, .stmts bf13, sf13, 3, [], .none, .none, .str (fnDoc (nthS 13)) 412, .str (.ofString "cpy313.genericpath") 397, .none, .ref 124, .none, 0⟩, List.toArray []⟩) ::
  (nat_lit 126, ⟨.type "tuple", .none, .seq (List.toArray []) 0, List.toArray []⟩) ::
  (nat_lit 128, ⟨.type "tuple", .none, .seq (List.toArray [.str (.ofString "funcname") 417, .str (.ofString "args") 418, .str (.ofString "hasstr") 419, .str (.ofString "hasbytes") 420, .str (.ofString "s") 421]) 0, List.toArray []⟩) ::
  (nat_lit 129, ⟨.type "tuple", .none, .seq (List.toArray []) 0, List.toArray []⟩) ::
  (nat_lit 131, ⟨.type "code", .none, .fields (List.toArray [.str (.ofString "_check_arg_types") 414, .str (.ofString "_check_arg_types") 415, .str (.ofString "/claim/cut.py") 416, .int 78 0, .int 1 0, .int 0 0, .int 0 0, .int 7 0, .ref 126, .bool true, .int 276 0, .ref 127, .none, .ref 128, .ref 129, .ref 130, .int 422 0, .int 78 0, .str (.ofString "/claim/cut.py") 423]), List.toArray []⟩) ::
  (nat_lit 132, ⟨.type "function", .none, .func ⟨.ofString "_check_arg_types", .ofString "_check_arg_types", pf14, .stmts bf14, sf14, 3, [], .none, .none, .none, .str (.ofString "cpy313.genericpath") 397, .none, .ref 131, .none, 0⟩, List.toArray []⟩) ::
  (nat_lit 133, ⟨.type "tuple", .none, .seq (List.toArray []) 0, List.toArray []⟩) ::
  (nat_lit 135, ⟨.type "tuple", .none, .seq (List.toArray [.str (.ofString "path") 430]) 0, List.toArray []⟩) ::
  (nat_lit 136, ⟨.type "tuple", .none, .seq (List.toArray []) 0, List.toArray []⟩) ::
  (nat_lit 138, ⟨.type "code", .none, .fields (List.toArray [.str (.ofString "_get_sep") 427, .str (.ofString "_get_sep") 428, .str (.ofString "/claim/cut.py") 429, .int 90 0, .int 1 0, .int 0 0, .int 0 0, .int 3 0, .ref 133, .bool true, .int 276 0, .ref 134, .none, .ref 135, .ref 136, .ref 137, .int 431 0, .int 90 0, .str (.ofString "/claim/cut.py") 432]), List.toArray []⟩) ::
  (nat_lit 139, ⟨.type "function", .none, .func ⟨.ofString "_get_sep", .ofString "_get_sep", pf16, .stmts bf16, sf16, 3, [], .none, .none, .none, .str (.ofString "cpy313.posixpath") 425, .none, .ref 138, .none, 0⟩, List.toArray []⟩) ::
  (nat_lit 140, ⟨.type "tuple", .none, .seq (List.toArray []) 0, List.toArray []⟩) ::
  (nat_lit 142, ⟨.type "tuple", .none, .seq (List.toArray [.str (.ofString "a") 437, .str (.ofString "p") 438, .str (.ofString "sep") 439, .str (.ofString "path") 440, .str (.ofString "b") 441]) 0, List.toArray []⟩) ::
  (nat_lit 143, ⟨.type "tuple", .none, .seq (List.toArray []) 0, List.toArray []⟩) ::
  (nat_lit 145, ⟨.type "code", .none, .fields (List.toArray [.str (.ofString "join") 434, .str (.ofString "join") 435, .str (.ofString "/claim/cut.py") 436, .int 95 0, .int 1 0, .int 0 0, .int 0 0, .int 7 0, .ref 140, .bool true, .int 276 0, .ref 141, .none, .ref 142, .ref 143, .ref 144, .int 442 0, .int 95 0, .str (.ofString "/claim/cut.py") 443]), List.toArray []⟩) ::
  (nat_lit 146, ⟨.type "function", .none, .func ⟨.ofString "join", .ofString "join", pf17, .stmts bf17, sf17, 3, [], .none, .none, .str (fnDoc (nthS 17)) 444, .str (.ofString "cpy313.posixpath") 425, .none, .ref 145, .none, 0⟩, List.toArray []⟩) ::
  (nat_lit 147, ⟨.type "tuple", .none, .seq (List.toArray []) 0, List.toArray []⟩) ::
  (nat_lit 149, ⟨.type "tuple", .none, .seq (List.toArray [.str (.ofString "p") 449, .str (.ofString "sep") 450, .str (.ofString "extsep") 451]) 0, List.toArray []⟩) ::
  (nat_lit 150, ⟨.type "tuple", .none, .seq (List.toArray []) 0, List.toArray []⟩) ::
  (nat_lit 152, ⟨.type "code", .none, .fields (List.toArray [.str (.ofString "splitext") 446, .str (.ofString "splitext") 447, .str (.ofString "/claim/cut.py") 448, .int 116 0, .int 1 0, .int 0 0, .int 0 0, .int 3 0, .ref 147, .bool true, .int 276 0, .ref 148, .none, .ref 149, .ref 150, .ref 151, .int 452 0, .int 116 0, .str (.ofString "/claim/cut.py") 453]), List.toArray []⟩) ::
  (nat_lit 153, ⟨.type "function", .none, .func ⟨.ofString "splitext", .ofString "splitext", pf18, .stmts bf18, sf18, 3, [], .none, .none, .str (fnDoc (nthS 13)) 412, .str (.ofString "cpy313.posixpath") 425, .none, .ref 152, .none, 0⟩, List.toArray []⟩) ::
  (nat_lit 157, ⟨.type "tuple", .none, .seq (List.toArray []) 0, List.toArray []⟩) ::
  (nat_lit 159, ⟨.type "tuple", .none, .seq (List.toArray [.str (.ofString "p") 493, .str (.ofString "sep") 494, .str (.ofString "i") 495]) 0, List.toArray []⟩) ::
  (nat_lit 160, ⟨.type "tuple", .none, .seq (List.toArray []) 0, List.toArray []⟩) ::
  (nat_lit 162, ⟨.type "code", .none, .fields (List.toArray [.str (.ofString "basename") 490, .str (.ofString "basename") 491, .str (.ofString "/claim/cut.py") 492, .int 126 0, .int 1 0, .int 0 0, .int 0 0, .int 3 0, .ref 157, .bool true, .int 276 0, .ref 158, .none, .ref 159, .ref 160, .ref 161, .int 496 0, .int 126 0, .str (.ofString "/claim/cut.py") 497]), List.toArray []⟩) ::
  (nat_lit 163, ⟨.type "function", .none, .func ⟨.ofString "basename", .ofString "basename", pf20, .stmts bf20, sf20, 3, [], .none, .none, .str (fnDoc (nthS 20)) 498, .str (.ofString "cpy313.posixpath") 425, .none, .ref 162, .none, 0⟩, List.toArray []⟩) ::
  (nat_lit 167, ⟨.type "tuple", .none, .seq (List.toArray [.int 14 0, .int 14 0, .int 4 0, .int 1 0, .int 1 0, .int 9 0, .int 0 0, .int 64 0, .int 0 0, .int 1342177280 0, .int 0 0, .int 0 0, .int 0 0, .int 0 0, .int 0 0, .int 17 0, .int 0 0, .int 13 0, .int 11 0, .int 9 0, .int 0 0, .int 64 0, .int 0 0, .int 1342177280 0, .int 0 0, .int 0 0, .int 0 0, .int 0 0, .int 0 0, .int 17 0, .int 1 0, .int 1 0]) 0, List.toArray []⟩) ::
  (nat_lit 168, ⟨.type "re.Pattern", .none, .fields (List.toArray [.str (.ofString "([&~|])") 501, .int 32 536, .int 1 0, .none, .none, .ref 167, .int 0 0]), List.toArray []⟩) ::
  (nat_lit 170, ⟨.type "dict", .none, .dict (List.toArray [⟨40, .int 40 541, .str (.ofString "\\(") 545⟩, ⟨41, .int 41 547, .str (.ofString "\\)") 551⟩, ⟨91, .int 91 553, .str (.ofString "\\[") 557⟩, ⟨93, .int 93 559, .str (.ofString "\\]") 563⟩, ⟨123, .int 123 565, .str (.ofString "\\{") 569⟩, ⟨125, .int 125 571, .str (.ofString "\\}") 575⟩, ⟨63, .int 63 577, .str (.ofString "\\?") 581⟩, ⟨42, .int 42 583, .str (.ofString "\\*") 587⟩, ⟨43, .int 43 589, .str (.ofString "\\+") 593⟩, ⟨45, .int 45 595, .str (.ofString "\\-") 599⟩, ⟨124, .int 124 601, .str (.ofString "\\|") 605⟩, ⟨94, .int 94 607, .str (.ofString "\\^") 611⟩, ⟨36, .int 36 613, .str (.ofString "\\$") 617⟩, ⟨92, .int 92 619, .str (.ofString "\\\\") 623⟩, ⟨46, .int 46 625, .str (.ofString "\\.") 629⟩, ⟨38, .int 38 631, .str (.ofString "\\&") 635⟩, ⟨126, .int 126 637, .str (.ofString "\\~") 641⟩, ⟨35, .int 35 643, .str (.ofString "\\#") 647⟩, ⟨32, .int 32 649, .str (.ofString "\\ ") 653⟩, ⟨9, .int 9 655, .str (.ofString "\\\t") 659⟩, ⟨10, .int 10 661, .str (.ofString "\\\n") 665⟩, ⟨13, .int 13 667, .str (.ofString "\\\x0d") 671⟩, ⟨11, .int 11 673, .str (.ofString "\\\x0b") 677⟩, ⟨12, .int 12 679, .str (.ofString "\\\x0c") 683⟩]) 24, List.toArray []⟩) ::
  (nat_lit 174, ⟨.type "tuple", .none, .seq (List.toArray []) 0, List.toArray []⟩) ::
  (nat_lit 176, ⟨.type "tuple", .none, .seq (List.toArray [.str (.ofString "pattern") 689]) 0, List.toArray []⟩) ::
  (nat_lit 177, ⟨.type "tuple", .none, .seq (List.toArray []) 0, List.toArray []⟩) ::
  (nat_lit 179, ⟨.type "code", .none, .fields (List.toArray [.str (.ofString "escape") 686, .str (.ofString "escape") 687, .str (.ofString "/claim/cut.py") 688, .int 135 0, .int 1 0, .int 0 0, .int 0 0, .int 3 0, .ref 174, .bool true, .int 276 0, .ref 175, .none, .ref 176, .ref 177, .ref 178, .int 690 0, .int 135 0, .str (.ofString "/claim/cut.py") 691]), List.toArray []⟩) ::
  (nat_lit 180, ⟨.type "function", .none, .func ⟨.ofString "escape", .ofString "escape", pf24, .stmts bf24, sf24, 3, [], .none, .none, .none, .str (.ofString "re") 538, .none, .ref 179, .none, 0⟩, List.toArray []⟩) ::
  (nat_lit 181, ⟨.type "tuple", .none, .seq (List.toArray []) 0, List.toArray []⟩) ::
  (nat_lit 183, ⟨.type "tuple", .none, .seq (List.toArray [.str (.ofString "pat") 698, .str (.ofString "STAR") 699, .str (.ofString "QUESTION_MARK") 700, .str (.ofString "res") 701, .str (.ofString "add") 702, .str (.ofString "i") 703, .str (.ofString "n") 704, .str (.ofString "c") 705, .str (.ofString "j") 706, .str (.ofString "stuff") 707, .str (.ofString "chunks") 708, .str (.ofString "k") 709, .str (.ofString "chunk") 710]) 0, List.toArray []⟩) ::
  (nat_lit 184, ⟨.type "tuple", .none, .seq (List.toArray []) 0, List.toArray []⟩) ::
  (nat_lit 186, ⟨.type "code", .none, .fields (List.toArray [.str (.ofString "_translate") 695, .str (.ofString "_translate") 696, .str (.ofString "/claim/cut.py") 697, .int 142 0, .int 3 0, .int 0 0, .int 0 0, .int 3 0, .ref 181, .bool true, .int 276 0, .ref 182, .none, .ref 183, .ref 184, .ref 185, .int 711 0, .int 142 0, .str (.ofString "/claim/cut.py") 712]), List.toArray []⟩) ::
  (nat_lit 187, ⟨.type "function", .none, .func ⟨.ofString "_translate", .ofString "_translate", pf26, .stmts bf26, sf26, 3, [], .none, .none, .none, .str (.ofString "cpy313.fnmatch") 693, .none, .ref 186, .none, 0⟩, List.toArray []⟩) ::
  (nat_lit 188, ⟨.type "tuple", .none, .seq (List.toArray []) 0, List.toArray []⟩) ::
  (nat_lit 190, ⟨.type "tuple", .none, .seq (List.toArray [.str (.ofString "part") 719, .str (.ofString "sign") 720, .str (.ofString "body") 721, .str (.ofString "barred") 722, .str (.ofString "k") 723, .str (.ofString "found") 724, .str (.ofString "low") 725, .str (.ofString "high") 726]) 0, List.toArray []⟩) ::
  (nat_lit 191, ⟨.type "tuple", .none, .seq (List.toArray []) 0, List.toArray []⟩) ::
  (nat_lit 193, ⟨.type "code", .none, .fields (List.toArray [.str (.ofString "_law_one") 716, .str (.ofString "_law_one") 717, .str (.ofString "/claim/cut.py") 718, .int 205 0, .int 2 0, .int 0 0, .int 0 0, .int 3 0, .ref 188, .bool true, .int 276 0, .ref 189, .none, .ref 190, .ref 191, .ref 192, .int 727 0, .int 205 0, .str (.ofString "/claim/cut.py") 728]), List.toArray []⟩) ::
  (nat_lit 194, ⟨.type "function", .none, .func ⟨.ofString "_law_one", .ofString "_law_one", pf28, .stmts bf28, sf28, 3, [], .none, .none, .none, .str (.ofString "law_dn0072_01") 714, .none, .ref 193, .none, 0⟩, List.toArray []⟩) ::
  (nat_lit 195, ⟨.type "tuple", .none, .seq (List.toArray []) 0, List.toArray []⟩) ::
  (nat_lit 198, ⟨.type "code", .none, .fields (List.toArray [.str (.ofString "_law_takes") 730, .str (.ofString "_law_takes") 731, .str (.ofString "/claim/cut.py") 732, .int 229 0, .int 3 0, .int 0 0, .int 0 0, .int 3 0, .ref 195, .bool true, .int 276 0, .ref 196, .none, .none, .none, .ref 197, .int 733 0, .int 229 0, .str (.ofString "/claim/cut.py") 734]), List.toArray []⟩) ::
  (nat_lit 199, ⟨.type "function", .none, .func ⟨.ofString "_law_takes", .ofString "_law_takes", pf29, .stmts bf29, sf29, 3, [], .none, .none, .none, .str (.ofString "law_dn0072_01") 714, .none, .ref 198, .none, 0⟩, List.toArray []⟩) ::
  (nat_lit 200, ⟨.type "tuple", .none, .seq (List.toArray []) 0, List.toArray []⟩) ::
  (nat_lit 203, ⟨.type "code", .none, .fields (List.toArray [.str (.ofString "_law_quoted") 736, .str (.ofString "_law_quoted") 737, .str (.ofString "/claim/cut.py") 738, .int 237 0, .int 1 0, .int 0 0, .int 0 0, .int 3 0, .ref 200, .bool true, .int 276 0, .ref 201, .none, .none, .none, .ref 202, .int 739 0, .int 237 0, .str (.ofString "/claim/cut.py") 740]), List.toArray []⟩) ::
  (nat_lit 204, ⟨.type "function", .none, .func ⟨.ofString "_law_quoted", .ofString "_law_quoted", pf30, .stmts bf30, sf30, 3, [], .none, .none, .none, .str (.ofString "law_dn0072_01") 714, .none, .ref 203, .none, 0⟩, List.toArray []⟩) ::
  (nat_lit 205, ⟨.type "tuple", .none, .seq (List.toArray []) 0, List.toArray []⟩) ::
  (nat_lit 207, ⟨.type "tuple", .none, .seq (List.toArray [.str (.ofString "number") 745, .str (.ofString "out") 746, .str (.ofString "left") 747]) 0, List.toArray []⟩) ::
  (nat_lit 208, ⟨.type "tuple", .none, .seq (List.toArray []) 0, List.toArray []⟩) ::
  (nat_lit 210, ⟨.type "code", .none, .fields (List.toArray [.str (.ofString "_law_drawn") 742, .str (.ofString "_law_drawn") 743, .str (.ofString "/claim/cut.py") 744, .int 239 0, .int 1 0, .int 0 0, .int 0 0, .int 3 0, .ref 205, .bool true, .int 276 0, .ref 206, .none, .ref 207, .ref 208, .ref 209, .int 748 0, .int 239 0, .str (.ofString "/claim/cut.py") 749]), List.toArray []⟩) ::
  (nat_lit 211, ⟨.type "function", .none, .func ⟨.ofString "_law_drawn", .ofString "_law_drawn", pf31, .stmts bf31, sf31, 3, [], .none, .none, .none, .str (.ofString "law_dn0072_01") 714, .none, .ref 210, .none, 0⟩, List.toArray []⟩) ::
  (nat_lit 212, ⟨.type "tuple", .none, .seq (List.toArray []) 0, List.toArray []⟩) ::
  (nat_lit 215, ⟨.type "code", .none, .fields (List.toArray [.str (.ofString "law") 751, .str (.ofString "law") 752, .str (.ofString "/claim/cut.py") 753, .int 246 0, .int 1 0, .int 0 0, .int 0 0, .int 3 0, .ref 212, .bool true, .int 276 0, .ref 213, .none, .none, .none, .ref 214, .int 754 0, .int 246 0, .str (.ofString "/claim/cut.py") 755]), List.toArray []⟩) ::
  (nat_lit 216, ⟨.type "function", .none, .func ⟨.ofString "law", .ofString "law", pf32, .stmts bf32, sf32, 3, [], .none, .none, .none, .str (.ofString "law_dn0072_01") 714, .none, .ref 215, .none, 0⟩, List.toArray []⟩) :: []
noncomputable def kob (P : Params) (a : Nat) : Obj := ((KH P).lookup a).getD default
noncomputable def o71 : Params → Obj := fun P => ⟨.type "code", .none, .fields (List.toArray [.str ⟨⟨[60, 109, 111, 100, 117, 108, 101, 62]⟩⟩ 277, .str ⟨⟨[60, 109, 111, 100, 117, 108, 101, 62]⟩⟩ 278, .str ⟨⟨[47, 99, 108, 97, 105, 109, 47, 99, 117, 116, 46, 112, 121]⟩⟩ 279, .int 1 0, .int 0 0, .int 0 0, .int 0 0, .int 0 0, .ref 28, .bool false, .int 276 0, .ref 29, .none, .none, .none, .none, .int 280 0, .int 1 0, .str ⟨⟨[47, 99, 108, 97, 105, 109, 47, 99, 117, 116, 46, 112, 121]⟩⟩ 281]), List.toArray []⟩
noncomputable def o72 : Params → Obj := fun P => ⟨.type "frame", .none, .plain, List.toArray [.some (.ref 30), .some (.ref 3), .some (.ref 3), .none, .some (.str ⟨⟨[95, 95, 109, 97, 105, 110, 95, 95]⟩⟩ 164), .none, .some (.ref 0)]⟩
noncomputable def o219 : Params → Obj := fun P => ⟨.type "dict", .none, .dict (List.toArray [⟨PySem.PyData.keyHash P ⟨⟨[95, 95, 110, 97, 109, 101, 95, 95]⟩⟩, .str ⟨⟨[95, 95, 110, 97, 109, 101, 95, 95]⟩⟩ 165, .str ⟨⟨[114, 101]⟩⟩ 538⟩, ⟨PySem.PyData.keyHash P ⟨⟨[95, 95, 100, 111, 99, 95, 95]⟩⟩, .str ⟨⟨[95, 95, 100, 111, 99, 95, 95]⟩⟩ 166, .none⟩, ⟨PySem.PyData.keyHash P ⟨⟨[95, 95, 112, 97, 99, 107, 97, 103, 101, 95, 95]⟩⟩, .str ⟨⟨[95, 95, 112, 97, 99, 107, 97, 103, 101, 95, 95]⟩⟩ 167, .none⟩, ⟨PySem.PyData.keyHash P ⟨⟨[95, 95, 108, 111, 97, 100, 101, 114, 95, 95]⟩⟩, .str ⟨⟨[95, 95, 108, 111, 97, 100, 101, 114, 95, 95]⟩⟩ 168, .builtin "__main__.__loader__#opaque"⟩, ⟨PySem.PyData.keyHash P ⟨⟨[95, 95, 115, 112, 101, 99, 95, 95]⟩⟩, .str ⟨⟨[95, 95, 115, 112, 101, 99, 95, 95]⟩⟩ 169, .none⟩, ⟨PySem.PyData.keyHash P ⟨⟨[95, 95, 97, 110, 110, 111, 116, 97, 116, 105, 111, 110, 115, 95, 95]⟩⟩, .str ⟨⟨[95, 95, 97, 110, 110, 111, 116, 97, 116, 105, 111, 110, 115, 95, 95]⟩⟩ 170, .ref 6⟩, ⟨PySem.PyData.keyHash P ⟨⟨[95, 95, 98, 117, 105, 108, 116, 105, 110, 115, 95, 95]⟩⟩, .str ⟨⟨[95, 95, 98, 117, 105, 108, 116, 105, 110, 115, 95, 95]⟩⟩ 171, .ref 4⟩, ⟨PySem.PyData.keyHash P ⟨⟨[95, 95, 102, 105, 108, 101, 95, 95]⟩⟩, .str ⟨⟨[95, 95, 102, 105, 108, 101, 95, 95]⟩⟩ 173, .str ⟨⟨[47, 99, 108, 97, 105, 109, 47, 99, 117, 116, 46, 112, 121]⟩⟩ 172⟩, ⟨PySem.PyData.keyHash P ⟨⟨[95, 95, 99, 97, 99, 104, 101, 100, 95, 95]⟩⟩, .str ⟨⟨[95, 95, 99, 97, 99, 104, 101, 100, 95, 95]⟩⟩ 174, .none⟩, ⟨PySem.PyData.keyHash P ⟨⟨[95, 115, 114, 101]⟩⟩, .str ⟨⟨[95, 115, 114, 101]⟩⟩ 275, .ref 12⟩, ⟨PySem.PyData.keyHash P ⟨⟨[95, 119, 97, 108, 108]⟩⟩, .str ⟨⟨[95, 119, 97, 108, 108]⟩⟩ 288, .ref 38⟩, ⟨PySem.PyData.keyHash P ⟨⟨[95, 112, 101, 95, 100, 111, 99]⟩⟩, .str ⟨⟨[95, 112, 101, 95, 100, 111, 99]⟩⟩ 297, .ref 45⟩, ⟨PySem.PyData.keyHash P ⟨⟨[95, 112, 108, 97, 105, 110, 95, 110, 97, 109, 101]⟩⟩, .str ⟨⟨[95, 112, 108, 97, 105, 110, 95, 110, 97, 109, 101]⟩⟩ 308, .ref 52⟩, ⟨PySem.PyData.keyHash P ⟨⟨[65, 66, 67, 77, 101, 116, 97]⟩⟩, .str ⟨⟨[65, 66, 67, 77, 101, 116, 97]⟩⟩ 334, .ref 69⟩, ⟨PySem.PyData.keyHash P ⟨⟨[95, 65, 66, 67, 76, 105, 107, 101]⟩⟩, .str ⟨⟨[95, 65, 66, 67, 76, 105, 107, 101]⟩⟩ 377, .ref 102⟩, ⟨PySem.PyData.keyHash P ⟨⟨[95, 97, 98, 99, 95, 112, 108, 97, 105, 110, 95, 109, 101, 116, 97]⟩⟩, .str ⟨⟨[95, 97, 98, 99, 95, 112, 108, 97, 105, 110, 95, 109, 101, 116, 97]⟩⟩ 384, .ref 111⟩, ⟨PySem.PyData.keyHash P ⟨⟨[102, 115, 112, 97, 116, 104]⟩⟩, .str ⟨⟨[102, 115, 112, 97, 116, 104]⟩⟩ 396, .ref 118⟩, ⟨PySem.PyData.keyHash P ⟨⟨[95, 115, 112, 108, 105, 116, 101, 120, 116]⟩⟩, .str ⟨⟨[95, 115, 112, 108, 105, 116, 101, 120, 116]⟩⟩ 413, .ref 125⟩, ⟨PySem.PyData.keyHash P ⟨⟨[95, 99, 104, 101, 99, 107, 95, 97, 114, 103, 95, 116, 121, 112, 101, 115]⟩⟩, .str ⟨⟨[95, 99, 104, 101, 99, 107, 95, 97, 114, 103, 95, 116, 121, 112, 101, 115]⟩⟩ 424, .ref 132⟩, ⟨PySem.PyData.keyHash P ⟨⟨[95, 103, 101, 116, 95, 115, 101, 112]⟩⟩, .str ⟨⟨[95, 103, 101, 116, 95, 115, 101, 112]⟩⟩ 433, .ref 139⟩, ⟨PySem.PyData.keyHash P ⟨⟨[106, 111, 105, 110]⟩⟩, .str ⟨⟨[106, 111, 105, 110]⟩⟩ 445, .ref 146⟩, ⟨PySem.PyData.keyHash P ⟨⟨[115, 112, 108, 105, 116, 101, 120, 116]⟩⟩, .str ⟨⟨[115, 112, 108, 105, 116, 101, 120, 116]⟩⟩ 454, .ref 153⟩, ⟨PySem.PyData.keyHash P ⟨⟨[98, 97, 115, 101, 110, 97, 109, 101]⟩⟩, .str ⟨⟨[98, 97, 115, 101, 110, 97, 109, 101]⟩⟩ 499, .ref 163⟩, ⟨PySem.PyData.keyHash P ⟨⟨[95, 116, 119, 105, 110, 95, 114, 101, 95, 49]⟩⟩, .str ⟨⟨[95, 116, 119, 105, 110, 95, 114, 101, 95, 49]⟩⟩ 537, .ref 168⟩]) 24, List.toArray []⟩
noncomputable def o205 : Params → Obj := fun P => ⟨.none, .none, .fields (List.toArray [.int 2 0, .int 0 0, .ref 37, .int 5 0, .int 0 0, .ref 44, .int 14 0, .int 0 0, .ref 51, .int 20 0, .int 0 0, .ref 58, .int 25 0, .int 0 0, .ref 77, .int 40 0, .int 0 0, .ref 110, .int 44 0, .int 0 0, .ref 117, .int 61 0, .int 0 0, .ref 124, .int 78 0, .int 0 0, .ref 131, .int 90 0, .int 0 0, .ref 138, .int 95 0, .int 0 0, .ref 145, .int 116 0, .int 0 0, .ref 152, .int 126 0, .int 0 0, .ref 162]), List.toArray []⟩
noncomputable def o81 : Params → Obj := fun P => ⟨.none, .none, .func ⟨⟨⟨[95, 119, 97, 108, 108]⟩⟩, ⟨⟨[95, 119, 97, 108, 108]⟩⟩, pf1, .stmts bf1, sf1, 0, [], .none, .none, .none, .none, .none, .none, .none, 0⟩, List.toArray []⟩
noncomputable def o86 : Params → Obj := fun P => ⟨.type "tuple", .none, .seq (List.toArray [.str ⟨⟨[120]⟩⟩ 292, .str ⟨⟨[116]⟩⟩ 293, .str ⟨⟨[102]⟩⟩ 294]) 0, List.toArray []⟩
noncomputable def o88 : Params → Obj := fun P => ⟨.none, .none, .func ⟨⟨⟨[95, 112, 101, 95, 100, 111, 99]⟩⟩, ⟨⟨[95, 112, 101, 95, 100, 111, 99]⟩⟩, pf2, .stmts bf2, sf2, 0, [], .none, .none, .none, .none, .none, .none, .none, 0⟩, List.toArray []⟩
noncomputable def o89 : Params → Obj := fun P => ⟨.type "code", .none, .fields (List.toArray [.str ⟨⟨[95, 112, 101, 95, 100, 111, 99]⟩⟩ 289, .str ⟨⟨[95, 112, 101, 95, 100, 111, 99]⟩⟩ 290, .str ⟨⟨[47, 99, 108, 97, 105, 109, 47, 99, 117, 116, 46, 112, 121]⟩⟩ 291, .int 5 0, .int 1 0, .int 0 0, .int 0 0, .int 3 0, .ref 39, .bool true, .int 276 0, .ref 40, .none, .ref 41, .ref 42, .ref 43, .int 295 0, .int 5 0, .str ⟨⟨[47, 99, 108, 97, 105, 109, 47, 99, 117, 116, 46, 112, 121]⟩⟩ 296]), List.toArray []⟩
noncomputable def o90 : Params → Obj := fun P => ⟨.type "function", .none, .func ⟨⟨⟨[95, 112, 101, 95, 100, 111, 99]⟩⟩, ⟨⟨[95, 112, 101, 95, 100, 111, 99]⟩⟩, pf2, .stmts bf2, sf2, 3, [], .none, .none, .none, .str ⟨⟨[95, 95, 109, 97, 105, 110, 95, 95]⟩⟩ 164, .none, .ref 44, .none, 0⟩, List.toArray []⟩
noncomputable def o95 : Params → Obj := fun P => ⟨.none, .none, .func ⟨⟨⟨[95, 112, 108, 97, 105, 110, 95, 110, 97, 109, 101]⟩⟩, ⟨⟨[95, 112, 108, 97, 105, 110, 95, 110, 97, 109, 101]⟩⟩, pf4, .stmts bf4, sf4, 0, [], .none, .none, .none, .none, .none, .none, .none, 0⟩, List.toArray []⟩
noncomputable def o99 : Params → Obj := fun P => ⟨.type "builtin_function_or_method", .none, .fields (List.toArray [.builtin "type.__prepare__", .type "type"]), List.toArray []⟩
noncomputable def o100 : Params → Obj := fun P => ⟨.type "dict", .none, .dict (List.toArray [⟨PySem.PyData.keyHash P ⟨⟨[95, 95, 109, 111, 100, 117, 108, 101, 95, 95]⟩⟩, .str ⟨⟨[95, 95, 109, 111, 100, 117, 108, 101, 95, 95]⟩⟩ 318, .str ⟨⟨[97, 98, 99]⟩⟩ 309⟩, ⟨PySem.PyData.keyHash P ⟨⟨[95, 95, 113, 117, 97, 108, 110, 97, 109, 101, 95, 95]⟩⟩, .str ⟨⟨[95, 95, 113, 117, 97, 108, 110, 97, 109, 101, 95, 95]⟩⟩ 320, .str ⟨⟨[65, 66, 67, 77, 101, 116, 97]⟩⟩ 319⟩, ⟨PySem.PyData.keyHash P ⟨⟨[95, 95, 102, 105, 114, 115, 116, 108, 105, 110, 101, 110, 111, 95, 95]⟩⟩, .str ⟨⟨[95, 95, 102, 105, 114, 115, 116, 108, 105, 110, 101, 110, 111, 95, 95]⟩⟩ 322, .int 20 321⟩, ⟨PySem.PyData.keyHash P ⟨⟨[114, 101, 103, 105, 115, 116, 101, 114]⟩⟩, .str ⟨⟨[114, 101, 103, 105, 115, 116, 101, 114]⟩⟩ 330, .ref 66⟩, ⟨PySem.PyData.keyHash P ⟨⟨[95, 95, 115, 116, 97, 116, 105, 99, 95, 97, 116, 116, 114, 105, 98, 117, 116, 101, 115, 95, 95]⟩⟩, .str ⟨⟨[95, 95, 115, 116, 97, 116, 105, 99, 95, 97, 116, 116, 114, 105, 98, 117, 116, 101, 115, 95, 95]⟩⟩ 331, .ref 67⟩]) 5, List.toArray []⟩
noncomputable def o102 : Params → Obj := fun P => ⟨.none, .none, .fields (List.toArray [.int 22 0, .int 4 0, .ref 65]), List.toArray []⟩
noncomputable def o103 : Params → Obj := fun P => ⟨.type "code", .none, .fields (List.toArray [.str ⟨⟨[65, 66, 67, 77, 101, 116, 97]⟩⟩ 313, .str ⟨⟨[65, 66, 67, 77, 101, 116, 97]⟩⟩ 314, .str ⟨⟨[47, 99, 108, 97, 105, 109, 47, 99, 117, 116, 46, 112, 121]⟩⟩ 315, .int 20 0, .int 0 0, .int 0 0, .int 0 0, .int 0 0, .ref 56, .bool false, .int 276 0, .ref 57, .none, .none, .none, .none, .int 316 0, .int 20 0, .str ⟨⟨[47, 99, 108, 97, 105, 109, 47, 99, 117, 116, 46, 112, 121]⟩⟩ 317]), List.toArray []⟩
noncomputable def o104 : Params → Obj := fun P => ⟨.type "frame", .none, .plain, List.toArray [.some (.ref 58), .some (.ref 3), .some (.ref 55), .none, .some (.str ⟨⟨[97, 98, 99]⟩⟩ 309), .none, .some (.ref 0)]⟩
noncomputable def o109 : Params → Obj := fun P => ⟨.none, .none, .func ⟨⟨⟨[114, 101, 103, 105, 115, 116, 101, 114]⟩⟩, ⟨⟨[65, 66, 67, 77, 101, 116, 97, 46, 114, 101, 103, 105, 115, 116, 101, 114]⟩⟩, pf6_0, .stmts bf6_0, sf6_0, 0, [], .none, .none, .none, .none, .none, .none, .none, 0⟩, List.toArray []⟩
noncomputable def o115 : Params → Obj := fun P => ⟨.type "super", .none, .fields (List.toArray [.ref 69, .ref 69, .ref 69]), List.toArray []⟩
noncomputable def o116 : Params → Obj := fun P => ⟨.type "builtin_function_or_method", .none, .fields (List.toArray [.builtin "object.__init_subclass__", .ref 69]), List.toArray []⟩
noncomputable def o122 : Params → Obj := fun P => ⟨.type "dict", .none, .dict (List.toArray [⟨PySem.PyData.keyHash P ⟨⟨[95, 95, 109, 111, 100, 117, 108, 101, 95, 95]⟩⟩, .str ⟨⟨[95, 95, 109, 111, 100, 117, 108, 101, 95, 95]⟩⟩ 344, .str ⟨⟨[99, 111, 108, 108, 101, 99, 116, 105, 111, 110, 115, 46, 97, 98, 99]⟩⟩ 335⟩, ⟨PySem.PyData.keyHash P ⟨⟨[95, 95, 113, 117, 97, 108, 110, 97, 109, 101, 95, 95]⟩⟩, .str ⟨⟨[95, 95, 113, 117, 97, 108, 110, 97, 109, 101, 95, 95]⟩⟩ 346, .str ⟨⟨[95, 65, 66, 67, 76, 105, 107, 101]⟩⟩ 345⟩, ⟨PySem.PyData.keyHash P ⟨⟨[95, 95, 102, 105, 114, 115, 116, 108, 105, 110, 101, 110, 111, 95, 95]⟩⟩, .str ⟨⟨[95, 95, 102, 105, 114, 115, 116, 108, 105, 110, 101, 110, 111, 95, 95]⟩⟩ 348, .int 25 347⟩, ⟨PySem.PyData.keyHash P ⟨⟨[95, 95, 105, 110, 115, 116, 97, 110, 99, 101, 99, 104, 101, 99, 107, 95, 95]⟩⟩, .str ⟨⟨[95, 95, 105, 110, 115, 116, 97, 110, 99, 101, 99, 104, 101, 99, 107, 95, 95]⟩⟩ 357, .ref 85⟩, ⟨PySem.PyData.keyHash P ⟨⟨[95, 95, 115, 117, 98, 99, 108, 97, 115, 115, 99, 104, 101, 99, 107, 95, 95]⟩⟩, .str ⟨⟨[95, 95, 115, 117, 98, 99, 108, 97, 115, 115, 99, 104, 101, 99, 107, 95, 95]⟩⟩ 365, .ref 92⟩, ⟨PySem.PyData.keyHash P ⟨⟨[114, 101, 103, 105, 115, 116, 101, 114]⟩⟩, .str ⟨⟨[114, 101, 103, 105, 115, 116, 101, 114]⟩⟩ 373, .ref 99⟩, ⟨PySem.PyData.keyHash P ⟨⟨[95, 95, 115, 116, 97, 116, 105, 99, 95, 97, 116, 116, 114, 105, 98, 117, 116, 101, 115, 95, 95]⟩⟩, .str ⟨⟨[95, 95, 115, 116, 97, 116, 105, 99, 95, 97, 116, 116, 114, 105, 98, 117, 116, 101, 115, 95, 95]⟩⟩ 374, .ref 100⟩]) 7, List.toArray []⟩
noncomputable def o124 : Params → Obj := fun P => ⟨.none, .none, .fields (List.toArray [.int 27 0, .int 4 0, .ref 84, .int 33 0, .int 4 0, .ref 91, .int 38 0, .int 4 0, .ref 98]), List.toArray []⟩
noncomputable def o125 : Params → Obj := fun P => ⟨.type "code", .none, .fields (List.toArray [.str ⟨⟨[95, 65, 66, 67, 76, 105, 107, 101]⟩⟩ 339, .str ⟨⟨[95, 65, 66, 67, 76, 105, 107, 101]⟩⟩ 340, .str ⟨⟨[47, 99, 108, 97, 105, 109, 47, 99, 117, 116, 46, 112, 121]⟩⟩ 341, .int 25 0, .int 0 0, .int 0 0, .int 0 0, .int 0 0, .ref 75, .bool false, .int 276 0, .ref 76, .none, .none, .none, .none, .int 342 0, .int 25 0, .str ⟨⟨[47, 99, 108, 97, 105, 109, 47, 99, 117, 116, 46, 112, 121]⟩⟩ 343]), List.toArray []⟩
noncomputable def o126 : Params → Obj := fun P => ⟨.type "frame", .none, .plain, List.toArray [.some (.ref 77), .some (.ref 3), .some (.ref 74), .none, .some (.str ⟨⟨[99, 111, 108, 108, 101, 99, 116, 105, 111, 110, 115, 46, 97, 98, 99]⟩⟩ 335), .none, .some (.ref 0)]⟩
noncomputable def o131 : Params → Obj := fun P => ⟨.none, .none, .func ⟨⟨⟨[95, 95, 105, 110, 115, 116, 97, 110, 99, 101, 99, 104, 101, 99, 107, 95, 95]⟩⟩, ⟨⟨[95, 65, 66, 67, 76, 105, 107, 101, 46, 95, 95, 105, 110, 115, 116, 97, 110, 99, 101, 99, 104, 101, 99, 107, 95, 95]⟩⟩, pf8_0, .stmts bf8_0, sf8_0, 0, [], .none, .none, .none, .none, .none, .none, .none, 0⟩, List.toArray []⟩
noncomputable def o138 : Params → Obj := fun P => ⟨.none, .none, .func ⟨⟨⟨[95, 95, 115, 117, 98, 99, 108, 97, 115, 115, 99, 104, 101, 99, 107, 95, 95]⟩⟩, ⟨⟨[95, 65, 66, 67, 76, 105, 107, 101, 46, 95, 95, 115, 117, 98, 99, 108, 97, 115, 115, 99, 104, 101, 99, 107, 95, 95]⟩⟩, pf8_1, .stmts bf8_1, sf8_1, 0, [], .none, .none, .none, .none, .none, .none, .none, 0⟩, List.toArray []⟩
noncomputable def o145 : Params → Obj := fun P => ⟨.none, .none, .func ⟨⟨⟨[114, 101, 103, 105, 115, 116, 101, 114]⟩⟩, ⟨⟨[95, 65, 66, 67, 76, 105, 107, 101, 46, 114, 101, 103, 105, 115, 116, 101, 114]⟩⟩, pf8_2, .stmts bf8_2, sf6_0, 0, [], .none, .none, .none, .none, .none, .none, .none, 0⟩, List.toArray []⟩
noncomputable def o151 : Params → Obj := fun P => ⟨.type "super", .none, .fields (List.toArray [.ref 102, .ref 102, .ref 102]), List.toArray []⟩
noncomputable def o152 : Params → Obj := fun P => ⟨.type "builtin_function_or_method", .none, .fields (List.toArray [.builtin "object.__init_subclass__", .ref 102]), List.toArray []⟩
noncomputable def o157 : Params → Obj := fun P => ⟨.none, .none, .func ⟨⟨⟨[95, 97, 98, 99, 95, 112, 108, 97, 105, 110, 95, 109, 101, 116, 97]⟩⟩, ⟨⟨[95, 97, 98, 99, 95, 112, 108, 97, 105, 110, 95, 109, 101, 116, 97]⟩⟩, pf9, .stmts bf9, sf9, 0, [], .none, .none, .none, .none, .none, .none, .none, 0⟩, List.toArray []⟩
noncomputable def o164 : Params → Obj := fun P => ⟨.none, .none, .func ⟨⟨⟨[102, 115, 112, 97, 116, 104]⟩⟩, ⟨⟨[102, 115, 112, 97, 116, 104]⟩⟩, pf11, .stmts bf11, sf11, 0, [], .none, .none, .none, .none, .none, .none, .none, 0⟩, List.toArray []⟩
noncomputable def o173 : Params → Obj := fun P => ⟨.none, .none, .func ⟨⟨⟨[95, 115, 112, 108, 105, 116, 101, 120, 116]⟩⟩, ⟨⟨[95, 115, 112, 108, 105, 116, 101, 120, 116]⟩⟩, pf13, .stmts bf13, sf13, 0, [], .none, .none, .none, .none, .none, .none, .none, 0⟩, List.toArray []⟩
noncomputable def o180 : Params → Obj := fun P => ⟨.none, .none, .func ⟨⟨⟨[95, 99, 104, 101, 99, 107, 95, 97, 114, 103, 95, 116, 121, 112, 101, 115]⟩⟩, ⟨⟨[95, 99, 104, 101, 99, 107, 95, 97, 114, 103, 95, 116, 121, 112, 101, 115]⟩⟩, pf14, .stmts bf14, sf14, 0, [], .none, .none, .none, .none, .none, .none, .none, 0⟩, List.toArray []⟩
noncomputable def o187 : Params → Obj := fun P => ⟨.none, .none, .func ⟨⟨⟨[95, 103, 101, 116, 95, 115, 101, 112]⟩⟩, ⟨⟨[95, 103, 101, 116, 95, 115, 101, 112]⟩⟩, pf16, .stmts bf16, sf16, 0, [], .none, .none, .none, .none, .none, .none, .none, 0⟩, List.toArray []⟩
noncomputable def o194 : Params → Obj := fun P => ⟨.none, .none, .func ⟨⟨⟨[106, 111, 105, 110]⟩⟩, ⟨⟨[106, 111, 105, 110]⟩⟩, pf17, .stmts bf17, sf17, 0, [], .none, .none, .none, .none, .none, .none, .none, 0⟩, List.toArray []⟩
noncomputable def o201 : Params → Obj := fun P => ⟨.none, .none, .func ⟨⟨⟨[115, 112, 108, 105, 116, 101, 120, 116]⟩⟩, ⟨⟨[115, 112, 108, 105, 116, 101, 120, 116]⟩⟩, pf18, .stmts bf18, sf18, 0, [], .none, .none, .none, .none, .none, .none, .none, 0⟩, List.toArray []⟩
noncomputable def o207 : Params → Obj := fun P => ⟨.type "frame", .none, .dict (List.toArray [⟨PySem.PyData.keyHash P ⟨⟨[120]⟩⟩, .str ⟨⟨[120]⟩⟩ 455, .ref 125⟩, ⟨PySem.PyData.keyHash P ⟨⟨[116]⟩⟩, .str ⟨⟨[116]⟩⟩ 457, .type "function"⟩, ⟨PySem.PyData.keyHash P ⟨⟨[102]⟩⟩, .str ⟨⟨[102]⟩⟩ 470, .ref 125⟩]) 3, List.toArray []⟩
noncomputable def o208 : Params → Obj := fun P => ⟨.type "tuple", .none, .seq (List.toArray [.str ⟨⟨[97, 98, 99]⟩⟩ 460, .str ⟨⟨[99, 111, 108, 108, 101, 99, 116, 105, 111, 110, 115, 46, 97, 98, 99]⟩⟩ 461, .str ⟨⟨[111, 115]⟩⟩ 462, .str ⟨⟨[114, 101]⟩⟩ 463]) 0, List.toArray []⟩
noncomputable def o209 : Params → Obj := fun P => ⟨.type "tuple", .none, .seq (List.toArray [.str ⟨⟨[97, 98, 99]⟩⟩ 478, .str ⟨⟨[99, 111, 108, 108, 101, 99, 116, 105, 111, 110, 115, 46, 97, 98, 99]⟩⟩ 479, .str ⟨⟨[111, 115]⟩⟩ 480, .str ⟨⟨[114, 101]⟩⟩ 481]) 0, List.toArray []⟩
noncomputable def o214 : Params → Obj := fun P => ⟨.none, .none, .func ⟨⟨⟨[98, 97, 115, 101, 110, 97, 109, 101]⟩⟩, ⟨⟨[98, 97, 115, 101, 110, 97, 109, 101]⟩⟩, pf20, .stmts bf20, sf20, 0, [], .none, .none, .none, .none, .none, .none, .none, 0⟩, List.toArray []⟩
noncomputable def o220 : Params → Obj := fun P => ⟨.type "list", .none, .seq (List.toArray [.int 14 503, .int 14 504, .int 4 505, .int 1 506, .int 1 507, .int 9 508, .int 0 509, .int 64 510, .int 0 511, .int 1342177280 512, .int 0 513, .int 0 514, .int 0 515, .int 0 516, .int 0 517, .int 17 518, .int 0 519, .int 13 520, .int 11 521, .int 9 522, .int 0 523, .int 64 524, .int 0 525, .int 1342177280 526, .int 0 527, .int 0 528, .int 0 529, .int 0 530, .int 0 531, .int 17 532, .int 1 533, .int 1 534]) 0, List.toArray []⟩
noncomputable def o222 : Params → Obj := fun P => ⟨.type "tuple", .none, .seq (List.toArray [.none, .none]) 0, List.toArray []⟩
noncomputable def o270 : Params → Obj := fun P => ⟨.none, .none, .fields (List.toArray ((.int 2 0) :: (.int 0 0) :: (.ref 37) :: (.int 5 0) :: (.int 0 0) :: (.ref 44) :: (.int 14 0) :: (.int 0 0) :: (.ref 51) :: (.int 20 0) :: (.int 0 0) :: (.ref 58) :: (.int 25 0) :: (.int 0 0) :: (.ref 77) :: (.int 40 0) :: (.int 0 0) :: (.ref 110) :: (.int 44 0) :: (.int 0 0) :: (.ref 117) :: (.int 61 0) :: (.int 0 0) :: (.ref 124) :: (.int 78 0) :: (.int 0 0) :: (.ref 131) :: (.int 90 0) :: (.int 0 0) :: (.ref 138) :: (.int 95 0) :: (.int 0 0) :: (.ref 145) :: (.int 116 0) :: (.int 0 0) :: (.ref 152) :: (.int 126 0) :: (.int 0 0) :: (.ref 162) :: (.int 135 0) :: (.int 0 0) :: (.ref 179) :: (.int 142 0) :: (.int 0 0) :: (.ref 186) :: (.int 205 0) :: (.int 0 0) :: (.ref 193) :: (.int 229 0) :: (.int 0 0) :: (.ref 198) :: (.int 237 0) :: (.int 0 0) :: (.ref 203) :: (.int 239 0) :: (.int 0 0) :: (.ref 210) :: (.int 246 0) :: (.int 0 0) :: (.ref 215) :: [])), List.toArray []⟩
noncomputable def o226 : Params → Obj := fun P => ⟨.type "bytes_iterator", .none, .fields (List.toArray [.none, .int 24 0]), List.toArray []⟩
noncomputable def o228 : Params → Obj := fun P => ⟨.type "dict", .none, .dict (List.toArray []) 2, List.toArray []⟩
noncomputable def o230 : Params → Obj := fun P => ⟨.type "StopIteration", .none, .fields (List.toArray [.ref 172, .none, .none, .none, .bool false, .none]), List.toArray []⟩
noncomputable def o275 : Params → Obj := fun P => ⟨.none, .none, .func ⟨⟨⟨[101, 115, 99, 97, 112, 101]⟩⟩, ⟨⟨[101, 115, 99, 97, 112, 101]⟩⟩, pf24, .stmts bf24, sf24, 0, [], .none, .none, .none, .none, .none, .none, .none, 0⟩, List.toArray []⟩
noncomputable def o282 : Params → Obj := fun P => ⟨.none, .none, .func ⟨⟨⟨[95, 116, 114, 97, 110, 115, 108, 97, 116, 101]⟩⟩, ⟨⟨[95, 116, 114, 97, 110, 115, 108, 97, 116, 101]⟩⟩, pf26, .stmts bf26, sf26, 0, [], .none, .none, .none, .none, .none, .none, .none, 0⟩, List.toArray []⟩
noncomputable def o289 : Params → Obj := fun P => ⟨.none, .none, .func ⟨⟨⟨[95, 108, 97, 119, 95, 111, 110, 101]⟩⟩, ⟨⟨[95, 108, 97, 119, 95, 111, 110, 101]⟩⟩, pf28, .stmts bf28, sf28, 0, [], .none, .none, .none, .none, .none, .none, .none, 0⟩, List.toArray []⟩
noncomputable def o294 : Params → Obj := fun P => ⟨.none, .none, .func ⟨⟨⟨[95, 108, 97, 119, 95, 116, 97, 107, 101, 115]⟩⟩, ⟨⟨[95, 108, 97, 119, 95, 116, 97, 107, 101, 115]⟩⟩, pf29, .stmts bf29, sf29, 0, [], .none, .none, .none, .none, .none, .none, .none, 0⟩, List.toArray []⟩
noncomputable def o299 : Params → Obj := fun P => ⟨.none, .none, .func ⟨⟨⟨[95, 108, 97, 119, 95, 113, 117, 111, 116, 101, 100]⟩⟩, ⟨⟨[95, 108, 97, 119, 95, 113, 117, 111, 116, 101, 100]⟩⟩, pf30, .stmts bf30, sf30, 0, [], .none, .none, .none, .none, .none, .none, .none, 0⟩, List.toArray []⟩
noncomputable def o306 : Params → Obj := fun P => ⟨.none, .none, .func ⟨⟨⟨[95, 108, 97, 119, 95, 100, 114, 97, 119, 110]⟩⟩, ⟨⟨[95, 108, 97, 119, 95, 100, 114, 97, 119, 110]⟩⟩, pf31, .stmts bf31, sf31, 0, [], .none, .none, .none, .none, .none, .none, .none, 0⟩, List.toArray []⟩
noncomputable def o311 : Params → Obj := fun P => ⟨.none, .none, .func ⟨⟨⟨[108, 97, 119]⟩⟩, ⟨⟨[108, 97, 119]⟩⟩, pf32, .stmts bf32, sf32, 0, [], .none, .none, .none, .none, .none, .none, .none, 0⟩, List.toArray []⟩
noncomputable def os0 : Params → List Obj := fun P => obK 0 P :: obK 1 P :: obK 2 P :: obK 3 P :: obK 4 P :: obK 5 P :: obK 6 P :: obK 7 P :: obK 8 P :: obK 9 P :: obK 10 P :: obK 11 P :: obK 12 P :: obK 13 P :: obK 14 P :: obK 15 P :: obK 16 P :: obK 17 P :: obK 18 P :: obK 19 P :: obK 20 P :: obK 21 P :: obK 22 P :: obK 23 P :: obK 24 P :: obK 25 P :: obK 26 P :: obK 27 P :: []
noncomputable def osA : Params → List Obj := fun P => obK 0 P :: obK 1 P :: obK 2 P :: obK 3 P :: obK 4 P :: obK 5 P :: obK 6 P :: obK 7 P :: obK 8 P :: obK 9 P :: obK 10 P :: obK 11 P :: obK 12 P :: obK 13 P :: obK 14 P :: obK 15 P :: obK 16 P :: obK 17 P :: obK 18 P :: obK 19 P :: obK 20 P :: obK 21 P :: obK 22 P :: obK 23 P :: obK 24 P :: obK 25 P :: obK 26 P :: obK 27 P :: kob P 32 :: boot_o_8 P :: o71 P :: o72 P :: []
noncomputable def trB : Params → BT := fun P => (.node (obK 0 P) (.node (obK 1 P) (.node (obK 3 P) (.node (obK 7 P) (.node (obK 15 P) (.node (o72 P) .nil .nil) .nil) (.node (obK 23 P) .nil .nil)) (.node (obK 11 P) (.node (obK 19 P) .nil .nil) (.node (obK 27 P) .nil .nil))) (.node (obK 5 P) (.node (obK 9 P) (.node (obK 17 P) .nil .nil) (.node (obK 25 P) .nil .nil)) (.node (obK 13 P) (.node (obK 21 P) .nil .nil) (.node (boot_o_8 P) .nil .nil)))) (.node (obK 2 P) (.node (obK 4 P) (.node (obK 8 P) (.node (obK 16 P) .nil .nil) (.node (obK 24 P) .nil .nil)) (.node (obK 12 P) (.node (obK 20 P) .nil .nil) (.node (kob P 32) .nil .nil))) (.node (obK 6 P) (.node (obK 10 P) (.node (obK 18 P) .nil .nil) (.node (obK 26 P) .nil .nil)) (.node (obK 14 P) (.node (obK 22 P) .nil .nil) (.node (o71 P) .nil .nil)))))
noncomputable def trM : Params → BT := fun P => (.node (obK 0 P) (.node (obK 1 P) (.node (o219 P) (.node (obK 7 P) (.node (obK 15 P) (.node (o72 P) (.node (kob P 32) (.node (boot_o_8 P) .nil .nil) .nil) (.node (kob P 95) (.node (kob P 159) .nil .nil) .nil)) (.node (boot_o_8 P) (.node (kob P 32) (.node (kob P 32) .nil .nil) .nil) (.node (kob P 111) .nil .nil))) (.node (obK 23 P) (.node (kob P 32) (.node (o116 P) (.node (kob P 135) .nil .nil) .nil) (.node (o151 P) (.node (kob P 167) .nil .nil) .nil)) (.node (o100 P) (.node (boot_o_8 P) (.node (o201 P) .nil .nil) .nil) (.node (kob P 32) .nil .nil)))) (.node (obK 11 P) (.node (obK 19 P) (.node (kob P 32) (.node (kob P 32) (.node (kob P 131) .nil .nil) .nil) (.node (kob P 99) (.node (kob P 163) .nil .nil) .nil)) (.node (kob P 51) (.node (o131 P) (.node (kob P 32) .nil .nil) .nil) (.node (kob P 32) .nil .nil))) (.node (obK 27 P) (.node (o88 P) (.node (kob P 32) (.node (kob P 139) .nil .nil) .nil) (.node (kob P 107) .nil .nil)) (.node (o104 P) (.node (kob P 91) (.node (o208 P) .nil .nil) .nil) (.node (o173 P) .nil .nil))))) (.node (obK 5 P) (.node (obK 9 P) (.node (obK 17 P) (.node (boot_o_8 P) (.node (kob P 65) (.node (kob P 32) .nil .nil) .nil) (.node (o145 P) (.node (o214 P) .nil .nil) .nil)) (.node (kob P 32) (.node (kob P 81) (.node (kob P 145) .nil .nil) .nil) (.node (boot_o_8 P) .nil .nil))) (.node (obK 25 P) (.node (o86 P) (.node (o99 P) (.node (o187 P) .nil .nil) .nil) (.node (kob P 32) .nil .nil)) (.node (o102 P) (.node (kob P 32) (.node (kob P 153) .nil .nil) .nil) (.node (kob P 121) .nil .nil)))) (.node (obK 13 P) (.node (obK 21 P) (.node (kob P 37) (.node (kob P 69) (.node (kob P 32) .nil .nil) .nil) (.node (kob P 101) (.node (boot_o_6 P) .nil .nil) .nil)) (.node (kob P 53) (.node (kob P 85) (.node (kob P 149) .nil .nil) .nil) (.node (kob P 117) .nil .nil))) (.node (o205 P) (.node (o90 P) (.node (o125 P) (.node (boot_o_8 P) .nil .nil) .nil) (.node (o157 P) .nil .nil)) (.node (boot_o_8 P) (.node (kob P 32) (.node (kob P 32) .nil .nil) .nil) (.node (kob P 125) .nil .nil)))))) (.node (obK 2 P) (.node (obK 4 P) (.node (obK 8 P) (.node (obK 16 P) (.node (kob P 32) (.node (o109 P) (.node (kob P 128) .nil .nil) .nil) (.node (kob P 32) (.node (kob P 32) .nil .nil) .nil)) (.node (kob P 48) (.node (boot_o_8 P) (.node (o194 P) .nil .nil) .nil) (.node (kob P 32) .nil .nil))) (.node (obK 24 P) (.node (boot_o_8 P) (.node (kob P 72) (.node (kob P 32) .nil .nil) .nil) (.node (o152 P) (.node (kob P 168) .nil .nil) .nil)) (.node (kob P 32) (.node (kob P 88) (.node (kob P 152) .nil .nil) .nil) (.node (boot_o_8 P) .nil .nil)))) (.node (obK 12 P) (.node (obK 20 P) (.node (o81 P) (.node (kob P 68) (.node (kob P 132) .nil .nil) .nil) (.node (kob P 32) (.node (o220 P) .nil .nil) .nil)) (.node (kob P 52) (.node (kob P 84) (.node (boot_o_8 P) .nil .nil) .nil) (.node (o164 P) .nil .nil))) (.node (kob P 32) (.node (o89 P) (.node (o124 P) (.node (kob P 32) .nil .nil) .nil) (.node (kob P 32) .nil .nil)) (.node (kob P 32) (.node (kob P 92) (.node (o209 P) .nil .nil) .nil) (.node (kob P 124) .nil .nil))))) (.node (obK 6 P) (.node (obK 10 P) (.node (obK 18 P) (.node (kob P 34) (.node (kob P 66) (.node (o180 P) .nil .nil) .nil) (.node (kob P 98) (.node (kob P 162) .nil .nil) .nil)) (.node (o95 P) (.node (kob P 32) (.node (kob P 146) .nil .nil) .nil) (.node (kob P 114) .nil .nil))) (.node (obK 26 P) (.node (kob P 32) (.node (o122 P) (.node (kob P 138) .nil .nil) .nil) (.node (boot_o_8 P) .nil .nil)) (.node (o103 P) (.node (o138 P) (.node (o207 P) .nil .nil) .nil) (.node (kob P 32) .nil .nil)))) (.node (obK 14 P) (.node (obK 22 P) (.node (kob P 38) (.node (o115 P) (.node (boot_o_8 P) .nil .nil) .nil) (.node (kob P 102) (.node (o222 P) .nil .nil) .nil)) (.node (o99 P) (.node (kob P 32) (.node (kob P 32) .nil .nil) .nil) (.node (kob P 118) .nil .nil))) (.node (o71 P) (.node (kob P 32) (.node (o126 P) (.node (kob P 142) .nil .nil) .nil) (.node (kob P 110) .nil .nil)) (.node (kob P 62) (.node (boot_o_8 P) (.node (boot_o_8 P) .nil .nil) .nil) (.node (kob P 32) .nil .nil)))))))
noncomputable def trF : Params → BT := fun P => (.node (obK 0 P) (.node (obK 1 P) (.node (kob P 3) (.node (obK 7 P) (.node (obK 15 P) (.node (o72 P) (.node (kob P 32) (.node (boot_o_8 P) .nil .nil) (.node (kob P 32) .nil .nil)) (.node (kob P 95) (.node (kob P 159) .nil .nil) .nil)) (.node (boot_o_8 P) (.node (kob P 32) (.node (kob P 32) .nil .nil) (.node (kob P 207) .nil .nil)) (.node (kob P 111) (.node (boot_o_8 P) .nil .nil) .nil))) (.node (obK 23 P) (.node (kob P 32) (.node (o116 P) (.node (kob P 135) .nil .nil) (.node (kob P 199) .nil .nil)) (.node (o151 P) (.node (kob P 167) .nil .nil) .nil)) (.node (o100 P) (.node (boot_o_8 P) (.node (o201 P) .nil .nil) (.node (kob P 215) .nil .nil)) (.node (kob P 32) (.node (kob P 183) .nil .nil) .nil)))) (.node (obK 11 P) (.node (obK 19 P) (.node (kob P 32) (.node (kob P 32) (.node (kob P 131) .nil .nil) (.node (kob P 32) .nil .nil)) (.node (kob P 99) (.node (kob P 163) .nil .nil) .nil)) (.node (kob P 51) (.node (o131 P) (.node (kob P 32) .nil .nil) (.node (kob P 211) .nil .nil)) (.node (kob P 32) (.node (kob P 179) .nil .nil) .nil))) (.node (obK 27 P) (.node (o88 P) (.node (kob P 32) (.node (kob P 139) .nil .nil) (.node (kob P 203) .nil .nil)) (.node (kob P 107) (.node (o228 P) .nil .nil) .nil)) (.node (o104 P) (.node (kob P 91) (.node (o208 P) .nil .nil) .nil) (.node (o173 P) (.node (kob P 187) .nil .nil) .nil))))) (.node (obK 5 P) (.node (obK 9 P) (.node (obK 17 P) (.node (boot_o_8 P) (.node (kob P 65) (.node (kob P 32) .nil .nil) (.node (kob P 193) .nil .nil)) (.node (o145 P) (.node (o214 P) .nil .nil) .nil)) (.node (kob P 32) (.node (kob P 81) (.node (kob P 145) .nil .nil) (.node (o306 P) .nil .nil)) (.node (boot_o_8 P) (.node (kob P 32) .nil .nil) .nil))) (.node (obK 25 P) (.node (o86 P) (.node (o99 P) (.node (o187 P) .nil .nil) (.node (boot_o_8 P) .nil .nil)) (.node (kob P 32) (.node (o226 P) .nil .nil) .nil)) (.node (o102 P) (.node (kob P 32) (.node (kob P 153) .nil .nil) .nil) (.node (kob P 121) (.node (o282 P) .nil .nil) .nil)))) (.node (obK 13 P) (.node (obK 21 P) (.node (kob P 37) (.node (kob P 69) (.node (kob P 32) .nil .nil) (.node (o294 P) .nil .nil)) (.node (kob P 101) (.node (boot_o_6 P) .nil .nil) .nil)) (.node (kob P 53) (.node (kob P 85) (.node (kob P 149) .nil .nil) (.node (boot_o_8 P) .nil .nil)) (.node (kob P 117) (.node (kob P 32) .nil .nil) .nil))) (.node (o270 P) (.node (o90 P) (.node (o125 P) (.node (boot_o_8 P) .nil .nil) (.node (kob P 32) .nil .nil)) (.node (o157 P) (.node (o230 P) .nil .nil) .nil)) (.node (boot_o_8 P) (.node (kob P 32) (.node (kob P 32) .nil .nil) .nil) (.node (kob P 125) (.node (boot_o_8 P) .nil .nil) .nil)))))) (.node (obK 2 P) (.node (obK 4 P) (.node (obK 8 P) (.node (obK 16 P) (.node (kob P 32) (.node (o109 P) (.node (kob P 128) .nil .nil) (.node (o289 P) .nil .nil)) (.node (kob P 32) (.node (kob P 32) .nil .nil) .nil)) (.node (kob P 48) (.node (boot_o_8 P) (.node (o194 P) .nil .nil) (.node (kob P 32) .nil .nil)) (.node (kob P 32) (.node (kob P 176) .nil .nil) .nil))) (.node (obK 24 P) (.node (boot_o_8 P) (.node (kob P 72) (.node (kob P 32) .nil .nil) (.node (kob P 32) .nil .nil)) (.node (o152 P) (.node (kob P 168) .nil .nil) .nil)) (.node (kob P 32) (.node (kob P 88) (.node (kob P 152) .nil .nil) (.node (kob P 216) .nil .nil)) (.node (boot_o_8 P) (.node (kob P 32) .nil .nil) .nil)))) (.node (obK 12 P) (.node (obK 20 P) (.node (o81 P) (.node (kob P 68) (.node (kob P 132) .nil .nil) (.node (boot_o_8 P) .nil .nil)) (.node (kob P 32) (.node (o220 P) .nil .nil) .nil)) (.node (kob P 52) (.node (kob P 84) (.node (boot_o_8 P) .nil .nil) (.node (kob P 32) .nil .nil)) (.node (o164 P) (.node (kob P 180) .nil .nil) .nil))) (.node (kob P 32) (.node (o89 P) (.node (o124 P) (.node (kob P 32) .nil .nil) (.node (kob P 204) .nil .nil)) (.node (kob P 32) (.node (kob P 32) .nil .nil) .nil)) (.node (kob P 32) (.node (kob P 92) (.node (o209 P) .nil .nil) .nil) (.node (kob P 124) (.node (kob P 32) .nil .nil) .nil))))) (.node (obK 6 P) (.node (obK 10 P) (.node (obK 18 P) (.node (kob P 34) (.node (kob P 66) (.node (o180 P) .nil .nil) (.node (kob P 194) .nil .nil)) (.node (kob P 98) (.node (kob P 162) .nil .nil) .nil)) (.node (o95 P) (.node (kob P 32) (.node (kob P 146) .nil .nil) (.node (kob P 210) .nil .nil)) (.node (kob P 114) (.node (o275 P) .nil .nil) .nil))) (.node (obK 26 P) (.node (kob P 32) (.node (o122 P) (.node (kob P 138) .nil .nil) (.node (o299 P) .nil .nil)) (.node (boot_o_8 P) (.node (kob P 170) .nil .nil) .nil)) (.node (o103 P) (.node (o138 P) (.node (o207 P) .nil .nil) .nil) (.node (kob P 32) (.node (kob P 186) .nil .nil) .nil)))) (.node (obK 14 P) (.node (obK 22 P) (.node (kob P 38) (.node (o115 P) (.node (boot_o_8 P) .nil .nil) (.node (kob P 198) .nil .nil)) (.node (kob P 102) (.node (o222 P) .nil .nil) .nil)) (.node (o99 P) (.node (kob P 32) (.node (kob P 32) .nil .nil) (.node (o311 P) .nil .nil)) (.node (kob P 118) (.node (boot_o_8 P) .nil .nil) .nil))) (.node (o71 P) (.node (kob P 32) (.node (o126 P) (.node (kob P 142) .nil .nil) (.node (boot_o_8 P) .nil .nil)) (.node (kob P 110) (.node (kob P 32) .nil .nil) .nil)) (.node (kob P 62) (.node (boot_o_8 P) (.node (boot_o_8 P) .nil .nil) .nil) (.node (kob P 32) (.node (kob P 190) .nil .nil) .nil)))))))
noncomputable def vw : Program := PySem.W.view PySem.Challenge.pw_dn0072_01 [0, 1, 2, 4, 6, 8, 9, 11, 13, 14, 16, 17, 18, 20, 21, 23, 24, 26, 28, 29, 30, 31, 32]
noncomputable def asL : List Addr := [2, 3, 32, 34, 35, 37, 38, 46, 48, 49, 51, 52, 53, 60, 62, 63, 65, 66, 67, 68, 69, 72, 79, 81, 82, 84, 85, 86, 88,
      89, 91, 92, 93, 95, 96, 98, 99, 100, 101, 102, 105, 107, 108, 110, 111, 112, 114, 115, 117, 118, 119, 121, 122,
      124, 125, 126, 128, 129, 131, 132, 133, 135, 136, 138, 139, 140, 142, 143, 145, 146, 147, 149, 150, 152, 153, 157,
      159, 160, 162, 163, 167, 168, 170, 174, 176, 177, 179, 180, 181, 183, 184, 186, 187, 188, 190, 191, 193, 194, 195,
      198, 199, 200, 203, 204, 205, 207, 208, 210, 211, 212, 215, 216]
theorem asE : ∀ P, asL = (KH P).map (·.1) := fun _ => by kernel_rfl
noncomputable abbrev HK : Hook := kmHook KH asL asE [182]
abbrev looseL : List Str := [Str.ofString "_twin_re_1", Str.ofString "_special_chars_map"]
noncomputable abbrev hp0 (P : Params) : Heap := ⟨⟨os0 P⟩, {}⟩
noncomputable abbrev hpA (P : Params) : Heap := ⟨⟨osA P⟩, {}⟩
noncomputable abbrev hpF (P : Params) : Heap := absHeap (trF P) 217 {}
noncomputable abbrev envT : Env := { scope := prg.main.scope, locals := mainNs, globals := mainNs, cells := [], code := Value.ref 30, frame := some 31 }
noncomputable abbrev codT : Code := .body (behindTheImports prg) envT
abbrev pos0 : Pos := ⟨0, 0, 0, 0⟩
abbrev frT : List Frame := [topFrame pos0]
theorem opn (w : World) : (fencedOpening treeTable prg w 5764).map (fun s => (s.heap, s.gens, s.drawn, s.toks)) = some (hp0 w.params, #[], {}, 276) := runO_of (by kernel_rfl)
theorem sizeT (w : World) : ((hp0 w.params).isNs mainGlobals && (#[] : Array GenState).size == 0, (hp0 w.params).objs.size, (hp0 w.params).nsMap mainGlobals "__annotations__") = (true, 28, some (Value.ref 6)) := by
  kernel_rfl
theorem preT (w : World) (os : OsState) : topGo treeTable prg w 28 (some (Value.ref 6)) 12 ⟨hp0 w.params, #[], {}, 276, os⟩ (topStub prg) = some (⟨hpA w.params, #[], {}, 282, os⟩, ⟨denote treeTable codT, codT, pos0, frT⟩) := by
  kernel_rfl
theorem blkT (w : World) (os : OsState) : segRun treeTable prg w 28 (some (Value.ref 6)) 1 1 ⟨hpA w.params, #[], {}, 282, os⟩ (blockOf (behindTheImports prg) envT codT pos0 frT) = some (.next, (SharedT.mk (trB w.params) 32 {} #[] {} 282 os).abs, codT, pos0) := by
  kernel_rfl
noncomputable abbrev part1 : List Stmt := (behindTheImports prg).take 22
noncomputable abbrev part2 : List Stmt := (behindTheImports prg).drop 22
def Seg1 (w : World) : Prop := ∀ os : OsState, segRunT treeTable prg w 28 (some (Value.ref 6)) 1 1339 ⟨trB w.params, 32, {}, #[], {}, 282, os⟩ (piecesOf part1 envT codT pos0 frT) = some (.next, ⟨trM w.params, 169, {}, #[], {}, 540, os⟩, codT, ⟨133, 0, 133, 8⟩)
def Seg2 (w : World) : Prop := ∀ os : OsState, segRunT treeTable prg w 28 (some (Value.ref 6)) 1 1487 ⟨trM w.params, 169, {}, #[], {}, 540, os⟩ (piecesOf part2 envT codT ⟨133, 0, 133, 8⟩ frT) = some (.next, ⟨trF w.params, 217, {}, #[], {}, 757, os⟩, codT, ⟨246, 0, 271, 15⟩)
theorem seg1f (w : World) : Seg1 (w.withFollow "special-get-raises" false) := fun os => by
  rewrite [PySem.W.Fast.te10110043849684766642, PySem.W.Fast.te14364793385576792824]
  kernel_rfl
theorem seg1t (w : World) : Seg1 (w.withFollow "special-get-raises" true) := fun os => by
  rewrite [PySem.W.Fast.te10110043849684766642, PySem.W.Fast.te14364793385576792824]
  kernel_rfl
theorem seg2ff (w : World) : Seg2 ((w.withFollow "special-get-raises" false).withFollow "comprehension-iter-twice" false) := fun os => by
  rewrite [PySem.W.Fast.te10110043849684766642, PySem.W.Fast.te14364793385576792824]
  kernel_rfl
theorem seg2ft (w : World) : Seg2 ((w.withFollow "special-get-raises" false).withFollow "comprehension-iter-twice" true) := fun os => by
  rewrite [PySem.W.Fast.te10110043849684766642, PySem.W.Fast.te14364793385576792824]
  kernel_rfl
theorem seg2tf (w : World) : Seg2 ((w.withFollow "special-get-raises" true).withFollow "comprehension-iter-twice" false) := fun os => by
  rewrite [PySem.W.Fast.te10110043849684766642, PySem.W.Fast.te14364793385576792824]
  kernel_rfl
theorem seg2tt (w : World) : Seg2 ((w.withFollow "special-get-raises" true).withFollow "comprehension-iter-twice" true) := fun os => by
  rewrite [PySem.W.Fast.te10110043849684766642, PySem.W.Fast.te14364793385576792824]
  kernel_rfl
theorem seg1 : ∀ w : World, Seg1 w := byRow2 "special-get-raises" seg1f seg1t
theorem seg2 : ∀ w : World, Seg2 w := byRow2 "comprehension-iter-twice" (fun w => byRow2 "special-get-raises" (P := fun w => Seg2 (w.withFollow "comprehension-iter-twice" false)) seg2ff seg2tf w) (fun w => byRow2 "special-get-raises" (P := fun w => Seg2 (w.withFollow "comprehension-iter-twice" true)) seg2ft seg2tt w)
theorem lastT (w : World) (os : OsState) : topRun treeTable prg w 28 (some (Value.ref 6)) 2 (SharedT.mk (trF w.params) 217 {} #[] {} 757 os).abs (restOf [] envT codT ⟨246, 0, 271, 15⟩ frT) = some ⟨hpF w.params, #[], {}, 757, os⟩ := by
  kernel_rfl
theorem runT (w : World) (os : OsState) : topRun treeTable prg w 28 (some (Value.ref 6)) (12 + (1 + (1339 + (1487 + 2)))) ⟨hp0 w.params, #[], {}, 276, os⟩ (topStub prg) = some ⟨hpF w.params, #[], {}, 757, os⟩ := by
  refine go_top (preT w os) (piece_block (blkT w os) ?_)
  have e : behindTheImports prg = part1 ++ (part2 ++ []) := by rw [List.append_nil]; exact (List.take_append_drop _ _).symm
  have k2 := piece_app (q := pos0) (rest := []) (segRun_of (seg2 w os)) (lastT w os)
  have k1 := piece_app (q := pos0) (rest := part2 ++ []) (segRun_of (seg1 w os)) k2
  rw [← e] at k1
  exact k1
theorem looksT (w : World) (os : OsState) : (staticsOk (importedModules prg.main.body) (hp0 w.params) (hpF w.params) && namesBound prg (hpF w.params) && gensDone { heap := hpF w.params, gens := #[], drawn := {}, toks := 757, os := os } && laidKept (hp0 w.params) (hpF w.params),
  openSeen vw looseL (importedModules prg.main.body) (fun s => xlAt vw [] s && recOk (RowW.records PySem.Challenge.rw_dn0072_01.row.toRowW) s) true { heap := hpF w.params, gens := #[], drawn := {}, toks := 757, os := os }, HK.obs { heap := hpF w.params, gens := #[], drawn := {}, toks := 757, os := os }) = (true, openGood vw looseL, HK.val w) := by
  rewrite [PySem.W.Fast.te4187177175401517315]
  kernel_rfl
theorem leftT : LeftO prg vw looseL (fun s => xlAt vw [] s && recOk (RowW.records PySem.Challenge.rw_dn0072_01.row.toRowW) s) HK.obs HK.val 5764 :=
  LeftO.of_pieces opn sizeT runT (by decide) fun w => funext fun os => looksT w os
theorem saidT : PySem.Challenge.rw_dn0072_01.wellSaid = true := by
  rewrite [PySem.W.Fast.te9446332074065402090]
  kernel_rfl
/-- the law's promise, by its call alone -/
theorem holdsBy {d : DefRec} {kwd : List (Str × PySem.Expr)} (hdef : defOf vw PySem.Challenge.rw_dn0072_01.row.name = some (d, kwd)) (hp : PySem.Challenge.rw_dn0072_01.row.prog.theDef PySem.Challenge.rw_dn0072_01.row.name = some (d.params, d.body, d.scope))
    (hk : kwWritten? d.params.kwonlyargs d.params.kw_defaults = some kwd) (call : WalkO vw looseL (XL vw []) HK.says PySem.Challenge.rw_dn0072_01.row.toRowW d kwd fun f vs => PySem.call f vs) : PySem.Challenge.rw_dn0072_01.Holds := by
  refine holds_law saidT fun said => ?_
  refine holds_open (q := vw) (loose := looseL) (Xt := fun s => xlAt vw [] s && recOk (RowW.records PySem.Challenge.rw_dn0072_01.row.toRowW) s) (XP := XL vw []) (Yf := HK.obs) (Ya := HK.val) (YP := HK.says) (N := 5764) leftT HK.of HK.keeps (fun s e => xl_of s (Bool.and_eq_true_iff.mp e).1) XL.keeps hdef hp hk (fun s e => recFacts_of (Bool.and_eq_true_iff.mp e).2) (by rfl) said (by decide +kernel) ⟨rfl, rfl, rfl, rfl, rfl, by decide +kernel⟩ ?hw call
  exact ⟨[.list [.int 3, .int 1]], by decide +kernel, by decide +kernel⟩
section
abbrev Led := List (Addr × Obj)
abbrev NoE : Value → Shared → Prop := fun _ _ => False
/-- the sequence object of a ledger -/
abbrev seqO (T : String) (its : List Value) (ep : Nat) : Obj := { cls := .type T, data := .seq its.toArray ep }
abbrev AtA (dp un : Nat) (gd : Option (List Code)) (env : Env) (outer : List Env) : Around := { handled := none, depth := dp, frames := some (env :: outer), guards := gd, units := un }

/-- what a call of the def f with vs hands back, in any caller's frame -/
def Con (w : World) (f : Addr) (dep unit : Nat) (news : Led) (vs : List Value) (Out : Value → Led → Prop) : Prop :=
  ∀ (prog : Program) (p : Program) (loose : List Str) (mean : ExcName → Option Value) (mg mb : Str → Option Value) (dp un : Nat) (gd : Option (List Code)) (env : Env) (outer : List Env) (A₀ : Around) (base h₀ : Heap) (L : Addr) (m : Str → Option Value) (s : Shared) (Q E : Value → Shared → Prop),
    Below A₀ base outer h₀ → Fr h₀ L s.heap m → (KH w.params).In h₀ → News h₀ L s.heap news → Top p loose mean mg mb h₀ → env.frame = some L → env.scope.kind = .function →
    dp + dep < recursionLimit → un + 3 * unit < cLine →
    (∀ r nn h' tk', Fr h₀ L h' m → News h₀ L h' nn → Out r nn → Q r { s with heap := h', toks := tk' }) →
    wpAny (model prog w) (AtA dp un gd env outer) (call (.ref f) vs) Q E s

/-- a body's end -/
def FinB (g : Heap) (L : Addr) (s : Shared) (Out : Value → Led → Prop) (fl : Flow) (s' : Shared) : Prop :=
  ∃ r h' tk' m' nn, fl = .ret r ∧ s' = { s with heap := h', toks := tk' } ∧ Fr g L h' m' ∧ News g L h' nn ∧ Out r nn
theorem FinB.intro {g : Heap} {L : Addr} {s : Shared} {Out : Value → Led → Prop} {r : Value} {h' : Heap} {tk' : Nat} {m' : Str → Option Value} {nn : Led}
    (F : Fr g L h' m') (N : News g L h' nn) (o : Out r nn) : FinB g L s Out (.ret r) { s with heap := h', toks := tk' } := ⟨r, h', tk', m', nn, rfl, rfl, F, N, o⟩

theorem con_of {w : World} {f : Addr} {dep unit : Nat} {news : Led} {vs : List Value} {Out : Value → Led → Prop}
    {name qual : Str} {params : Arguments} {body : List Stmt} {scope : Scope} {dV kV doc pm cdv ct oc : Value} {an od : Option Addr} {osl : Array (Option Value)} (binds : List (Str × Value))
    (ho : (KH w.params).lookup f = some ⟨oc, od, .func (fnOf name qual params body scope dV kV doc pm an cdv ct), osl⟩) (hcd : codeIn (KH w.params) cdv qual = true)
    (hbind : bindArgs (fnOf name qual params body scope dV kV doc pm an cdv ct) ⟨vs, []⟩ = pure binds) (hloc : ∀ y ∈ binds, scope.names.lookup y.1 = some .local)
    (hco : scope.isCoroutine = false) (hgen : scope.isGenerator = false) (hk : scope.kind = .function) (hcell : ∀ x ∈ scope.names, x.2 ≠ .cell)
    (h : ∀ (prog p : Program) (loose : List Str) (mean : ExcName → Option Value) (mg mb : Str → Option Value) (dp un : Nat) (gd : Option (List Code)) (outer : List Env) (A₀ : Around) (base g : Heap) (L : Addr) (h₁ : Heap) (s : Shared) (tk : Nat),
      Below A₀ base outer g → Fr g L h₁ (fun y => binds.reverse.lookup y) → (KH w.params).In g → News g L h₁ news → Top p loose mean mg mb g → dp + dep < recursionLimit → un + 3 * unit < cLine →
      wpAny (model prog w) (AtA dp un gd (envOf qual scope L f cdv) outer) (execs body (envOf qual scope L f cdv)) (FinB g L s Out) NoE { s with heap := h₁, toks := tk }) :
    Con w f (dep + 1) (unit + 1) news vs Out := by
  intro prog p loose mean mg mb dp un gd env outer A₀ base h₀ L m s Q E B F X N T hf hke hd hu hret
  refine wpAny_call (code_def B F X N T rfl hf hke ho hcd (show dp < recursionLimit by omega) (BindsTo.of_eq hbind) hloc (fun g L' h₁ FG F' N' B' X' T' => ?_) hco hgen hk hcell)
  refine wpAny_mono (h prog p loose mean mg mb (dp + 1) (un + 3) gd (env :: outer) _ base g L' h₁ s (s.toks + binds.length) B' F' X' N' T' (by omega) (by omega)) (fun fl s' hfl => ?_) (fun _ _ x => x.elim)
  obtain ⟨r, h', tk', m', nn, rfl, rfl, F₂, N₂, o⟩ := hfl
  exact leaveK_ F₂ N₂ fun F₃ N₃ => hret r nn h' tk' F₃ N₃ o

section
variable {prog : Program} {w : World} {A : Around} {s : Shared} {env : Env} {h₀ : Heap} {L : Addr} {σ : Type}

theorem fr_named {h : Heap} {ps : List (Str × Value)} {m₁ : Str → Option Value} (h1 : ∀ p ∈ ps, m₁ p.1 = some p.2) (F : Fr h₀ L h m₁) : Fr h₀ L h (kstB m₁ ps) := by
  have em : kstB m₁ ps = m₁ := by
    funext y
    exact kstB_eq h1 fun _ => rfl
  rw [em]; exact F

/-- a while's turn's end -/
def WEnd (h₀ : Heap) (L : Addr) (s : Shared) (Ld : σ → Led) (ps : σ → List (Str × Value)) (P : σ → Prop) (μ : σ → Nat) (n : Nat) (s₂ : Shared) : Prop :=
  ∃ (c' : σ) (h' : Heap) (tk : Nat) (m' : Str → Option Value) (nn : Led), s₂ = { s with heap := h', toks := tk } ∧ Fr h₀ L h' m' ∧ News h₀ L h' nn ∧ (∀ p ∈ Ld c', p ∈ nn) ∧ (∀ p ∈ ps c', m' p.1 = some p.2) ∧ P c' ∧ μ c' < n
def WPost (h₀ : Heap) (L : Addr) (s : Shared) (Ld : σ → Led) (ps : σ → List (Str × Value)) (P : σ → Prop) (μ : σ → Nat) (Q : Flow → Shared → Prop) (n : Nat) (f : Flow) (s₂ : Shared) : Prop :=
  match f with
  | .ret v => Q (.ret v) s₂
  | .brk => Q .next s₂
  | _ => WEnd h₀ L s Ld ps P μ n s₂
theorem WEnd.intro {Ld : σ → Led} {ps : σ → List (Str × Value)} {P : σ → Prop} {μ : σ → Nat} {n : Nat} {h' : Heap} {tk : Nat} {m' : Str → Option Value} {nn : Led} (c' : σ)
    (F : Fr h₀ L h' m') (N : News h₀ L h' nn) (hn : ∀ p ∈ Ld c', p ∈ nn) (hk : ∀ p ∈ ps c', m' p.1 = some p.2) (hp : P c') (hm : μ c' < n) :
    WEnd h₀ L s Ld ps P μ n { s with heap := h', toks := tk } := ⟨c', h', tk, m', nn, rfl, F, N, hn, hk, hp, hm⟩

theorem my_while {test : Expr} {body : List Stmt} {pos : Pos} {m₀ : Str → Option Value} {Q : Flow → Shared → Prop} (Ld : σ → Led) (ps : σ → List (Str × Value)) (P : σ → Prop) (μ : σ → Nat) (c₀ : σ)
    (F : Fr h₀ L s.heap m₀) (N : News h₀ L s.heap (Ld c₀)) (hk : ∀ p ∈ ps c₀, m₀ p.1 = some p.2) (hp : P c₀)
    (turn : ∀ (c : σ) (m₁ : Str → Option Value) h tk, P c → Fr h₀ L h (kstB m₁ (ps c)) → News h₀ L h (Ld c) →
      wpAny (model prog w) A (isTrue test env (eval test env)) (fun b s₂ =>
        if b = true then wpAny (model prog w) A (execs body env) (WPost h₀ L s Ld ps P μ Q (μ c)) NoE s₂ else Q .next s₂) NoE { s with heap := h, toks := tk }) :
    wpAny (model prog w) A (exec (.While test body [] pos) env) Q NoE s := by
  refine While_inv2 (fun n m nx => ∃ c : σ, nx = Ld c ∧ μ c = n ∧ (∀ p ∈ ps c, m p.1 = some p.2) ∧ P c) F N ⟨c₀, rfl, rfl, hk, hp⟩ ?_ (fun _ _ x => x.elim)
  rintro n m₁ nx h tk F₁ N₁ ⟨c, hnx, hsz, h1, hp'⟩
  rw [hnx] at N₁
  rw [← hsz]
  refine wpAny_mono (turn c m₁ h tk hp' (fr_named h1 F₁) N₁) (fun b s₂ p => ?_) fun _ _ x => x
  cases b with
  | false => simpa using p
  | true =>
    simp only [if_true] at p ⊢
    refine wpAny_mono p (fun f s₃ q => ?_) fun _ _ x => x
    cases f with
    | ret v => exact q
    | brk => exact q
    | next =>
      obtain ⟨c', h', tk', m', news', rfl, F', N', hn, hk9, hp9, hm9⟩ := q
      exact ⟨h', tk', m', Ld c', μ c', rfl, F', fun p hp => N' p (hn p hp), hm9, c', rfl, rfl, hk9, hp9⟩
    | cont =>
      obtain ⟨c', h', tk', m', news', rfl, F', N', hn, hk9, hp9, hm9⟩ := q
      exact ⟨h', tk', m', Ld c', μ c', rfl, F', fun p hp => N' p (hn p hp), hm9, c', rfl, rfl, hk9, hp9⟩

/-- a for's turn's end -/
def FEnd (h₀ : Heap) (L : Addr) (s : Shared) (Ld : Nat → σ → Led) (ps : Nat → σ → List (Str × Value)) (P : Nat → σ → Prop) (i : Nat) (I : Addr) (oI : Obj) (s₂ : Shared) : Prop :=
  ∃ (c' : σ) (h' : Heap) (tk : Nat) (m' : Str → Option Value) (nn : Led), s₂ = { s with heap := h', toks := tk } ∧ Fr h₀ L h' m' ∧ News h₀ L h' nn ∧ (I, oI) ∈ nn ∧ (∀ p ∈ Ld (i + 1) c', p ∈ nn ∧ p.1 ≠ I) ∧ (∀ p ∈ ps (i + 1) c', m' p.1 = some p.2) ∧ P (i + 1) c'
def FPost (h₀ : Heap) (L : Addr) (s : Shared) (Ld : Nat → σ → Led) (ps : Nat → σ → List (Str × Value)) (P : Nat → σ → Prop) (Q : Flow → Shared → Prop) (i : Nat) (I : Addr) (oI : Obj) (f : Flow) (s₂ : Shared) : Prop :=
  match f with
  | .ret v => Q (.ret v) s₂
  | .brk => Q .next s₂
  | _ => FEnd h₀ L s Ld ps P i I oI s₂
theorem FEnd.intro {Ld : Nat → σ → Led} {ps : Nat → σ → List (Str × Value)} {P : Nat → σ → Prop} {i : Nat} {I : Addr} {oI : Obj} {h' : Heap} {tk : Nat} {m' : Str → Option Value} {nn : Led} (c' : σ)
    (F : Fr h₀ L h' m') (N : News h₀ L h' nn) (hI : (I, oI) ∈ nn) (hn : ∀ p ∈ Ld (i + 1) c', p ∈ nn ∧ p.1 ≠ I) (hk : ∀ p ∈ ps (i + 1) c', m' p.1 = some p.2) (hp : P (i + 1) c') :
    FEnd h₀ L s Ld ps P i I oI { s with heap := h', toks := tk } := ⟨c', h', tk, m', nn, rfl, F, N, hI, hn, hk, hp⟩

theorem for_core {x : Str} {px : Pos} {body : List Stmt} {Q : Flow → Shared → Prop} {I : Addr} {fp : List Addr} {n : Nat} {PV : Nat → Value → Prop} {St : Nat → Heap → Prop}
    (Ld : Nat → σ → Led) (ps : Nat → σ → List (Str × Value)) (P : Nat → σ → Prop) (c₀ : σ) {m₀ : Str → Option Value}
    (W : Walks prog w A I fp [I] n PV St) (hIo : ∀ i h, St i h → ∃ o, h.get? I = some o)
    (hSt : ∀ i h h' o c, St i h → h.get? I = some o → h'.get? I = some o → News h₀ L h' (Ld i c) → P i c → (∀ b o, h₀.get? b = some o → h'.get? b = some o) → St i h')
    (hst : St 0 s.heap) (F : Fr h₀ L s.heap m₀) (N : News h₀ L s.heap (Ld 0 c₀)) (hIL : L ≠ I) (hI₀ : h₀.get? I = none) (off : ∀ p ∈ Ld 0 c₀, p.1 ≠ I)
    (hk : ∀ p ∈ ps 0 c₀, m₀ p.1 = some p.2) (hp : P 0 c₀)
    (turn : ∀ i v (c : σ) (m₁ : Str → Option Value) (oI : Obj) h tk, i < n → PV i v → P i c → (∀ p ∈ Ld i c, p.1 ≠ I) → Fr h₀ L h (kstB m₁ (ps i c)) → News h₀ L h ((I, oI) :: Ld i c) →
      wpAny (model prog w) A (storeName env x v) (fun _ s₂ => wpAny (model prog w) A (execs body env) (FPost h₀ L s Ld ps P Q i I oI) NoE s₂) NoE { s with heap := h, toks := tk })
    (done : ∀ (c : σ) (m₁ : Str → Option Value) h tk, P n c → Fr h₀ L h (kstB m₁ (ps n c)) → News h₀ L h (Ld n c) → Q .next { s with heap := h, toks := tk }) :
    codeAny (model prog w) A (.forLoop (.Name x px) (.ref I) body [] env) (fun r s' => match r with | .ok f => Q f s' | .error e => cameBackBy (model prog w) A env NoE e s') s := by
  refine codeAny_forLoop
    (fun k s' => ∃ h' tk m' c i, s' = { s with heap := h', toks := tk } ∧ St i h' ∧ Fr h₀ L h' m' ∧ News h₀ L h' (Ld i c) ∧ (∀ p ∈ Ld i c, p.1 ≠ I) ∧ (∀ p ∈ ps i c, m' p.1 = some p.2) ∧ P i c ∧ i ≤ n ∧ k = n + 1 - i) ?_ (n + 1)
    ⟨s.heap, s.toks, m₀, c₀, 0, rfl, hst, F, N, off, hk, hp, Nat.zero_le _, rfl⟩
  rintro k s' ⟨h', tk, m', c, i, rfl, hst', F', N', off', hk', hp', hi, rfl⟩
  by_cases hlt : i < n
  · refine W.item i _ _ _ hlt hst' fun v h₁ tk₁ hPv hst₁ hk₁ => ?_
    obtain ⟨oI, heI⟩ := hIo _ _ hst₁
    have F₁ := LCg.fr_but F' hk₁ hIL hI₀
    have N₁ := LCg.news_but N' hk₁ off'
    have N₂ : News h₀ L h₁ ((I, oI) :: Ld i c) := fun p hp => by
      rcases List.mem_cons.mp hp with rfl | hp
      · exact ⟨heI, Ne.symm hIL, hI₀⟩
      · exact N₁ p hp
    refine wpAny_assign_Name (wpAny_mono (turn i v c m' oI h₁ tk₁ hlt hPv hp' off' (fr_named hk' F₁) N₂) (fun _ s₂ h₂ => ?_) fun _ _ x => x.elim)
    refine wpAny_mono h₂ (fun f s₃ q => ?_) fun _ _ x => x.elim
    have fin : FEnd h₀ L s Ld ps P i I oI s₃ → ∃ m, m < n + 1 - i ∧ ∃ h' tk m' c i, s₃ = { s with heap := h', toks := tk } ∧ St i h' ∧ Fr h₀ L h' m' ∧ News h₀ L h' (Ld i c) ∧ (∀ p ∈ Ld i c, p.1 ≠ I) ∧ (∀ p ∈ ps i c, m' p.1 = some p.2) ∧ P i c ∧ i ≤ n ∧ m = n + 1 - i := by
      rintro ⟨c', h₄, tk₄, m₄, nn, rfl, F₄, N₄, hI, hn, hk₄, hp₄⟩
      have N₅ : News h₀ L h₄ (Ld (i + 1) c') := fun p hp => N₄ p (hn p hp).1
      exact ⟨n + 1 - (i + 1), by omega, h₄, tk₄, m₄, c', i + 1, rfl, hSt _ _ _ _ _ hst₁ heI (N₄ _ hI).1 N₅ hp₄ F₄.keep, F₄, N₅, fun p hp => (hn p hp).2, hk₄, hp₄, hlt, rfl⟩
    cases f with
    | next => exact fin q
    | cont => exact fin q
    | brk => exact q
    | ret v => exact q
  · obtain rfl : i = n := Nat.le_antisymm hi (Nat.not_lt.mp hlt)
    refine W.done _ _ _ hst' fun h₁ tk₁ hk₁ => wpAny_execs_nil ?_
    exact done c m' h₁ tk₁ hp' (fr_named hk' (LCg.fr_but F' hk₁ hIL hI₀)) (LCg.news_but N' hk₁ off')

theorem for_list {x : Str} {px : Pos} {body : List Stmt} {Q : Flow → Shared → Prop} {l : Addr} {its : List Value} {ep : Nat}
    (Ld : Nat → σ → Led) (ps : Nat → σ → List (Str × Value)) (P : Nat → σ → Prop) (c₀ : σ) {m₀ : Str → Option Value} (hh : A.handled = none)
    (hl : ∀ i c, P i c → (l, seqO "list" its ep) ∈ Ld i c) (F : Fr h₀ L s.heap m₀) (N : News h₀ L s.heap (Ld 0 c₀))
    (hk : ∀ p ∈ ps 0 c₀, m₀ p.1 = some p.2) (hp : P 0 c₀)
    (turn : ∀ i v (c : σ) (m₁ : Str → Option Value) (I : Addr) (oI : Obj) h tk, its[i]? = some v → P i c → (∀ p ∈ Ld i c, p.1 ≠ I) → Fr h₀ L h (kstB m₁ (ps i c)) → News h₀ L h ((I, oI) :: Ld i c) →
      wpAny (model prog w) A (storeName env x v) (fun _ s₂ => wpAny (model prog w) A (execs body env) (FPost h₀ L s Ld ps P Q i I oI) NoE s₂) NoE { s with heap := h, toks := tk })
    (done : ∀ (c : σ) (m₁ : Str → Option Value) h tk, P its.length c → Fr h₀ L h (kstB m₁ (ps its.length c)) → News h₀ L h (Ld its.length c) → Q .next { s with heap := h, toks := tk }) :
    wpAny (model prog w) A (pyIter (.ref l)) (fun it s₂ => codeAny (model prog w) A (.forLoop (.Name x px) it body [] env) (fun r s' => match r with | .ok f => Q f s' | .error e => cameBackBy (model prog w) A env NoE e s') s₂) NoE s := by
  have hls : s.heap.IsList l its.toArray := N.isList (hl 0 c₀ hp)
  refine wpAny_pyIter_list hls ?_
  have hlt : l < s.heap.objs.size := Heap.lt_size (N _ (hl 0 c₀ hp)).1
  have W := Walks.list (prog := prog) (w := w) hh s.heap.objs.size l (Nat.ne_of_lt hlt) its.toArray
  have hlen : its.toArray.size = its.length := List.size_toArray ..
  rw [hlen] at W
  refine for_core (s := { s with heap := s.heap.push { cls := .type "list_iterator", data := .fields #[.ref l, .int 0 0] } }) Ld ps P c₀ W (fun i h st => by obtain ⟨o, e, _⟩ := st.1; exact ⟨o, e⟩)
    (fun i h h' o c st e e' N' hP _ => ⟨by obtain ⟨o', q, r⟩ := st.1; rw [e] at q; cases q; exact ⟨o, e', r⟩, N'.isList (hl i c hP)⟩)
    ⟨⟨_, Heap.get?_push_size _ rfl, rfl, rfl⟩, hls.push _⟩ (F.push _) (N.grown fun b o e => Heap.get?_push_of_some _ e) (Nat.ne_of_lt F.ns.lt) (next_is_new F) (fun p hp => Nat.ne_of_lt (Heap.lt_size (N p hp).1)) hk hp
    (fun i v c m₁ oI h tk hi hv hP off F' N' => turn i v c m₁ _ oI h tk (by simpa using hv) hP off F' N') done

theorem for_tuple {x : Str} {px : Pos} {body : List Stmt} {Q : Flow → Shared → Prop} {l : Addr} {its : List Value} {ep : Nat}
    (Ld : Nat → σ → Led) (ps : Nat → σ → List (Str × Value)) (P : Nat → σ → Prop) (c₀ : σ) {m₀ : Str → Option Value} (hh : A.handled = none)
    (hl : ∀ i c, P i c → (l, seqO "tuple" its ep) ∈ Ld i c) (F : Fr h₀ L s.heap m₀) (N : News h₀ L s.heap (Ld 0 c₀))
    (hk : ∀ p ∈ ps 0 c₀, m₀ p.1 = some p.2) (hp : P 0 c₀)
    (turn : ∀ i v (c : σ) (m₁ : Str → Option Value) (I : Addr) (oI : Obj) h tk, its[i]? = some v → P i c → (∀ p ∈ Ld i c, p.1 ≠ I) → Fr h₀ L h (kstB m₁ (ps i c)) → News h₀ L h ((I, oI) :: Ld i c) →
      wpAny (model prog w) A (storeName env x v) (fun _ s₂ => wpAny (model prog w) A (execs body env) (FPost h₀ L s Ld ps P Q i I oI) NoE s₂) NoE { s with heap := h, toks := tk })
    (done : ∀ (c : σ) (m₁ : Str → Option Value) h tk, P its.length c → Fr h₀ L h (kstB m₁ (ps its.length c)) → News h₀ L h (Ld its.length c) → Q .next { s with heap := h, toks := tk }) :
    wpAny (model prog w) A (pyIter (.ref l)) (fun it s₂ => codeAny (model prog w) A (.forLoop (.Name x px) it body [] env) (fun r s' => match r with | .ok f => Q f s' | .error e => cameBackBy (model prog w) A env NoE e s') s₂) NoE s := by
  have tup : ∀ {h : Heap} {i c}, News h₀ L h (Ld i c) → P i c → h.IsTuple l its.toArray := fun N hP => ⟨_, (N _ (hl _ _ hP)).1, rfl, _, rfl⟩
  have hls : s.heap.IsTuple l its.toArray := tup N hp
  refine wpAny_pyIter_tuple hls ?_
  have hlt : l < s.heap.objs.size := Heap.lt_size (N _ (hl 0 c₀ hp)).1
  have W := Walks.tuple (prog := prog) (w := w) hh s.heap.objs.size l (Nat.ne_of_lt hlt) its.toArray
  have hlen : its.toArray.size = its.length := List.size_toArray ..
  rw [hlen] at W
  have hls' := tup (N.grown fun b o e => Heap.get?_push_of_some { cls := .type "tuple_iterator", data := .fields #[.ref l, .int 0 0] } e) hp
  refine for_core (s := { s with heap := s.heap.push { cls := .type "tuple_iterator", data := .fields #[.ref l, .int 0 0] } }) Ld ps P c₀ W (fun i h st => by obtain ⟨o, e, _⟩ := st.1; exact ⟨o, e⟩)
    (fun i h h' o c st e e' N' hP _ => ⟨by obtain ⟨o', q, r⟩ := st.1; rw [e] at q; cases q; exact ⟨o, e', r⟩, tup N' hP⟩)
    ⟨⟨_, Heap.get?_push_size _ rfl, rfl, rfl⟩, hls'⟩ (F.push _) (N.grown fun b o e => Heap.get?_push_of_some _ e) (Nat.ne_of_lt F.ns.lt) (next_is_new F) (fun p hp => Nat.ne_of_lt (Heap.lt_size (N p hp).1)) hk hp
    (fun i v c m₁ oI h tk hi hv hP off F' N' => turn i v c m₁ _ oI h tk (by simpa using hv) hP off F' N') done

/-- an element's end -/
def CEnd (h₀ : Heap) (L : Addr) (m : Str → Option Value) (s : Shared) (I : Addr) (oI : Obj) (C : Addr) (oC : Obj) (D : Addr) (ys : List Value) (S : Led → Prop) (R : Led → Prop) (s₂ : Shared) : Prop :=
  ∃ h' tk' news', s₂ = { s with heap := h', toks := tk' } ∧ Fr h₀ L h' m ∧ News h₀ L h' ((I, oI) :: (C, oC) :: (D, LCg.lst ys) :: news') ∧ LCg.Off3 I C D news' ∧ S news' ∧ R news'
theorem CEnd.intro {m : Str → Option Value} {I : Addr} {oI : Obj} {C : Addr} {oC : Obj} {D : Addr} {ys : List Value} {S R : Led → Prop} {h' : Heap} {tk' : Nat} {all : Led} (news' : Led)
    (F : Fr h₀ L h' m) (N : News h₀ L h' all) (sub : ∀ p ∈ (I, oI) :: (C, oC) :: (D, LCg.lst ys) :: news', p ∈ all) (off : LCg.Off3 I C D news') (hS : S news') (hR : R news') :
    CEnd h₀ L m s I oI C oC D ys S R { s with heap := h', toks := tk' } := ⟨h', tk', news', rfl, F, fun p hp => N p (sub p hp), off, hS, hR⟩
/-- a comprehension by what holds after i turns -/
theorem comp_rest {elt : Expr} {x : Str} {scope : Scope} {cl : List (Str × Addr)} {m : Str → Option Value} {S : Led → Prop} {PV : Nat → Value → Prop} {Fin : List Value → Led → Prop} {n : Nat} {news : Led} (J : Nat → List Value → Led → Prop) (h0 : J 0 [] news)
    (turn : ∀ i v ys (news : Led) I oI C oC D m₂ h tk, i < n → PV i v → J i ys news → LCg.NsObj oC m₂ → m₂ x = some v → Fr h₀ L h m → News h₀ L h ((I, oI) :: (C, oC) :: (D, LCg.lst ys) :: news) → LCg.Off3 I C D news → ((@Ne Nat I C) ∧ (@Ne Nat I D) ∧ (@Ne Nat C D)) →
      wpAny (model prog w) A (eval elt (compEnvC scope cl C env)) (fun y s₂ => CEnd h₀ L m s I oI C oC D ys S (J (i + 1) (ys ++ [y])) s₂) NoE { s with heap := h, toks := tk })
    (fin : ∀ ys news, J n ys news → Fin ys news) : LCg.CompRest prog w A h₀ L m env elt x scope cl s S PV Fin n 0 [] news := by
  have key : ∀ (j i : Nat) (ys : List Value) (news : Led), i + j = n → J i ys news → LCg.CompRest prog w A h₀ L m env elt x scope cl s S PV Fin j i ys news := by
    intro j
    induction j with
    | zero =>
      intro i ys news hi hJ
      obtain rfl : i = n := by omega
      exact LCg.CompRest.zero (fin ys news hJ)
    | succ j ih =>
      intro i ys news hi hJ
      refine LCg.CompRest.succ ?_
      intro v I oI C oC D m₂ h tk E' hv hC hx F N off ne
      refine wpAny_mono (turn i v ys news I oI C oC D m₂ h tk (by omega) hv hJ hC hx F N off ne) (fun y s₂ hq => ?_) fun _ _ e => e.elim
      obtain ⟨h', tk', nw, e, F', N', off', hS, hJ'⟩ := hq
      exact ⟨h', tk', nw, e, F', N', off', hS, ih (i + 1) _ nw (by omega) hJ'⟩
  exact key n 0 [] news (by omega) h0

theorem comp_restT {ct elt : Expr} {x : Str} {scope : Scope} {cl : List (Str × Addr)} {m : Str → Option Value} {S : Led → Prop} {PV : Nat → Value → Prop} {Fin : List Value → Led → Prop} {n : Nat} {news : Led} (J : Nat → List Value → Led → Prop) (h0 : J 0 [] news)
    (turn : ∀ i v ys (news : Led) I oI C oC D m₂ h tk, i < n → PV i v → J i ys news → LCg.NsObj oC m₂ → m₂ x = some v → Fr h₀ L h m → News h₀ L h ((I, oI) :: (C, oC) :: (D, LCg.lst ys) :: news) → LCg.Off3 I C D news → ((@Ne Nat I C) ∧ (@Ne Nat I D) ∧ (@Ne Nat C D)) →
      wpAny (model prog w) A (isTrue ct (compEnvC scope cl C env) (eval ct (compEnvC scope cl C env))) (fun ok s' => if ok = true then
        wpAny (model prog w) A (eval elt (compEnvC scope cl C env)) (fun y s₂ => CEnd h₀ L m s I oI C oC D ys S (J (i + 1) (ys ++ [y])) s₂) NoE s'
        else CEnd h₀ L m s I oI C oC D ys S (J (i + 1) ys) s') NoE { s with heap := h, toks := tk })
    (fin : ∀ ys news, J n ys news → Fin ys news) : LCt.CompRestT prog w A h₀ L m env ct elt x scope cl s S PV Fin n 0 [] news := by
  have key : ∀ (j i : Nat) (ys : List Value) (news : Led), i + j = n → J i ys news → LCt.CompRestT prog w A h₀ L m env ct elt x scope cl s S PV Fin j i ys news := by
    intro j
    induction j with
    | zero =>
      intro i ys news hi hJ
      obtain rfl : i = n := by omega
      exact LCt.CompRestT.zero (fin ys news hJ)
    | succ j ih =>
      intro i ys news hi hJ
      refine LCt.CompRestT.succ ?_
      intro v I oI C oC D m₂ h tk E' hv hC hx F N off ne
      refine wpAny_mono (turn i v ys news I oI C oC D m₂ h tk (by omega) hv hJ hC hx F N off ne) (fun ok s' hq => ?_) fun _ _ e => e.elim
      cases ok with
      | true =>
        simp only [if_true] at hq ⊢
        refine wpAny_mono hq (fun y s₂ hq => ?_) fun _ _ e => e.elim
        obtain ⟨h', tk', nw, e, F', N', off', hS, hJ'⟩ := hq
        exact ⟨h', tk', nw, e, F', N', off', hS, ih (i + 1) _ nw (by omega) hJ'⟩
      | false =>
        simp only [Bool.false_eq_true, if_false] at hq ⊢
        obtain ⟨h', tk', nw, e, F', N', off', hS, hJ'⟩ := hq
        exact ⟨h', tk', nw, e, F', N', off', hS, ih (i + 1) _ nw (by omega) hJ'⟩
  exact key n 0 [] news (by omega) h0
end

theorem FinB.sub {g : Heap} {L : Addr} {s : Shared} {Out : Value → Led → Prop} {r : Value} {h' : Heap} {tk' : Nat} {m' : Str → Option Value} {nn all : Led}
    (F : Fr g L h' m') (N : News g L h' all) (hs : ∀ p ∈ nn, p ∈ all) (o : Out r nn) : FinB g L s Out (.ret r) { s with heap := h', toks := tk' } := ⟨r, h', tk', m', nn, rfl, rfl, F, fun p hp => N p (hs p hp), o⟩
theorem con_star {w : World} {f : Addr} {dep unit : Nat} {news : Led} {vs ws : List Value} {Out : Value → Led → Prop} {g₁ : World → Program → Addr → Option (List (Str × Value))}
    {name qual : Str} {params : Arguments} {body : List Stmt} {scope : Scope} {dV kV doc pm cdv ct oc : Value} {an od : Option Addr} {osl : Array (Option Value)} (binds : Addr → List (Str × Value))
    (ho : (KH w.params).lookup f = some ⟨oc, od, .func (fnOf name qual params body scope dV kV doc pm an cdv ct), osl⟩) (hcd : codeIn (KH w.params) cdv qual = true)
    (hv : vs.drop (params.posonlyargs.length + params.args.length) = ws)
    (hp : ∀ prog, peek1 (KH w.params) ⟨prog, w.params⟩ (bindArgs (fnOf name qual params body scope dV kV doc pm an cdv ct) ⟨vs, []⟩) = some (({ cls := .type "tuple", data := .seq ws.toArray } : Obj), g₁ w prog))
    (hg : ∀ prog D, g₁ w prog D = some (binds D)) (hloc : ∀ D, ∀ y ∈ binds D, scope.names.lookup y.1 = some .local)
    (hco : scope.isCoroutine = false) (hgen : scope.isGenerator = false) (hk : scope.kind = .function) (hcell : ∀ x ∈ scope.names, x.2 ≠ .cell)
    (h : ∀ (prog p : Program) (loose : List Str) (mean : ExcName → Option Value) (mg mb : Str → Option Value) (dp un : Nat) (gd : Option (List Code)) (outer : List Env) (A₀ : Around) (base g : Heap) (L : Addr) (h₁ : Heap) (s : Shared) (tk : Nat) (D : Addr),
      (∀ p ∈ news, p.1 < D) → Below A₀ base outer g → Fr g L h₁ (fun y => (binds D).reverse.lookup y) → (KH w.params).In g → News g L h₁ ((D, seqO "tuple" ws 0) :: news) → Top p loose mean mg mb g → dp + dep < recursionLimit → un + 3 * unit < cLine →
      wpAny (model prog w) (AtA dp un gd (envOf qual scope L f cdv) outer) (execs body (envOf qual scope L f cdv)) (FinB g L s Out) NoE { s with heap := h₁, toks := tk }) :
    Con w f (dep + 1) (unit + 1) news vs Out := by
  intro prog p loose mean mg mb dp un gd env outer A₀ base h₀ L m s Q E B F X N T hf hke hd hu hret
  refine wpAny_call (kp_rest (args := ⟨vs, []⟩) B F X N T rfl hf hke ho hcd (show dp < recursionLimit by omega) hv (hp prog) (hg prog) hloc (fun D g L' h₁ l FG F' N' B' X' T' => ?_) hco hgen hk hcell)
  refine wpAny_mono (h prog p loose mean mg mb (dp + 1) (un + 3) gd (env :: outer) _ base g L' h₁ s (s.toks + (binds D).length) D l B' F' X' N' T' (by omega) (by omega)) (fun fl s' hfl => ?_) (fun _ _ x => x.elim)
  obtain ⟨r, h', tk', m', nn, rfl, rfl, F₂, N₂, o⟩ := hfl
  exact leaveK_ F₂ N₂ fun F₃ N₃ => hret r nn h' tk' F₃ N₃ o
theorem con_cells {w : World} {f : Addr} {dep unit : Nat} {news : Led} {vs : List Value} {Out : Value → Led → Prop}
    {name qual : Str} {params : Arguments} {body : List Stmt} {scope : Scope} {dV kV doc pm cdv ct oc : Value} {an od : Option Addr} {osl : Array (Option Value)} (binds : List (Str × Value))
    (ho : (KH w.params).lookup f = some ⟨oc, od, .func (fnOf name qual params body scope dV kV doc pm an cdv ct), osl⟩) (hcd : codeIn (KH w.params) cdv qual = true)
    (hbind : bindArgs (fnOf name qual params body scope dV kV doc pm an cdv ct) ⟨vs, []⟩ = pure binds) (hkind : (binds.all fun y => scope.names.lookup y.1 == some .local || scope.names.lookup y.1 == some .cell) = true)
    (hnd : ((cellsFrom 0 scope.names []).map (·.1)).Nodup) (hco : scope.isCoroutine = false) (hgen : scope.isGenerator = false) (hk : scope.kind = .function)
    (h : ∀ (prog p : Program) (loose : List Str) (mean : ExcName → Option Value) (mg mb : Str → Option Value) (dp un : Nat) (gd : Option (List Code)) (outer : List Env) (A₀ : Around) (base g : Heap) (L : Addr) (h₁ : Heap) (s : Shared) (tk : Nat) (cells : Led),
      Below A₀ base outer g → Fr g L h₁ (bindL (envOfC qual scope L f cdv).kindOf binds fun _ => none) → (KH w.params).In g → News g L h₁ (cells ++ news) → CellsAre (bindC (envOfC qual scope L f cdv).kindOf binds fun _ => none) (cellsFrom (L + 1) scope.names []) cells → (∀ p ∈ news, p.1 < L) →
      Top p loose mean mg mb g → dp + dep < recursionLimit → un + 3 * unit < cLine →
      wpAny (model prog w) (AtA dp un gd (envOfC qual scope L f cdv) outer) (execs body (envOfC qual scope L f cdv)) (FinB g L s Out) NoE { s with heap := h₁, toks := tk }) :
    Con w f (dep + 1) (unit + 1) news vs Out := by
  intro prog p loose mean mg mb dp un gd env outer A₀ base h₀ L m s Q E B F X N T hf hke hd hu hret
  refine wpAny_call (code_defC B F X N T rfl hf hke ho hcd (show dp < recursionLimit by omega) (BindsTo.of_eq hbind) hkind hnd (fun g L' h₁ tk cells FG F' N' Y B' X' T' l => ?_) hco hgen hk)
  refine wpAny_mono (h prog p loose mean mg mb (dp + 1) (un + 3) gd (env :: outer) _ base g L' h₁ s tk cells B' F' X' N' Y l T' (by omega) (by omega)) (fun fl s' hfl => ?_) (fun _ _ x => x.elim)
  obtain ⟨r, h', tk', m', nn, rfl, rfl, F₂, N₂, o⟩ := hfl
  exact leaveK_ F₂ N₂ fun F₃ N₃ => hret r nn h' tk' F₃ N₃ o
theorem Con.use {w : World} {f : Addr} {dep unit : Nat} {news : Led} {vs : List Value} {Out : Value → Led → Prop} (C : Con w f dep unit news vs Out)
    {prog : Program} {p : Program} {loose : List Str} {mean : ExcName → Option Value} {mg mb : Str → Option Value} {dp un : Nat} {gd : Option (List Code)} {env : Env} {outer : List Env} {A₀ : Around} {base h₀ : Heap} {L : Addr} {m : Str → Option Value} {s : Shared} {Q E : Value → Shared → Prop}
    (B : Below A₀ base outer h₀) (F : Fr h₀ L s.heap m) (X : (KH w.params).In h₀) (N : News h₀ L s.heap news) (T : Top p loose mean mg mb h₀) (hf : env.frame = some L) (hk : env.scope.kind = .function)
    (hd : dp + dep < recursionLimit) (hu : un + 3 * unit < cLine)
    (ret : ∀ r nn h' tk', Fr h₀ L h' m → News h₀ L h' nn → Out r nn → Q r { s with heap := h', toks := tk' }) :
    wpAny (model prog w) (AtA dp un gd env outer) (call (.ref f) vs) Q E s := C _ _ _ _ _ _ _ _ _ _ _ _ _ _ _ _ _ _ _ B F X N T hf hk hd hu ret
def Hold (P : Prop) : Prop := P
theorem Hold.mk {P : Prop} (h : Hold P) : P := h
theorem Hold.out {P : Prop} (h : P) : Hold P := h
section
variable {prog : Program} {w : World} {A : Around} {s : Shared} {env : Env} {h₀ : Heap} {L : Addr} {σ : Type}
/-- my_while, what stays told once -/
theorem my_whileS {test : Expr} {body : List Stmt} {pos : Pos} {m₀ : Str → Option Value} {Q : Flow → Shared → Prop} (Ld : σ → Led) (Ls : Led) (dy : σ → List (Str × Value)) (st : List (Str × Value)) (P : σ → Prop) (μ : σ → Nat) (c₀ : σ)
    (F : Fr h₀ L s.heap m₀) (N : News h₀ L s.heap (Ld c₀ ++ Ls)) (hk : ∀ p ∈ dy c₀ ++ st, m₀ p.1 = some p.2) (hp : P c₀)
    (turn : ∀ (c : σ) (m₁ : Str → Option Value) h tk, P c → Fr h₀ L h (kstB m₁ (dy c ++ st)) → News h₀ L h (Ld c ++ Ls) →
      wpAny (model prog w) A (isTrue test env (eval test env)) (fun b s₂ =>
        if b = true then wpAny (model prog w) A (execs body env) (WPost h₀ L s (fun c => Ld c ++ Ls) (fun c => dy c ++ st) P μ Q (μ c)) NoE s₂ else Q .next s₂) NoE { s with heap := h, toks := tk }) :
    wpAny (model prog w) A (exec (.While test body [] pos) env) Q NoE s := my_while (fun c => Ld c ++ Ls) (fun c => dy c ++ st) P μ c₀ F N hk hp turn
theorem for_listS {x : Str} {px : Pos} {body : List Stmt} {Q : Flow → Shared → Prop} {l : Addr} {its : List Value} {ep : Nat}
    (Ld : Nat → σ → Led) (Ls : Led) (dy : Nat → σ → List (Str × Value)) (st : List (Str × Value)) (P : Nat → σ → Prop) (c₀ : σ) {m₀ : Str → Option Value} (hh : A.handled = none)
    (hl : (l, seqO "list" its ep) ∈ Ls) (F : Fr h₀ L s.heap m₀) (N : News h₀ L s.heap (Ld 0 c₀ ++ Ls))
    (hk : ∀ p ∈ dy 0 c₀ ++ st, m₀ p.1 = some p.2) (hp : P 0 c₀)
    (turn : ∀ i v (c : σ) (m₁ : Str → Option Value) (I : Addr) (oI : Obj) h tk, its[i]? = some v → P i c → (∀ p ∈ Ld i c ++ Ls, p.1 ≠ I) → Fr h₀ L h (kstB m₁ (dy i c ++ st)) → News h₀ L h ((I, oI) :: (Ld i c ++ Ls)) →
      wpAny (model prog w) A (storeName env x v) (fun _ s₂ => wpAny (model prog w) A (execs body env) (FPost h₀ L s (fun i c => Ld i c ++ Ls) (fun i c => dy i c ++ st) P Q i I oI) NoE s₂) NoE { s with heap := h, toks := tk })
    (done : ∀ (c : σ) (m₁ : Str → Option Value) h tk, P its.length c → Fr h₀ L h (kstB m₁ (dy its.length c ++ st)) → News h₀ L h (Ld its.length c ++ Ls) → Q .next { s with heap := h, toks := tk }) :
    wpAny (model prog w) A (pyIter (.ref l)) (fun it s₂ => codeAny (model prog w) A (.forLoop (.Name x px) it body [] env) (fun r s' => match r with | .ok f => Q f s' | .error e => cameBackBy (model prog w) A env NoE e s') s₂) NoE s :=
  for_list (fun i c => Ld i c ++ Ls) (fun i c => dy i c ++ st) P c₀ hh (fun _ _ _ => List.mem_append_right _ hl) F N hk hp turn done
theorem for_tupleS {x : Str} {px : Pos} {body : List Stmt} {Q : Flow → Shared → Prop} {l : Addr} {its : List Value} {ep : Nat}
    (Ld : Nat → σ → Led) (Ls : Led) (dy : Nat → σ → List (Str × Value)) (st : List (Str × Value)) (P : Nat → σ → Prop) (c₀ : σ) {m₀ : Str → Option Value} (hh : A.handled = none)
    (hl : (l, seqO "tuple" its ep) ∈ Ls) (F : Fr h₀ L s.heap m₀) (N : News h₀ L s.heap (Ld 0 c₀ ++ Ls))
    (hk : ∀ p ∈ dy 0 c₀ ++ st, m₀ p.1 = some p.2) (hp : P 0 c₀)
    (turn : ∀ i v (c : σ) (m₁ : Str → Option Value) (I : Addr) (oI : Obj) h tk, its[i]? = some v → P i c → (∀ p ∈ Ld i c ++ Ls, p.1 ≠ I) → Fr h₀ L h (kstB m₁ (dy i c ++ st)) → News h₀ L h ((I, oI) :: (Ld i c ++ Ls)) →
      wpAny (model prog w) A (storeName env x v) (fun _ s₂ => wpAny (model prog w) A (execs body env) (FPost h₀ L s (fun i c => Ld i c ++ Ls) (fun i c => dy i c ++ st) P Q i I oI) NoE s₂) NoE { s with heap := h, toks := tk })
    (done : ∀ (c : σ) (m₁ : Str → Option Value) h tk, P its.length c → Fr h₀ L h (kstB m₁ (dy its.length c ++ st)) → News h₀ L h (Ld its.length c ++ Ls) → Q .next { s with heap := h, toks := tk }) :
    wpAny (model prog w) A (pyIter (.ref l)) (fun it s₂ => codeAny (model prog w) A (.forLoop (.Name x px) it body [] env) (fun r s' => match r with | .ok f => Q f s' | .error e => cameBackBy (model prog w) A env NoE e s') s₂) NoE s :=
  for_tuple (fun i c => Ld i c ++ Ls) (fun i c => dy i c ++ st) P c₀ hh (fun _ _ _ => List.mem_append_right _ hl) F N hk hp turn done
end
/-- an answer that is a plain value, the ledger as it was -/
abbrev OutV (news : Led) (R : Tok → Value) : Value → Led → Prop := fun r nn => (∃ u, r = R u) ∧ nn = news
theorem Con.useV {w : World} {f : Addr} {dep unit : Nat} {news : Led} {vs : List Value} {R : Tok → Value} (C : Con w f dep unit news vs (OutV news R))
    {prog : Program} {p : Program} {loose : List Str} {mean : ExcName → Option Value} {mg mb : Str → Option Value} {dp un : Nat} {gd : Option (List Code)} {env : Env} {outer : List Env} {A₀ : Around} {base h₀ : Heap} {L : Addr} {m : Str → Option Value} {s : Shared} {Q E : Value → Shared → Prop}
    (B : Below A₀ base outer h₀) (F : Fr h₀ L s.heap m) (X : (KH w.params).In h₀) (N : News h₀ L s.heap news) (T : Top p loose mean mg mb h₀) (hf : env.frame = some L) (hk : env.scope.kind = .function)
    (hd : dp + dep < recursionLimit) (hu : un + 3 * unit < cLine)
    (ret : ∀ u h' tk', Fr h₀ L h' m → News h₀ L h' news → Q (R u) { s with heap := h', toks := tk' }) :
    wpAny (model prog w) (AtA dp un gd env outer) (call (.ref f) vs) Q E s :=
  C.use B F X N T hf hk hd hu fun r nn h' tk' F' N' o => by
    obtain ⟨⟨u, rfl⟩, rfl⟩ := o
    exact ret u h' tk' F' N'
theorem fill : (KH = KH) ∧ PySem.Challenge.rw_dn0072_01 = PySem.Challenge.rw_dn0072_01 := by
  k_fill
  exact ⟨rfl, rfl⟩
end
section
theorem walkAnewF1 : True := by
  w_top off
  trivial
theorem kind_issn : builtinKind "issubclass.nested" = none := by decide +kernel
theorem plain_issn : plainId "issubclass.nested" = true := by decide +kernel
theorem args_issn (a b c : Value) : argsOk "issubclass.nested" ⟨[a, b, c], []⟩ := by unfold argsOk; kernel_rfl
section
variable {prog : Program} {w : World} {A : Around} {E : Value → Shared → Prop}
theorem issn_str {dep : Int} {tk : Tok} {s : Shared} {Q : Fin → Shared → Prop} (hq : Q (.done (.ret (.bool true))) s) :
    wpAny (model prog w) A (Builtin.«issubclass.nested» ⟨[.type "str", .type "str", .int dep tk], []⟩) Q E s := by
  have h1 := F.isi_self_str
  have hm : typeOf (.type "str") = pure (.type "type") := by kernel_rfl
  repeat (any_goals (first | assumption | wp_step))
theorem issn_tup {D : Addr} {n : Nat} {tk : Tok} {s : Shared} {Q : Fin → Shared → Prop} {cs : List Value} (hcs : cs = [.type "str", .type "bytes"]) (hD : s.heap.get? D = some (seqO "tuple" cs n)) (hq : Q (.done (.ret (.bool true))) s) :
    wpAny (model prog w) A (Builtin.«issubclass.nested» ⟨[.type "str", .ref D, .int 0 tk], []⟩) Q E s := by
  obtain ⟨h, g, d, t, os⟩ := s
  have hT2 : (⟨h, g, d, t, os⟩ : Shared).TypeIs (.ref D) "tuple" := ⟨_, hD, rfl⟩
  have f1 := F.isi_sub_tuple
  repeat (any_goals (first | assumption | wp_step))
  refine wpAny_arrayLoop ?_
  simp only [Option.getD_some, List.toList_toArray]
  subst hcs
  rw [List.forIn_cons]
  refine wpAny_bind (wpAny_bind (Calls.call_function_entry kind_issn plain_issn F.entry_issubclass_nested (args_issn _ _ _) (issn_str ⟨_, rfl, ?_⟩)))
  show wpAny _ _ (truthy (.bool true) >>= _) _ _ _
  refine wpAny_bind (m := truthy (.bool true)) (wpAny_pure ?_)
  exact wpAny_bind (wpAny_pure (wpAny_pure (wpAny_pure (wpAny_pure hq))))
theorem issub_str {D : Addr} {n : Nat} {s : Shared} {Q : Value → Shared → Prop} (hD : s.heap.get? D = some (seqO "tuple" [.type "str", .type "bytes"] n)) (hq : Q (.bool true) s) :
    wpAny (model prog w) A (call (.builtin "issubclass") [.type "str", .ref D]) Q E s :=
  call_issubclass (S := fun _ R s => s.heap.get? D = some (seqO "tuple" [.type "str", .type "bytes"] n) ∧ R (.ok (.ret (.bool true))) s) (fun _ _ _ _ _ hs => issubclass_outer (issn_tup rfl hs.1 hs.2)) ⟨hD, hq⟩
end

local macro_rules | `(tactic| walk_at "call builtin:issubclass") => `(tactic| (refine issub_str (by first | exact (News.get (by assumption) (List.Mem.head _))) ?_))
theorem getsep_con {w : World} {news : Led} {x : Str} {t : Tok} : Con w 139 1 3 news [.str x t] (OutV news fun u => .str (Str.ofString "/") u) := by
  refine' con_of [(Str.ofString "path", .str x t)] ?ho ?hcd ?hb ?hl ?c1 ?c2 ?c3 ?c4 ?_; (case ho => k_is); (case hcd => k_is); (case hb => exact rfl); (case hl => exact locs rfl); (case c1 => exact rfl); (case c2 => exact rfl); (case c3 => exact rfl); (case c4 => decide)
  intro prog p loose mean mg mb dp un gd outer A₀ base g L h₁ s tk B F X N T hd hu
  (try (change wpAny _ _ (execs (_ :: _) _) _ _ _))
  (try dsimp only)
  k_steps
  exact FinB.intro (by assumption) (by assumption) ⟨⟨_, rfl⟩, rfl⟩
theorem fspath_con {w : World} {news : Led} {x : Str} {t : Tok} : Con w 118 1 3 news [.str x t] (OutV news fun _ => .str x t) := by
  refine' con_of [(Str.ofString "path", .str x t)] ?ho ?hcd ?hb ?hl ?c1 ?c2 ?c3 ?c4 ?_; (case ho => k_is); (case hcd => k_is); (case hb => exact rfl); (case hl => exact locs rfl); (case c1 => exact rfl); (case c2 => exact rfl); (case c3 => exact rfl); (case c4 => decide)
  intro prog p loose mean mg mb dp un gd outer A₀ base g L h₁ s tk B F X N T hd hu
  (try (change wpAny _ _ (execs (_ :: _) _) _ _ _))
  (try dsimp only)
  k_steps
  exact FinB.sub (by assumption) (by assumption) (fun p hp => List.mem_cons_of_mem _ hp) ⟨⟨0, rfl⟩, rfl⟩

end
section
theorem walkAnewF2 : True := by
  w_top off
  trivial
local macro_rules | `(tactic| walk_at "call ref") => `(tactic| (k_here; with_unfolding_all (refine' Con.useV (fspath_con) ?k1 ?k2 ?k3 ?k4 ?k5 ?k6 ?k7 ?kd ?ku ?_); (case k1 => k_asm); (case k2 => k_asm); (case k3 => k_in); (case k4 => k_asm); (case k5 => k_asm); (case k6 => exact rfl); (case k7 => exact rfl); (case kd => (simp only [recursionLimit] at *; omega)); (case ku => omega); (intro u9 h9 tk9 F9 N9); (try dsimp only); (try k_sweep)))
local macro_rules | `(tactic| walk_at "call ref") => `(tactic| (k_here; with_unfolding_all (refine' Con.useV (getsep_con) ?k1 ?k2 ?k3 ?k4 ?k5 ?k6 ?k7 ?kd ?ku ?_); (case k1 => k_asm); (case k2 => k_asm); (case k3 => k_in); (case k4 => k_asm); (case k5 => k_asm); (case k6 => exact rfl); (case k7 => exact rfl); (case kd => (simp only [recursionLimit] at *; omega)); (case ku => omega); (intro u9 h9 tk9 F9 N9); (try dsimp only); (try k_sweep)))
theorem basename_con {w : World} {news : Led} {x : Str} {t : Tok} (hx : x.length ≤ 64) : Con w 163 2 6 news [.str x t] (OutV news fun u => .str (Txt.slice x (some (Txt.rfind x (Str.ofString "/") + 1)) none) u) := by
  refine' con_of [(Str.ofString "p", .str x t)] ?ho ?hcd ?hb ?hl ?c1 ?c2 ?c3 ?c4 ?_; (case ho => k_is); (case hcd => k_is); (case hb => exact rfl); (case hl => exact locs rfl); (case c1 => exact rfl); (case c2 => exact rfl); (case c3 => exact rfl); (case c4 => decide)
  intro prog p loose mean mg mb dp un gd outer A₀ base g L h₁ s tk B F X N T hd hu
  (try (change wpAny _ _ (execs (_ :: _) _) _ _ _))
  (try dsimp only)
  k_steps
  exact FinB.intro (by assumption) (by assumption) ⟨⟨_, rfl⟩, rfl⟩
def SplitOut (x root ext : Str) : Prop :=
  (∃ j : Int, Txt.rfind x (Str.ofString "/") < j ∧ j < Txt.rfind x (Str.ofString ".") ∧ Txt.slice x (some j) (some (j + 1)) ≠ Str.ofString "." ∧ root = Txt.slice x none (some (Txt.rfind x (Str.ofString "."))) ∧ ext = Txt.slice x (some (Txt.rfind x (Str.ofString "."))) none) ∨
  ((∀ j : Int, Txt.rfind x (Str.ofString "/") < j → j < Txt.rfind x (Str.ofString ".") → Txt.slice x (some j) (some (j + 1)) = Str.ofString ".") ∧ root = x ∧ ext = Txt.slice x none (some 0))
def OutS (x : Str) (news : Led) (r : Value) (nn : Led) : Prop := ∃ D root ext u v ep, r = .ref D ∧ nn = (D, seqO "tuple" [.str root u, .str ext v] ep) :: news ∧ SplitOut x root ext ∧ ∀ p ∈ news, p.1 < D
local macro_rules | `(tactic| walk_at "WPost") => `(tactic| (dsimp only [WPost]))
local macro_rules | `(tactic| walk_at "FPost") => `(tactic| (dsimp only [FPost]))
local macro_rules | `(tactic| walk_at "exec While Compare cons nil") => `(tactic| (with_reducible refine Hold.mk ?_))
theorem splitext0_con {w : World} {news : Led} {x : Str} {t u v : Tok} (hx : x.length ≤ 64) : Con w 125 1 4 news [.str x t, .str (Str.ofString "/") u, .none, .str (Str.ofString ".") v] (OutS x news) := by
  refine' con_of [(Str.ofString "p", .str x t), (Str.ofString "sep", .str (Str.ofString "/") u), (Str.ofString "altsep", .none), (Str.ofString "extsep", .str (Str.ofString ".") v)] ?ho ?hcd ?hb ?hl ?c1 ?c2 ?c3 ?c4 ?_; (case ho => k_is); (case hcd => k_is); (case hb => exact rfl); (case hl => exact locs rfl); (case c1 => exact rfl); (case c2 => exact rfl); (case c3 => exact rfl); (case c4 => decide)
  intro prog p loose mean mg mb dp un gd outer A₀ base g L h₁ s tk B F X N T hd hu
  (try (change wpAny _ _ (execs (_ :: _) _) _ _ _))
  (try dsimp only)
  k_steps
  case _ =>
    refine Hold.out ?_
    refine' my_whileS (σ := Int × Tok) (fun _ => []) _ (fun c => [(Str.ofString "filenameIndex", .int c.1 c.2)]) [(Str.ofString "p", .str x t), (Str.ofString "extsep", .str (Str.ofString ".") v), (Str.ofString "dotIndex", .int (Txt.rfind x (Str.ofString ".")) _)] (fun c => Txt.rfind x (Str.ofString "/") < c.1 ∧ ∀ j : Int, Txt.rfind x (Str.ofString "/") < j → j < c.1 → Txt.slice x (some j) (some (j + 1)) = Str.ofString ".") (fun c => (Txt.rfind x (Str.ofString ".") - c.1).toNat) (_, _) ?wF ?wN ?wK ?wP ?_
    (case wF => assumption)
    (case wN => assumption)
    (case wK => kst_all)
    (case wP => exact ⟨by dsimp only; omega, fun j h1 h2 => by dsimp only at h2; omega⟩)
    rintro ⟨c, tc⟩ m₁ h tk ⟨hc1, hc2⟩ F' N'
    dsimp only [List.nil_append, List.cons_append] at F' N' ⊢
    k_steps
    · exact (FinB.intro (by assumption) (by assumption) ⟨_, _, _, _, _, _, rfl, rfl, .inl ⟨c, hc1, by assumption, bne_iff_ne.mp (by assumption), rfl, rfl⟩, by assumption⟩ : FinB g L s (OutS x news) _ _)
    · refine WEnd.intro (c + 1, _) (by assumption) (by assumption) (by kst_in) (by kst_all) ⟨by dsimp only at hc1 ⊢; omega, fun j h1 h2 => ?_⟩ (by dsimp only; omega)
      by_cases e : j = c
      · subst e; exact bne_eq_false_iff_eq.mp (by assumption)
      · exact hc2 j h1 (by dsimp only at h2 ⊢; omega)
    · exact FinB.intro (by assumption) (by assumption) ⟨_, _, _, _, _, _, rfl, rfl, .inr ⟨fun j h1 h2 => hc2 j h1 (by dsimp only at *; omega), rfl, rfl⟩, by assumption⟩
  · exact FinB.intro (by assumption) (by assumption) ⟨_, _, _, _, _, _, rfl, rfl, .inr ⟨fun j h1 h2 => by omega, rfl, rfl⟩, by assumption⟩
local macro_rules | `(tactic| walk_at "call ref") => `(tactic| (k_here; with_unfolding_all (refine' Con.use (splitext0_con ?hx9) ?k1 ?k2 ?k3 ?k4 ?k5 ?k6 ?k7 ?kd ?ku ?_); (case hx9 => assumption); (case k1 => k_asm); (case k2 => k_asm); (case k3 => k_in); (case k4 => k_asm); (case k5 => k_asm); (case k6 => exact rfl); (case k7 => exact rfl); (case kd => (simp only [recursionLimit] at *; omega)); (case ku => omega); (intro r9 nn9 h9 tk9 F9 N9 ho9); (obtain ⟨D9, root9, ext9, u9, v9, ep9, e9, n9, so9, lt9⟩ := ho9); (subst e9); (subst n9); (try dsimp only); (try k_sweep)))
theorem splitext_con {w : World} {news : Led} {x : Str} {t : Tok} (hx : x.length ≤ 64) : Con w 153 2 8 news [.str x t] (OutS x news) := by
  refine' con_of [(Str.ofString "p", .str x t)] ?ho ?hcd ?hb ?hl ?c1 ?c2 ?c3 ?c4 ?_; (case ho => k_is); (case hcd => k_is); (case hb => exact rfl); (case hl => exact locs rfl); (case c1 => exact rfl); (case c2 => exact rfl); (case c3 => exact rfl); (case c4 => decide)
  intro prog p loose mean mg mb dp un gd outer A₀ base g L h₁ s tk B F X N T hd hu
  (try (change wpAny _ _ (execs (_ :: _) _) _ _ _))
  (try dsimp only)
  k_steps
  exact FinB.intro (by assumption) (by assumption) ⟨_, _, _, _, _, _, rfl, rfl, by assumption, by assumption⟩
def joinS (x y : Str) : Str := if Txt.startswith y (Str.ofString "/") = true ∨ x.length = 0 then y else if Txt.endswith x (Str.ofString "/") = true then x ++ y else x ++ (Str.ofString "/" ++ y)
local macro_rules | `(tactic| walk_at "exec For Name Name cons nil") => `(tactic| (with_reducible refine Hold.mk ?_))
theorem join_con {w : World} {news : Led} {x y : Str} {t u : Tok} (hx : x.length ≤ 64) (hy : y.length ≤ 64) : Con w 146 2 6 news [.str x t, .str y u] (OutV news fun u => .str (joinS x y) u) := by
  refine' con_star (ws := [.str y u]) (g₁ := fun _ _ D => some ((fun D => [(Str.ofString "a", .str x t), (Str.ofString "p", .ref D)]) D)) (fun D => [(Str.ofString "a", .str x t), (Str.ofString "p", .ref D)]) ?ho ?hcd ?hv ?hb ?hg ?hl ?c1 ?c2 ?c3 ?c4 ?_; (case ho => k_is); (case hcd => k_is); (case hv => exact rfl); (case hb => intro _; exact rfl); (case hg => intro _ _; exact rfl); (case hl => intro _; exact locs rfl); (case c1 => exact rfl); (case c2 => exact rfl); (case c3 => exact rfl); (case c4 => decide)
  intro prog p loose mean mg mb dp un gd outer A₀ base g L h₁ s tk D lD B F X N T hd hu
  (try (change wpAny _ _ (execs (_ :: _) _) _ _ _))
  (try dsimp only)
  k_steps
  refine Hold.out (wpAny_noRaise (wpAny_For ?_))
  walk1
  refine' for_tupleS (σ := Str × Tok) (its := [.str y u]) (ep := 0) (fun _ _ => []) _ (fun _ c => [(Str.ofString "path", .str c.1 c.2)]) [(Str.ofString "sep", .str (Str.ofString "/") _)] (fun i c => (i = 0 → c.1 = x) ∧ (i = 1 → c.1 = joinS x y)) (_, _) ?wH ?wL ?wF ?wN ?wK ?wP ?_ ?_
  (case wH => exact rfl)
  (case wF => assumption)
  (case wN => assumption)
  (case wL => exact List.Mem.head _)
  (case wK => kst_all)
  (case wP => exact ⟨fun _ => rfl, fun h => absurd h (by decide)⟩)
  · rintro i v ⟨c, tc⟩ m₁ I oI h tk hv ⟨hP0, _⟩ off F' N'
    dsimp only [List.nil_append, List.cons_append] at F' N' off ⊢
    have hi : i = 0 := by
      rcases i with _ | i
      · rfl
      · simp at hv
    subst hi
    obtain rfl : v = .str y u := by simpa using hv.symm
    have hc : c = x := hP0 rfl
    subst hc
    k_steps
    all_goals refine FEnd.intro (_, _) (by assumption) (by assumption) (List.Mem.head _) (fun p hp => ⟨List.mem_cons_of_mem _ hp, off p hp⟩) (by kst_all) ⟨fun h => absurd h (by decide), fun _ => ?_⟩
    all_goals (dsimp only; unfold joinS)
    · simp only [*, true_or, if_true]
    · rw [if_neg (by simp only [*, Bool.false_eq_true, false_or]; omega), if_pos (by assumption)]
    · rw [if_neg (by simp only [*, Bool.false_eq_true, false_or]; omega), if_neg (by simp only [*, Bool.false_eq_true, not_false_eq_true])]
    · rw [if_pos (.inr (by omega))]
  · rintro ⟨c, tc⟩ m₁ h tk ⟨_, hP1⟩ F' N'
    dsimp only [List.nil_append, List.cons_append] at F' N' ⊢
    have hc : c = joinS x y := hP1 rfl
    subst hc
    k_steps
    exact FinB.sub (by assumption) (by assumption) (fun p hp => List.mem_cons_of_mem _ hp) ⟨⟨_, rfl⟩, rfl⟩

end
section
theorem walkAnewF3 : True := by
  w_top off
  trivial
def Alph (x : Str) : Prop := ∀ c ∈ x.cps.toList, c ∈ [97, 98, 46, 45, 42, 91]
theorem Alph.append {x y : Str} (hx : Alph x) (hy : Alph y) : Alph (x ++ y) := fun c hc => by
  rw [PySem.Str.cps_append, Array.toList_append] at hc
  exact (List.mem_append.mp hc).elim (hx c) (hy c)
theorem alph_item {k : Int} (h0 : 0 ≤ k) (h1 : k < 6) : Alph (Txt.item (Str.ofString "ab.-*[") k) := by
  have : k = 0 ∨ k = 1 ∨ k = 2 ∨ k = 3 ∨ k = 4 ∨ k = 5 := by omega
  rcases this with rfl | rfl | rfl | rfl | rfl | rfl <;> (intro c hc; revert c hc; decide +kernel)
local macro_rules | `(tactic| walk_at "exec While BoolOp cons nil") => `(tactic| (with_reducible refine Hold.mk ?_))
local macro_rules | `(tactic| walk_at "WPost") => `(tactic| (dsimp only [WPost]))
theorem drawn_con {w : World} {news : Led} {n : Int} {t : Tok} : Con w 211 1 4 news [.int n t] (fun r nn => nn = news ∧ ∃ x u, r = .str x u ∧ Alph x ∧ x.length ≤ 7) := by
  refine' con_of [(Str.ofString "number", .int n t)] ?ho ?hcd ?hb ?hl ?c1 ?c2 ?c3 ?c4 ?_; (case ho => k_is); (case hcd => k_is); (case hb => exact rfl); (case hl => exact locs rfl); (case c1 => exact rfl); (case c2 => exact rfl); (case c3 => exact rfl); (case c4 => decide)
  intro prog p loose mean mg mb dp un gd outer A₀ base g L h₁ s tk B F X N T hd hu
  (try (change wpAny _ _ (execs (_ :: _) _) _ _ _))
  (try dsimp only)
  k_steps
  refine Hold.out ?_
  refine' my_whileS (σ := Str × Tok × Int × Tok) (fun _ => []) _ (fun c => [(Str.ofString "out", .str c.1 c.2.1), (Str.ofString "left", .int c.2.2.1 c.2.2.2)]) [] (fun c => 0 ≤ c.2.2.1 ∧ Alph c.1 ∧ c.1.length ≤ 7) (fun c => c.2.2.1.toNat) (_, _, _, _) ?wF ?wN ?wK ?wP ?_
  (case wF => assumption)
  (case wN => assumption)
  (case wK => kst_all)
  (case wP => exact ⟨by dsimp only; split <;> omega, (by intro c hc; revert c hc; decide +kernel : Alph (Str.ofString "")), (by decide +kernel : (Str.ofString "").length ≤ 7)⟩)
  rintro ⟨x, tx, k, tk⟩ m₁ h tk ⟨hk, ha, hl⟩ F' N'
  dsimp only [List.nil_append, List.cons_append] at hk ha hl F' N' ⊢
  k_steps
  · refine WEnd.intro (_, _, _, _) (by assumption) (by assumption) (by kst_in) (by kst_all) ⟨?_, ?_, ?_⟩ ?_
    · dsimp only; rw [Int.fdiv_eq_ediv_of_nonneg _ (by decide)]; omega
    · exact ha.append (alph_item (by rw [Int.fmod_eq_emod_of_nonneg _ (by decide)]; omega) (by rw [Int.fmod_eq_emod_of_nonneg _ (by decide)]; omega))
    · dsimp only; omega
    · dsimp only; rw [Int.fdiv_eq_ediv_of_nonneg _ (by decide)]; omega
  all_goals exact FinB.intro (by assumption) (by assumption) ⟨rfl, _, _, rfl, ha, hl⟩

end
section
theorem walkAnewF4 : True := by
  w_top off
  trivial
section
variable {prog : Program} {w : World} {A : Around} {E : Value → Shared → Prop} {s : Shared} {h₀ : Heap} {L : Addr} {m : Str → Option Value} {env : Env}
theorem ListComp_ascii {elt iter : Expr} {x : Str} {px : Pos} {scope : Scope} {cl : List (Str × Addr)} {pos : Pos} {Q : Value → Shared → Prop} (_F₀ : Fr h₀ L s.heap m)
    (hclos : closureFor scope env = pure cl) (hcell : ∀ y ∈ scope.names, y.2 ≠ .cell) (hkind : scope.kind = .function)
    (hnames : ∀ y ∈ scope.names, y.2 = .local → scope.names.lookup y.1 = some .local) (hx : scope.names.lookup x = some .local)
    (h : wpAny (model prog w) A (eval iter env) (fun xv s₁ => ∃ y t news, xv = .str y t ∧ y.cps.all (· < 128) = true ∧ A.handled = none ∧ Fr h₀ L s₁.heap m ∧ News h₀ L s₁.heap news ∧ y.cps.size ≤ sizeLine ∧
      ∀ s₂ : Shared, (∃ h, s₂ = { s₁ with heap := h }) → LCg.CompRest prog w A h₀ L m env elt x scope cl s₂ (fun _ => True) (SignAt y) (LCg.FinE h₀ L m s₂ Q) y.cps.size 0 [] news) E s)
    (hs : ∀ x, foldedSetIterable iter env x = pure x := by intro _; rfl) :
    wpAny (model prog w) A (eval (.ListComp elt [⟨.Name x px, iter, [], 0⟩] scope pos) env) Q E s := by
  rw [eval_ListComp]
  refine wpAny_comprehension_free (use := none) rfl hs hclos hkind hnames (wpAny_mono h (fun xv s₁ h₁ => ?_) fun _ _ e => e)
  obtain ⟨y, t, news, rfl, hasc, hh, F, N, hsz, R⟩ := h₁
  refine wpAny_pyIter_ascii hasc ?_
  have up : ∀ b o, s₁.heap.get? b = some o → (s₁.heap.push { cls := .type "str_ascii_iterator", data := .fields #[.str y t, .int 0 0] }).get? b = some o := fun b o e => Heap.get?_push_of_some _ e
  refine LCg.block_U (Walks.strAscii hh s₁.heap.objs.size y t) hsz (fun i h st => by obtain ⟨o, e, _⟩ := st; exact ⟨o, e⟩) (fun i h h' o nw st e e' _ _ _ => by obtain ⟨o', q, r⟩ := st; rw [e] at q; cases q; exact ⟨o, e', r⟩)
    hcell hkind hx ⟨_, Heap.get?_push_size _ rfl, rfl, rfl⟩ (fun b hb => ?_) (F.keeps up) (N.grown up) (Nat.ne_of_lt F.ns.lt) (next_is_new F) (fun p hp => Nat.ne_of_lt (Heap.lt_size (N p hp).1)) trivial (R _ ⟨_, rfl⟩) ?_
  · rw [List.mem_singleton.mp hb]
    show s₁.heap.objs.size < (s₁.heap.push _).objs.size
    rw [Heap.size_push]; exact Nat.lt_succ_self _
  · intro D C h tk m' ys news' F' N' o1 hn hC₀ hD₀ hCL hDL hCD offC fin
    refine ⟨m', hn, fun h'' hs'' => fin D h'' tk (F'.change hs'' hCL hC₀) (fun p hp => ?_) o1⟩
    refine ⟨hs''.extBut _ _ ?_ (N' p hp).1, (N' p hp).2⟩
    rcases List.mem_cons.mp hp with rfl | hp
    · exact Ne.symm hCD
    · exact offC p hp
end
/-- a sign behind the law's quotes -/
def quoteOne (c : Nat) : List Nat := if c = 42 ∨ c = 91 then [91, c, 93] else [c]
def quoteL (l : List Nat) : List Nat := l.flatMap quoteOne
theorem quote_in {c : Nat} (h : c ∈ [97, 98, 46, 45, 42, 91]) : (Builtin.Str.occurrences (Str.ofString "*?[") ⟨#[c]⟩ 0 (Str.ofString "*?[").length 1).isEmpty = decide (¬ (c = 42 ∨ c = 91)) := by
  simp only [List.mem_cons, List.not_mem_nil, or_false] at h
  rcases h with rfl | rfl | rfl | rfl | rfl | rfl <;> decide +kernel
theorem ofString_nil_cps : (Str.ofString "").cps = #[] := by decide +kernel
theorem join_toList : ∀ ts : List Str, (Txt.join (Str.ofString "") ts).cps.toList = ts.flatMap (·.cps.toList) := by
  intro ts
  show (Builtin.Str.glued (Str.ofString "") ts).cps.toList = _
  rw [StrLaws.glued_eq_join]
  have key : ∀ ts : List Str, (Str.join (Str.ofString "") ts).cps.toList = ts.flatMap (·.cps.toList) := by
    intro ts
    induction ts with
    | nil => rfl
    | cons x r ih =>
      cases r with
      | nil => simp [Str.join]
      | cons y r =>
        show (x ++ Str.ofString "" ++ Str.join (Str.ofString "") (y :: r)).cps.toList = _
        rw [PySem.Str.cps_append, PySem.Str.cps_append, ofString_nil_cps, Array.toList_append, Array.toList_append, ih]
        simp
  exact key ts
theorem quoted_short : ∀ (l : List (Str × Tok)) (cs : List Nat), l.map (fun p => p.1.cps.toList) = cs.map quoteOne → ((l.map (·.1)).map (·.length)).sum ≤ 3 * cs.length
  | [], [], _ => Nat.zero_le _
  | [], _ :: _, h => nomatch h
  | _ :: _, [], h => nomatch h
  | p :: l, c :: cs, h => by
    simp only [List.map_cons, List.cons.injEq] at h
    have ih := quoted_short l cs h.2
    have hp : p.1.length ≤ 3 := by
      have e : p.1.length = (quoteOne c).length := by rw [← h.1]; simp [PySem.Str.length]
      rw [e]; unfold quoteOne; split <;> simp
    simp only [List.map_cons, List.sum_cons, List.length_cons]
    omega
local macro_rules | `(tactic| walk_at "call builtin:str.join") => `(tactic| (with_reducible refine Hold.mk ?_))
local macro_rules | `(tactic| walk_at "eval ListComp") => `(tactic| (with_reducible refine Hold.mk ?_))
local macro_rules | `(tactic| walk_at "binaryOp Add str str") => `(tactic| ((refine SBL.add (hsz := ?hsz) ?_); (case hsz => (simp only [PySem.Str.length, PySem.Str.cps_append, Array.size_append] at *; rw [sizeLine_eq]; (try simp only [List.size_toArray, List.length_cons, List.length_nil]); omega)); intro _ _ _))
theorem quoted_con {w : World} {news : Led} {x : Str} {t : Tok} (ha : Alph x) (hx : x.length ≤ 7) : Con w 204 1 4 news [.str x t] (fun r nn => nn = news ∧ ∃ y u, r = .str y u ∧ y.cps.toList = quoteL x.cps.toList) := by
  refine' con_of [(Str.ofString "text", .str x t)] ?ho ?hcd ?hb ?hl ?c1 ?c2 ?c3 ?c4 ?_; (case ho => k_is); (case hcd => k_is); (case hb => exact rfl); (case hl => exact locs rfl); (case c1 => exact rfl); (case c2 => exact rfl); (case c3 => exact rfl); (case c4 => decide)
  intro prog p loose mean mg mb dp un gd outer A₀ base g L h₁ s tk B F X N T hd hu
  (try (change wpAny _ _ (execs (_ :: _) _) _ _ _))
  (try dsimp only)
  k_steps
  refine Hold.out ?_
  refine' ListComp_ascii (by assumption) (by with_unfolding_all rfl) (by decide) (by rfl) (by decide) (by rfl) ?_
  walk1
  refine ⟨_, _, _, rfl, ?_, rfl, by assumption, by assumption, ?_, ?_⟩
  · rw [Array.all_eq_true]
    intro i hi
    have := ha _ (List.getElem_mem (by simpa using hi : i < x.cps.toList.length))
    simp only [Array.getElem_toList, List.mem_cons, List.not_mem_nil, or_false] at this
    rw [decide_eq_true_eq]
    omega
  · rw [sizeLine_eq]; exact Nat.le_trans hx (by decide)
  rintro s₂ ⟨h, rfl⟩
  refine comp_rest (fun i ys nn => nn = news ∧ ∃ l : List (Str × Tok), ys = strValues l ∧ (l.map (fun p => p.1.cps.toList)) = (x.cps.toList.take i).map quoteOne) ⟨rfl, [], rfl, rfl⟩ ?_ ?_
  · rintro i v ys nn I oI C oC D m₂ h tk hi ⟨c, u, hc, rfl⟩ ⟨rfl, l, rfl, hl⟩ hC hm F' N' off ne
    have hca : c ∈ [97, 98, 46, 45, 42, 91] := ha c (by rw [← Array.getElem?_toList] at hc; exact List.mem_of_getElem? hc)
    have hq := quote_in hca
    have ht : (x.cps.toList.take (i + 1)) = x.cps.toList.take i ++ [c] := by
      rw [← Array.getElem?_toList] at hc
      rw [List.take_add_one, hc]; rfl
    k_steps
    · rename_i hb
      rw [hq, decide_eq_true_eq] at hb
      refine CEnd.intro _ (by assumption) (by assumption) (fun _ h => h) (by assumption) trivial ⟨rfl, l ++ [(_, _)], by simp [strValues]; exact ⟨rfl, rfl⟩, ?_⟩
      rw [List.map_append, hl, ht, List.map_append]
      congr 1
      show [_] = [quoteOne c]
      rw [quoteOne, if_neg hb]
    · have hb : (Builtin.Str.occurrences (Str.ofString "*?[") ⟨#[c]⟩ 0 (Str.ofString "*?[").length 1).isEmpty = false := by assumption
      rw [hq, decide_eq_false_iff_not, Decidable.not_not] at hb
      refine CEnd.intro _ (by assumption) (by assumption) (fun _ h => h) (by assumption) trivial ⟨rfl, l ++ [(_, _)], by simp [strValues]; exact ⟨rfl, rfl⟩, ?_⟩
      rw [List.map_append, hl, ht, List.map_append]
      congr 1
      show [_] = [quoteOne c]
      rw [quoteOne, if_pos hb]
      rfl
  · rintro ys nn ⟨rfl, l, rfl, hl⟩
    intro D h tk F' N' off
    have hn : x.cps.toList.length ≤ 7 := by rw [Array.length_toList]; exact hx
    have hl' : l.map (fun p => p.1.cps.toList) = x.cps.toList.map quoteOne := by
      rw [hl, show x.cps.size = x.cps.toList.length from Array.length_toList.symm, List.take_length]
    have hj := quoted_short l _ hl'
    k_steps
    refine Hold.out ?_
    refine SC.join (D := D) (l := l) (News.isList N' (List.Mem.head _)) rfl (joinOk_of ?_) ?_
    · have : (Str.ofString "").length = 0 := by decide +kernel
      rw [this]; omega
    intro t' k
    k_steps
    refine FinB.sub (by assumption) (by assumption) (fun p hp => List.mem_cons_of_mem _ hp) ⟨rfl, _, _, rfl, ?_⟩
    rw [join_toList]
    have : (l.map (·.1)).flatMap (·.cps.toList) = (l.map (fun p => p.1.cps.toList)).flatten := by
      rw [List.flatMap_def, List.map_map]; rfl
    rw [this, hl', quoteL, List.flatMap_def]

end
section
theorem walkAnewF5 : True := by
  w_top off
  trivial
/-- a part of _translate's, the sign that it asks for -/
def partS (c : Nat) : Str := if c = 46 then Str.ofString "\\." else if c = 45 then Str.ofString "\\-" else if c = 42 then Str.ofString "[*]" else if c = 91 then Str.ofString "[\\[]" else ⟨#[c]⟩
theorem one_beq (a d : Nat) : ((⟨#[a]⟩ : Str) == ⟨#[d]⟩) = decide (d = a) := by
  by_cases h : d = a
  · subst h; simp
  · rw [decide_eq_false h, beq_eq_false_iff_ne]
    intro e
    have : (#[a] : Array Nat) = #[d] := congrArg PySem.Str.cps e
    simp at this
    exact h this.symm
theorem lt_one {d c : Nat} {s : Str} (hs : s.cps.toList = [c]) : ((⟨#[d]⟩ : Str).cps.toList < s.cps.toList) ↔ d < c := by
  rw [hs]
  show [d] < [c] ↔ _
  simp [List.cons_lt_cons_iff]
theorem one_lt {d c : Nat} {s : Str} (hs : s.cps.toList = [c]) : (s.cps.toList < (⟨#[d]⟩ : Str).cps.toList) ↔ c < d := by
  rw [hs]
  show [c] < [d] ↔ _
  simp [List.cons_lt_cons_iff]
theorem one_46 {w : World} {news : Led} {d : Nat} {t u : Tok} : Con w 194 1 4 news [.str (Str.ofString "\\.") t, .str ⟨#[d]⟩ u] (OutV news fun _ => .bool (decide (d = 46))) := by
  refine' con_of [(Str.ofString "part", .str (Str.ofString "\\.") t), (Str.ofString "sign", .str ⟨#[d]⟩ u)] ?ho ?hcd ?hb ?hl ?c1 ?c2 ?c3 ?c4 ?_; (case ho => k_is); (case hcd => k_is); (case hb => exact rfl); (case hl => exact locs rfl); (case c1 => exact rfl); (case c2 => exact rfl); (case c3 => exact rfl); (case c4 => decide)
  intro prog p loose mean mg mb dp un gd outer A₀ base g L h₁ s tk B F X N T hd hu
  (try (change wpAny _ _ (execs (_ :: _) _) _ _ _))
  (try dsimp only)
  k_steps
  refine FinB.intro (by assumption) (by assumption) ⟨⟨0, congrArg Value.bool ?_⟩, rfl⟩
  rw [(by decide +kernel : Txt.item (Str.ofString "\\.") (-1) = ⟨#[46]⟩), one_beq]
theorem one_45 {w : World} {news : Led} {d : Nat} {t u : Tok} : Con w 194 1 4 news [.str (Str.ofString "\\-") t, .str ⟨#[d]⟩ u] (OutV news fun _ => .bool (decide (d = 45))) := by
  refine' con_of [(Str.ofString "part", .str (Str.ofString "\\-") t), (Str.ofString "sign", .str ⟨#[d]⟩ u)] ?ho ?hcd ?hb ?hl ?c1 ?c2 ?c3 ?c4 ?_; (case ho => k_is); (case hcd => k_is); (case hb => exact rfl); (case hl => exact locs rfl); (case c1 => exact rfl); (case c2 => exact rfl); (case c3 => exact rfl); (case c4 => decide)
  intro prog p loose mean mg mb dp un gd outer A₀ base g L h₁ s tk B F X N T hd hu
  (try (change wpAny _ _ (execs (_ :: _) _) _ _ _))
  (try dsimp only)
  k_steps
  refine FinB.intro (by assumption) (by assumption) ⟨⟨0, congrArg Value.bool ?_⟩, rfl⟩
  rw [(by decide +kernel : Txt.item (Str.ofString "\\-") (-1) = ⟨#[45]⟩), one_beq]
theorem one_97 {w : World} {news : Led} {d : Nat} {t u : Tok} : Con w 194 1 4 news [.str (Str.ofString "a") t, .str ⟨#[d]⟩ u] (OutV news fun _ => .bool (decide (d = 97))) := by
  refine' con_of [(Str.ofString "part", .str (Str.ofString "a") t), (Str.ofString "sign", .str ⟨#[d]⟩ u)] ?ho ?hcd ?hb ?hl ?c1 ?c2 ?c3 ?c4 ?_; (case ho => k_is); (case hcd => k_is); (case hb => exact rfl); (case hl => exact locs rfl); (case c1 => exact rfl); (case c2 => exact rfl); (case c3 => exact rfl); (case c4 => decide)
  intro prog p loose mean mg mb dp un gd outer A₀ base g L h₁ s tk B F X N T hd hu
  (try (change wpAny _ _ (execs (_ :: _) _) _ _ _))
  (try dsimp only)
  k_steps
  refine FinB.intro (by assumption) (by assumption) ⟨⟨0, congrArg Value.bool ?_⟩, rfl⟩
  rw [(by decide +kernel : Txt.item (Str.ofString "a") (-1) = ⟨#[97]⟩), one_beq]
theorem one_98 {w : World} {news : Led} {d : Nat} {t u : Tok} : Con w 194 1 4 news [.str (Str.ofString "b") t, .str ⟨#[d]⟩ u] (OutV news fun _ => .bool (decide (d = 98))) := by
  refine' con_of [(Str.ofString "part", .str (Str.ofString "b") t), (Str.ofString "sign", .str ⟨#[d]⟩ u)] ?ho ?hcd ?hb ?hl ?c1 ?c2 ?c3 ?c4 ?_; (case ho => k_is); (case hcd => k_is); (case hb => exact rfl); (case hl => exact locs rfl); (case c1 => exact rfl); (case c2 => exact rfl); (case c3 => exact rfl); (case c4 => decide)
  intro prog p loose mean mg mb dp un gd outer A₀ base g L h₁ s tk B F X N T hd hu
  (try (change wpAny _ _ (execs (_ :: _) _) _ _ _))
  (try dsimp only)
  k_steps
  refine FinB.intro (by assumption) (by assumption) ⟨⟨0, congrArg Value.bool ?_⟩, rfl⟩
  rw [(by decide +kernel : Txt.item (Str.ofString "b") (-1) = ⟨#[98]⟩), one_beq]
theorem one_42 {w : World} {news : Led} {d : Nat} {t u : Tok} : Con w 194 1 4 news [.str (Str.ofString "[*]") t, .str ⟨#[d]⟩ u] (OutV news fun _ => .bool (decide (d = 42))) := by
  refine' con_of [(Str.ofString "part", .str (Str.ofString "[*]") t), (Str.ofString "sign", .str ⟨#[d]⟩ u)] ?ho ?hcd ?hb ?hl ?c1 ?c2 ?c3 ?c4 ?_; (case ho => k_is); (case hcd => k_is); (case hb => exact rfl); (case hl => exact locs rfl); (case c1 => exact rfl); (case c2 => exact rfl); (case c3 => exact rfl); (case c4 => decide)
  intro prog p loose mean mg mb dp un gd outer A₀ base g L h₁ s tk B F X N T hd hu
  (try (change wpAny _ _ (execs (_ :: _) _) _ _ _))
  (try dsimp only)
  k_steps
  all_goals refine FinB.intro (by assumption) (by assumption) ⟨⟨0, congrArg Value.bool ?_⟩, rfl⟩
  all_goals rw [(by decide +kernel : (Txt.item (Str.ofString "*") 0 == Str.ofString "^") = false)]
  · have h1 : (⟨#[d]⟩ : Str).cps.toList < (Str.ofString "*").cps.toList := by assumption
    rw [lt_one (c := 42) (by decide +kernel)] at h1
    simp; omega
  · have h1 : (Str.ofString "*").cps.toList < (⟨#[d]⟩ : Str).cps.toList := by assumption
    rw [one_lt (c := 42) (by decide +kernel)] at h1
    simp; omega
  · have h1 : ¬ (⟨#[d]⟩ : Str).cps.toList < (Str.ofString "*").cps.toList := by assumption
    have h2 : ¬ (Str.ofString "*").cps.toList < (⟨#[d]⟩ : Str).cps.toList := by assumption
    rw [lt_one (c := 42) (by decide +kernel)] at h1
    rw [one_lt (c := 42) (by decide +kernel)] at h2
    simp; omega
theorem one_91 {w : World} {news : Led} {d : Nat} {t u : Tok} : Con w 194 1 4 news [.str (Str.ofString "[\\[]") t, .str ⟨#[d]⟩ u] (OutV news fun _ => .bool (decide (d = 91))) := by
  refine' con_of [(Str.ofString "part", .str (Str.ofString "[\\[]") t), (Str.ofString "sign", .str ⟨#[d]⟩ u)] ?ho ?hcd ?hb ?hl ?c1 ?c2 ?c3 ?c4 ?_; (case ho => k_is); (case hcd => k_is); (case hb => exact rfl); (case hl => exact locs rfl); (case c1 => exact rfl); (case c2 => exact rfl); (case c3 => exact rfl); (case c4 => decide)
  intro prog p loose mean mg mb dp un gd outer A₀ base g L h₁ s tk B F X N T hd hu
  (try (change wpAny _ _ (execs (_ :: _) _) _ _ _))
  (try dsimp only)
  k_steps
  all_goals refine FinB.intro (by assumption) (by assumption) ⟨⟨0, congrArg Value.bool ?_⟩, rfl⟩
  all_goals rw [(by decide +kernel : (Txt.item (Str.ofString "\\[") 0 == Str.ofString "^") = false)]
  · have h1 : (⟨#[d]⟩ : Str).cps.toList < (Str.ofString "[").cps.toList := by assumption
    rw [lt_one (c := 91) (by decide +kernel)] at h1
    simp; omega
  · have h1 : (Str.ofString "[").cps.toList < (⟨#[d]⟩ : Str).cps.toList := by assumption
    rw [one_lt (c := 91) (by decide +kernel)] at h1
    simp; omega
  · have h1 : ¬ (⟨#[d]⟩ : Str).cps.toList < (Str.ofString "[").cps.toList := by assumption
    have h2 : ¬ (Str.ofString "[").cps.toList < (⟨#[d]⟩ : Str).cps.toList := by assumption
    rw [lt_one (c := 91) (by decide +kernel)] at h1
    rw [one_lt (c := 91) (by decide +kernel)] at h2
    simp; omega
theorem one_neg {w : World} {news : Led} {d : Nat} {t u : Tok} : Con w 194 1 4 news [.str (Str.ofString "[^.]") t, .str ⟨#[d]⟩ u] (OutV news fun _ => .bool (decide (d ≠ 46))) := by
  refine' con_of [(Str.ofString "part", .str (Str.ofString "[^.]") t), (Str.ofString "sign", .str ⟨#[d]⟩ u)] ?ho ?hcd ?hb ?hl ?c1 ?c2 ?c3 ?c4 ?_; (case ho => k_is); (case hcd => k_is); (case hb => exact rfl); (case hl => exact locs rfl); (case c1 => exact rfl); (case c2 => exact rfl); (case c3 => exact rfl); (case c4 => decide)
  intro prog p loose mean mg mb dp un gd outer A₀ base g L h₁ s tk B F X N T hd hu
  (try (change wpAny _ _ (execs (_ :: _) _) _ _ _))
  (try dsimp only)
  k_steps
  all_goals refine FinB.intro (by assumption) (by assumption) ⟨⟨0, congrArg Value.bool ?_⟩, rfl⟩
  all_goals rw [(by decide +kernel : (Txt.item (Str.ofString "^.") 0 == Str.ofString "^") = true)]
  · have h1 : (⟨#[d]⟩ : Str).cps.toList < (Str.ofString ".").cps.toList := by assumption
    rw [lt_one (c := 46) (by decide +kernel)] at h1
    simp; omega
  · have h1 : (Str.ofString ".").cps.toList < (⟨#[d]⟩ : Str).cps.toList := by assumption
    rw [one_lt (c := 46) (by decide +kernel)] at h1
    simp; omega
  · have h1 : ¬ (⟨#[d]⟩ : Str).cps.toList < (Str.ofString ".").cps.toList := by assumption
    have h2 : ¬ (Str.ofString ".").cps.toList < (⟨#[d]⟩ : Str).cps.toList := by assumption
    rw [lt_one (c := 46) (by decide +kernel)] at h1
    rw [one_lt (c := 46) (by decide +kernel)] at h2
    simp; omega
theorem one_con {w : World} {news : Led} {c d : Nat} {t u : Tok} (hc : c ∈ [97, 98, 46, 45, 42, 91]) : Con w 194 1 4 news [.str (partS c) t, .str ⟨#[d]⟩ u] (OutV news fun _ => .bool (decide (d = c))) := by
  simp only [List.mem_cons, List.not_mem_nil, or_false] at hc
  rcases hc with rfl | rfl | rfl | rfl | rfl | rfl
  · rw [(by decide +kernel : partS 97 = Str.ofString "a")]; exact one_97
  · rw [(by decide +kernel : partS 98 = Str.ofString "b")]; exact one_98
  · rw [(by decide +kernel : partS 46 = Str.ofString "\\.")]; exact one_46
  · rw [(by decide +kernel : partS 45 = Str.ofString "\\-")]; exact one_45
  · rw [(by decide +kernel : partS 42 = Str.ofString "[*]")]; exact one_42
  · rw [(by decide +kernel : partS 91 = Str.ofString "[\\[]")]; exact one_91

end
section
theorem walkAnewF6 : True := by
  w_top off
  trivial
abbrev escD : List (Int × PyData) := [(40, .str ⟨#[92, 40]⟩), (41, .str ⟨#[92, 41]⟩), (91, .str ⟨#[92, 91]⟩), (93, .str ⟨#[92, 93]⟩), (123, .str ⟨#[92, 123]⟩), (125, .str ⟨#[92, 125]⟩), (63, .str ⟨#[92, 63]⟩), (42, .str ⟨#[92, 42]⟩), (43, .str ⟨#[92, 43]⟩), (45, .str ⟨#[92, 45]⟩), (124, .str ⟨#[92, 124]⟩), (94, .str ⟨#[92, 94]⟩), (36, .str ⟨#[92, 36]⟩), (92, .str ⟨#[92, 92]⟩), (46, .str ⟨#[92, 46]⟩), (38, .str ⟨#[92, 38]⟩), (126, .str ⟨#[92, 126]⟩), (35, .str ⟨#[92, 35]⟩), (32, .str ⟨#[92, 32]⟩), (9, .str ⟨#[92, 9]⟩), (10, .str ⟨#[92, 10]⟩), (13, .str ⟨#[92, 13]⟩), (11, .str ⟨#[92, 11]⟩), (12, .str ⟨#[92, 12]⟩)]
theorem esc_keyed {w : World} {h : Heap} (X : (KH w.params).In h) : KTD.Keyed h 170 escD :=
  KTD.keyed_of_look (get := fun a => (KH w.params).lookup a) X (by kernel_rfl)
theorem key_lookup : isSubtype (.type "KeyError") (.type "LookupError") = pure true := by rw [isSubtype_type]; kernel_rfl
open Builtin Builtin.Str in
section
variable {prog : Program} {w : World} {A : Around} {E : Value → Shared → Prop} {h₀ : Heap} {L : Addr} {m : Str → Option Value} {news : Led}
theorem look_hit {s : Shared} {c c' : Nat} {x : Str} {Q : Mapped → Shared → Prop} (hcc : c' = c) (T : TabAt (intKind prog w) PyData.int s.heap 170 (escD.map fun p => (PyData.int p.1, p.2))) (hl : PySem.Spec.lookup (PyData.int (c : Int)) (escD.map fun p => (PyData.int p.1, p.2)) = some (.str x))
    (h : ∀ k, Q (.text x) { s with toks := k }) : wpAny (model prog w) A (tableLookup (.ref 170) c') Q E s := by
  subst hcc
  unfold tableLookup
  refine wpAny_bind (wpAny_attempt (wpAny_bind (wpAny_mkInt' (getItem_tab PyProof.V.same_int (by first | rfl | simp [intKind, Value.isInt]) T hl fun v hv => ?_))))
  have hv' := hv s.heap
  cases hv'
  repeat (any_goals (first | exact h _ | assumption | wp_step))
theorem look_miss {s : Shared} {c c' : Nat} {Q : Mapped → Shared → Prop} (hcc : c' = c) (T : TabAt (intKind prog w) PyData.int s.heap 170 (escD.map fun p => (PyData.int p.1, p.2))) (hh : A.handled = none) (hl : PySem.Spec.lookup (PyData.int (c : Int)) (escD.map fun p => (PyData.int p.1, p.2)) = none)
    (h : ∀ h' k, (∀ b o, s.heap.get? b = some o → h'.get? b = some o) → Q .keep { s with heap := h', toks := k }) : wpAny (model prog w) A (tableLookup (.ref 170) c') Q E s := by
  subst hcc
  unfold tableLookup
  refine wpAny_bind (wpAny_attempt (wpAny_bind (wpAny_mkInt' (getItem_tab_missing PyProof.V.same_int (by first | rfl | simp [intKind, Value.isInt]) T hh hl fun h' e hn => ?_))))
  obtain ⟨ob, t, he, hcls, hd⟩ := hn.there
  have hT : ({ s with heap := h', toks := s.toks + 1 + 1 } : Shared).TypeIs (.ref e) "KeyError" := ⟨ob, he, hcls⟩
  have hk := hn.keeps
  have hs := key_lookup
  repeat (any_goals (first | exact h _ _ hk | assumption | wp_step))
end
theorem trans_hit {prog : Program} {w : World} {A : Around} {E : Value → Shared → Prop} {s : Shared} {c : Nat} {u : Tok} {x : Str} {Q : Value → Shared → Prop} (T : TabAt (intKind prog w) PyData.int s.heap 170 (escD.map fun p => (PyData.int p.1, p.2)))
    (hl : PySem.Spec.lookup (PyData.int (c : Int)) (escD.map fun p => (PyData.int p.1, p.2)) = some (.str x)) (hx : x = ⟨#[92, c]⟩) (hc : c < 128)
    (h : ∀ t k, Q (.str x t) { s with toks := k }) : wpAny (model prog w) A (call (.builtin "str.translate") [.str ⟨#[c]⟩ u, .ref 170]) Q E s := by
  refine wpAny_call (codeAny_call_builtin F.slot_str_translate.plain F.entry_str_translate (F.slot_str_translate.check _ _ _ _ _ _ _ _ (typeIs_str s ⟨#[c]⟩ u) (F.args_str_translate_2 _ _) ?_))
  subst hx
  have hfast : (⟨#[c]⟩ : Str).cps.all (· < 128) = true := by simp [hc]
  have hlen : ((⟨#[92, c]⟩ : Str).length == 1) = false := rfl
  unfold Builtin.«str.translate»
  repeat (any_goals (first | ((with_reducible refine look_hit (c := c) ?hcc (by assumption) hl (fun k => ?_)); (case hcc => rfl)) | exact h _ _ | wp_step))
theorem trans_miss {prog : Program} {w : World} {A : Around} {E : Value → Shared → Prop} {s : Shared} {c : Nat} {u : Tok} {Q : Value → Shared → Prop} (T : TabAt (intKind prog w) PyData.int s.heap 170 (escD.map fun p => (PyData.int p.1, p.2)))
    (hl : PySem.Spec.lookup (PyData.int (c : Int)) (escD.map fun p => (PyData.int p.1, p.2)) = none) (hh : A.handled = none) (hc : c < 128)
    (h : ∀ t h' k, (∀ b o, s.heap.get? b = some o → h'.get? b = some o) → Q (.str ⟨#[c]⟩ t) { s with heap := h', toks := k }) : wpAny (model prog w) A (call (.builtin "str.translate") [.str ⟨#[c]⟩ u, .ref 170]) Q E s := by
  refine wpAny_call (codeAny_call_builtin F.slot_str_translate.plain F.entry_str_translate (F.slot_str_translate.check _ _ _ _ _ _ _ _ (typeIs_str s ⟨#[c]⟩ u) (F.args_str_translate_2 _ _) ?_))
  have hfast : (⟨#[c]⟩ : Str).cps.all (· < 128) = true := by simp [hc]
  unfold Builtin.«str.translate»
  repeat (any_goals (first | ((with_reducible refine look_miss (c := c) ?hcc (by assumption) (by first | exact hh | assumption) hl (fun h' k hk => ?_)); (case hcc => rfl)) | exact h _ _ _ (by assumption) | wp_step))
theorem trans_one {prog : Program} {w : World} {A : Around} {E : Value → Shared → Prop} {s : Shared} {c : Nat} {u : Tok} {Q : Value → Shared → Prop} (T : TabAt (intKind prog w) PyData.int s.heap 170 (escD.map fun p => (PyData.int p.1, p.2)))
    (hc : c ∈ [97, 98, 46, 45]) (hh : A.handled = none) (h : ∀ t h' k, (∀ b o, s.heap.get? b = some o → h'.get? b = some o) → Q (.str (partS c) t) { s with heap := h', toks := k }) :
    wpAny (model prog w) A (call (.builtin "str.translate") [.str ⟨#[c]⟩ u, .ref 170]) Q E s := by
  simp only [List.mem_cons, List.not_mem_nil, or_false] at hc
  have hc' : (c = 97 ∨ c = 98) ∨ (c = 46 ∨ c = 45) := by omega
  rcases hc' with h0 | h0
  · refine trans_miss T ?_ hh (by omega) fun u h' k hk => ?_
    · rcases h0 with rfl | rfl <;> decide +kernel
    · have e : partS c = ⟨#[c]⟩ := by rcases h0 with rfl | rfl <;> decide +kernel
      exact e ▸ h u h' k hk
  · refine trans_hit (x := partS c) T ?_ ?_ (by omega) fun u k => h u _ k fun _ _ e => e
    · rcases h0 with rfl | rfl <;> kernel_rfl
    · rcases h0 with rfl | rfl <;> decide +kernel
local macro_rules | `(tactic| walk_at "getMethod str") => `(tactic| (with_reducible refine GM.of (.str _ _) (typeIs_str _ _ _) F.slot_str_translate F.type_str_translate GM.noRef ?_))
local macro_rules | `(tactic| walk_at "call builtin:str.translate") => `(tactic| (with_reducible refine Hold.mk ?_))
theorem escape_con {w : World} {news : Led} {c : Nat} {t : Tok} (hc : c ∈ [97, 98, 46, 45]) : Con w 180 1 4 news [.str ⟨#[c]⟩ t] (OutV news fun u => .str (partS c) u) := by
  refine' con_of [(Str.ofString "pattern", .str ⟨#[c]⟩ t)] ?ho ?hcd ?hb ?hl ?c1 ?c2 ?c3 ?c4 ?_; (case ho => k_is); (case hcd => k_is); (case hb => exact rfl); (case hl => exact locs rfl); (case c1 => exact rfl); (case c2 => exact rfl); (case c3 => exact rfl); (case c4 => decide)
  intro prog p loose mean mg mb dp un gd outer A₀ base g L h₁ s tk B F X N T hd hu
  (try (change wpAny _ _ (execs (_ :: _) _) _ _ _))
  (try dsimp only)
  k_steps
  refine Hold.out (trans_one ((esc_keyed (X.keeps F.keep)) prog w) hc rfl fun u h' k hk => ?_)
  exact FinB.intro (F.keeps hk) (N.grown hk) ⟨⟨u, rfl⟩, rfl⟩

end
section
theorem walkAnewF7 : True := by
  w_top off
  trivial
open Builtin Builtin.Re
abbrev pat168 : Obj := { cls := .type "re.Pattern", data := .fields #[.str (Str.ofString "([&~|])") 501, .int 32 536, .int 1 0, .none, .none, .ref 167, .int 0 0] }
abbrev codeV : List Int := [14, 14, 4, 1, 1, 9, 0, 64, 0, 1342177280, 0, 0, 0, 0, 0, 17, 0, 13, 11, 9, 0, 64, 0, 1342177280, 0, 0, 0, 0, 0, 17, 1, 1]
abbrev tup167 : Obj := seqO "tuple" (codeV.map fun i => .int i 0) 0
theorem pat_in {w : World} {h : Heap} (X : (KH w.params).In h) : h.get? 168 = some pat168 := X 168 pat168 (by kernel_rfl)
theorem tup_in {w : World} {h : Heap} (X : (KH w.params).In h) : h.get? 167 = some tup167 := X 167 tup167 (by kernel_rfl)
abbrev tgt (x : Str) (t : Tok) : ReTarget := { pattern := .ref 168, string := .str x t, code := (codeV.map Int.toNat).toArray, text := x.cps, kind := 0, groups := 1, pos := 0, lim := x.cps.size }
/-- the pattern finds nothing -/
def NoFind (x : Str) : Prop := ∀ (S : Setting) (t : Tok), peek [] S (reNextFound (tgt x t) 0 false) = some none
theorem nofind1 : NoFind (Str.ofString "!.") := fun S t => by kernel_rfl
theorem nofind2 : NoFind (Str.ofString "*") := fun S t => by kernel_rfl
theorem nofind3 : NoFind (Str.ofString "[") := fun S t => by kernel_rfl
theorem find_step {M : Model} {A : Around} {E : Value → Shared → Prop} {s : Shared} {x : Str} {t : Tok} {T : ReTarget} {n : Nat} {b : Bool} {Q : Option Sre.M → Shared → Prop} (hx : NoFind x) (hT : T = tgt x t) (hn : n = 0) (hb : b = false) (h : Q none s) : wpAny M A (reNextFound T n b) Q E s := by
  subst hT; subst hn; subst hb
  exact fun Γ p _ => wp_of_peek (K := []) (fun _ _ e => nomatch e) h _ (hx _ _)
theorem pattype : typeOf (.type "re.Pattern") = pure (.type "type") := by kernel_rfl
theorem slot_pat_sub : Slot "re.Pattern" "sub" "re.Pattern.sub" :=
  .of (owner := "re.Pattern") (n := "sub") (by rw [typeLookup_type, builtinLookup_eq_fast]; kernel_rfl) (by decide +kernel) (by decide +kernel) (by decide +kernel)
    (by first | exact .inl (by decide +kernel) | exact .inr (by decide +kernel)) (by rw [isSubtype_type]; kernel_rfl)
theorem type_pat_sub : typeOf (.builtin "re.Pattern.sub") = pure (.type "method_descriptor") := by show builtinType _ = _; rw [builtinType_eq_fast]; kernel_rfl
theorem entry_pat_sub : entryFor table "re.Pattern.sub" = some Builtin.«re.Pattern.sub» := entryFor_of_tree (by kernel_rfl)
theorem entry_pat_loop : entryFor table "re.Pattern.sub.loop" = some Builtin.«re.Pattern.sub.loop» := entryFor_of_tree (by kernel_rfl)
theorem plain_pat : PlainAttrs "re.Pattern" := ⟨⟨"object.__getattribute__", by rw [typeLookup_type, builtinLookup_eq_fast]; kernel_rfl, by decide +kernel⟩, by rw [typeLookup_type, builtinLookup_eq_fast]; kernel_rfl⟩
theorem args_pat_sub (a b c : Value) : argsOk "re.Pattern.sub" ⟨[a, b, c], []⟩ := by unfold argsOk; kernel_rfl
theorem fn_call : typeLookup (.type "function") "__call__" = pure (some (.builtin "function.__call__")) := by rw [typeLookup_type, builtinLookup_eq_fast]; kernel_rfl
section
variable {prog : Program} {w : World} {A : Around} {E : Value → Shared → Prop} {s : Shared}
theorem whole_step {x : Str} {t : Tok} {Q : ReTarget → Shared → Prop} (h1 : s.heap.get? 168 = some pat168) (h2 : s.heap.get? 167 = some tup167) (h : Q (tgt x t) s) : wpAny (model prog w) A (reWholeTarget (.ref 168) (.str x t)) Q E s := by
  have hT : s.TypeIs (.ref 168) "re.Pattern" := ⟨_, h1, rfl⟩
  have hT2 : s.TypeIs (.ref 167) "tuple" := ⟨_, h2, rfl⟩
  repeat (any_goals (first | assumption | wp_step))
  refine cast (congrArg (fun T => Q T _) ?_) h
  kernel_rfl
theorem slice_step {text : Array Nat} {kind b e : Nat} {Q : Value → Shared → Prop} (hk : kind = 0) (hz : e ≤ 64) (h : Q (.str ⟨text.extract b e⟩ s.toks) { s with toks := s.toks + 1 }) : wpAny (model prog w) A (reSlice text kind b e) Q E s := by
  subst hk
  have hl : (⟨text.extract b e⟩ : Str).length ≤ sizeLine := by
    rw [sizeLine_eq]
    show (text.extract b e).size ≤ 16777216
    rw [Array.size_extract]
    omega
  exact wpAny_mkStr' h hl
theorem join_step {id : String} {e y : Str} {tk t : Tok} {D : Addr} {o : Obj} {Q : Value → Shared → Prop} (hid : id = "str.join") (hD : s.heap.get? D = some o) (hc : o.cls = .type "list") {n : Nat} (hd : o.data = .seq #[.str y t] n) (hy : y.length ≤ 64) (he : e.length ≤ 64)
    (h : ∀ t' k, Q (.str y t') { s with toks := k }) : wpAny (model prog w) A (call (.builtin id) [.str e tk, .ref D]) Q E s := by
  subst hid
  refine SC.join (l := [(y, t)]) ⟨o, hD, hc, n, hd⟩ rfl (joinOk_of (by simp; omega)) fun t' k => ?_
  have e1 : Txt.join e [y] = y := by
    show Builtin.Str.glued e [y] = y
    rw [StrLaws.glued_eq_join]; rfl
  exact e1 ▸ h t' k
theorem loop_none {x : Str} {t : Tok} {f D : Addr} {Q : Fin → Shared → Prop} (hx : NoFind x) (hn : 0 < x.cps.size) (hz : x.cps.size ≤ 64) (h1 : s.heap.get? 168 = some pat168) (h2 : s.heap.get? 167 = some tup167) (hD : s.heap.get? D = some (seqO "list" [] 0))
    (h : ∀ u h' k, (∀ b o, b ≠ D → s.heap.get? b = some o → h'.get? b = some o) → Q (.done (.ret (.str x u))) { s with heap := h', toks := k }) :
    wpAny (model prog w) A (Builtin.«re.Pattern.sub.loop» ⟨[.ref 168, .str x t, .ref f, rawInt 1, rawInt 0, rawInt 0, rawInt 0, rawInt 0, .bool false, .ref D, .bool false], []⟩) Q E s := by
  have e0 : x.cps.extract 0 x.cps.size = x.cps := by simp
  have hupd : ∀ (v : Value), (s.heap.update D (Obj.mapSeq fun xs => xs.push v)).get? D = some { cls := .type "list", data := .seq #[v] 1 } := fun v =>
    Heap.get?_update_self _ hD rfl
  have hkeep : ∀ (v : Value) b o, b ≠ D → s.heap.get? b = some o → (s.heap.update D (Obj.mapSeq fun xs => xs.push v)).get? b = some o := fun v b o hb e => by
    exact Heap.get?_update_of_ne _ (Ne.symm hb) e
  have hlen : (⟨x.cps.extract 0 x.cps.size⟩ : Str).length ≤ 64 := by rw [e0]; exact hz
  repeat (any_goals (first | (with_reducible refine whole_step h1 h2 ?_) | ((with_reducible refine find_step (x := x) (t := t) hx ?hT ?hn ?hb ?_); (case hT => rfl); (case hn => rfl); (case hb => rfl)) | ((with_reducible refine slice_step ?hk ?hz ?_); (case hk => rfl); (case hz => first | exact hz | exact Nat.zero_le _)) | ((with_reducible show wpAny _ _ (call (Value.builtin (ite _ _ _)) _) _ _ _); refine Hold.mk ?_) | assumption | wp_step))
  refine Hold.out ?_
  refine join_step (y := ⟨x.cps.extract 0 x.cps.size⟩) rfl (hupd _) rfl rfl hlen (by show (x.cps.extract 0 0).size ≤ 64; rw [Array.size_extract]; omega) fun t' k => ?_
  have e1 : (⟨x.cps.extract 0 x.cps.size⟩ : Str) = x := by rw [e0]
  rw [e1]
  exact wpAny_pure (h t' _ k (hkeep _))
theorem fn_sub {f : Addr} {of : Obj} {x : Str} {t : Tok} {Q : Value → Shared → Prop} (hx : NoFind x) (hn : 0 < x.cps.size) (hz : x.cps.size ≤ 64) (h1 : s.heap.get? 168 = some pat168) (h2 : s.heap.get? 167 = some tup167) (hf : s.heap.get? f = some of) (hc : of.cls = .type "function")
    (h : ∀ u h' k, (∀ b o, s.heap.get? b = some o → h'.get? b = some o) → Q (.str x u) { s with heap := h', toks := k }) :
    wpAny (model prog w) A (call (.builtin "re.Pattern.sub") [.ref 168, .ref f, .str x t]) Q E s := by
  have hT : s.TypeIs (.ref 168) "re.Pattern" := ⟨_, h1, rfl⟩
  refine wpAny_call (codeAny_call_builtin slot_pat_sub.plain entry_pat_sub (slot_pat_sub.check _ _ _ _ _ _ _ _ hT (args_pat_sub _ _ _) ?_))
  have hF : s.TypeIs (.ref f) "function" := ⟨_, hf, hc⟩
  have hfc := fn_call
  have hS : s.TypeIs (.str x t) "str" := typeIs_str _ _ _
  have hby : isSubtype (.type "str") (.type "bytearray") = pure false := by rw [isSubtype_type]; kernel_rfl
  unfold Builtin.«re.Pattern.sub» reSubstitute
  repeat (any_goals (first | (with_reducible refine whole_step h1 h2 ?_) | ((with_reducible show codeAny _ _ (Code.builtin _ _) _ _); refine Hold.mk ?_) | ((with_reducible show _ ∧ _); refine Hold.mk ?_) | wp_step))
  refine Hold.out ⟨Code.quiet_builtin _ (by decide +kernel), codeAny_builtin entry_pat_loop ?_⟩
  rw [Around.under_plain rfl rfl]
  refine loop_none (s := { s with heap := s.heap.push (seqO "list" [] 0) }) hx hn hz (Heap.get?_push_of_some _ h1) (Heap.get?_push_of_some _ h2) (Heap.get?_push_size _ rfl) fun u h' k hk => ?_
  exact h u h' k fun b o e => hk b o (Nat.ne_of_lt (Heap.lt_size e)) (Heap.get?_push_of_some _ e)
end

end
section
theorem walkAnewF8 : True := by
  w_top off
  trivial
/-- a part of _translate's -/
inductive Pt where
  | star
  | neg
  | chr (c : Nat)
def Pt.Ok : Pt → Prop
  | .chr c => c ∈ [97, 98, 46, 45, 42, 91]
  | _ => True
def Pt.Is (st : Addr) : Pt → Value → Prop
  | .star, v => v = .ref st
  | .neg, v => ∃ t, v = .str (Str.ofString "[^.]") t
  | .chr c, v => ∃ t, v = .str (partS c) t
inductive PtsAre (st : Addr) : List Value → List Pt → Prop where
  | nil : PtsAre st [] []
  | cons {v : Value} {p : Pt} {vs : List Value} {ps : List Pt} : p.Is st v → p.Ok → PtsAre st vs ps → PtsAre st (v :: vs) (p :: ps)
theorem PtsAre.at {st : Addr} {vs : List Value} {ps : List Pt} (h : PtsAre st vs ps) : ∀ {i : Nat} {v : Value}, vs[i]? = some v → ∃ p, ps[i]? = some p ∧ p.Is st v ∧ p.Ok := by
  induction h with
  | nil => intro i v e; simp at e
  | cons h1 h2 _ ih =>
    intro i v e
    cases i with
    | zero => simp at e; subst e; exact ⟨_, by simp, h1, h2⟩
    | succ i => simp at e; simpa using ih e
theorem PtsAre.length {st : Addr} {vs : List Value} {ps : List Pt} (h : PtsAre st vs ps) : vs.length = ps.length := by
  induction h with
  | nil => rfl
  | cons _ _ _ ih => simp [ih]
/-- the places behind one part more -/
def stepAt (nm : List Nat) (at' : List Nat) : Pt → List Nat
  | .star => match at' with
    | [] => []
    | a :: _ => List.range' a (nm.length + 1 - a)
  | .neg => (at'.filter fun p => nm[p]?.any (· != 46)).map (· + 1)
  | .chr c => (at'.filter fun p => nm[p]?.any (· == c)).map (· + 1)
theorem allLt_mem {d : Addr} : ∀ {l : Led}, AllLt d l → ∀ p ∈ l, p.1 < d
  | [], _, _, h => nomatch h
  | q :: r, x, p, h => by
    rcases List.mem_cons.mp h with rfl | h
    · exact x.1
    · exact allLt_mem x.2 p h
def AtOk (nm at' : List Nat) : Prop := at'.length ≤ nm.length + 1 ∧ ∀ k ∈ at', k ≤ nm.length
theorem atOk_step {nm at' : List Nat} (h : AtOk nm at') (p : Pt) : AtOk nm (stepAt nm at' p) := by
  cases p with
  | star =>
    cases at' with
    | nil => exact ⟨Nat.zero_le _, fun _ hk => nomatch hk⟩
    | cons a r =>
      refine ⟨by simp only [stepAt, List.length_range']; omega, fun k hk => ?_⟩
      simp only [stepAt, List.mem_range'_1] at hk
      omega
  | neg =>
    refine ⟨by simp only [stepAt, List.length_map]; exact Nat.le_trans (List.length_filter_le _ _) h.1, fun k hk => ?_⟩
    simp only [stepAt, List.mem_map, List.mem_filter] at hk
    obtain ⟨p, ⟨_, h2⟩, rfl⟩ := hk
    cases e : nm[p]? with
    | none => rw [e] at h2; cases h2
    | some x => exact (List.getElem?_eq_some_iff.mp e).1
  | chr c =>
    refine ⟨by simp only [stepAt, List.length_map]; exact Nat.le_trans (List.length_filter_le _ _) h.1, fun k hk => ?_⟩
    simp only [stepAt, List.mem_map, List.mem_filter] at hk
    obtain ⟨p, ⟨_, h2⟩, rfl⟩ := hk
    cases e : nm[p]? with
    | none => rw [e] at h2; cases h2
    | some x => exact (List.getElem?_eq_some_iff.mp e).1
theorem atOk_fold {nm : List Nat} : ∀ (ps : List Pt) {at' : List Nat}, AtOk nm at' → AtOk nm (ps.foldl (stepAt nm) at')
  | [], _, h => h
  | p :: r, _, h => atOk_fold r (atOk_step h p)
theorem atOk_start {nm : List Nat} : AtOk nm [0] := ⟨by simp, fun k hk => by simp at hk; omega⟩
def takesL (nm : List Nat) (ps : List Pt) : Bool := (ps.foldl (stepAt nm) [0]).contains nm.length
theorem news_new {h₀ h h' : Heap} {L : Addr} {m : Str → Option Value} {news : Led} {o : Obj} (F : Fr h₀ L h m) (N : News h₀ L h news) (hk : ∀ b o, h.get? b = some o → h'.get? b = some o) (hD : h'.get? h.objs.size = some o) :
    Fr h₀ L h' m ∧ News h₀ L h' ((h.objs.size, o) :: news) ∧ ∀ p ∈ news, p.1 < h.objs.size := by
  refine ⟨F.keeps hk, fun p hp => ?_, fun p hp => Heap.lt_size (N p hp).1⟩
  rcases List.mem_cons.mp hp with rfl | hp
  · exact ⟨hD, Nat.ne_of_gt F.ns.lt, next_is_new F⟩
  · exact ⟨hk _ _ (N p hp).1, (N p hp).2⟩
theorem ints_range : ∀ (vs : List Value) (k : Nat), (∀ (i : Nat) (v : Value), vs[i]? = some v → ∃ t, v = Value.int ((k : Int) + (i : Int) * 1) t) → IntsAre vs ((List.range' k vs.length).map fun (k : Nat) => (k : Int))
  | [], _, _ => .nil
  | v :: r, k, h => by
    obtain ⟨t, rfl⟩ := h 0 v rfl
    rw [List.length_cons, List.range'_succ, List.map_cons]
    have e : (k : Int) + ((0 : Nat) : Int) * 1 = (k : Int) := by simp
    rw [e]
    refine .cons _ _ (ints_range r (k + 1) fun i v hv => ?_)
    obtain ⟨t', e'⟩ := h (i + 1) v (by simpa using hv)
    refine ⟨t', ?_⟩
    rw [e', show (k : Int) + ((i + 1 : Nat) : Int) * 1 = ((k + 1 : Nat) : Int) + (i : Int) * 1 by push_cast; omega]
theorem ints_snoc {n : Int} {t : Tok} : ∀ {vs : List Value} {ns : List Int}, IntsAre vs ns → IntsAre (vs ++ [.int n t]) (ns ++ [n])
  | _, _, .nil => .cons _ _ .nil
  | _, _, .cons _ _ h => .cons _ _ (ints_snoc h)
theorem char_at {x : Str} {k : Nat} (h : k < x.length) : Txt.charAt x (k : Int) = x.cps.toList[k]? := by
  unfold Txt.charAt seqIndex?
  have h1 : ¬ ((k : Int) < 0) := by omega
  have h2 : (decide (0 ≤ (k : Int)) && decide ((k : Int) < x.length)) = true := by simp; omega
  simp only [h1, if_false, h2, if_true, Option.bind_some, Int.toNat_natCast]
  exact Array.getElem?_toList.symm
theorem char_test {x : Str} {k : Nat} (h : k < x.length) (q : Nat → Bool) : x.cps.toList[k]?.any q = q ((Txt.charAt x (k : Int)).getD 0) := by
  rw [char_at h]
  have : k < x.cps.toList.length := by rw [Array.length_toList]; exact h
  rw [List.getElem?_eq_getElem this]
  rfl
theorem char_none {x : Str} {k : Nat} (h : ¬ k < x.length) (q : Nat → Bool) : x.cps.toList[k]?.any q = false := by
  have : x.cps.toList[k]? = none := List.getElem?_eq_none (by rw [Array.length_toList]; exact Nat.not_lt.mp h)
  rw [this]; rfl
local macro_rules | `(tactic| walk_at "compareOp Is str ref") => `(tactic| ((try dsimp only); (refine wpAny_is_other (by rfl) (by intro x; cases x) ?_)))
local macro_rules | `(tactic| walk_at "compareOp Is ref ref") => `(tactic| ((try dsimp only); (refine wpAny_is_self (by rfl) ?_)))
local macro_rules | `(tactic| walk_at "call type:list") => `(tactic| (with_reducible refine Hold.mk ?_))
local macro_rules | `(tactic| walk_at "exec Assign cons ListComp") => `(tactic| (with_reducible refine Hold.mk ?_))
local macro_rules | `(tactic| walk_at "CEnd") => `(tactic| (with_reducible refine Hold.mk ?_))
local macro_rules | `(tactic| walk_at "call ref") => `(tactic| (k_here; with_unfolding_all (refine' Con.useV (one_con ?hx9) ?k1 ?k2 ?k3 ?k4 ?k5 ?k6 ?k7 ?kd ?ku ?_); (case hx9 => assumption); (case k1 => k_asm); (case k2 => k_asm); (case k3 => k_in); (case k4 => k_asm); (case k5 => k_asm); (case k6 => exact rfl); (case k7 => exact rfl); (case kd => (simp only [recursionLimit] at *; omega)); (case ku => omega); (intro u9 h9 tk9 F9 N9); (try dsimp only); (try k_sweep)))
local macro_rules | `(tactic| walk_at "call ref") => `(tactic| (k_here; with_unfolding_all (refine' Con.useV (one_neg) ?k1 ?k2 ?k3 ?k4 ?k5 ?k6 ?k7 ?kd ?ku ?_); (case k1 => k_asm); (case k2 => k_asm); (case k3 => k_in); (case k4 => k_asm); (case k5 => k_asm); (case k6 => exact rfl); (case k7 => exact rfl); (case kd => (simp only [recursionLimit] at *; omega)); (case ku => omega); (intro u9 h9 tk9 F9 N9); (try dsimp only); (try k_sweep)))
local macro_rules | `(tactic| walk_at "WPost") => `(tactic| (dsimp only [WPost]))
local macro_rules | `(tactic| walk_at "FPost") => `(tactic| (dsimp only [FPost]))
local macro_rules | `(tactic| walk_at "truthy ref") => `(tactic| ((try dsimp only); (refine wpAny_truthy_list (News.isList (by k_asm) (by k_mem)) ?trs ?_); (case trs => ((try simp only [List.size_toArray, List.length_cons]); omega))))
local macro_rules | `(tactic| walk_at "exec For Name Name cons nil") => `(tactic| (with_reducible refine Hold.mk ?_))
theorem takes_con {w : World} {news : Led} {ap st : Addr} {vs : List Value} {ps : List Pt} {ep : Nat} {nm : Str} {t : Tok} (hap : (ap, seqO "list" vs ep) ∈ news) (hps : PtsAre st vs ps) (hn : nm.length ≤ 7) (ha : Alph nm) :
    Con w 199 3 8 news [.ref ap, .ref st, .str nm t] (OutV news fun _ => .bool (takesL nm.cps.toList ps)) := by
  refine' con_cells [(Str.ofString "parts", .ref ap), (Str.ofString "star", .ref st), (Str.ofString "name", .str nm t)] ?ho ?hcd ?hb ?hl ?hnd ?c1 ?c2 ?c3 ?_; (case ho => k_is); (case hcd => k_is); (case hb => exact rfl); (case hl => exact rfl); (case hnd => decide +kernel); (case c1 => exact rfl); (case c2 => exact rfl); (case c3 => exact rfl)
  intro prog p loose mean mg mb dp un gd outer A₀ base g L h₁ s tk cells B F X N Y lL T hd hu
  (try (change wpAny _ _ (execs (_ :: _) _) _ _ _))
  (try dsimp only)
  obtain ⟨oa, ob, rfl, da, db⟩ := CellsAre.two Y
  clear Y
  replace da : oa.data = .cell none := da
  replace db : ob.data = .cell (some (.str nm t)) := db
  dsimp only [List.nil_append, List.cons_append] at N
  k_steps
  refine Hold.out (wpAny_For ?_)
  walk1
  rename Fr _ _ _ _ => F1
  rename News _ _ _ _ => N1
  rename (_ ∧ _ ∧ AllLt _ _) => l1
  obtain ⟨l1a, l1b, l1c⟩ := l1
  have l1c := allLt_mem l1c
  refine' for_listS (σ := Addr × List Value × List Nat × Nat × Obj) (its := vs) (ep := ep) (l := ap) (fun _ c => [(c.1, seqO "list" c.2.1 c.2.2.2.1), (L + 1 + 1, c.2.2.2.2)]) ((L + 1, ob) :: news) (fun _ c => [(Str.ofString "at", .ref c.1)]) [(Str.ofString "star", .ref st)]
    (fun i c => IntsAre c.2.1 (c.2.2.1.map fun (k : Nat) => (k : Int)) ∧ c.2.2.1 = (ps.take i).foldl (stepAt nm.cps.toList) [0] ∧ (∃ v0, c.2.2.2.2.data = .cell v0) ∧ (@Ne Nat c.1 (L + 1 + 1))) (_, [.int 0 _], [0], 0, oa) ?wH ?wL ?wF ?wN ?wK ?wP ?_ ?_
  (case wH => exact rfl)
  (case wF => assumption)
  (case wN => exact N1)
  (case wL => exact List.mem_cons_of_mem _ hap)
  (case wK => kst_all)
  (case wP => exact ⟨.cons _ _ .nil, rfl, ⟨_, da⟩, Nat.ne_of_gt l1a⟩)
  · rintro i v ⟨a, ws, ns, e, oP⟩ m₁ I oI h tk hv ⟨hi, hns, ⟨v0, hoP⟩, la⟩ off F' N'
    dsimp only [List.nil_append, List.cons_append] at hi hns hoP la off F' N' ⊢
    obtain ⟨pt, hpt, hIs, hOk⟩ := hps.at hv
    have hnx : (ps.take (i + 1)).foldl (stepAt nm.cps.toList) [0] = stepAt nm.cps.toList ns pt := by
      rw [List.take_add_one, hpt, List.foldl_append, ← hns]; rfl
    have hok : AtOk nm.cps.toList ns := hns ▸ atOk_fold _ atOk_start
    have hnl : nm.cps.toList.length = nm.length := Array.length_toList
    have o1 : I ≠ L + 1 + 1 := fun q => off _ (List.mem_cons_of_mem _ (List.Mem.head _)) q.symm
    refine storeX_C (o := oP) (v₀ := v0) F' N' rfl (UpdF.tail o1 (UpdF.tail la (UpdF.head ?_))) hoP ?_
    · intro p hp
      rcases List.mem_cons.mp hp with rfl | hp
      · exact Nat.ne_of_lt (Nat.lt_succ_self _)
      · exact Nat.ne_of_lt (Nat.lt_trans (lL p hp) (Nat.lt_trans (Nat.lt_succ_self _) (Nat.lt_succ_self _)))
    intro h' o' F'' N'' d'
    have offR : ∀ p ∈ (L + 1 + 1, o') :: (L + 1, ob) :: news, p.1 ≠ I := fun p hp => by
      rcases List.mem_cons.mp hp with rfl | hp
      · exact Ne.symm o1
      · exact off p (List.mem_cons_of_mem _ (List.mem_cons_of_mem _ hp))
    have hok1 := hok.1
    clear N' F'
    cases pt with
    | star =>
      obtain rfl := hIs
      cases ns with
      | nil =>
        cases hi
        k_steps
        rename (_ ∧ _ ∧ _ ∧ _ ∧ AllLt _ _) => l2
        obtain ⟨l2a, l2b, l2c, l2d, l2e⟩ := l2
        refine FEnd.intro (_, [], [], 0, o') (by assumption) (by assumption) (List.mem_cons_of_mem _ (List.Mem.head _)) ?_ (by kst_all) ⟨.nil, hnx.symm, ⟨_, d'⟩, Nat.ne_of_gt l2c⟩
        intro p hp
        rcases List.mem_cons.mp hp with rfl | hp
        · exact ⟨List.Mem.head _, Nat.ne_of_gt l2a⟩
        · exact ⟨List.mem_cons_of_mem _ (List.mem_cons_of_mem _ (List.mem_cons_of_mem _ hp)), offR p hp⟩
      | cons k r =>
        obtain _ | ⟨_, tk', hr⟩ := hi
        have hrl := hr.length
        rw [List.length_map] at hrl
        have hk0 := hok.2 k (List.Mem.head _)
        have hk1 := hok.1
        rw [List.length_cons] at hk1
        dsimp only at N''
        k_steps
        refine Hold.out ?_
        rename Fr _ _ _ _ => F2
        rename News _ _ _ _ => N2
        have R := (by assumption : IsRange _ _ (k : Int) ((nm.length : Int) + 1) 1 _ _ _)
        refine call_list_range rfl R (small_one (by omega) (by omega) (by omega) (by omega)) (rangeSize_nat _ _) (by omega) fun h3 tk3 acc c3 hk3 hD3 hacc => ?_
        obtain ⟨F3, N3, l3⟩ := news_new F2 N2 hk3 hD3
        k_steps
        refine FEnd.intro (_, acc.toList, List.range' k (nm.cps.toList.length + 1 - k), c3, o') (by assumption) (by assumption) (List.mem_cons_of_mem _ (List.Mem.head _)) ?_ (by kst_all) ⟨?_, hnx.symm, ⟨_, d'⟩, Nat.ne_of_gt (l3 (L + 1 + 1, o') (List.mem_cons_of_mem _ (List.mem_cons_of_mem _ (List.Mem.head _))))⟩
        · intro p hp
          rcases List.mem_cons.mp hp with rfl | hp
          · exact ⟨List.Mem.head _, Nat.ne_of_gt (l3 (I, oI) (List.Mem.head _))⟩
          · exact ⟨List.mem_cons_of_mem _ (List.mem_cons_of_mem _ (List.mem_cons_of_mem _ hp)), offR p hp⟩
        · have e1 : acc.toList.length = nm.cps.toList.length + 1 - k := by rw [Array.length_toList, hacc.1, hnl]; omega
          have := ints_range acc.toList k fun i v hv => hacc.2 i v (by rw [← Array.getElem?_toList]; exact hv)
          rw [e1] at this
          exact this
    | neg =>
      obtain ⟨tv, rfl⟩ := hIs
      have hwl := hi.length
      rw [List.length_map] at hwl
      k_steps
      refine Hold.out ?_
      rename Fr _ _ _ _ => F2
      rename News _ _ _ _ => N2
      refine LCt.Assign_ListComp_T F2 rfl (by with_unfolding_all rfl) (by with_unfolding_all rfl) (by decide) rfl (by decide) rfl rfl rfl ?_
      walk1
      refine LCt.CompSrcT.ledger (ax := a) (its := ws.toArray) (k := e) rfl F2 N2 (by exact List.mem_cons_of_mem _ (List.Mem.head _)) (by rw [sizeLine_eq, List.size_toArray]; omega) ?_
      intro g'
      refine comp_restT (fun j ys nn => nn = (I, oI) :: (a, seqO "list" ws e) :: (L + 1 + 1, o') :: (L + 1, ob) :: news ∧ ∃ ms : List Nat, IntsAre ys (ms.map fun (k : Nat) => (k : Int)) ∧ ms = ((ns.take j).filter fun p => nm.cps.toList[p]?.any (· != 46)).map (· + 1)) ⟨rfl, [], .nil, rfl⟩ ?_ ?_
      · rintro j v' ys nn I' oI' C oC D m₂ h9 tk9 hj hv' ⟨rfl, ms, hys, hms⟩ hC hm F3 N3 off3 ne3
        obtain ⟨kI, tk', rfl, hk'⟩ := hi.at j v' (by simpa using hv')
        rw [List.getElem?_map] at hk'
        obtain ⟨k, hk, rfl⟩ := Option.map_eq_some_iff.mp hk'
        have htk : (ns.take (j + 1)) = ns.take j ++ [k] := by rw [List.take_add_one, hk]; rfl
        have hS : LCg.SrcAt g a ws.toArray ((I, oI) :: (a, seqO "list" ws e) :: (L + 1 + 1, o') :: (L + 1, ob) :: news) := .inr ⟨_, List.mem_cons_of_mem _ (List.Mem.head _), rfl, _, rfl⟩
        have hyes : nm.cps.toList[k]?.any (· != 46) = true → (ms ++ [k + 1]) = ((ns.take (j + 1)).filter fun p => nm.cps.toList[p]?.any (· != 46)).map (· + 1) := fun hq => by
          rw [htk, List.filter_append, List.map_append, ← hms, List.filter_cons_of_pos (by exact hq), List.filter_nil]; rfl
        have hno : nm.cps.toList[k]?.any (· != 46) = false → ms = ((ns.take (j + 1)).filter fun p => nm.cps.toList[p]?.any (· != 46)).map (· + 1) := fun hq => by
          rw [htk, List.filter_append, List.map_append, ← hms, List.filter_cons_of_neg (by rw [hq]; exact Bool.false_ne_true), List.filter_nil, List.map_nil, List.append_nil]
        have e1 : ((k + 1 : Nat) : Int) = (k : Int) + 1 := by omega
        k_steps
        · have h1 := (by assumption : (k : Int) < nm.length)
          have h2 := (by assumption : (Txt.charAt nm (k : Int)).getD 0 ≠ 46)
          refine Hold.out (CEnd.intro _ (by assumption) (by assumption) (fun _ h => h) (by assumption) hS ⟨rfl, ms ++ [k + 1], ?_, hyes ?_⟩)
          · simp only [List.map_append, List.map_cons, List.map_nil, e1]; exact ints_snoc hys
          · rw [char_test (by omega)]; simpa using h2
        · have h1 := (by assumption : (k : Int) < nm.length)
          have h2 := (by assumption : ¬ (Txt.charAt nm (k : Int)).getD 0 ≠ 46)
          refine Hold.out (CEnd.intro _ (by assumption) (by assumption) (fun _ h => h) (by assumption) hS ⟨rfl, ms, hys, hno ?_⟩)
          rw [char_test (by omega)]; simpa using h2
        · have h1 := (by assumption : ¬ (k : Int) < nm.length)
          refine Hold.out (CEnd.intro _ (by assumption) (by assumption) (fun _ h => h) (by assumption) hS ⟨rfl, ms, hys, hno ?_⟩)
          exact char_none (by omega) _
      · rintro ys nn ⟨rfl, ms, hys, hms⟩
        intro D h9 tk9 F3 N3 off3
        k_steps
        rw [List.size_toArray, hwl, List.take_length] at hms
        refine FEnd.intro (D, ys, ms, ys.length, o') (by assumption) (by assumption) (List.mem_cons_of_mem _ (List.Mem.head _)) ?_ (by kst_all) ⟨hys, hms.trans hnx.symm, ⟨_, d'⟩, Ne.symm off3.2.2.1⟩
        intro p hp
        rcases List.mem_cons.mp hp with rfl | hp
        · exact ⟨List.Mem.head _, Ne.symm off3.1⟩
        · exact ⟨List.mem_cons_of_mem _ (List.mem_cons_of_mem _ (List.mem_cons_of_mem _ hp)), offR p hp⟩
    | chr c =>
      have hcc : c ∈ [97, 98, 46, 45, 42, 91] := hOk
      obtain ⟨tv, rfl⟩ := hIs
      have hwl := hi.length
      rw [List.length_map] at hwl
      k_steps
      refine Hold.out ?_
      rename Fr _ _ _ _ => F2
      rename News _ _ _ _ => N2
      refine LCt.Assign_ListComp_T F2 rfl (by with_unfolding_all rfl) (by with_unfolding_all rfl) (by decide) rfl (by decide) rfl rfl rfl ?_
      walk1
      refine LCt.CompSrcT.ledger (ax := a) (its := ws.toArray) (k := e) rfl F2 N2 (by exact List.mem_cons_of_mem _ (List.Mem.head _)) (by rw [sizeLine_eq, List.size_toArray]; omega) ?_
      intro g'
      refine comp_restT (fun j ys nn => nn = (I, oI) :: (a, seqO "list" ws e) :: (L + 1 + 1, o') :: (L + 1, ob) :: news ∧ ∃ ms : List Nat, IntsAre ys (ms.map fun (k : Nat) => (k : Int)) ∧ ms = ((ns.take j).filter fun p => nm.cps.toList[p]?.any (· == c)).map (· + 1)) ⟨rfl, [], .nil, rfl⟩ ?_ ?_
      · rintro j v' ys nn I' oI' C oC D m₂ h9 tk9 hj hv' ⟨rfl, ms, hys, hms⟩ hC hm F3 N3 off3 ne3
        obtain ⟨kI, tk', rfl, hk'⟩ := hi.at j v' (by simpa using hv')
        rw [List.getElem?_map] at hk'
        obtain ⟨k, hk, rfl⟩ := Option.map_eq_some_iff.mp hk'
        have htk : (ns.take (j + 1)) = ns.take j ++ [k] := by rw [List.take_add_one, hk]; rfl
        have hS : LCg.SrcAt g a ws.toArray ((I, oI) :: (a, seqO "list" ws e) :: (L + 1 + 1, o') :: (L + 1, ob) :: news) := .inr ⟨_, List.mem_cons_of_mem _ (List.Mem.head _), rfl, _, rfl⟩
        have hyes : nm.cps.toList[k]?.any (· == c) = true → (ms ++ [k + 1]) = ((ns.take (j + 1)).filter fun p => nm.cps.toList[p]?.any (· == c)).map (· + 1) := fun hq => by
          rw [htk, List.filter_append, List.map_append, ← hms, List.filter_cons_of_pos (by exact hq), List.filter_nil]; rfl
        have hno : nm.cps.toList[k]?.any (· == c) = false → ms = ((ns.take (j + 1)).filter fun p => nm.cps.toList[p]?.any (· == c)).map (· + 1) := fun hq => by
          rw [htk, List.filter_append, List.map_append, ← hms, List.filter_cons_of_neg (by rw [hq]; exact Bool.false_ne_true), List.filter_nil, List.map_nil, List.append_nil]
        have e1 : ((k + 1 : Nat) : Int) = (k : Int) + 1 := by omega
        k_steps
        · have h1 := (by assumption : (k : Int) < nm.length)
          have h2 := (by assumption : (Txt.charAt nm (k : Int)).getD 0 = c)
          refine Hold.out (CEnd.intro _ (by assumption) (by assumption) (fun _ h => h) (by assumption) hS ⟨rfl, ms ++ [k + 1], ?_, hyes ?_⟩)
          · simp only [List.map_append, List.map_cons, List.map_nil, e1]; exact ints_snoc hys
          · rw [char_test (by omega)]; simpa using h2
        · have h1 := (by assumption : (k : Int) < nm.length)
          have h2 := (by assumption : ¬ (Txt.charAt nm (k : Int)).getD 0 = c)
          refine Hold.out (CEnd.intro _ (by assumption) (by assumption) (fun _ h => h) (by assumption) hS ⟨rfl, ms, hys, hno ?_⟩)
          rw [char_test (by omega)]; simpa using h2
        · have h1 := (by assumption : ¬ (k : Int) < nm.length)
          refine Hold.out (CEnd.intro _ (by assumption) (by assumption) (fun _ h => h) (by assumption) hS ⟨rfl, ms, hys, hno ?_⟩)
          exact char_none (by omega) _
      · rintro ys nn ⟨rfl, ms, hys, hms⟩
        intro D h9 tk9 F3 N3 off3
        k_steps
        rw [List.size_toArray, hwl, List.take_length] at hms
        refine FEnd.intro (D, ys, ms, ys.length, o') (by assumption) (by assumption) (List.mem_cons_of_mem _ (List.Mem.head _)) ?_ (by kst_all) ⟨hys, hms.trans hnx.symm, ⟨_, d'⟩, Ne.symm off3.2.2.1⟩
        intro p hp
        rcases List.mem_cons.mp hp with rfl | hp
        · exact ⟨List.Mem.head _, Ne.symm off3.1⟩
        · exact ⟨List.mem_cons_of_mem _ (List.mem_cons_of_mem _ (List.mem_cons_of_mem _ hp)), offR p hp⟩
  · rintro ⟨a, ws, ns, e, oP⟩ m₁ h tk ⟨hi, hns, ⟨v0, hoP⟩, la⟩ F' N'
    dsimp only [List.nil_append, List.cons_append] at hi hns hoP la F' N' ⊢
    k_steps
    refine FinB.sub (by assumption) (by assumption) (fun p hp => List.mem_cons_of_mem _ (List.mem_cons_of_mem _ (List.mem_cons_of_mem _ hp))) ⟨⟨0, congrArg Value.bool ?_⟩, rfl⟩
    rw [hps.length, List.take_length] at hns
    unfold takesL
    rw [← hns, Bool.eq_iff_iff, List.any_eq_true, List.contains_iff_mem]
    simp only [List.mem_map, beq_iff_eq]
    constructor
    · rintro ⟨x, ⟨k, hk, rfl⟩, e⟩
      have : k = nm.cps.toList.length := by rw [Array.length_toList]; exact Int.ofNat_inj.mp e
      exact this ▸ hk
    · intro h
      exact ⟨_, ⟨_, h, rfl⟩, by rw [Array.length_toList]; rfl⟩

end
section
theorem walkAnewB1 : True := by
  w_top off
  trivial
namespace BA
def bound (D : Addr) : Obj := { cls := .type "builtin_function_or_method", data := .fields #[.builtin "list.append", .ref D] }
theorem lk_append : typeLookup (.type "list") (Str.ofString "append") = pure (some (.builtin "list.append")) := by rw [typeLookup_type, builtinLookup_eq_fast]; kernel_rfl
theorem type_append : typeOf (.builtin "list.append") = pure (.type "method_descriptor") := by show builtinType _ = _; rw [builtinType_eq_fast]; kernel_rfl
theorem lk_get : typeLookup (.type "method_descriptor") "__get__" = pure (some (.builtin "method_descriptor.__get__")) := by rw [typeLookup_type, builtinLookup_eq_fast]; kernel_rfl
theorem lk_set : typeLookup (.type "method_descriptor") "__set__" = pure none := by rw [typeLookup_type, builtinLookup_eq_fast]; kernel_rfl
theorem lk_del : typeLookup (.type "method_descriptor") "__delete__" = pure none := by rw [typeLookup_type, builtinLookup_eq_fast]; kernel_rfl
theorem slot_get : Slot "method_descriptor" "__get__" "method_descriptor.__get__" :=
  .of (owner := "method_descriptor") (n := "__get__") lk_get (by decide +kernel) (by decide +kernel) (by decide +kernel)
    (by first | exact .inl (by decide +kernel) | exact .inr (by decide +kernel)) (by rw [isSubtype_type]; kernel_rfl)
theorem entry_get : entryFor table "method_descriptor.__get__" = some Builtin.«method_descriptor.__get__» := entryFor_of_tree (by kernel_rfl)
theorem args_get (a b c : Value) : argsOk "method_descriptor.__get__" ⟨[a, b, c], []⟩ := by unfold argsOk; kernel_rfl
theorem quiet_append {as : Args} : (Code.builtin "list.append" as).quiet = true := Code.quiet_builtin _ (by decide +kernel)
theorem told : Manifest.toldItsClass.contains "list.append" = false := by decide +kernel
theorem owner_append : (kfb_private% "ownerAndName") "list.append" = ("list", "append") := by first | decide +kernel | kernel_rfl
theorem sub_list : isSubtype (.type "list") (.type "list") = pure true := by rw [isSubtype_type]; kernel_rfl
theorem not_module : isSubtype (.type "list") (.type "module") = pure false := by rw [isSubtype_type]; kernel_rfl
theorem not_type : isSubtype (.type "list") (.type "type") = pure false := by rw [isSubtype_type]; kernel_rfl
section
variable {prog : Program} {w : World} {M : Model} {A : Around} {E : Value → Shared → Prop} {s : Shared}
theorem run_get {D : Addr} {o : Obj} {P : Fin → Shared → Prop} (ho : s.heap.get? D = some o) (hc : o.cls = .type "list") (h : P (.done (.ret (.ref s.heap.objs.size))) { s with heap := s.heap.push (bound D) }) :
    wpAny M A (Builtin.«method_descriptor.__get__» ⟨[.builtin "list.append", .ref D, .type "list"], []⟩) P E s := by
  have hT : s.TypeIs (.ref D) "list" := ⟨_, ho, hc⟩
  unfold Builtin.«method_descriptor.__get__»
  refine wpAny_bind (wpAny_of_eq (a := (.builtin "list.append", some (.ref D), some (.type "list"))) (by first | rfl | kernel_rfl) ?_)
  simp only [told]
  refine KFB.if_not rfl ?_
  refine wpAny_bind (m := (kfb_private% "checkInstance") _ _) ?_
  refine wpAny_bind (wpAny_of_eq (a := (Str.ofString "append", .type "list")) (by first | rfl | kernel_rfl) ?_)
  refine wpAny_bind (wpAny_isInstance hT sub_list ?_)
  refine KFB.if_not rfl ?_
  refine wpAny_pure ?_
  exact wpAny_bind (wpAny_newObj_type (wpAny_pure h))

theorem run_ga {D : Addr} {o : Obj} {xs : Array Value} {k : Nat} {tk : Tok} {P : Fin → Shared → Prop} (ho : s.heap.get? D = some o) (hc : o.cls = .type "list") (hd : o.dict = none) (hx : o.data = .seq xs k) (h : P (.done (.ret (.ref s.heap.objs.size))) { s with heap := s.heap.push (bound D) }) :
    wpAny (model prog w) A (Builtin.«object.__getattribute__» ⟨[.ref D, .str (Str.ofString "append") tk], []⟩) P E s := by
  obtain ⟨c, dct, dat, sl⟩ := o
  simp only at hc hx hd
  subst hc hx hd
  obtain ⟨hp, g, d, tk', os⟩ := s
  have hT : (⟨hp, g, d, tk', os⟩ : Shared).TypeIs (.ref D) "list" := ⟨_, ho, rfl⟩
  have f1 := lk_append
  have f2 := type_append
  have f3 := lk_get
  have f4 := lk_set
  have f5 := lk_del
  unfold Builtin.«object.__getattribute__»
  repeat (any_goals (first | assumption | ((with_reducible show wpAny _ _ (call (Value.builtin "method_descriptor.__get__") _ _) _ _ _); refine wpAny_call_entry slot_get type_append entry_get (run_get ho rfl ?_) (args_get _ _ _)) | wp_step))
  exact ⟨_, rfl, wpAny_pure h⟩
theorem attr {D : Addr} {o : Obj} {xs : Array Value} {k : Nat} {Q : Value → Shared → Prop} (ho : s.heap.get? D = some o) (hc : o.cls = .type "list") (hd : o.dict = none) (hx : o.data = .seq xs k)
    (h : Q (.ref s.heap.objs.size) { s with heap := s.heap.push (bound D), toks := s.toks + 1 }) : wpAny (model prog w) A (getAttr (.ref D) (Str.ofString "append") true) Q E s := by
  obtain ⟨c, dct, dat, sl⟩ := o
  simp only at hc hx hd
  subst hc hx hd
  obtain ⟨hp, g, d, tk, os⟩ := s
  have hT : ∀ tk', (⟨hp, g, d, tk', os⟩ : Shared).TypeIs (.ref D) "list" := fun _ => ⟨_, ho, rfl⟩
  have f3 := F.slot_list_getattribute.lookup
  have f4 := F.slot_list_getattribute.bind (.ref D)
  have f5 := am_list_getattr_none
  unfold getAttr getAttrBy
  repeat (any_goals (first | assumption | exact hT _ | ((with_reducible show wpAny _ _ (call (Value.builtin "list.__getattribute__") _ _) _ _ _); refine wpAny_call_entry F.slot_list_getattribute (hT _) am_entry_list_getattribute (run_ga ho rfl rfl rfl ?_) (F.args_list_getattribute_2 _ _)) | wp_step))
  exact ⟨_, rfl, by repeat (any_goals (first | assumption | wp_step))⟩
theorem attr_K {h₀ : Heap} {L D : Addr} {m : Str → Option Value} {news : Led} {vs : List Value} {ep : Nat} {Q : Value → Shared → Prop} (F : Fr h₀ L s.heap m) (N : News h₀ L s.heap news) (hm : (D, seqO "list" vs ep) ∈ news)
    (h : ∀ q h', Fr h₀ L h' m → News h₀ L h' ((q, bound D) :: news) → (∀ p ∈ news, p.1 < q) → Q (.ref q) { s with heap := h', toks := s.toks + 1 }) : wpAny (model prog w) A (getAttr (.ref D) (Str.ofString "append") true) Q E s :=
  attr (N _ hm).1 rfl rfl rfl (h _ _ (F.push _) (News.push F N _) fun p hp => Heap.lt_size (N p hp).1)
def At (q D : Addr) (h : Heap) : Prop := h.get? q = some (bound D)
theorem callWith_fields {pos : Pos} {u D : Addr} {first : List Value} {args : List (Bool × Sem Value)} {Q : Value → Shared → Prop} (hplain : args.any (·.1) = false)
    (h : wpAny M A (evalArgs (.ref u) true args []) (fun x s₁ => At u D s₁.heap ∧ wpAny M A (call (.ref u) (first ++ x.pos) x.kw) Q E s₁) E s) : wpAny M A (callWith pos (.ref u) first args []) Q E s := by
  unfold callWith
  refine wpAny_bind (wpAny_holding (wpAny_mono h (fun x s₁ h₁ => wpAny_bind (wpAny_standAt ?_)) fun _ _ x => x))
  obtain ⟨ho, hcall⟩ := h₁
  simp only [hplain, List.any_nil, Bool.or_false]
  refine wpAny_bind (m := keeperOf (.ref u)) ?_
  unfold keeperOf
  refine wpAny_bind (wpAny_load ho ?_)
  simp only [bound, show (Value.type "builtin_function_or_method" != Value.type "method") = true by decide, show (Value.type "builtin_function_or_method" == Value.type "builtin_function_or_method" || Value.type "builtin_function_or_method" == Value.type "method-wrapper") = true by decide, if_true]
  refine wpAny_pure ?_
  exact wpAny_bind (wpAny_mono hcall (fun r s₂ hr => wpAny_bind (wpAny_holding (wpAny_point (wpAny_pure hr)))) fun _ _ x => x)
theorem callWith_bound {pos : Pos} {u D : Addr} {first : List Value} {env : Env} {e : Expr} {rest : List Expr} {Q : Value → Shared → Prop} {h₀ : Heap} {L : Addr} {news : Led} (_N : News h₀ L s.heap news) (_hm : (u, bound D) ∈ news)
    (h : wpAny M A (spliced (backTo pos (starEach (e :: rest) env))) (fun vs s₁ => At u D s₁.heap ∧ wpAny M A (call (.ref u) (first ++ vs)) Q E s₁) E s)
    (he : starEach (e :: rest) env = (false, eval e env) :: starEach rest env := by rfl) (hplain : (backTo pos (starEach rest env)).any (·.1) = false := by rfl) :
    wpAny M A (callWith pos (.ref u) first (backTo pos (starEach (e :: rest) env)) []) Q E s := by
  rw [he] at h ⊢
  refine callWith_fields (D := D) (by show (false || (backTo pos (starEach rest env)).any (·.1)) = false; rw [hplain]; rfl) ?_
  exact PySem.Calls.evalArgs_plain h
theorem check {D : Addr} {x : Value} {vs : List Value} {ep : Nat} {Q : Unit → Shared → Prop} (hD : s.heap.get? D = some (seqO "list" vs ep)) (h : Q () s) : wpAny M A (checkBoundCall "list.append" ⟨[.ref D, x], []⟩) Q E s := by
  have hT : s.TypeIs (.ref D) "list" := ⟨_, hD, rfl⟩
  have f1 := not_module
  have f2 := not_type
  unfold checkBoundCall
  repeat (any_goals (first | assumption | wp_step))
  repeat (any_goals (first | assumption | wp_step))
theorem call_K {q D : Addr} {x : Value} {h₀ : Heap} {L : Addr} {m : Str → Option Value} {news news' : Led} {vs : List Value} {ep : Nat} {Q : Value → Shared → Prop} (F : Fr h₀ L s.heap m) (N : News h₀ L s.heap news) (hm : (q, bound D) ∈ news)
    (U : Upd D (seqO "list" vs ep) (seqO "list" (vs ++ [x]) (ep + 1)) news news') (h : ∀ h', Fr h₀ L h' m → News h₀ L h' news' → Q .none { s with heap := h' }) (hsz : vs.length ≤ sizeLine) :
    wpAny (model prog w) A (call (.ref q) [x]) Q E s := by
  obtain ⟨pre, post, rfl, rfl, a, b⟩ := U.split
  have z := N (D, seqO "list" vs ep) (List.mem_append.mpr (.inr (.head _)))
  have hT : s.TypeIs (.ref D) "list" := ⟨_, z.1, rfl⟩
  refine wpAny_call (codeAny_of_tree ?_)
  show wpAny _ A.in1 (callAny (.ref q) ⟨[x], []⟩) _ _ s
  simp only [callAny]
  refine wpAny_bind (wpAny_load (N _ hm).1 ?_)
  simp only [bound, show (Value.type "builtin_function_or_method" == Value.type "method" || Value.type "builtin_function_or_method" == Value.type "builtin_function_or_method" || Value.type "builtin_function_or_method" == Value.type "method-wrapper") = true by decide, if_true]
  refine KFB.if_so (by decide) ?_
  refine wpAny_bind (check z.1 ?_)
  refine wpAny_bind (wpAny_pure (wpAny_pure ?_))
  refine ⟨quiet_append, codeAny_builtin entry_list_append ?_⟩
  show wpAny _ _ (updateSeq D (·.push x) >>= fun _ => ret .none) _ _ s
  refine wpAny_bind ?_
  refine wpAny_updateSeq z.1 rfl (wpAny_pure ?_)
  have hs := Heap.SameBut.update (h := s.heap) (a := D) (f := Obj.mapSeq (·.push x))
  have ho' : (s.heap.update D (Obj.mapSeq (·.push x))).get? D = some (seqO "list" (vs ++ [x]) (ep + 1)) := by
    rw [Heap.get?_update_self _ z.1 (by rw [mapSeq_push]; rfl), mapSeq_push]
    simp [seqO]
  exact h _ (F.change hs z.2.1 z.2.2) (news_set N a b hs ho')
end
end BA

end
section
theorem walkAnewF9 : True := by
  w_top off
  trivial
def tokL : Pt → List Nat
  | .star => [42]
  | .neg => [91, 33, 46, 93]
  | .chr c => quoteOne c
def patL (ps : List Pt) : List Nat := ps.flatMap tokL
/-- the place of the lambda -/
def lamPos : Pos := ⟨188, 39, 188, 76⟩
def TabOk (xs : Array Value) : Prop := TriplesOk xs.toList ∧ (codeAmong lamPos xs.toList = none ∨ ∃ c', codeAmong lamPos xs.toList = some (.ref c'))
def NoTwo : List Pt → Prop
  | .star :: .star :: _ => False
  | _ :: r => NoTwo r
  | [] => True
def OutT (st : Addr) (ps : List Pt) (rest : Led) (r : Value) (nn : Led) : Prop := ∃ D vs ep xs, r = .ref D ∧ nn = (182, tabObj xs) :: (D, seqO "list" vs ep) :: rest ∧ PtsAre st vs ps ∧ TabOk xs ∧ ∀ p ∈ rest, p.1 < D
theorem charAt_app {x : Str} {a t b : List Nat} (h : x.cps.toList = a ++ t ++ b) {k d : Nat} (hk : t[k]? = some d) : Txt.charAt x ((a.length : Int) + (k : Int)) = some d := by
  have hl : k < t.length := (List.getElem?_eq_some_iff.mp hk).1
  have hx : x.length = a.length + t.length + b.length := by
    have : x.cps.toList.length = x.length := Array.length_toList
    rw [← this, h, List.length_append, List.length_append]
  have e : (a.length : Int) + (k : Int) = ((a.length + k : Nat) : Int) := by omega
  rw [e, char_at (by omega), h, List.append_assoc, List.getElem?_append_right (by omega), List.getElem?_append_left (by omega)]
  rw [show a.length + k - a.length = k by omega]; exact hk
section
variable {prog : Program} {w : World} {A : Around} {E : Value → Shared → Prop} {s : Shared}
theorem item_at {x : Str} {a t b : List Nat} (h : x.cps.toList = a ++ t ++ b) (hz : x.length ≤ 64) {value slice : Expr} {tx u : Tok} {i : Int} {Q : Value → Shared → Prop} (k : Nat) {d : Nat} (hi : i = (a.length : Int) + (k : Int)) (hk : t[k]? = some d)
    (hq : ∀ t' k', Q (.str ⟨#[d]⟩ t') { s with toks := k' })
    (hs : subscripted slice false (.str x tx) (.int i u) = operate [.str x tx, .int i u] (getItem (.str x tx) (.int i u)) := by with_unfolding_all rfl)
    (ht : ∀ r, letTemporaryGo value (.str x tx) r = pure () := by intro _; with_unfolding_all rfl) :
    wpAny (model prog w) A (subscriptTail value slice (.str x tx) (.int i u)) Q E s := by
  have hl : k < t.length := (List.getElem?_eq_some_iff.mp hk).1
  have hx : x.length = a.length + t.length + b.length := by
    have : x.cps.toList.length = x.length := Array.length_toList
    rw [← this, h, List.length_append, List.length_append]
  have e : Txt.item x i = ⟨#[d]⟩ := by unfold Txt.item; rw [hi, charAt_app h hk]; rfl
  refine item_str (fitsSsize_of (N := 9223372036854775808) (by omega) (by omega) (Int.le_refl _)) (by omega) (by omega) (fun _ => ?_) hs ht
  rw [e]; exact hq _ _
theorem last_item {value slice : PySem.Expr} {h₀ : Heap} {L l : Addr} {news : Led} {vs : List Value} {v : Value} {ep : Nat} {u : Tok} {Q : Value → Shared → Prop} (N : News h₀ L s.heap news) (hl : (l, seqO "list" (vs ++ [v]) ep) ∈ news) (h : Q v s)
    (hs : subscripted slice false (.ref l) (.int (-1) u) = operate [.ref l, .int (-1) u] (getItem (.ref l) (.int (-1) u)) := by with_unfolding_all rfl) :
    wpAny (model prog w) A (subscriptTail value slice (.ref l) (.int (-1) u)) Q E s := by
  refine kde_neg (j := vs.length) (N.isList hl) (by decide) (by decide) ?_ (by simp) h hs
  unfold seqIndex?
  simp only [List.length_append, List.length_cons, List.length_nil]
  have h1 : ((-1 : Int) < 0) := by decide
  simp only [h1, if_true]
  have h2 : (decide (0 ≤ (-1 : Int) + ((vs.length + (0 + 1) : Nat) : Int)) && decide ((-1 : Int) + ((vs.length + (0 + 1) : Nat) : Int) < ((vs.length + (0 + 1) : Nat) : Int))) = true := by simp; omega
  first
    | (rw [if_pos h2]; congr 1; omega)
    | (simp; omega)
theorem lt_so {a b : Int} {t u : Tok} {Q : Value → Shared → Prop} (hab : a < b) (h : Q (.bool true) s) : wpAny (model prog w) A (compareOp .Lt (.int a t) (.int b u)) Q E s := lt_int (by rw [decide_eq_true hab]; exact h)
theorem lt_not {a b : Int} {t u : Tok} {Q : Value → Shared → Prop} (hab : ¬ a < b) (h : Q (.bool false) s) : wpAny (model prog w) A (compareOp .Lt (.int a t) (.int b u)) Q E s := lt_int (by rw [decide_eq_false hab]; exact h)
theorem ge_not {a b : Int} {t u : Tok} {Q : Value → Shared → Prop} (hab : a < b) (h : Q (.bool false) s) : wpAny (model prog w) A (compareOp .GtE (.int a t) (.int b u)) Q E s := PyProof.Rows.ge_int (by rw [decide_eq_false (by omega)]; exact h)
end
def SliceIs (x : Str) (i j : Int) (r : Str) : Prop := Txt.slice x (some i) (some j) = r
theorem SliceIs.of {x : Str} {a t b : List Nat} (h : x.cps.toList = a ++ t ++ b) (k1 k2 : Nat) {i j : Int} {r : Str} (hi : i = (a.length : Int) + (k1 : Int)) (hj : j = (a.length : Int) + (k2 : Int)) (h1 : k1 ≤ k2) (h2 : k2 ≤ t.length)
    (hr : (t.drop k1).take (k2 - k1) = r.cps.toList) : SliceIs x i j r := by
  have hl : x.cps.toList.length = a.length + t.length + b.length := by rw [h, List.length_append, List.length_append]
  have := eq_of_beq (slice_closes (x := x) (i := i) (j := j) ⟨by omega, by omega, by omega⟩)
  unfold SliceIs
  rw [this, h, show i.toNat = a.length + k1 by omega, show (j - i).toNat = k2 - k1 by omega, List.append_assoc, ← List.drop_drop, List.drop_left, List.drop_append_of_le_length (by omega),
    List.take_append_of_le_length (by rw [List.length_drop]; omega), hr]
section
variable {prog : Program} {w : World} {A : Around} {E : Value → Shared → Prop} {s : Shared}
theorem slice_is {h₀ : Heap} {L : Addr} {m : Str → Option Value} {news : Led} {x r : Str} {t ui uj : Tok} {i j i' j' : Int} {value slice : Expr} {Q : Value → Shared → Prop} (hsl : SliceIs x i' j' r) (hi : i = i') (hj : j = j') (hz : x.length ≤ 64) (hF : Fr h₀ L s.heap m) (hN : News h₀ L s.heap news)
    (h : ∀ h' t' k, Fr h₀ L h' m → News h₀ L h' news → Q (.str r t') { s with heap := h', toks := k })
    (hs : subscripted slice false (.str x t) (.ref s.heap.objs.size) = operate [.ref s.heap.objs.size, .str x t] (getItem (.str x t) (.ref s.heap.objs.size)) := by with_unfolding_all rfl)
    (ht : ∀ r, letTemporaryGo value (.str x t) r = pure () := by intro _; with_unfolding_all rfl) :
    wpAny (model prog w) A (subscriptTail value slice (.str x t) (.ref s.heap.objs.size)) Q E { s with heap := s.heap.push { cls := .type "slice", data := .fields #[.int i ui, .int j uj, .none] } } := by
  refine slice_strN_ss hF hN (fun h' t' k a b => ?_) hs ht (by simp only [sizeLine_eq]; omega)
  rw [hi, hj, show Txt.slice x (some i') (some j') = r from hsl]
  exact h h' t' k a b
end
def codeHdIn (K : Frag) (c P : Addr) : Bool :=
  match K.lookup c with
  | some o => o.cls == .type "code" && (match o.data with
    | .fields vs => vs[11]? == some (.ref P) && (match vs.getD 18 .none with | .str _ _ => true | _ => false) && (match vs.getD 7 .none with | .int _ _ => true | _ => false) &&
        (match vs.getD 9 .none with | .bool _ => true | _ => false) && (match vs.getD 10 .none with | .int _ _ => true | _ => false)
    | _ => false)
  | none => false
theorem codeHd_in {K : Frag} {h : Heap} {c P : Addr} (X : K.In h) (hn : c ≠ P) (e : codeHdIn K c P = true) : CodeHd h c P := by
  unfold codeHdIn at e
  split at e
  · rename_i o ho
    simp only [Bool.and_eq_true, beq_iff_eq] at e
    obtain ⟨e1, e2⟩ := e
    split at e2
    · rename_i vs hd
      simp only [Bool.and_eq_true, beq_iff_eq] at e2
      obtain ⟨⟨⟨⟨a, b⟩, c1⟩, d⟩, f⟩ := e2
      have g : vs.getD 11 .none = .ref P := by rw [Array.getD_eq_getD_getElem?, a]; rfl
      split at b <;> first | (cases b; done) | skip
      rename_i s1 t1 h1
      split at c1 <;> first | (cases c1; done) | skip
      rename_i s2 t2 h2
      split at d <;> first | (cases d; done) | skip
      rename_i s3 h3
      split at f <;> first | (cases f; done) | skip
      rename_i s4 t4 h4
      exact ⟨o, vs, s1, t1, s2, t2, s3, s4, t4, X _ _ ho, e1, hd, a, g, h1, h2, h3, h4, hn⟩
    · cases e2
  · cases e
theorem code186 (w : World) : codeHdIn (KH w.params) 186 182 = true := by
  kernel_rfl
section
variable {prog : Program} {w : World} {A : Around} {E : Value → Shared → Prop} {s : Shared}
theorem replace_none {x y z : Str} {t u v : Tok} {Q : Value → Shared → Prop} (hc : ((Builtin.Str.occurrences x y 0 x.length (x.length + 1)).isEmpty || (y.length == 0 && z.length == 0)) = true) (hq : Q (.str x t) s) :
    wpAny (model prog w) A (call (.builtin "str.replace") [.str x t, .str y u, .str z v]) Q E s := by
  refine call_gives F.slot_str_replace (typeIs_str _ _ _) F.entry_str_replace (F.args_str_replace_3 _ _ _) (gives_str_replace x y z t u v fun h => by rw [hc] at h; cases h) ?_
  rw [if_pos hc]; exact hq
theorem notIn_so {x y : Str} {t u : Tok} {Q : Value → Shared → Prop} (hc : (Builtin.Str.occurrences x y 0 x.length 1).isEmpty = true) (hq : Q (.bool true) s) : wpAny (model prog w) A (compareOp .NotIn (.str y u) (.str x t)) Q E s :=
  PyProof.Rows.notIn_str (by rw [hc]; exact hq)
theorem news_tail {h₀ h : Heap} {L : Addr} {x : Addr × Obj} {l : Led} (N : News h₀ L h (x :: l)) : News h₀ L h l := fun p hp => N p (.tail _ hp)
theorem news_drop {h₀ h : Heap} {L : Addr} {x y : Addr × Obj} {l : Led} (N : News h₀ L h (x :: y :: l)) : News h₀ L h (x :: l) := fun p hp => by
  rcases List.mem_cons.mp hp with rfl | hp
  · exact N _ (.head _)
  · exact N p (.tail _ (.tail _ hp))
theorem fn_sub_K {h₀ : Heap} {L f : Addr} {m : Str → Option Value} {news : Led} {of : Obj} {x : Str} {t : Tok} {Q : Value → Shared → Prop} (F : Fr h₀ L s.heap m) (N : News h₀ L s.heap ((f, of) :: news)) (X : (KH w.params).In s.heap) (hc : of.cls = .type "function") (hx : NoFind x) (hn : 0 < x.cps.size) (hz : x.cps.size ≤ 64)
    (h : ∀ u h' k, Fr h₀ L h' m → News h₀ L h' news → Q (.str x u) { s with heap := h', toks := k }) : wpAny (model prog w) A (call (.builtin "re.Pattern.sub") [.ref 168, .ref f, .str x t]) Q E s :=
  fn_sub hx hn hz (pat_in X) (tup_in X) (N _ (.head _)).1 hc fun u h' k hk => h u h' k (F.keeps hk) fun p hp => ⟨hk _ _ (N p (.tail _ hp)).1, (N p (.tail _ hp)).2⟩
theorem sub_get {pl : Sem Bool} {Q : Value × List Value → Shared → Prop} (X : (KH w.params).In s.heap) (h : Q (.builtin "re.Pattern.sub", [.ref 168]) s) : wpAny (model prog w) A (getMethod (.ref 168) (Str.ofString "sub") pl) Q E s :=
  PySem.getMethod_builtin (T := "re.Pattern") ⟨_, pat_in X, rfl⟩ plain_pat slot_pat_sub type_pat_sub (fun a e => by cases e; exact ⟨_, pat_in X, rfl⟩) h
theorem lam_any {h₀ : Heap} {L c a : Addr} {m mg mb : Str → Option Value} {cn : Str} {cs : Scope} {ccd : Value} {cl : List (Str × Addr)} {r : Led} {p : Program} {loose : List Str} {mean : ExcName → Option Value} {params : Arguments} {body : Expr} {scope : Scope} {ps : Array Value} {clos : List (Str × Addr)} {Q : Value → Shared → Prop}
    (F : Fr h₀ L s.heap m) (N : News h₀ L s.heap ((182, tabObj ps) :: r)) (T : Top p loose mean mg mb h₀) (C : CodeHd h₀ c 182) (hcd : ccd = .ref c) (hr : ∀ p ∈ r, @Ne Nat p.1 182) (hx : TabOk ps) (hcl : closureFor scope (envX cn cs L a ccd cl) = pure clos) (hdef : defaultsOf params (envX cn cs L a ccd cl) = ([], []))
    (h : ∀ f of ps' h' tk, Fr h₀ L h' m → News h₀ L h' ((f, of) :: (182, tabObj ps') :: r) → of.cls = .type "function" → TabOk ps' → Q (.ref f) { s with heap := h', toks := tk }) :
    wpAny (model prog w) A (eval (.Lambda params body scope lamPos) (envX cn cs L a ccd cl)) Q E s := by
  refine kla_eval hdef ?_
  rcases hx with ⟨ht, hn | ⟨c', hc'⟩⟩
  · refine kla_nest F N T C hcd (.head hr) ht hn hcl fun f c' oc vs t ctv h' tk F' N' e1 e2 l1 l2 => ?_
    refine h f _ _ h' tk F' (news_drop N') rfl ⟨?_, .inr ⟨c', ?_⟩⟩
    · rw [Array.toList_append]; exact TriplesOk_snoc _ _ _ _ ht
    · rw [Array.toList_append]; exact codeAmong_snoc _ ht hn
  · exact kla_hit F N T C hcd (.head _) ht hc' hcl fun f ctv h' tk F' N' l1 => h f _ ps h' tk F' N' rfl ⟨ht, .inr ⟨c', hc'⟩⟩
end
theorem patL_len : ∀ ps : List Pt, ps.length ≤ (patL ps).length
  | [] => Nat.le_refl _
  | p :: r => by
    have h1 : 1 ≤ (tokL p).length := by
      cases p with
      | star => exact Nat.le_refl _
      | neg => show 1 ≤ 4; omega
      | chr c => simp only [tokL, quoteOne]; split <;> simp
    have h2 := patL_len r
    have e : patL (p :: r) = tokL p ++ patL r := rfl
    rw [e, List.length_append, List.length_cons]
    omega
theorem patL_take {ps : List Pt} {j : Nat} {pt : Pt} (h : ps[j]? = some pt) : patL (ps.take (j + 1)) = patL (ps.take j) ++ tokL pt := by
  unfold patL
  rw [List.take_add_one, h, List.flatMap_append]
  simp
theorem patL_split {ps : List Pt} {j : Nat} {pt : Pt} (h : ps[j]? = some pt) : patL ps = patL (ps.take j) ++ tokL pt ++ patL (ps.drop (j + 1)) := by
  rw [← patL_take h]
  unfold patL
  rw [← List.flatMap_append, List.take_append_drop]
local macro_rules | `(tactic| walk_at "WPost") => `(tactic| (dsimp only [WPost]))
theorem PtsAre.snoc {st : Addr} {v : Value} {p : Pt} {vs : List Value} {ps : List Pt} (h : PtsAre st vs ps) (hi : p.Is st v) (ho : p.Ok) : PtsAre st (vs ++ [v]) (ps ++ [p]) := by
  induction h with
  | nil => exact .cons hi ho .nil
  | cons h1 h2 _ ih => exact .cons h1 h2 ih
theorem PtsAre.last {st : Addr} {v : Value} : ∀ {vs : List Value} {ps : List Pt}, PtsAre st (vs ++ [v]) ps → ∃ q0 p, ps = q0 ++ [p] ∧ p.Is st v
  | [], _, .cons (ps := []) h1 _ _ => ⟨[], _, rfl, h1⟩
  | _ :: _, _, .cons (p := p) _ _ h3 => by
    obtain ⟨q0, p', rfl, hi⟩ := PtsAre.last h3
    exact ⟨p :: q0, p', rfl, hi⟩
theorem noTwo_tail {x : Pt} {r : List Pt} (h : NoTwo (x :: r)) : NoTwo r := by
  cases x <;> cases r with
  | nil => trivial
  | cons y z => first | exact h | (cases y <;> first | exact h.elim | exact h)
theorem noTwo_mid {r : List Pt} : ∀ {q0 : List Pt}, NoTwo (q0 ++ .star :: .star :: r) → False
  | [], h => h
  | _ :: _, h => noTwo_mid (noTwo_tail h)
theorem noTwo_before {ps q0 : List Pt} {p : Pt} {j : Nat} (h : NoTwo ps) (hj : ps[j]? = some .star) (e : ps.take j = q0 ++ [p]) : p ≠ .star := by
  rintro rfl
  have hl : j < ps.length := (List.getElem?_eq_some_iff.mp hj).1
  have : ps = q0 ++ .star :: .star :: ps.drop (j + 1) := by
    conv => lhs; rw [← List.take_append_drop j ps, e, List.drop_eq_getElem_cons hl]
    rw [(List.getElem?_eq_some_iff.mp hj).2, List.append_assoc]; rfl
  rw [this] at h
  exact noTwo_mid h
section
variable {prog : Program} {w : World} {A : Around} {E : Value → Shared → Prop} {s : Shared}
theorem truthy_nil {h₀ : Heap} {L l : Addr} {news : Led} {ep : Nat} {Q : Bool → Shared → Prop} (N : News h₀ L s.heap news) (hl : (l, seqO "list" [] ep) ∈ news) (h : ∀ k, Q false { s with toks := k }) : wpAny (model prog w) A (truthy (.ref l)) Q E s :=
  wpAny_truthy_list (N.isList hl) (by simp) (h _)
theorem truthy_snoc {h₀ : Heap} {L l : Addr} {news : Led} {vs : List Value} {v : Value} {ep : Nat} {Q : Bool → Shared → Prop} (N : News h₀ L s.heap news) (hl : (l, seqO "list" (vs ++ [v]) ep) ∈ news) (hz : vs.length ≤ 64) (h : ∀ k, Q true { s with toks := k }) : wpAny (model prog w) A (truthy (.ref l)) Q E s := by
  refine wpAny_truthy_list (N.isList hl) (by simp; omega) ?_
  have : (!(vs ++ [v]).toArray.isEmpty) = true := by simp
  rw [this]; exact h _
end
local macro_rules | `(tactic| walk_at "truthy ref") => `(tactic| first | (refine truthy_nil (by k_asm) (by k_mem) ?_; intro _) | (refine truthy_snoc (by k_asm) (by k_mem) (by omega) ?_; intro _))
local macro_rules | `(tactic| walk_at "exec While BoolOp cons nil") => `(tactic| (with_reducible refine Hold.mk ?_))
local macro_rules | `(tactic| walk_at "WEnd") => `(tactic| (with_reducible refine Hold.mk ?_))
local macro_rules | `(tactic| walk_at "exec While Compare cons nil") => `(tactic| (with_reducible refine Hold.mk ?_))
local macro_rules | `(tactic| walk_at "getAttr ref") => `(tactic| (k_here; (with_reducible refine' BA.attr_K ?baF ?baN ?baM ?_); (case baF => k_asm); (case baN => k_asm); (case baM => k_mem); (intro q9 h9 F9 N9 l9); (try k_sweep)))
local macro_rules | `(tactic| walk_at "callWith ref") => `(tactic| (k_here; (with_reducible show wpAny _ _ (callWith _ (Value.ref _) _ (backTo _ (starEach (_ :: _) _)) []) _ _ _); (refine' BA.callWith_bound ?baN ?baM ?_; (case baN => k_asm); (case baM => k_mem))))
local macro_rules | `(tactic| walk_at "And") => `(tactic| ((with_reducible show BA.At _ _ _ ∧ _); (refine ⟨News.get (by k_asm) (by k_mem), ?_⟩); (try dsimp only [List.nil_append, List.cons_append])))
local macro_rules | `(tactic| walk_at "subscriptTail Name Name str int") => `(tactic| first
  | (refine item_at (by assumption) (by assumption) 0 (by omega) (by with_unfolding_all rfl) ?_; intro _ _)
  | (refine item_at (by assumption) (by assumption) 1 (by omega) (by with_unfolding_all rfl) ?_; intro _ _)
  | (refine item_at (by assumption) (by assumption) 2 (by omega) (by with_unfolding_all rfl) ?_; intro _ _)
  | (refine item_at (by assumption) (by assumption) 3 (by omega) (by with_unfolding_all rfl) ?_; intro _ _))
local macro_rules | `(tactic| walk_at "subscriptTail Name Slice str ref") => `(tactic| ((with_unfolding_all refine slice_is (s := ⟨_, _, _, _, _⟩) (by assumption) (by omega) (by omega) (by assumption) (by k_asm) (by k_asm) ?_); intro _ _ _ _ _))
local macro_rules | `(tactic| walk_at "compareOp NotIn str str") => `(tactic| (refine notIn_so (by decide +kernel) ?_))
local macro_rules | `(tactic| walk_at "call builtin:str.replace") => `(tactic| (refine replace_none (by decide +kernel) ?_))
local macro_rules | `(tactic| walk_at "getMethod ref") => `(tactic| (refine sub_get (by k_in) ?_))
local macro_rules | `(tactic| walk_at "call builtin:re.Pattern.sub") => `(tactic| (refine fn_sub_K (by k_asm) (by k_asm) (by k_in) (by assumption) (by first | exact nofind1 | exact nofind2 | exact nofind3) (by decide) (by decide) ?_; intro _ _ _ _ _))
local macro_rules | `(tactic| walk_at "eval Lambda") => `(tactic| (with_unfolding_all (refine' lam_any (by k_asm) (by k_asm) (by k_asm) (by assumption) rfl (by assumption) (by assumption) rfl rfl ?_); (intro f9 of9 xs9 h9 tk9 F9 N9 hc9 hx9); (try k_sweep)))
local macro_rules | `(tactic| walk_at "subscriptTail Name UnaryOp ref int") => `(tactic| (refine last_item (by k_asm) (by k_mem) ?_))
local macro_rules | `(tactic| walk_at "compareOp Lt int int") => `(tactic| first | (refine lt_so (by omega) ?_) | (refine lt_not (by omega) ?_))
local macro_rules | `(tactic| walk_at "compareOp GtE int int") => `(tactic| (refine ge_not (by omega) ?_))
local macro_rules | `(tactic| walk_at "compareOp IsNot str ref") => `(tactic| ((try dsimp only); (refine wpAny_isNot_other (by rfl) (by intro x; cases x) ?_)))
local macro_rules | `(tactic| walk_at "At") => `(tactic| (exact News.get (by k_asm) (by k_mem)))
local macro_rules | `(tactic| walk_at "call ref") => `(tactic| (refine' BA.call_K ?baF ?baN ?baM ?baU ?_ ?baZ; (case baF => k_asm); (case baN => k_asm); (case baM => k_mem); (case baU => exact .tail (by assumption) (.head (by assumption))); (case baZ => (simp only [sizeLine_eq] at *; omega)); (intro h9 F9 N9); (try k_sweep)))
local macro_rules | `(tactic| walk_at "call ref") => `(tactic| (refine' BA.call_K ?baF (news_tail ?baN) ?baM ?baU ?_ ?baZ; (case baF => k_asm); (case baN => k_asm); (case baM => k_mem); (case baU => exact .tail (by assumption) (.head (by assumption))); (case baZ => (simp only [sizeLine_eq] at *; omega)); (intro h9 F9 N9); (try k_sweep)))
local macro_rules | `(tactic| walk_at "call ref") => `(tactic| (k_here; with_unfolding_all (refine' Con.useV (escape_con (by decide)) ?k1 ?k2 ?k3 ?k4 ?k5 ?k6 ?k7 ?kd ?ku ?_); (case k1 => k_asm); (case k2 => k_asm); (case k3 => k_in); (case k4 => k_asm); (case k5 => k_asm); (case k6 => exact rfl); (case k7 => exact rfl); (case kd => (simp only [recursionLimit] at *; omega)); (case ku => omega); (intro u9 h9 tk9 F9 N9); (try dsimp only); (try k_sweep)))
theorem translate_con {w : World} {rest : Led} {st : Addr} {pat : Str} {t u : Tok} {ps : List Pt} {xs : Array Value} (hp : pat.cps.toList = patL ps) (hz : pat.length ≤ 64) (hok : ∀ p ∈ ps, p.Ok) (hnt : NoTwo ps) (hx : TabOk xs) (hr : ∀ p ∈ rest, @Ne Nat p.1 182) :
    Con w 187 3 10 ((182, tabObj xs) :: rest) [.str pat t, .ref st, .str (Str.ofString ".") u] (OutT st ps rest) := by
  refine' con_of [(Str.ofString "pat", .str pat t), (Str.ofString "STAR", .ref st), (Str.ofString "QUESTION_MARK", .str (Str.ofString ".") u)] ?ho ?hcd ?hb ?hl ?c1 ?c2 ?c3 ?c4 ?_; (case ho => k_is); (case hcd => k_is); (case hb => exact rfl); (case hl => exact locs rfl); (case c1 => exact rfl); (case c2 => exact rfl); (case c3 => exact rfl); (case c4 => decide)
  intro prog p loose mean mg mb dp un gd outer A₀ base g L h₁ s tk B F X N T hd hu
  (try (change wpAny _ _ (execs (_ :: _) _) _ _ _))
  (try dsimp only)
  k_steps
  refine Hold.out ?_
  rename (182 < _ ∧ AllLt _ rest) => lr
  obtain ⟨lr1, lr2⟩ := lr
  replace lr2 := allLt_mem lr2
  rename Fr _ _ _ _ => F1
  rename News _ _ _ _ => N1
  rename_i D _ _ tk0 q _ _ _ _ _ _ _ _ _
  have lq : D < q := (by assumption : ∀ p ∈ (D, W.listOf #[] 0) :: (182, tabObj xs) :: rest, p.1 < q) (D, W.listOf #[] 0) (List.Mem.head _)
  have lq1 : 182 < q := Nat.lt_trans lr1 lq
  have lq2 : ∀ p ∈ rest, p.1 < q := fun p hp => Nat.lt_trans (lr2 p hp) lq
  have hlen : pat.length = (patL ps).length := by rw [← hp, Array.length_toList]; rfl
  refine' my_whileS (σ := Nat × List Value × Nat × Array Value × Tok) (fun c => [(182, tabObj c.2.2.2.1), (D, seqO "list" c.2.1 c.2.2.1)]) ((q, BA.bound D) :: rest)
    (fun c => [(Str.ofString "i", .int ((patL (ps.take c.1)).length : Int) c.2.2.2.2)])
    [(Str.ofString "pat", .str pat t), (Str.ofString "STAR", .ref st), (Str.ofString "QUESTION_MARK", .str (Str.ofString ".") u), (Str.ofString "res", .ref D), (Str.ofString "add", .ref q), (Str.ofString "n", .int (pat.length : Int) (tk0 + 1 + 1 + 1 + 1))]
    (fun c => c.1 ≤ ps.length ∧ PtsAre st c.2.1 (ps.take c.1) ∧ TabOk c.2.2.2.1) (fun c => ps.length - c.1) (0, [], 0, xs, (tk0 + 1 + 1)) ?wF ?wN ?wK ?wP ?_
  (case wF => exact F1)
  (case wN => (intro p hp; refine N1 p ?_; dsimp only [List.nil_append, List.cons_append] at hp ⊢; (rcases List.mem_cons.mp hp with rfl | hp; (exact .tail _ (.tail _ (.tail _ (.head _))))); (rcases List.mem_cons.mp hp with rfl | hp; (exact .tail _ (.tail _ (.head _)))); (rcases List.mem_cons.mp hp with rfl | hp; (exact .tail _ (.head _))); exact .tail _ (.tail _ (.tail _ (.tail _ hp)))))
  (case wK => kst_all)
  (case wP => exact ⟨Nat.zero_le _, .nil, hx⟩)
  clear F1 N1
  have hC : CodeHd g 186 182 := codeHd_in X (by decide) (code186 w)
  have hr182 : ∀ p ∈ (D, seqO "list" [] 0) :: (q, BA.bound D) :: rest, @Ne Nat p.1 182 := by
    intro p hp
    rcases List.mem_cons.mp hp with rfl | hp
    · exact Nat.ne_of_gt lr1
    rcases List.mem_cons.mp hp with rfl | hp
    · exact Nat.ne_of_gt lq1
    · exact hr p hp
  have ne1 : @Ne Nat 182 D := Nat.ne_of_lt lr1
  have ne2 : ∀ p ∈ (q, BA.bound D) :: rest, @Ne Nat p.1 D := fun p hp => by
    rcases List.mem_cons.mp hp with rfl | hp
    · exact Nat.ne_of_gt lq
    · exact Nat.ne_of_lt (lr2 p hp)
  rintro ⟨j, vs, ep, xs, ti⟩ m₁ h tk ⟨hj, hps, hx⟩ F' N'
  dsimp only [List.nil_append, List.cons_append] at hj hps hx F' N' ⊢
  have hvl : vs.length ≤ 64 := by
    have h1 := hps.length
    have h2 := patL_len ps
    rw [List.length_take] at h1
    omega
  cases hpt : ps[j]? with
  | none =>
    have hj' : j = ps.length := Nat.le_antisymm hj (List.getElem?_eq_none_iff.mp hpt)
    have hi : ((patL (ps.take j)).length : Int) = (pat.length : Int) := by rw [hj', List.take_length, hlen]
    k_steps
    rw [hj', List.take_length] at hps
    refine FinB.sub (by assumption) (by assumption) ?_ ⟨D, vs, ep, xs, rfl, rfl, hps, hx, lr2⟩
    intro p hp
    rcases List.mem_cons.mp hp with rfl | hp
    · exact .head _
    rcases List.mem_cons.mp hp with rfl | hp
    · exact .tail _ (.head _)
    · exact .tail _ (.tail _ (.tail _ hp))
  | some pt =>
    have hsp := hp.trans (patL_split hpt)
    generalize hgb : patL (ps.drop (j + 1)) = b at hsp
    have hnx := patL_take hpt
    have hjl : j < ps.length := (List.getElem?_eq_some_iff.mp hpt).1
    have hptO := hok pt (List.mem_of_getElem? hpt)
    generalize hga : patL (ps.take j) = a at hsp hnx F' N' ⊢
    have hz1 : pat.length = a.length + (tokL pt).length + b.length := by
      have : pat.cps.toList.length = pat.length := Array.length_toList
      rw [← this, hsp, List.length_append, List.length_append]
    cases pt with
    | star =>
      change pat.cps.toList = a ++ [42] ++ b at hsp
      change pat.length = a.length + 1 + b.length at hz1
      have hni : ((patL (ps.take (j + 1))).length : Int) = (a.length : Int) + 1 := by rw [hnx]; simp [tokL]
      rcases List.eq_nil_or_concat vs with rfl | ⟨vs0, v, rfl⟩
      · k_steps
        refine' Hold.out (WEnd.intro (j + 1, _, ep + 1, _, ?tw1) (by assumption) (by assumption) (fun _ h => h) ?kw1 ⟨hjl, ?pw1, ?xw1⟩ ?mw1)
        (case kw1 => (dsimp only; rw [hni]; kst_all))
        (case xw1 => exact hx)
        (case pw1 => (dsimp only; rw [List.take_add_one, hpt]; exact hps.snoc rfl trivial))
        (case mw1 => (dsimp only; omega))
      · rw [List.concat_eq_append] at hps N' hvl
        obtain ⟨q0, p0, e0, hi0⟩ := hps.last
        have hp0 := noTwo_before hnt hpt e0
        have hv : ∃ y ty, v = .str y ty := by
          cases p0 with
          | star => exact absurd rfl hp0
          | neg => obtain ⟨ty, rfl⟩ := hi0; exact ⟨_, _, rfl⟩
          | chr c => obtain ⟨ty, rfl⟩ := hi0; exact ⟨_, _, rfl⟩
        obtain ⟨y, ty, rfl⟩ := hv
        have hvl0 : vs0.length ≤ 63 := by simp at hvl; omega
        k_steps
        refine' Hold.out (WEnd.intro (j + 1, _, ep + 1, _, ?tw2) (by assumption) (by assumption) (fun _ h => h) ?kw2 ⟨hjl, ?pw2, ?xw2⟩ ?mw2)
        (case kw2 => (dsimp only; rw [hni]; kst_all))
        (case xw2 => exact hx)
        (case pw2 => (dsimp only; rw [List.take_add_one, hpt]; exact hps.snoc rfl trivial))
        (case mw2 => (dsimp only; omega))
    | neg =>
      change pat.cps.toList = a ++ [91, 33, 46, 93] ++ b at hsp
      change pat.length = a.length + 4 + b.length at hz1
      have hnl : (patL (ps.take (j + 1))).length = a.length + 4 := by rw [hnx, List.length_append]; rfl
      have hni : ((patL (ps.take (j + 1))).length : Int) = (a.length : Int) + 3 + 1 := by omega
      k_steps
      have hq2 : ∀ p ∈ (D, seqO "list" vs ep) :: (q, BA.bound D) :: rest, @Ne Nat p.1 182 := by
        intro p hp
        rcases List.mem_cons.mp hp with rfl | hp
        · exact Nat.ne_of_gt lr1
        · exact hr182 p (.tail _ hp)
      have hsl : SliceIs pat ((a.length : Int) + 1) ((a.length : Int) + 3) (Str.ofString "!.") := .of hsp 1 3 (by omega) (by omega) (by decide) (by decide) (by decide +kernel)
      refine Hold.out ?_
      rename Fr _ _ _ _ => F2
      rename News _ _ _ _ => N2
      refine' my_whileS (σ := Int × Tok) (fun _ => []) ((182, tabObj xs) :: (D, seqO "list" vs ep) :: (q, BA.bound D) :: rest) (fun c => [(Str.ofString "j", .int c.1 c.2)])
        [(Str.ofString "i", .int _ _), (Str.ofString "pat", .str pat t), (Str.ofString "STAR", .ref st), (Str.ofString "QUESTION_MARK", .str (Str.ofString ".") u), (Str.ofString "res", .ref D), (Str.ofString "add", .ref q), (Str.ofString "n", .int (pat.length : Int) (tk0 + 1 + 1 + 1 + 1))]
        (fun c => c.1 = (a.length : Int) + 2 ∨ c.1 = (a.length : Int) + 3) (fun c => ((a.length : Int) + 9 - c.1).toNat) (_, _) ?uF101 ?uN101 ?uK101 ?uP101 ?_
      (case uF101 => exact F2)
      (case uN101 => exact N2)
      (case uK101 => kst_all)
      (case uP101 => (dsimp only; omega))
      clear F2 N2
      rintro ⟨jv, tj⟩ m₂ h₂ tk₂ hP F2 N2
      dsimp only [List.nil_append, List.cons_append] at hP F2 N2 ⊢
      rcases hP with rfl | rfl
      · k_steps
        refine' Hold.out (WEnd.intro (_, ?ut101) (by assumption) (by assumption) (fun _ h => h) ?uk101 (.inr ?up101) ?um101)
        (case uk101 => kst_all)
        (case up101 => (dsimp only; omega))
        (case um101 => (dsimp only; omega))
      k_steps
      refine' Hold.out (WEnd.intro (j + 1, _, ep + 1, _, ?tw102) (by assumption) (by assumption) (fun _ h => h) ?kw102 ⟨hjl, ?pw102, ?xw102⟩ ?mw102)
      (case kw102 => (dsimp only; rw [hni]; kst_all))
      (case xw102 => assumption)
      (case pw102 => (dsimp only; rw [List.take_add_one, hpt]; exact hps.snoc ⟨_, congrArg (fun y => Value.str y _) (by decide +kernel)⟩ trivial))
      (case mw102 => (dsimp only; omega))
    | chr c =>
      simp only [Pt.Ok, List.mem_cons, List.not_mem_nil, or_false] at hptO
      rcases hptO with rfl | rfl | rfl | rfl | rfl | rfl
      · change pat.cps.toList = a ++ [97] ++ b at hsp
        change pat.length = a.length + 1 + b.length at hz1
        have hni : ((patL (ps.take (j + 1))).length : Int) = (a.length : Int) + 1 := by rw [hnx]; simp [tokL, quoteOne]
        k_steps
        refine' Hold.out (WEnd.intro (j + 1, _, ep + 1, _, ?tw103) (by assumption) (by assumption) (fun _ h => h) ?kw103 ⟨hjl, ?pw103, ?xw103⟩ ?mw103)
        (case kw103 => (dsimp only; rw [hni]; kst_all))
        (case xw103 => assumption)
        (case pw103 => (dsimp only; rw [List.take_add_one, hpt]; exact hps.snoc ⟨_, rfl⟩ (by simp [Pt.Ok])))
        (case mw103 => (dsimp only; omega))
      · change pat.cps.toList = a ++ [98] ++ b at hsp
        change pat.length = a.length + 1 + b.length at hz1
        have hni : ((patL (ps.take (j + 1))).length : Int) = (a.length : Int) + 1 := by rw [hnx]; simp [tokL, quoteOne]
        k_steps
        refine' Hold.out (WEnd.intro (j + 1, _, ep + 1, _, ?tw104) (by assumption) (by assumption) (fun _ h => h) ?kw104 ⟨hjl, ?pw104, ?xw104⟩ ?mw104)
        (case kw104 => (dsimp only; rw [hni]; kst_all))
        (case xw104 => assumption)
        (case pw104 => (dsimp only; rw [List.take_add_one, hpt]; exact hps.snoc ⟨_, rfl⟩ (by simp [Pt.Ok])))
        (case mw104 => (dsimp only; omega))
      · change pat.cps.toList = a ++ [46] ++ b at hsp
        change pat.length = a.length + 1 + b.length at hz1
        have hni : ((patL (ps.take (j + 1))).length : Int) = (a.length : Int) + 1 := by rw [hnx]; simp [tokL, quoteOne]
        k_steps
        refine' Hold.out (WEnd.intro (j + 1, _, ep + 1, _, ?tw105) (by assumption) (by assumption) (fun _ h => h) ?kw105 ⟨hjl, ?pw105, ?xw105⟩ ?mw105)
        (case kw105 => (dsimp only; rw [hni]; kst_all))
        (case xw105 => assumption)
        (case pw105 => (dsimp only; rw [List.take_add_one, hpt]; exact hps.snoc ⟨_, rfl⟩ (by simp [Pt.Ok])))
        (case mw105 => (dsimp only; omega))
      · change pat.cps.toList = a ++ [45] ++ b at hsp
        change pat.length = a.length + 1 + b.length at hz1
        have hni : ((patL (ps.take (j + 1))).length : Int) = (a.length : Int) + 1 := by rw [hnx]; simp [tokL, quoteOne]
        k_steps
        refine' Hold.out (WEnd.intro (j + 1, _, ep + 1, _, ?tw106) (by assumption) (by assumption) (fun _ h => h) ?kw106 ⟨hjl, ?pw106, ?xw106⟩ ?mw106)
        (case kw106 => (dsimp only; rw [hni]; kst_all))
        (case xw106 => assumption)
        (case pw106 => (dsimp only; rw [List.take_add_one, hpt]; exact hps.snoc ⟨_, rfl⟩ (by simp [Pt.Ok])))
        (case mw106 => (dsimp only; omega))
      · skip
        change pat.cps.toList = a ++ [91, 42, 93] ++ b at hsp
        change pat.length = a.length + 3 + b.length at hz1
        have hnl : (patL (ps.take (j + 1))).length = a.length + 3 := by rw [hnx, List.length_append]; rfl
        have hni : ((patL (ps.take (j + 1))).length : Int) = (a.length : Int) + 2 + 1 := by omega
        k_steps
        have hq2 : ∀ p ∈ (D, seqO "list" vs ep) :: (q, BA.bound D) :: rest, @Ne Nat p.1 182 := by
          intro p hp
          rcases List.mem_cons.mp hp with rfl | hp
          · exact Nat.ne_of_gt lr1
          · exact hr182 p (.tail _ hp)
        have hsl : SliceIs pat ((a.length : Int) + 1) ((a.length : Int) + 2) (Str.ofString "*") := .of hsp 1 2 (by omega) (by omega) (by decide) (by decide) (by decide +kernel)
        refine Hold.out ?_
        rename Fr _ _ _ _ => F2
        rename News _ _ _ _ => N2
        refine' my_whileS (σ := Int × Tok) (fun _ => []) ((182, tabObj xs) :: (D, seqO "list" vs ep) :: (q, BA.bound D) :: rest) (fun c => [(Str.ofString "j", .int c.1 c.2)])
          [(Str.ofString "i", .int _ _), (Str.ofString "pat", .str pat t), (Str.ofString "STAR", .ref st), (Str.ofString "QUESTION_MARK", .str (Str.ofString ".") u), (Str.ofString "res", .ref D), (Str.ofString "add", .ref q), (Str.ofString "n", .int (pat.length : Int) (tk0 + 1 + 1 + 1 + 1))]
          (fun c => c.1 = (a.length : Int) + 1 ∨ c.1 = (a.length : Int) + 2) (fun c => ((a.length : Int) + 9 - c.1).toNat) (_, _) ?uF107 ?uN107 ?uK107 ?uP107 ?_
        (case uF107 => exact F2)
        (case uN107 => exact N2)
        (case uK107 => kst_all)
        (case uP107 => (dsimp only; omega))
        clear F2 N2
        rintro ⟨jv, tj⟩ m₂ h₂ tk₂ hP F2 N2
        dsimp only [List.nil_append, List.cons_append] at hP F2 N2 ⊢
        rcases hP with rfl | rfl
        · k_steps
          refine' Hold.out (WEnd.intro (_, ?ut107) (by assumption) (by assumption) (fun _ h => h) ?uk107 (.inr ?up107) ?um107)
          (case uk107 => kst_all)
          (case up107 => (dsimp only; omega))
          (case um107 => (dsimp only; omega))
        k_steps
        refine' Hold.out (WEnd.intro (j + 1, _, ep + 1, _, ?tw108) (by assumption) (by assumption) (fun _ h => h) ?kw108 ⟨hjl, ?pw108, ?xw108⟩ ?mw108)
        (case kw108 => (dsimp only; rw [hni]; kst_all))
        (case xw108 => assumption)
        (case pw108 => (dsimp only; rw [List.take_add_one, hpt]; exact hps.snoc ⟨_, congrArg (fun y => Value.str y _) (by decide +kernel)⟩ (by simp [Pt.Ok])))
        (case mw108 => (dsimp only; omega))
      · skip
        change pat.cps.toList = a ++ [91, 91, 93] ++ b at hsp
        change pat.length = a.length + 3 + b.length at hz1
        have hnl : (patL (ps.take (j + 1))).length = a.length + 3 := by rw [hnx, List.length_append]; rfl
        have hni : ((patL (ps.take (j + 1))).length : Int) = (a.length : Int) + 2 + 1 := by omega
        k_steps
        have hq2 : ∀ p ∈ (D, seqO "list" vs ep) :: (q, BA.bound D) :: rest, @Ne Nat p.1 182 := by
          intro p hp
          rcases List.mem_cons.mp hp with rfl | hp
          · exact Nat.ne_of_gt lr1
          · exact hr182 p (.tail _ hp)
        have hsl : SliceIs pat ((a.length : Int) + 1) ((a.length : Int) + 2) (Str.ofString "[") := .of hsp 1 2 (by omega) (by omega) (by decide) (by decide) (by decide +kernel)
        refine Hold.out ?_
        rename Fr _ _ _ _ => F2
        rename News _ _ _ _ => N2
        refine' my_whileS (σ := Int × Tok) (fun _ => []) ((182, tabObj xs) :: (D, seqO "list" vs ep) :: (q, BA.bound D) :: rest) (fun c => [(Str.ofString "j", .int c.1 c.2)])
          [(Str.ofString "i", .int _ _), (Str.ofString "pat", .str pat t), (Str.ofString "STAR", .ref st), (Str.ofString "QUESTION_MARK", .str (Str.ofString ".") u), (Str.ofString "res", .ref D), (Str.ofString "add", .ref q), (Str.ofString "n", .int (pat.length : Int) (tk0 + 1 + 1 + 1 + 1))]
          (fun c => c.1 = (a.length : Int) + 1 ∨ c.1 = (a.length : Int) + 2) (fun c => ((a.length : Int) + 9 - c.1).toNat) (_, _) ?uF109 ?uN109 ?uK109 ?uP109 ?_
        (case uF109 => exact F2)
        (case uN109 => exact N2)
        (case uK109 => kst_all)
        (case uP109 => (dsimp only; omega))
        clear F2 N2
        rintro ⟨jv, tj⟩ m₂ h₂ tk₂ hP F2 N2
        dsimp only [List.nil_append, List.cons_append] at hP F2 N2 ⊢
        rcases hP with rfl | rfl
        · k_steps
          refine' Hold.out (WEnd.intro (_, ?ut109) (by assumption) (by assumption) (fun _ h => h) ?uk109 (.inr ?up109) ?um109)
          (case uk109 => kst_all)
          (case up109 => (dsimp only; omega))
          (case um109 => (dsimp only; omega))
        k_steps
        refine' Hold.out (WEnd.intro (j + 1, _, ep + 1, _, ?tw110) (by assumption) (by assumption) (fun _ h => h) ?kw110 ⟨hjl, ?pw110, ?xw110⟩ ?mw110)
        (case kw110 => (dsimp only; rw [hni]; kst_all))
        (case xw110 => assumption)
        (case pw110 => (dsimp only; rw [List.take_add_one, hpt]; exact hps.snoc ⟨_, congrArg (fun y => Value.str y _) (by decide +kernel)⟩ (by simp [Pt.Ok])))
        (case mw110 => (dsimp only; omega))

end
section
theorem walkAnewLH : True := by
  w_top off
  trivial
theorem ints_of : ∀ {zs : List Value}, (∀ v ∈ zs, ∃ n t, v = .int n t) → ∃ ns, IntsAre zs ns
  | [], _ => ⟨[], .nil⟩
  | v :: r, h => by
    obtain ⟨n, t, rfl⟩ := h v (.head _)
    obtain ⟨ns, hr⟩ := ints_of (zs := r) fun v hv => h v (.tail _ hv)
    exact ⟨n :: ns, .cons n t hr⟩
theorem ints_all {vs : List Value} {ns : List Int} (h : IntsAre vs ns) : ∀ v ∈ vs, ∃ n t, v = .int n t := by
  induction h with
  | nil => intro v hv; cases hv
  | cons n t _ ih =>
    intro v hv
    rcases List.mem_cons.mp hv with rfl | hv
    · exact ⟨_, _, rfl⟩
    · exact ih v hv
theorem pick_mem {items : Array Value} {lo hi st : Option Int} {v : Value} (h : v ∈ (slicePick items lo hi st).toList) : v ∈ items.toList := by
  simp only [slicePick, List.mem_filterMap] at h
  obtain ⟨k, _, hk⟩ := h
  rw [← Array.getElem?_toList] at hk
  exact List.mem_of_getElem? hk
section
variable {prog : Program} {w : World} {A : Around} {E : Value → Shared → Prop} {s : Shared} {h₀ : Heap} {L : Addr} {m : Str → Option Value} {news : Led}
theorem slice_any {value slice : Expr} {l : Addr} {vs : List Value} {ns : List Int} {vl vu vk : Value} {lo hi st : Option Int} {ops : List Value} {Q : Value → Shared → Prop}
    (F : Fr h₀ L s.heap m) (N : News h₀ L s.heap news) (hl : s.heap.IsList l vs.toArray) (hi' : IntsAre vs ns) (hz : ns.length ≤ 63) (pl : IsPart vl lo) (pu : IsPart vu hi) (pk : IsPart vk st) (h0 : st ≠ some 0)
    (h : ∀ D zs ms h', Fr h₀ L h' m → News h₀ L h' ((D, seqO "list" zs 0) :: news) → IntsAre zs ms → (∀ p ∈ news, p.1 < D) → Q (.ref D) { s with heap := h' })
    (hs : subscripted slice false (.ref l) (.ref s.heap.objs.size) = operate ops (getItem (.ref l) (.ref s.heap.objs.size)) := by with_unfolding_all rfl)
    (ht : ∀ r, letTemporaryGo value (.ref l) r = pure () := by intro _; with_unfolding_all rfl) :
    wpAny (model prog w) A (subscriptTail value slice (.ref l) (.ref s.heap.objs.size)) Q E { s with heap := s.heap.push { cls := .type "slice", data := .fields #[vl, vu, vk] } } := by
  obtain ⟨ms, hms⟩ := ints_of (zs := (slicePick vs.toArray lo hi st).toList) fun v hv => ints_all hi' v (by simpa using pick_mem hv)
  refine slice_list3 F N hl pl pu pk h0 (fun h' F' N' => h _ _ ms h' F' ?_ hms fun p hp => Nat.lt_succ_of_lt (Heap.lt_size (N p hp).1)) hs ht ?_
  · simpa [seqO] using N'
  · have := hi'.length
    simp only [sizeLine_eq, List.size_toArray]
    omega
theorem sum_K {D : Addr} {k : Nat} {vs : List Value} {ns : List Int} {Q : Value → Shared → Prop} (hh : A.handled = none) (F : Fr h₀ L s.heap m) (N : News h₀ L s.heap news) (hm : (D, seqO "list" vs k) ∈ news) (hi : IntsAre vs ns)
    (h : ∀ h' tk t', Fr h₀ L h' m → News h₀ L h' news → Q (.int ns.sum t') { s with heap := h', toks := tk }) :
    wpAny (model prog w) A (call (.builtin "sum") [.ref D]) Q E s := by
  have hl : s.heap.IsList D vs.toArray := N.isList hm
  obtain ⟨xs, hx⟩ := hi.allInts.items
  have hn : numsOf vs.toArray.toList = ns := by rw [show vs.toArray.toList = vs from rfl, hi.numsOf]
  rw [hx] at hl hn
  rw [nums_intItems] at hn
  refine sum_intListG hh hl fun h' tk t' hk => ?_
  have := h h' tk t' (F.keeps hk) (N.grown hk)
  rw [preSum_eq, List.take_of_length_le (by simp), hn]
  exact this
theorem tup_item {value slice : Expr} {t : Addr} {l : List Value} {k : Nat} {u : Tok} {x : Value} {ep : Nat} {i : Int} {Q : Value → Shared → Prop} (N : News h₀ L s.heap news) (hm : (t, seqO "tuple" l ep) ∈ news) (hi : i = (k : Int)) (hz : l.length ≤ 64) (hx : l[k]? = some x) (h : Q x s)
    (hs : subscripted slice false (.ref t) (.int i u) = operate [.ref t, .int i u] (getItem (.ref t) (.int i u)) := by with_unfolding_all rfl) (hg : ∀ r, letTemporaryGo value (.ref t) r = pure () := by intro _; with_unfolding_all rfl) :
    wpAny (model prog w) A (subscriptTail value slice (.ref t) (.int i u)) Q E s := by
  subst hi
  have hk : k < l.length := (List.getElem?_eq_some_iff.mp hx).1
  refine item_tupleL (N.isTup hm) (by omega) (by omega) (j := k) ?_ hx h hs hg
  unfold seqIndex?
  have h1 : ¬ ((k : Int) < 0) := by omega
  have h2 : (decide (0 ≤ (k : Int)) && decide ((k : Int) < l.length)) = true := by simp; omega
  simp only [h1, if_false, h2, if_true, Int.toNat_natCast]
theorem tup_int {value slice : Expr} {t : Addr} {l : List Value} {ns : List Int} (k : Nat) {u : Tok} {ep : Nat} {i : Int} {Q : Value → Shared → Prop} (N : News h₀ L s.heap news) (hm : (t, seqO "tuple" l ep) ∈ news) (hi : i = (k : Int)) (hl : IntsAre l ns) (hz : l.length ≤ 64) (hk : k < l.length) (h : ∀ n t, Q (.int n t) s)
    (hs : subscripted slice false (.ref t) (.int i u) = operate [.ref t, .int i u] (getItem (.ref t) (.int i u)) := by with_unfolding_all rfl) (hg : ∀ r, letTemporaryGo value (.ref t) r = pure () := by intro _; with_unfolding_all rfl) :
    wpAny (model prog w) A (subscriptTail value slice (.ref t) (.int i u)) Q E s := by
  obtain ⟨n, t', e⟩ := ints_all hl l[k] (List.getElem_mem hk)
  exact tup_item N hm hi hz (List.getElem?_eq_getElem hk) (by rw [e]; exact h n t') hs hg
end
/-- what a drawn name is -/
def NameOk (x : Str) : Prop := Alph x ∧ x.length ≤ 7
/-- what an ending is -/
def EndOk (x : Str) : Prop := Alph x ∧ x.length ≤ 7 ∧ 46 ∉ x.cps.toList
section
variable {prog : Program} {w : World} {A : Around} {E : Value → Shared → Prop} {s : Shared} {h₀ : Heap} {L : Addr} {m : Str → Option Value} {news : Led}
theorem split_dot {x : Str} {t u : Tok} {Q : Value → Shared → Prop} (hF : Fr h₀ L s.heap m) (hN : News h₀ L s.heap news) (hz : x.length ≤ 64)
    (h : ∀ D vs0 ws last tl h' k, Txt.split x (Str.ofString ".") = ws ++ [last] → StrsAre vs0 ws → Fr h₀ L h' m → News h₀ L h' ((D, seqO "list" (vs0 ++ [.str last tl]) 0) :: news) → (∀ p ∈ news, p.1 < D) → Q (.ref D) { s with heap := h', toks := k }) :
    wpAny (model prog w) A (call (.builtin "str.split") [.str x t, .str (Str.ofString ".") u]) Q E s := by
  refine splitN1A hF hN (by decide) (fun l h' k e S _ _ F N => ?_) (by rw [sizeLine_eq]; omega)
  have hl := len_of_split e
  rcases List.eq_nil_or_concat l with rfl | ⟨l0, p, rfl⟩
  · exact absurd hl (by decide)
  · rw [List.concat_eq_append] at e N
    refine h _ (strValues l0) (l0.map (·.1)) p.1 p.2 h' k ?_ (strsAre_of_values l0) F ?_ fun q hq => Heap.lt_size (hN q hq).1
    · rw [← e, List.map_append]; rfl
    · have e2 : strValues (l0 ++ [p]) = strValues l0 ++ [.str p.1 p.2] := by simp [strValues]
      rw [e2] at N
      exact N
end
theorem endOk_last {x last : Str} {ws : List Str} (hx : NameOk x) (e : Txt.split x (Str.ofString ".") = ws ++ [last]) : EndOk last := by
  have hm : last ∈ Txt.split x (Str.ofString ".") := by rw [e]; exact List.mem_append_right _ (.head _)
  refine ⟨fun c hc => hx.1 c ?_, Nat.le_trans (part_short hm) hx.2, StrLaws.split_free x 46 last hm⟩
  have hj := StrLaws.join_split x (Str.ofString ".")
  rw [e] at hj
  have key : ∀ ws : List Str, c ∈ (Str.join (Str.ofString ".") (ws ++ [last])).cps.toList := by
    intro ws
    induction ws with
    | nil => exact hc
    | cons a r ih =>
      cases r with
      | nil =>
        show c ∈ (a ++ Str.ofString "." ++ Str.join (Str.ofString ".") [last]).cps.toList
        rw [PySem.Str.cps_append, Array.toList_append]
        exact List.mem_append_right _ hc
      | cons b r =>
        show c ∈ (a ++ Str.ofString "." ++ Str.join (Str.ofString ".") (b :: r ++ [last])).cps.toList
        rw [PySem.Str.cps_append, Array.toList_append]
        exact List.mem_append_right _ ih
  rw [← hj]; exact key ws
section
variable {prog : Program} {w : World} {A : Around} {E : Value → Shared → Prop} {s : Shared}
theorem app_K {D : Addr} {x : Value} {h₀ : Heap} {L : Addr} {m : Str → Option Value} {news news' : Led} {vs : List Value} {ep : Nat} {Q : Value → Shared → Prop} (F : Fr h₀ L s.heap m) (N : News h₀ L s.heap news)
    (U : Upd D (seqO "list" vs ep) (seqO "list" (vs ++ [x]) (ep + 1)) news news') (hsz : vs.length ≤ sizeLine) (h : ∀ h', Fr h₀ L h' m → News h₀ L h' news' → Q .none { s with heap := h' }) :
    wpAny (model prog w) A (call (.builtin "list.append") [.ref D, x]) Q E s := by
  obtain ⟨pre, post, rfl, rfl, a, b⟩ := U.split
  have z := N (D, seqO "list" vs ep) (List.mem_append.mpr (.inr (.head _)))
  refine append_at (hsz := by simpa using hsz) z.1 fun h' hs ho' => h h' (F.change hs z.2.1 z.2.2) (news_set N a b hs ?_)
  rw [ho']; simp [seqO]
end
theorem ne_all {D : Addr} {l : Led} (h : ∀ p ∈ l, p.1 < D) : ∀ p ∈ l, @Ne Nat p.1 D := fun p hp => Nat.ne_of_lt (h p hp)
theorem lt_cons {D : Addr} {q : Addr × Obj} {l : Led} (h1 : q.1 < D) (h : ∀ p ∈ l, p.1 < D) : ∀ p ∈ q :: l, p.1 < D := fun p hp => by
  rcases List.mem_cons.mp hp with rfl | hp
  · exact h1
  · exact h p hp
theorem lt_nil {D : Addr} : ∀ p ∈ ([] : Led), p.1 < D := fun _ h => nomatch h
/-- the parts of an ending's pattern -/
def ptsOf (e : Str) : List Pt := .star :: .neg :: .star :: .chr 46 :: e.cps.toList.map .chr
theorem patL_chr : ∀ l : List Nat, patL (l.map .chr) = quoteL l
  | [] => rfl
  | c :: r => by
    show quoteOne c ++ patL (r.map .chr) = quoteL (c :: r)
    rw [patL_chr r]; rfl
theorem ptsOf_pat {e y : Str} (hy : y.cps.toList = quoteL e.cps.toList) : (Str.ofString "*[!.]*." ++ y).cps.toList = patL (ptsOf e) := by
  rw [PySem.Str.cps_append, Array.toList_append, hy, ← patL_chr]
  rfl
theorem quoteL_len : ∀ l : List Nat, (quoteL l).length ≤ 3 * l.length
  | [] => Nat.le_refl _
  | c :: r => by
    have h := quoteL_len r
    have h1 : (quoteOne c).length ≤ 3 := by unfold quoteOne; split <;> simp
    have e : quoteL (c :: r) = quoteOne c ++ quoteL r := rfl
    rw [e, List.length_append, List.length_cons]; omega
theorem ptsOf_len {e y : Str} (he : e.length ≤ 7) (hy : y.cps.toList = quoteL e.cps.toList) : (Str.ofString "*[!.]*." ++ y).length ≤ 64 := by
  have h1 : (Str.ofString "*[!.]*." ++ y).length = (Str.ofString "*[!.]*.").length + y.length := strLen_append _ _
  have h2 : y.length = (quoteL e.cps.toList).length := by rw [← hy, Array.length_toList]; rfl
  have h3 := quoteL_len e.cps.toList
  have h4 : e.cps.toList.length = e.length := Array.length_toList
  have h5 : (Str.ofString "*[!.]*.").length = 7 := by decide
  omega
theorem ptsOf_ok {e : Str} (he : Alph e) : ∀ p ∈ ptsOf e, p.Ok := by
  intro p hp
  simp only [ptsOf, List.mem_cons, List.mem_map] at hp
  rcases hp with rfl | rfl | rfl | rfl | ⟨c, hc, rfl⟩
  · trivial
  · trivial
  · trivial
  · simp [Pt.Ok]
  · exact he c hc
theorem noTwo_chr : ∀ l : List Nat, NoTwo (l.map .chr)
  | [] => trivial
  | _ :: r => noTwo_chr r
theorem ptsOf_two (e : Str) : NoTwo (ptsOf e) := noTwo_chr e.cps.toList
theorem tab_nil : TabOk #[] := ⟨trivial, .inl rfl⟩
/-- the lists that _translate made -/
abbrev objsOf (ps : List (Addr × List Value × Nat)) : Led := ps.map fun p => (p.1, seqO "list" p.2.1 p.2.2)
theorem off3_of {I C D : Addr} : ∀ {l : Led}, (∀ p ∈ l, @Ne Nat p.1 I ∧ @Ne Nat p.1 C ∧ @Ne Nat p.1 D) → LCg.Off3 I C D l
  | [], _ => trivial
  | p :: r, h => ⟨h p (.head _), off3_of fun q hq => h q (.tail _ hq)⟩
/-- what the lists of the patterns hold -/
def PartsOk (st : Addr) (es : List Str) (parts : List (Addr × List Value × Nat)) : Prop := ∀ (k : Nat) (p : Addr × List Value × Nat) (e : Str), parts[k]? = some p → es[k]? = some e → PtsAre st p.2.1 (ptsOf e)
theorem PartsOk.snoc {st : Addr} {es : List Str} {parts : List (Addr × List Value × Nat)} {x : Addr × List Value × Nat} {e : Str} {i : Nat} (h : PartsOk st es parts) (hl : parts.length = i) (he : es[i]? = some e) (hx : PtsAre st x.2.1 (ptsOf e)) : PartsOk st es (parts ++ [x]) := by
  intro k p e' hp he'
  by_cases hk : k < parts.length
  · rw [List.getElem?_append_left hk] at hp
    exact h k p e' hp he'
  · rw [List.getElem?_append_right (Nat.not_lt.mp hk)] at hp
    have hk2 : k - parts.length = 0 := by
      have := (List.getElem?_eq_some_iff.mp hp).1
      simp at this; omega
    rw [hk2] at hp
    have hk3 : k = i := by omega
    subst hk3
    rw [he] at he'
    cases he'
    cases hp
    exact hx
theorem objs_mem {parts : List (Addr × List Value × Nat)} {q : Addr × Obj} (h : q ∈ objsOf parts) : ∃ p ∈ parts, q = (p.1, seqO "list" p.2.1 p.2.2) := by
  obtain ⟨p, hp, rfl⟩ := List.mem_map.mp h
  exact ⟨p, hp, rfl⟩
theorem add_q {e y : Str} (hy : y.cps.toList = quoteL e.cps.toList) (he : e.length ≤ 7) : (Str.ofString "*[!.]*.").length + y.length ≤ sizeLine := by
  have h2 : y.length = (quoteL e.cps.toList).length := by rw [← hy, Array.length_toList]; rfl
  have h3 := quoteL_len e.cps.toList
  have h4 : e.cps.toList.length = e.length := Array.length_toList
  have h5 : (Str.ofString "*[!.]*.").length = 7 := by decide
  rw [sizeLine_eq]; omega
section
variable {prog : Program} {w : World} {A : Around} {E : Value → Shared → Prop} {s : Shared} {h₀ : Heap} {L : Addr} {m : Str → Option Value} {news : Led}
theorem pick_init (vs : List Value) (v : Value) : (slicePick (vs ++ [v]).toArray none (some (-1)) none).toList = vs := by
  rw [slicePick_plain]
  simp only [Option.elim, List.drop_zero, Nat.sub_zero, List.size_toArray, List.length_append, List.length_cons, List.length_nil]
  have h : clipAt (vs.length + (0 + 1)) (-1) = vs.length := by unfold clipAt; simp; omega
  rw [h]
  simp
theorem slice_init {value slice : Expr} {l : Addr} {vs : List Value} {v vl vu vk : Value} {ep : Nat} {ops : List Value} {Q : Value → Shared → Prop}
    (F : Fr h₀ L s.heap m) (N : News h₀ L s.heap news) (hm : (l, seqO "list" (vs ++ [v]) ep) ∈ news) (hz : vs.length ≤ 64) (pl : IsPart vl none) (pu : IsPart vu (some (-1))) (pk : IsPart vk none)
    (h : ∀ D h', Fr h₀ L h' m → News h₀ L h' ((D, seqO "list" vs 0) :: news) → (∀ p ∈ news, p.1 < D) → Q (.ref D) { s with heap := h' })
    (hs : subscripted slice false (.ref l) (.ref s.heap.objs.size) = operate ops (getItem (.ref l) (.ref s.heap.objs.size)))
    (ht : ∀ r, letTemporaryGo value (.ref l) r = pure ()) :
    wpAny (model prog w) A (subscriptTail value slice (.ref l) (.ref s.heap.objs.size)) Q E { s with heap := s.heap.push { cls := .type "slice", data := .fields #[vl, vu, vk] } } := by
  refine slice_list3 F N (N.isList hm) pl pu pk (by decide) (fun h' F' N' => h _ h' F' ?_ fun p hp => Nat.lt_succ_of_lt (Heap.lt_size (N p hp).1)) hs ht ?_
  · have e := pick_init vs v
    have e2 : slicePick (vs ++ [v]).toArray none (some (-1)) none = vs.toArray := by rw [← Array.toArray_toList (xs := slicePick (vs ++ [v]).toArray none (some (-1)) none), e]
    rw [e2] at N'
    exact N'
  · simp only [sizeLine_eq, List.size_toArray, List.length_append, List.length_cons, List.length_nil]
    omega
end
def DueIs (wds : List Str) (last due : Str) : Prop := (Txt.join (Str.ofString "") wds = Str.ofString "" ∧ due = Str.ofString "") ∨ (Txt.join (Str.ofString "") wds ≠ Str.ofString "" ∧ due = Str.ofString "." ++ last)
def DueEnd (g : Heap) (L : Addr) (s : Shared) (nn : Led) (ps : List (Str × Value)) (wds : List Str) (last : Str) (fl : Flow) (s' : Shared) : Prop :=
  fl = .next ∧ ∃ h' tk' m' due t, s' = { s with heap := h', toks := tk' } ∧ Fr g L h' m' ∧ News g L h' nn ∧ (∀ p ∈ ps, m' p.1 = some p.2) ∧ m' (Str.ofString "due") = some (.str due t) ∧ DueIs wds last due
theorem DueEnd.intro {g : Heap} {L : Addr} {s : Shared} {nn all : Led} {ps : List (Str × Value)} {wds : List Str} {last due : Str} {h' : Heap} {tk' : Nat} {m' : Str → Option Value} {t : Tok} (F : Fr g L h' m') (N : News g L h' all) (hs : ∀ p ∈ nn, p ∈ all)
    (hk : ∀ p ∈ (Str.ofString "due", Value.str due t) :: ps, m' p.1 = some p.2) (hd : DueIs wds last due) : DueEnd g L s nn ps wds last .next { s with heap := h', toks := tk' } :=
  ⟨rfl, h', tk', m', due, t, rfl, F, fun p hp => N p (hs p hp), fun p hp => hk p (.tail _ hp), hk _ (.head _), hd⟩
theorem split_short {x last : Str} {wds : List Str} {vs : List Value} (hx : x.length ≤ 7) (e : Txt.split x (Str.ofString ".") = wds ++ [last]) (hS : StrsAre vs wds) : vs.length ≤ 8 := by
  have h := split_le x (Str.ofString ".")
  have h2 := hS.length
  rw [e, List.length_append] at h
  simp only [List.length_cons, List.length_nil] at h
  omega
theorem join_fits {x last : Str} {wds : List Str} (hx : x.length ≤ 7) (e : Txt.split x (Str.ofString ".") = wds ++ [last]) : (wds.map (·.length)).sum + wds.length * (Str.ofString "").length ≤ 16777216 := by
  have h := split_weight x (Str.ofString ".") (by decide)
  rw [e, List.map_append, List.sum_append, List.length_append] at h
  have h0 : (Str.ofString "").length = 0 := by decide
  rw [h0, Nat.mul_zero]
  omega
theorem join_L {prog : Program} {w : World} {A : Around} {E : Value → Shared → Prop} {s : Shared} {h₀ : Heap} {L : Addr} {news : Led} {sep : Str} {t : Tok} {D : Addr} {vs : List Value} {ys : List Str} {ep : Nat} {Q : Value → Shared → Prop} (N : News h₀ L s.heap news) (hm : (D, seqO "list" vs ep) ∈ news) (hi : StrsAre vs ys)
    (hok : (ys.map (·.length)).sum + ys.length * sep.length ≤ 16777216) (h : ∀ t' k, Q (.str (Txt.join sep ys) t') { s with toks := k }) : wpAny (model prog w) A (call (.builtin "str.join") [.str sep t, .ref D]) Q E s :=
  join_list (N.isList hm) hi hok h

end
section
theorem walkAnewPL : True := by
  w_top off
  trivial
def DueOf (x due : Str) : Prop := ∃ wds last, Txt.split x (Str.ofString ".") = wds ++ [last] ∧ DueIs wds last due
def Folder (f : Str) : Prop := f = Str.ofString "" ∨ f = Str.ofString "a.b" ∨ f = Str.ofString "../"
theorem str_ext {a b : Str} (h : a.cps.toList = b.cps.toList) : a = b := by cases a; cases b; exact congrArg Str.mk (Array.toList_inj.mp h)
theorem dot_is : Str.ofString "." = ⟨#[46]⟩ := by decide +kernel
theorem slash_is : Str.ofString "/" = ⟨#[47]⟩ := by decide +kernel
theorem rfind_list (x : Str) (c : Nat) : (Txt.rfind x ⟨#[c]⟩ = -1 ∧ c ∉ x.cps.toList) ∨ ∃ a b, x.cps.toList = a ++ c :: b ∧ c ∉ b ∧ Txt.rfind x ⟨#[c]⟩ = (a.length : Int) := by
  rcases rfind_whole x ⟨#[c]⟩ with ⟨h, hn⟩ | ⟨i, h, hi, hn⟩
  · refine .inl ⟨h, fun hc => ?_⟩
    obtain ⟨i, hi⟩ := List.mem_iff_getElem?.mp hc
    exact hn i ((StrLaws.subAt_one x c i).mpr hi)
  · have hi := (StrLaws.subAt_one x c i).mp hi
    obtain ⟨hlt, he⟩ := List.getElem?_eq_some_iff.mp hi
    refine .inr ⟨x.cps.toList.take i, x.cps.toList.drop (i + 1), ?_, fun hc => ?_, ?_⟩
    · rw [← he, ← List.drop_eq_getElem_cons hlt, List.take_append_drop]
    · obtain ⟨k, hk⟩ := List.mem_iff_getElem?.mp hc
      rw [List.getElem?_drop] at hk
      exact hn (i + 1 + k) (by omega) ((StrLaws.subAt_one x c _).mpr hk)
    · rw [h, List.length_take, Nat.min_eq_left (Nat.le_of_lt hlt)]
theorem last_unique {l a b a' b' : List Nat} {c : Nat} (h : l = a ++ c :: b) (hb : c ∉ b) (h' : l = a' ++ c :: b') (hb' : c ∉ b') : a = a' ∧ b = b' := by
  have e : a ++ c :: b = a' ++ c :: b' := h ▸ h'
  rcases List.append_eq_append_iff.mp e with ⟨d, h1, h2⟩ | ⟨d, h1, h2⟩
  · cases d with
    | nil => simp at h1 h2; exact ⟨h1.symm, h2⟩
    | cons z d =>
      simp only [List.cons_append, List.cons.injEq] at h2
      exact absurd (h2.2 ▸ List.mem_append_right _ (.head _)) hb
  · cases d with
    | nil => simp at h1 h2; exact ⟨h1, h2.symm⟩
    | cons z d =>
      simp only [List.cons_append, List.cons.injEq] at h2
      exact absurd (h2.2 ▸ List.mem_append_right _ (.head _)) hb'
theorem rfind_at {x : Str} {c : Nat} {a b : List Nat} (h : x.cps.toList = a ++ c :: b) (hb : c ∉ b) : Txt.rfind x ⟨#[c]⟩ = (a.length : Int) := by
  rcases rfind_list x c with ⟨_, hn⟩ | ⟨a', b', h', hb', e⟩
  · exact absurd (h ▸ List.mem_append_right _ (.head _)) hn
  · rw [e, (last_unique h hb h' hb').1]
theorem rfind_none {x : Str} {c : Nat} (h : c ∉ x.cps.toList) : Txt.rfind x ⟨#[c]⟩ = -1 := by
  rcases rfind_list x c with ⟨e, _⟩ | ⟨a', b', h', _, _⟩
  · exact e
  · exact absurd (h' ▸ List.mem_append_right _ (.head _)) h
theorem slice_to {x : Str} {k : Nat} (h : k ≤ x.cps.toList.length) : (Txt.slice x none (some (k : Int))).cps.toList = x.cps.toList.take k := by
  have e := eq_of_beq (slice_closes_to (x := x) (j := (k : Int)) (by omega))
  rw [e]; simp
theorem slice_from {x : Str} {k : Nat} (h : k ≤ x.cps.toList.length) : (Txt.slice x (some (k : Int)) none).cps.toList = x.cps.toList.drop k := by
  rw [slice_from_eq (by omega) (by rw [Array.length_toList] at h; exact Int.ofNat_le.mpr h) rfl]
  have : ((x.length : Int) - (k : Int)).toNat = (x.cps.toList.drop k).length := by rw [List.length_drop, Array.length_toList]; show ((x.cps.size : Int) - k).toNat = _; omega
  simp only [Int.toNat_natCast]
  rw [this, List.take_length]
theorem slice_one {x : Str} {k : Nat} (h : k < x.cps.toList.length) : (Txt.slice x (some (k : Int)) (some ((k : Int) + 1))).cps.toList = [x.cps.toList[k]] := by
  have e := eq_of_beq (slice_closes (x := x) (i := (k : Int)) (j := (k : Int) + 1) (by omega))
  rw [e]
  have : ((k : Int) + 1 - (k : Int)).toNat = 1 := by omega
  simp only [Int.toNat_natCast, this]
  rw [List.drop_eq_getElem_cons h]; rfl
theorem join_words : ∀ (ws : List Str) (last : Str), (∀ w ∈ ws, 46 ∉ w.cps.toList) →
    (ws = [] ∧ (Str.join (Str.ofString ".") (ws ++ [last])).cps.toList = last.cps.toList) ∨
    ∃ a, (Str.join (Str.ofString ".") (ws ++ [last])).cps.toList = a ++ 46 :: last.cps.toList ∧ ((∃ c ∈ a, c ≠ 46) ↔ ws.flatMap (·.cps.toList) ≠ [])
  | [], last, _ => .inl ⟨rfl, rfl⟩
  | w :: r, last, h => by
    have hw := h w (.head _)
    have e : ∀ y ys, (Str.join (Str.ofString ".") (w :: y :: ys)).cps.toList = w.cps.toList ++ 46 :: (Str.join (Str.ofString ".") (y :: ys)).cps.toList := fun y ys => by
      show (w ++ Str.ofString "." ++ Str.join (Str.ofString ".") (y :: ys)).cps.toList = _
      rw [PySem.Str.cps_append, PySem.Str.cps_append, dot_is]; simp
    have hq : (∃ c ∈ w.cps.toList, c ≠ 46) ↔ w.cps.toList ≠ [] := by
      constructor
      · rintro ⟨c, hc, _⟩ h0
        rw [h0] at hc; cases hc
      · intro h0
        cases hl : w.cps.toList with
        | nil => exact absurd hl h0
        | cons c t => exact ⟨c, .head _, fun q => hw (by rw [hl, q]; exact .head _)⟩
    refine .inr ?_
    cases r with
    | nil =>
      refine ⟨w.cps.toList, ?_, ?_⟩
      · rw [List.cons_append, List.nil_append, e]; rfl
      · rw [hq]; simp
    | cons y ys =>
      rcases join_words (y :: ys) last (fun v hv => h v (.tail _ hv)) with ⟨h0, _⟩ | ⟨a, h1, h2⟩
      · cases h0
      refine ⟨w.cps.toList ++ 46 :: a, ?_, ?_⟩
      · rw [List.cons_append, List.cons_append, e, ← List.cons_append, h1]; simp
      · constructor
        · rintro ⟨c, hc, hne⟩ h0
          rw [List.flatMap_cons, List.append_eq_nil_iff] at h0
          rcases List.mem_append.mp hc with hc | hc
          · exact hq.mp ⟨c, hc, hne⟩ h0.1
          · rcases List.mem_cons.mp hc with rfl | hc
            · exact hne rfl
            · exact h2.mp ⟨c, hc, hne⟩ h0.2
        · intro h0
          by_cases hw0 : w.cps.toList = []
          · rw [List.flatMap_cons, hw0, List.nil_append] at h0
            obtain ⟨c, hc, hne⟩ := h2.mpr h0
            exact ⟨c, List.mem_append_right _ (.tail _ hc), hne⟩
          · obtain ⟨c, hc, hne⟩ := hq.mpr hw0
            exact ⟨c, List.mem_append_left _ hc, hne⟩
/-- the law's due, by the last dot -/
theorem due_cases {x due : Str} (h : DueOf x due) : (due = Str.ofString "" ∧ ∀ a b, x.cps.toList = a ++ 46 :: b → 46 ∉ b → ∀ c ∈ a, c = 46) ∨
    ∃ a b, x.cps.toList = a ++ 46 :: b ∧ 46 ∉ b ∧ (∃ c ∈ a, c ≠ 46) ∧ due.cps.toList = 46 :: b := by
  obtain ⟨wds, last, hs, hd⟩ := h
  have hf : ∀ w ∈ wds ++ [last], 46 ∉ w.cps.toList := fun w hw => StrLaws.split_free x 46 w (by rw [← dot_is, hs]; exact hw)
  have hl : 46 ∉ last.cps.toList := hf _ (List.mem_append_right _ (.head _))
  have hj := StrLaws.join_split x (Str.ofString ".")
  rw [hs] at hj
  have hjn : Txt.join (Str.ofString "") wds = Str.ofString "" ↔ wds.flatMap (·.cps.toList) = [] := by
    rw [← join_toList]
    constructor
    · intro e; rw [e, ofString_nil_cps]
    · intro e; exact str_ext (by rw [e, ofString_nil_cps])
  rcases join_words wds last (fun w hw => hf w (List.mem_append_left _ hw)) with ⟨rfl, h1⟩ | ⟨a, h1, h2⟩
  · rw [hj] at h1
    rcases hd with ⟨_, hd⟩ | ⟨hn, _⟩
    · exact .inl ⟨hd, fun a b e _ => absurd (by rw [← h1, e]; exact List.mem_append_right _ (.head _)) hl⟩
    · exact absurd (hjn.mpr rfl) hn
  · rw [hj] at h1
    rcases hd with ⟨hn, hd⟩ | ⟨hn, hd⟩
    · refine .inl ⟨hd, fun a' b' e hb' c hc => ?_⟩
      obtain ⟨rfl, rfl⟩ := last_unique h1 hl e hb'
      exact Classical.byContradiction fun hne => h2.mp ⟨c, hc, hne⟩ (hjn.mp hn)
    · refine .inr ⟨a, _, h1, hl, h2.mpr fun e => hn (hjn.mpr e), ?_⟩
      rw [hd, PySem.Str.cps_append, dot_is]; simp
theorem name_no {x : Str} (hx : NameOk x) {c : Nat} (hc : c ∉ [97, 98, 46, 45, 42, 91]) : c ∉ x.cps.toList := fun h => hc (hx.1 c h)
theorem starts_slash {x : Str} (hx : NameOk x) : Txt.startswith x (Str.ofString "/") = false := by
  refine Bool.eq_false_iff.mpr fun h => ?_
  unfold Txt.startswith at h
  rw [Bool.and_eq_true, decide_eq_true_eq, slash_is] at h
  have := (StrLaws.subAt_one x 47 0).mp h
  exact name_no hx (by decide) (List.mem_of_getElem? this)
/-- what join lays ahead of a name -/
theorem path_is {f x : Str} (hx : NameOk x) (hf : Folder f) : ∃ pf, (joinS f x).cps.toList = pf ++ x.cps.toList ∧ ((pf = []) ∨ ∃ q, pf = q ++ [47]) ∧ pf.length ≤ 4 := by
  have hs := starts_slash hx
  rcases hf with rfl | rfl | rfl
  · refine ⟨[], ?_, .inl rfl, by decide⟩
    unfold joinS
    rw [if_pos (.inr (by decide +kernel))]; rfl
  · refine ⟨[97, 46, 98, 47], ?_, .inr ⟨[97, 46, 98], rfl⟩, by decide⟩
    unfold joinS
    rw [if_neg (by rw [hs]; decide +kernel), if_neg (by decide +kernel), PySem.Str.cps_append, PySem.Str.cps_append, Array.toList_append, Array.toList_append, ← List.append_assoc]
    congr 1
  · refine ⟨[46, 46, 47], ?_, .inr ⟨[46, 46], rfl⟩, by decide⟩
    unfold joinS
    rw [if_neg (by rw [hs]; decide +kernel), if_pos (by decide +kernel), PySem.Str.cps_append, Array.toList_append]
    congr 1
theorem join_short {f x : Str} (hx : NameOk x) (hf : Folder f) : (joinS f x).length ≤ 16 := by
  obtain ⟨pf, h, _, hl⟩ := path_is hx hf
  have h1 : (joinS f x).length = (joinS f x).cps.toList.length := Array.length_toList.symm
  have h2 : x.cps.toList.length = x.length := Array.length_toList
  have h3 := hx.2
  rw [h1, h, List.length_append]; omega
theorem rfind_sep {f x : Str} (hx : NameOk x) {pf : List Nat} (h : (joinS f x).cps.toList = pf ++ x.cps.toList) (hp : (pf = []) ∨ ∃ q, pf = q ++ [47]) : Txt.rfind (joinS f x) (Str.ofString "/") = (pf.length : Int) - 1 := by
  rw [slash_is]
  rcases hp with rfl | ⟨q, rfl⟩
  · rw [rfind_none (by rw [h]; exact name_no hx (by decide))]; rfl
  · rw [rfind_at (a := q) (b := x.cps.toList) (by rw [h]; simp) (name_no hx (by decide))]; simp
theorem law_base {f x : Str} (hx : NameOk x) (hf : Folder f) : Txt.slice (joinS f x) (some (Txt.rfind (joinS f x) (Str.ofString "/") + 1)) none = x := by
  obtain ⟨pf, h, hp, _⟩ := path_is hx hf
  rw [rfind_sep hx h hp, Int.sub_add_cancel]
  refine str_ext ?_
  rw [slice_from (by rw [h]; simp), h]; simp
theorem law_root {f x root ext due : Str} (hx : NameOk x) (hf : Folder f) (hd : DueOf x due) (h : SplitOut (joinS f x) root ext) : root ++ ext = joinS f x ∧ ext = due := by
  obtain ⟨pf, hj, hp, _⟩ := path_is hx hf
  have hsep := rfind_sep hx hj hp
  generalize joinS f x = P at hj hsep h ⊢
  rcases due_cases hd with ⟨rfl, hdots⟩ | ⟨a, b, hx', hb, ⟨c, hc, hne⟩, hdue⟩
  · have hall : ∀ j : Int, Txt.rfind P (Str.ofString "/") < j → j < Txt.rfind P (Str.ofString ".") → Txt.slice P (some j) (some (j + 1)) = Str.ofString "." := by
      intro j h1 h2
      rw [hsep] at h1
      rw [dot_is] at h2 ⊢
      rcases rfind_list P 46 with ⟨e, _⟩ | ⟨a', b', hP, hb', e⟩
      · omega
      · rw [e] at h2
        have hjn : ∃ k : Nat, j = (k : Int) := ⟨j.toNat, by omega⟩
        obtain ⟨k, rfl⟩ := hjn
        have hk : k < a'.length := by omega
        have hpk : pf.length ≤ k := by omega
        have e2 : a' ++ 46 :: b' = pf ++ x.cps.toList := hP ▸ hj
        have e3 : x.cps.toList = a'.drop pf.length ++ 46 :: b' := by
          have := congrArg (List.drop pf.length) e2
          rw [List.drop_append_of_le_length (by omega), List.drop_left] at this
          exact this.symm
        refine str_ext ?_
        rw [slice_one (by rw [hP, List.length_append]; omega)]
        have e4 : P.cps.toList[k]'(by rw [hP, List.length_append]; omega) = a'[k] := by
          simp only [hP]; exact List.getElem_append_left hk
        rw [e4]
        have e5 := hdots _ _ e3 hb' a'[k] (List.mem_iff_getElem?.mpr ⟨k - pf.length, by rw [List.getElem?_drop, show pf.length + (k - pf.length) = k by omega, List.getElem?_eq_getElem hk]⟩)
        rw [e5]
    rcases h with ⟨j, h1, h2, h3, _⟩ | ⟨_, hr, rfl⟩
    · exact absurd (hall j h1 h2) h3
    · subst hr
      have e : Txt.slice root none (some 0) = Str.ofString "" := str_ext (by
        exact (slice_to (x := root) (k := 0) (Nat.zero_le _)).trans (by rw [ofString_nil_cps]; rfl))
      rw [e]
      refine ⟨str_ext ?_, rfl⟩
      rw [PySem.Str.cps_append, ofString_nil_cps]; simp
  · have hP : P.cps.toList = (pf ++ a) ++ 46 :: b := by rw [hj, hx', List.append_assoc]
    have hdot : Txt.rfind P (Str.ofString ".") = ((pf ++ a).length : Int) := by rw [dot_is]; exact rfind_at hP hb
    rcases h with ⟨_, _, _, _, rfl, rfl⟩ | ⟨hn, _, _⟩
    · rw [hdot]
      have hle : (pf ++ a).length ≤ P.cps.toList.length := by rw [hP]; simp only [List.length_append]; omega
      refine ⟨str_ext ?_, str_ext ?_⟩
      · rw [PySem.Str.cps_append, Array.toList_append, slice_to hle, slice_from hle, List.take_append_drop]
      · rw [slice_from hle, hP, List.drop_left, hdue]
    · exfalso
      obtain ⟨k, hk⟩ := List.mem_iff_getElem?.mp hc
      obtain ⟨hkl, hke⟩ := List.getElem?_eq_some_iff.mp hk
      have hle : pf.length + k < P.cps.toList.length := by rw [hP, List.length_append, List.length_append]; omega
      have := hn ((pf.length + k : Nat) : Int) (by rw [hsep]; omega) (by rw [hdot, List.length_append]; omega)
      have e1 := congrArg (fun s : Str => s.cps.toList) this
      rw [slice_one hle, dot_is] at e1
      have e2 : P.cps.toList[pf.length + k]'hle = c := by
        have : P.cps.toList[pf.length + k]? = some c := by
          rw [hP, List.append_assoc, List.getElem?_append_right (by omega), List.getElem?_append_left (by omega), show pf.length + k - pf.length = k by omega, hk]
        exact Option.some.inj ((List.getElem?_eq_getElem hle).symm.trans this)
      rw [e2] at e1
      exact hne (by simpa using e1)
/-- the places behind *[!.]* -/
theorem mem_three (nm : List Nat) (k : Nat) : k ∈ [Pt.star, .neg, .star].foldl (stepAt nm) [0] ↔ k ≤ nm.length ∧ ∃ i, i < k ∧ nm[i]?.any (· != 46) = true := by
  have e1 : stepAt nm [0] .star = List.range' 0 (nm.length + 1) := rfl
  simp only [List.foldl_cons, List.foldl_nil, e1]
  have m2 : ∀ z, z ∈ stepAt nm (List.range' 0 (nm.length + 1)) .neg ↔ ∃ i, nm[i]?.any (· != 46) = true ∧ i + 1 = z := by
    intro z
    simp only [stepAt, List.mem_map, List.mem_filter, List.mem_range'_1]
    constructor
    · rintro ⟨i, ⟨_, h⟩, e⟩; exact ⟨i, h, e⟩
    · rintro ⟨i, h, e⟩
      refine ⟨i, ⟨?_, h⟩, e⟩
      cases hi : nm[i]? with
      | none => rw [hi] at h; cases h
      | some v => have := (List.getElem?_eq_some_iff.mp hi).1; omega
  have hs : (stepAt nm (List.range' 0 (nm.length + 1)) .neg).Pairwise (· < ·) := by
    show (((List.range' 0 (nm.length + 1)).filter _).map (· + 1)).Pairwise (· < ·)
    rw [List.pairwise_map]
    exact (List.Pairwise.filter _ List.pairwise_lt_range').imp fun h => Nat.succ_lt_succ h
  generalize stepAt nm (List.range' 0 (nm.length + 1)) .neg = S at m2 hs
  cases S with
  | nil =>
    constructor
    · intro h; cases h
    · rintro ⟨_, i, _, h⟩; exact nomatch (m2 (i + 1)).mpr ⟨i, h, rfl⟩
  | cons a r =>
    show k ∈ List.range' a (nm.length + 1 - a) ↔ _
    rw [List.mem_range'_1]
    obtain ⟨i, hi, he⟩ := (m2 a).mp (.head _)
    have hil : i < nm.length := by
      cases h : nm[i]? with
      | none => rw [h] at hi; cases hi
      | some v => exact (List.getElem?_eq_some_iff.mp h).1
    constructor
    · rintro ⟨h1, h2⟩
      exact ⟨by omega, i, by omega, hi⟩
    · rintro ⟨h1, i', h2, h3⟩
      have hm : i' + 1 ∈ a :: r := (m2 _).mpr ⟨i', h3, rfl⟩
      have : a ≤ i' + 1 := by
        rcases List.mem_cons.mp hm with e | hm
        · omega
        · exact Nat.le_of_lt ((List.pairwise_cons.mp hs).1 _ hm)
      omega
theorem mem_chr (nm : List Nat) (S : List Nat) (c k : Nat) : k ∈ stepAt nm S (.chr c) ↔ ∃ p ∈ S, nm[p]? = some c ∧ p + 1 = k := by
  simp only [stepAt, List.mem_map, List.mem_filter]
  constructor
  · rintro ⟨p, ⟨h1, h2⟩, h3⟩
    refine ⟨p, h1, ?_, h3⟩
    cases h : nm[p]? with
    | none => rw [h] at h2; cases h2
    | some v => rw [h] at h2; simp at h2; rw [h2]
  · rintro ⟨p, h1, h2, h3⟩
    exact ⟨p, ⟨h1, by rw [h2]; simp⟩, h3⟩
theorem mem_chrs (nm : List Nat) : ∀ (cs S : List Nat) (k : Nat), k ∈ (cs.map Pt.chr).foldl (stepAt nm) S ↔ ∃ p ∈ S, p + cs.length = k ∧ (nm.drop p).take cs.length = cs
  | [], S, k => by simp
  | c :: cs, S, k => by
    rw [List.map_cons, List.foldl_cons, mem_chrs nm cs]
    constructor
    · rintro ⟨p, hp, h1, h2⟩
      obtain ⟨q, hq, h3, rfl⟩ := (mem_chr nm S c p).mp hp
      refine ⟨q, hq, by rw [List.length_cons]; omega, ?_⟩
      obtain ⟨hlt, he⟩ := List.getElem?_eq_some_iff.mp h3
      rw [List.drop_eq_getElem_cons hlt, he, List.length_cons, List.take_succ_cons, h2]
    · rintro ⟨q, hq, h1, h2⟩
      have hlt : q < nm.length := by
        refine Nat.lt_of_not_le fun hle => ?_
        rw [List.drop_eq_nil_of_le hle] at h2; cases h2
      rw [List.drop_eq_getElem_cons hlt, List.length_cons, List.take_succ_cons, List.cons.injEq] at h2
      refine ⟨q + 1, (mem_chr nm S c _).mpr ⟨q, hq, by rw [List.getElem?_eq_getElem hlt, h2.1], rfl⟩, by rw [List.length_cons] at h1; omega, h2.2⟩
theorem any_ne {nm : List Nat} {i : Nat} : nm[i]?.any (· != 46) = true ↔ ∃ v, nm[i]? = some v ∧ v ≠ 46 := by
  cases nm[i]? <;> simp
theorem takes_each (nm e : List Nat) : takesL nm (.star :: .neg :: .star :: .chr 46 :: e.map .chr) = true ↔ ∃ a, nm = a ++ 46 :: e ∧ ∃ c ∈ a, c ≠ 46 := by
  unfold takesL
  rw [List.contains_iff_mem, show (Pt.star :: .neg :: .star :: .chr 46 :: e.map Pt.chr) = [Pt.star, .neg, .star] ++ (46 :: e).map Pt.chr from rfl, List.foldl_append, mem_chrs]
  constructor
  · rintro ⟨p, hp, h1, h2⟩
    obtain ⟨hpl, i, hi, hv⟩ := (mem_three nm p).mp hp
    obtain ⟨v, hv, hne⟩ := any_ne.mp hv
    rw [List.take_of_length_le (by rw [List.length_drop]; omega)] at h2
    refine ⟨nm.take p, by rw [← h2, List.take_append_drop], v, ?_, hne⟩
    exact List.mem_iff_getElem?.mpr ⟨i, by rw [List.getElem?_take_of_lt hi, hv]⟩
  · rintro ⟨a, rfl, c, hc, hne⟩
    obtain ⟨i, hi⟩ := List.mem_iff_getElem?.mp hc
    have hil := (List.getElem?_eq_some_iff.mp hi).1
    refine ⟨a.length, (mem_three _ _).mpr ⟨by simp, i, hil, any_ne.mpr ⟨c, by rw [List.getElem?_append_left hil, hi], hne⟩⟩, by simp, by simp⟩
theorem takes_some (nm : List Nat) : takesL nm [.star, .neg, .star, .chr 46, .star] = true ↔ ∃ a b, nm = a ++ 46 :: b ∧ ∃ c ∈ a, c ≠ 46 := by
  unfold takesL
  rw [List.contains_iff_mem, show [Pt.star, .neg, .star, .chr 46, .star] = [Pt.star, .neg, .star] ++ [Pt.chr 46, .star] from rfl, List.foldl_append]
  simp only [List.foldl_cons (f := stepAt nm) (a := Pt.chr 46), List.foldl_nil, List.foldl_cons (f := stepAt nm) (a := Pt.star) (l := [])]
  have m3 := mem_three nm
  generalize [Pt.star, .neg, .star].foldl (stepAt nm) [0] = S at m3
  have m4 := mem_chr nm S 46
  have hle : ∀ k ∈ stepAt nm S (.chr 46), k ≤ nm.length := fun k hk => by
    obtain ⟨p, _, h2, rfl⟩ := (m4 k).mp hk
    exact (List.getElem?_eq_some_iff.mp h2).1
  constructor
  · intro h
    have : ∃ k, k ∈ stepAt nm S (.chr 46) := by
      cases hS : stepAt nm S (.chr 46) with
      | nil => rw [hS] at h; cases h
      | cons z r => exact ⟨z, .head _⟩
    obtain ⟨k, hk⟩ := this
    obtain ⟨p, hp, h2, rfl⟩ := (m4 k).mp hk
    obtain ⟨hpl, i, hi, hv⟩ := (m3 p).mp hp
    obtain ⟨v, hv, hne⟩ := any_ne.mp hv
    obtain ⟨hlt, he⟩ := List.getElem?_eq_some_iff.mp h2
    refine ⟨nm.take p, nm.drop (p + 1), by rw [← he, ← List.drop_eq_getElem_cons hlt, List.take_append_drop], v, ?_, hne⟩
    exact List.mem_iff_getElem?.mpr ⟨i, by rw [List.getElem?_take_of_lt hi, hv]⟩
  · rintro ⟨a, b, rfl, c, hc, hne⟩
    obtain ⟨i, hi⟩ := List.mem_iff_getElem?.mp hc
    have hil := (List.getElem?_eq_some_iff.mp hi).1
    have hk : a.length + 1 ∈ stepAt (a ++ 46 :: b) S (.chr 46) := (m4 _).mpr ⟨a.length, (m3 _).mpr ⟨by simp, i, hil, any_ne.mpr ⟨c, by rw [List.getElem?_append_left hil, hi], hne⟩⟩, by simp, rfl⟩
    cases hS : stepAt (a ++ 46 :: b) S (.chr 46) with
    | nil => rw [hS] at hk; cases hk
    | cons z r =>
      have hz := hle z (by rw [hS]; exact .head _)
      show (a ++ 46 :: b).length ∈ List.range' z ((a ++ 46 :: b).length + 1 - z)
      rw [List.mem_range'_1]; omega
theorem last_dot : ∀ {l : List Nat}, 46 ∈ l → ∃ a b, l = a ++ 46 :: b ∧ 46 ∉ b
  | c :: l, h => by
    by_cases hl : 46 ∈ l
    · obtain ⟨a, b, rfl, hb⟩ := last_dot hl
      exact ⟨c :: a, b, rfl, hb⟩
    · rcases List.mem_cons.mp h with rfl | h
      · exact ⟨[], l, rfl, hl⟩
      · exact absurd h hl
theorem law_some {x due : Str} (hd : DueOf x due) : takesL x.cps.toList [.star, .neg, .star, .chr 46, .star] = (due != Str.ofString "") := by
  rw [Bool.eq_iff_iff, takes_some, bne_iff_ne]
  rcases due_cases hd with ⟨rfl, hdots⟩ | ⟨a, b, hx', hb, hc, hdue⟩
  · constructor
    · rintro ⟨a, b, h, c, hc, hne⟩
      exfalso
      obtain ⟨a', b', h', hb'⟩ := last_dot (l := 46 :: b) (.head _)
      refine hne (hdots (a ++ a') b' (by rw [h, h', List.append_assoc]) hb' c (List.mem_append_left _ hc))
    · intro h; exact absurd rfl h
  · refine ⟨fun _ e => ?_, fun _ => ⟨a, b, hx', hc⟩⟩
    rw [e, ofString_nil_cps] at hdue; cases hdue
theorem law_each {x due e : Str} (hd : DueOf x due) (he : EndOk e) : takesL x.cps.toList (ptsOf e) = (due == Str.ofString "." ++ e) := by
  rw [Bool.eq_iff_iff, beq_iff_eq]
  unfold ptsOf
  rw [takes_each]
  have e1 : (Str.ofString "." ++ e).cps.toList = 46 :: e.cps.toList := by rw [PySem.Str.cps_append, dot_is]; simp
  rcases due_cases hd with ⟨rfl, hdots⟩ | ⟨a, b, hx', hb, hc, hdue⟩
  · constructor
    · rintro ⟨a, h, c, hc, hne⟩
      exact absurd (hdots a _ h he.2.2 c hc) hne
    · intro h
      rw [← h, ofString_nil_cps] at e1; cases e1
  · constructor
    · rintro ⟨a', h, _⟩
      obtain ⟨_, rfl⟩ := last_unique hx' hb h he.2.2
      exact str_ext (by rw [hdue, e1])
    · intro h
      rw [h, e1] at hdue
      obtain rfl : e.cps.toList = b := (List.cons.inj hdue).2
      exact ⟨a, hx', hc⟩
theorem carried_bools : ∀ bs : List Bool, CarriedAll (bs.map Value.bool) (bs.map PyData.bool)
  | [] => .nil
  | b :: r => .cons (.bool b) (carried_bools r)
theorem bools_lay : ∀ bs : List Bool, PyData.canLayAll0 (bs.map PyData.bool) = true
  | [] => rfl
  | _ :: r => by simp [PyData.canLayAll0, PyData.canLay0, bools_lay r]
theorem bools_depth : ∀ bs : List Bool, PyData.depthAll (bs.map PyData.bool) = 0
  | [] => rfl
  | _ :: r => by simp [PyData.depthAll, PyData.depth, bools_depth r]
theorem bools_eqv : ∀ bs : List Bool, PyData.eqvAll (bs.map PyData.bool) (bs.map PyData.bool) = true
  | [] => by simp [PyData.eqvAll]
  | b :: r => by simp [PyData.eqvAll, PyData.eqv, bools_eqv r]
theorem ne_bools {prog : Program} {w : World} {A : Around} {E : Value → Shared → Prop} {s : Shared} {h₀ : Heap} {L : Addr} {news : Led} {a b : Addr} {vs us : List Value} {bs : List Bool} {ep eq : Nat} {Q : Value → Shared → Prop} (N : News h₀ L s.heap news)
    (ha : (a, seqO "list" vs ep) ∈ news) (hb : (b, seqO "list" us eq) ∈ news) (ea : vs = bs.map Value.bool) (eb : us = bs.map Value.bool) (hu : A.units + 64 < cLine) (h : Q (.bool false) s) :
    wpAny (model prog w) A (compareOp .NotEq (.ref a) (.ref b)) Q E s := by
  subst ea; subst eb
  have sh : PySem.SeqAt.shaped (.list (bs.map PyData.bool)) = true := by simp [PySem.SeqAt.shaped, PyData.canLay0, PyData.depth, bools_lay, bools_depth]
  refine ne_dataH (reads_newData (N.isList ha) (carried_bools bs)) (reads_newData (N.isList hb) (carried_bools bs)) sh sh hu ?_
  have e : PyData.eqv (.list (bs.map PyData.bool)) (.list (bs.map PyData.bool)) = true := by simp only [PyData.eqv]; exact bools_eqv bs
  rw [e]; exact h
theorem Con.mono {w : World} {f : Addr} {dep unit : Nat} {news : Led} {vs : List Value} {Out Out' : Value → Led → Prop} (C : Con w f dep unit news vs Out) (h : ∀ r nn, Out r nn → Out' r nn) : Con w f dep unit news vs Out' :=
  fun _ _ _ _ _ _ _ _ _ _ _ _ _ _ _ _ _ _ _ B F X N T hf hk hd hu hret => C _ _ _ _ _ _ _ _ _ _ _ _ _ _ _ _ _ _ _ B F X N T hf hk hd hu fun r nn h' tk' F' N' o => hret r nn h' tk' F' N' (h r nn o)
theorem folder_short {f : Str} (hf : Folder f) : f.length ≤ 64 := by
  rcases hf with rfl | rfl | rfl <;> decide +kernel
theorem join_law {w : World} {news : Led} {f x : Str} {t u : Tok} (hx : NameOk x) (hf : Folder f) : Con w 146 2 6 news [.str f t, .str x u] (OutV news fun u => .str (joinS f x) u) :=
  join_con (folder_short hf) (Nat.le_trans hx.2 (by decide))
theorem path64 {f x : Str} (hx : NameOk x) (hf : Folder f) : (joinS f x).length ≤ 64 := Nat.le_trans (join_short hx hf) (by decide)
theorem base_law {w : World} {news : Led} {f x : Str} {t : Tok} (hx : NameOk x) (hf : Folder f) : Con w 163 2 6 news [.str (joinS f x) t] (OutV news fun u => .str x u) := by
  have C := basename_con (w := w) (news := news) (t := t) (path64 hx hf)
  rw [law_base hx hf] at C
  exact C
def SplitsTo (P due : Str) (news : Led) (r : Value) (nn : Led) : Prop := ∃ D root u v ep, r = .ref D ∧ nn = (D, seqO "tuple" [.str root u, .str due v] ep) :: news ∧ root ++ due = P ∧ ∀ p ∈ news, p.1 < D
theorem split_law {w : World} {news : Led} {f x due : Str} {t : Tok} (hx : NameOk x) (hf : Folder f) (hd : DueOf x due) : Con w 153 2 8 news [.str (joinS f x) t] (SplitsTo (joinS f x) due news) :=
  (splitext_con (path64 hx hf)).mono fun r nn ⟨D, root, ext, u, v, ep, h1, h2, h3, h4⟩ => by
    obtain ⟨e1, rfl⟩ := law_root hx hf hd h3
    exact ⟨D, root, u, v, ep, h1, h2, e1, h4⟩
theorem due_short {x due : Str} (hx : NameOk x) (hd : DueOf x due) : due.length ≤ 8 := by
  have h1 : due.length = due.cps.toList.length := Array.length_toList.symm
  have h2 : x.cps.toList.length = x.length := Array.length_toList
  have h3 := hx.2
  rcases due_cases hd with ⟨rfl, _⟩ | ⟨a, b, e, _, _, hdue⟩
  · decide +kernel
  · rw [e, List.length_append, List.length_cons] at h2
    rw [h1, hdue, List.length_cons]; omega
theorem bne_no {α : Type} [BEq α] [LawfulBEq α] {a : α} {P : Prop} (h : (a != a) = true) : P := by
  rw [bne_self_eq_false] at h; cases h
theorem bne_no2 {a b : Str} {P : Prop} (e : a = b) (h : (a != b) = true) : P := by
  subst e; exact bne_no h
theorem some_law {w : World} {news : Led} {ap st : Addr} {vs : List Value} {ep : Nat} {x due : Str} {t : Tok} (hap : (ap, seqO "list" vs ep) ∈ news) (hps : PtsAre st vs [.star, .neg, .star, .chr 46, .star]) (hx : NameOk x) (hd : DueOf x due) :
    Con w 199 3 8 news [.ref ap, .ref st, .str x t] (OutV news fun _ => .bool (due != Str.ofString "")) := by
  have C := takes_con (w := w) (t := t) hap hps hx.2 hx.1
  rw [law_some hd] at C
  exact C
theorem taken_is {x due : Str} {es : List Str} {n : Nat} (hn : es.length ≤ n) (hd : DueOf x due) (hes : ∀ e ∈ es, EndOk e) : ((es.take n).map fun e => Value.bool (takesL x.cps.toList (ptsOf e))) = (es.map fun e => due == Str.ofString "." ++ e).map Value.bool := by
  rw [List.take_of_length_le hn, List.map_map]
  exact List.map_congr_left fun e he => congrArg Value.bool (law_each hd (hes e he))
theorem others_is {due : Str} {es : List Str} {n : Nat} (hn : es.length ≤ n) : ((es.take n).map fun e => Value.bool (due == Str.ofString "." ++ e)) = (es.map fun e => due == Str.ofString "." ++ e).map Value.bool := by
  rw [List.take_of_length_le hn, List.map_map]; rfl

end
section
theorem walkAnewLA : True := by
  w_top off
  trivial
theorem end_of {M : Model} {A : Around} {body : Sem Flow} {g : Heap} {L : Addr} {m : Str → Option Value} {s : Shared} {Q : Flow → Shared → Prop} {E : Value → Shared → Prop} (_F : Fr g L s.heap m)
    (main : wpAny M A body (FinB g L s (fun r nn => r = .bool true ∧ ∃ xs, (182, tabObj xs) ∈ nn)) NoE s)
    (fin : ∀ h' tk' m' nn xs, Fr g L h' m' → News g L h' nn → (182, tabObj xs) ∈ nn → Q (.ret (.bool true)) { s with heap := h', toks := tk' }) : wpAny M A body Q E s :=
  wpAny_mono main (fun fl s' hfl => by
    obtain ⟨r, h', tk', m', nn, rfl, rfl, F1, N1, rfl, xs, hxs⟩ := hfl
    exact fin h' tk' m' nn xs F1 N1 hxs) fun _ _ x => x.elim
local macro_rules | `(tactic| walk_at "exec Assign cons ListComp") => `(tactic| (with_reducible refine Hold.mk ?_))
local macro_rules | `(tactic| walk_at "CompSrc") => `(tactic| (with_reducible refine Hold.mk ?_))
local macro_rules | `(tactic| walk_at "exec For Name Name cons cons") => `(tactic| (with_reducible refine Hold.mk ?_))
local macro_rules | `(tactic| walk_at "exec For Name Name cons nil") => `(tactic| (with_reducible refine Hold.mk ?_))
local macro_rules | `(tactic| walk_at "exec For Name Tuple cons nil") => `(tactic| (with_reducible refine Hold.mk ?_))
local macro_rules | `(tactic| walk_at "pyIter ref") => `(tactic| (with_reducible refine Hold.mk ?_))
local macro_rules | `(tactic| walk_at "eval ListComp") => `(tactic| (with_reducible refine Hold.mk ?_))
local macro_rules | `(tactic| walk_at "compareOp NotEq ref ref") => `(tactic| (with_reducible refine Hold.mk ?_))
local macro_rules | `(tactic| walk_at "CEnd") => `(tactic| (with_reducible refine Hold.mk ?_))
local macro_rules | `(tactic| walk_at "subscriptTail Name Slice ref ref") => `(tactic| (with_unfolding_all (refine' slice_any (s := ⟨_, _, _, _, _⟩) (by k_asm) (by k_asm) (Fr.lst (by k_asm) (by assumption)) (by assumption) (by assumption) ?lp ?lu ?lk ?l0 ?_ ?ls ?lt); (case lp => constructor); (case lu => constructor); (case lk => constructor); (case l0 => decide); (case ls => with_unfolding_all rfl); (case lt => (intro _; with_unfolding_all rfl)); (intro D9 zs9 ms9 h9 F9 N9 hz9 l9); (try k_lt l9)))
local macro_rules | `(tactic| walk_at "call builtin:sum") => `(tactic| (refine sum_K rfl (by k_asm) (by k_asm) (by k_mem) (by assumption) ?_; intro _ _ _ _ _))
local macro_rules | `(tactic| walk_at "subscriptTail Tuple Name ref int") => `(tactic| (refine tup_int _ (by k_asm) (.head _) (Int.zero_add _) (by repeat constructor) (by decide) (by simpa using (by assumption)) ?_; intro _ _))
local macro_rules | `(tactic| walk_at "call builtin:str.split") => `(tactic| (refine split_dot (by k_asm) (by k_asm) (by omega) ?_; (intro D9 vs9 ws9 la9 tl9 h9 k9 e9 S9 F9 N9 l9); (try k_lt l9)))
local macro_rules | `(tactic| walk_at "subscriptTail") => `(tactic| ((with_reducible show wpAny _ _ (subscriptTail (PySem.Expr.Call _ _ _ _) _ (Value.ref _) (Value.int _ _)) _ _ _); (refine last_item (by k_asm) (.head _) ?_ (by rfl))))
local macro_rules | `(tactic| walk_at "call builtin:list.append") => `(tactic| (refine app_K (by k_asm) (news_tail (by k_asm)) (.tail (by assumption) (.head (by assumption))) (by rw [sizeLine_eq]; omega) ?_; intro _ _ _))
local macro_rules | `(tactic| walk_at "FPost") => `(tactic| (dsimp only [FPost]))
local macro_rules | `(tactic| walk_at "FEnd") => `(tactic| (with_reducible refine Hold.mk ?_))
local macro_rules | `(tactic| walk_at "call ref") => `(tactic| ((with_reducible show wpAny _ _ (call (Value.ref 187) _) _ _ _); (with_reducible refine Hold.mk ?_)))
local macro_rules | `(tactic| walk_at "binaryOp Add str str") => `(tactic| ((refine add_str (hsz := ?hsz) ?_); (case hsz => first | exact add_q (by assumption) (by assumption) | (rw [sizeLine_eq]; omega)); intro _ _))
local macro_rules | `(tactic| walk_at "subscriptTail Name Slice ref ref") => `(tactic| ((with_reducible show wpAny _ _ (subscriptTail _ (PySem.Expr.Slice none (some _) none _) (Value.ref _) (Value.ref _)) _ _ _); (with_unfolding_all (refine' slice_init (s := ⟨_, _, _, _, _⟩) (by k_asm) (by k_asm) (.head _) (by omega) ?lp ?lu ?lk ?_ ?ls ?lt); (case lp => constructor); (case lu => constructor); (case lk => constructor); (case ls => with_unfolding_all rfl); (case lt => (intro _; with_unfolding_all rfl)); (intro D9 h9 F9 N9 l9); (try k_lt l9))))
local macro_rules | `(tactic| walk_at "subscriptTail Name UnaryOp ref int") => `(tactic| first | (refine last_item (by k_asm) (.head _) ?_ (by rfl)) | (refine last_item (by k_asm) (.tail _ (.head _)) ?_ (by rfl)))
local macro_rules | `(tactic| walk_at "exec If") => `(tactic| ((with_reducible show wpAny _ _ (exec (PySem.Stmt.If (PySem.Expr.Compare (PySem.Expr.Call (PySem.Expr.Attribute _ _ _) _ _ _) _ _ _) _ _ _) _) _ _ _); (with_reducible refine Hold.mk ?_)))
local macro_rules | `(tactic| walk_at "DueEnd") => `(tactic| (with_reducible refine Hold.mk ?_))
local macro_rules | `(tactic| walk_at "call builtin:str.join") => `(tactic| ((with_unfolding_all (refine' join_L ?jN (.head _) ?jS (join_fits ?jx ?je) ?_); (case jN => k_asm); (case jS => assumption); (case jx => assumption); (case je => assumption)); intro _ _))
local macro_rules | `(tactic| walk_at "call ref") => `(tactic| ((with_reducible show wpAny _ _ (call (Value.ref 199) _) _ _ _); (with_reducible refine Hold.mk ?_)))
local macro_rules | `(tactic| walk_at "call ref") => `(tactic| (k_here; with_unfolding_all (refine' Con.use (quoted_con (by assumption) (by assumption)) ?k1 ?k2 ?k3 ?k4 ?k5 ?k6 ?k7 ?kd ?ku ?_); (case k1 => k_asm); (case k2 => k_asm); (case k3 => k_in); (case k4 => k_asm); (case k5 => k_asm); (case k6 => exact rfl); (case k7 => exact rfl); (case kd => decide +kernel); (case ku => decide +kernel); (intro r9 nn9 h9 tk9 F9 N9 ho9); (obtain ⟨hn9, y9, u9, hr9, hy9⟩ := ho9); (try cases hn9); (try cases hr9); (try dsimp only); (try k_sweep)))
local macro_rules | `(tactic| walk_at "call ref") => `(tactic| (k_here; with_unfolding_all (refine' Con.use (drawn_con) ?k1 ?k2 ?k3 ?k4 ?k5 ?k6 ?k7 ?kd ?ku ?_); (case k1 => k_asm); (case k2 => k_asm); (case k3 => k_in); (case k4 => k_asm); (case k5 => k_asm); (case k6 => exact rfl); (case k7 => exact rfl); (case kd => decide +kernel); (case ku => decide +kernel); (intro r9 nn9 h9 tk9 F9 N9 ho9); (obtain ⟨hn9, x9, u9, hr9, ha9, hz9⟩ := ho9); (try cases hn9); (try cases hr9); (try dsimp only); (try k_sweep)))
local macro_rules | `(tactic| walk_at "call ref") => `(tactic| (k_here; with_unfolding_all (refine' Con.useV (join_law (by assumption) (by assumption)) ?k1 ?k2 ?k3 ?k4 ?k5 ?k6 ?k7 ?kd ?ku ?_); (case k1 => k_asm); (case k2 => k_asm); (case k3 => k_in); (case k4 => k_asm); (case k5 => k_asm); (case k6 => exact rfl); (case k7 => exact rfl); (case kd => decide +kernel); (case ku => decide +kernel); (intro u9 h9 tk9 F9 N9); (try dsimp only); (try k_sweep)))
local macro_rules | `(tactic| walk_at "call ref") => `(tactic| (k_here; with_unfolding_all (refine' Con.useV (base_law (by assumption) (by assumption)) ?k1 ?k2 ?k3 ?k4 ?k5 ?k6 ?k7 ?kd ?ku ?_); (case k1 => k_asm); (case k2 => k_asm); (case k3 => k_in); (case k4 => k_asm); (case k5 => k_asm); (case k6 => exact rfl); (case k7 => exact rfl); (case kd => decide +kernel); (case ku => decide +kernel); (intro u9 h9 tk9 F9 N9); (try dsimp only); (try k_sweep)))
local macro_rules | `(tactic| walk_at "call ref") => `(tactic| (k_here; with_unfolding_all (refine' Con.use (split_law (by assumption) (by assumption) (by assumption)) ?k1 ?k2 ?k3 ?k4 ?k5 ?k6 ?k7 ?kd ?ku ?_); (case k1 => k_asm); (case k2 => k_asm); (case k3 => k_in); (case k4 => k_asm); (case k5 => k_asm); (case k6 => exact rfl); (case k7 => exact rfl); (case kd => decide +kernel); (case ku => decide +kernel); (intro r9 nn9 h9 tk9 F9 N9 ho9); (obtain ⟨D9, root9, u9, v9, ep9, hr9, hn9, so9, lt9⟩ := ho9); (try cases hn9); (try cases hr9); (try dsimp only); (try k_sweep)))
theorem law_holds : PySem.Challenge.rw_dn0072_01.Holds := holdsBy (by rfl) (by rfl) (by rfl) (by
  k_go0
  all_goals try k_fold
  rename_i w s0 s1 mg mb G Y fa of pm cd doc ho hcd hg X1 V T1 B1 TE TW ns hs hlay0 hLd hr hl2 w8 w7 scr vs w4 hL0 ra w1 r0 hI hr2 hlen hcond hD h1 tk1 o1 o2 o3 o4 d1 d2 d3 d4 X0 X T B F N l182
  refine end_of F ?_ ?_
  rotate_left
  · intro h' tk' m' nn xs F1 N1 hxs
    refine ⟨?_, ?_⟩
    · kc_close
    · exact ⟨GrownAt.of N1 hxs, trivial⟩
  · clear G Y ho hcd hg X1 V T1 B1 TE TW hs hlay0 hLd hr hl2 ra w1 r0 hr2 hcond hD hL0 hT8 hT9 X0
    change wpAny _ (AtA _ _ _ _ []) _ _ _ _
    replace d1 : o1.data = .cell none := d1
    replace d2 : o2.data = .cell none := d2
    replace d3 : o3.data = .cell none := d3
    replace d4 : o4.data = .cell (some (.ref scr)) := d4
    have hL := lifted
    replace F : Fr _ _ _ (fun _ => none) := F
    replace hlen : ns.length ≤ 63 := by omega
    have hC : CodeHd _ 186 182 := codeHd
    clear lifted codeHd
    generalize ghostOf s1.heap [(186, 182)] = g at *
    generalize s1.heap.objs.size = L at *
    k_steps
    refine Hold.out ?_
    rename Fr _ _ _ _ => F1
    rename News _ _ _ _ => N1
    rename_i St _ l1 _ oS dS
    obtain ⟨l1a, l1b, l1c, l1d, l1e⟩ := l1
    replace dS : oS.data = .cell (some (.ref St)) := dS
    refine LCg.Assign_ListComp_U F1 rfl (by with_unfolding_all rfl) (by with_unfolding_all rfl) (by decide) rfl (by decide) rfl rfl rfl ?_
    k_steps
    rename IsRange _ _ _ _ _ _ _ _ => hR
    rename Fr _ _ _ _ => F2
    rename News _ _ _ _ => N2
    refine Hold.out (LCg.CompSrc.range (n := 6) rfl F2 N2 hR (by decide +kernel) (by decide +kernel) (by rw [sizeLine_eq]; omega) ?_)
    clear F2 N2 hR
    intro g'
    refine comp_rest (fun i ys nn => nn = [(St, W.listOf #[Value.str (Str.ofString "*") tk1] 0), (L + 1 + 1 + 1 + 1, o1), (L + 1 + 1 + 1, o2), (L + 1 + 1, oS), (L + 1, o4), (182, tabObj #[])] ∧ ys.length = i ∧ ∃ xs, StrsAre ys xs ∧ ∀ x ∈ xs, NameOk x) ⟨rfl, rfl, [], .nil, fun _ h => nomatch h⟩ ?_ ?_
    · rintro i v ys nn I oI C oC D m₂ h tk hi ⟨tv, rfl⟩ ⟨rfl, hyi, xs, hxs, hok⟩ hCN hmk F3 N3 off3 ne3
      --{ names
      k_steps
      rename Alph _ => ha
      refine Hold.out (CEnd.intro _ (by assumption) (by assumption) ?_ off3 trivial ⟨rfl, by rw [List.length_append, hyi]; rfl, xs ++ [_], hxs.append' (.cons _ _ .nil), fun x hx => ?_⟩)
      · exact fun _ h => .tail _ (.tail _ h)
      · rcases List.mem_append.mp hx with hx | hx
        · exact hok x hx
        · rw [List.mem_singleton.mp hx]; exact ⟨ha, by assumption⟩
      --} names
    · rintro ys nn ⟨rfl, hy6, xs, hxs, hok⟩
      intro Dn h9 tk9 F3 N3 off3
      k_steps
      refine Hold.out (wpAny_For ?_)
      walk1
      rename (_ < _ ∧ _ < _ ∧ _) => l2
      obtain ⟨l2a, l2b, l2c, l2d, l2e, l2f, l2g⟩ := l2
      rename Fr _ _ _ _ => F4
      rename News _ _ _ _ => N4
      rename_i En _ _
      refine' for_listS (σ := List Value × List Str × Nat × Obj) (its := ys) (ep := _) (l := Dn) (fun _ c => [(En, seqO "list" c.1 c.2.2.1), (L + 1 + 1 + 1, c.2.2.2)])
        [(Dn, LCg.lst ys), (St, W.listOf #[Value.str (Str.ofString "*") tk1] 0), (L + 1 + 1 + 1 + 1, o1), (L + 1 + 1, oS), (L + 1, o4), (182, tabObj #[])] (fun _ c => []) [(Str.ofString "endings", .ref En), (Str.ofString "names", .ref Dn)]
        (fun i c => StrsAre c.1 c.2.1 ∧ (∀ e ∈ c.2.1, EndOk e) ∧ c.2.1.length ≤ 5 + i ∧ ∃ v0, c.2.2.2.data = .cell v0) ([.str (Str.ofString "") tk9, .str (Str.ofString "a") (tk9 + 1), .str (Str.ofString "b") (tk9 + 1 + 1), .str (Str.ofString "ab") (tk9 + 1 + 1 + 1), .str (Str.ofString "*") (tk9 + 1 + 1 + 1 + 1)], [Str.ofString "", Str.ofString "a", Str.ofString "b", Str.ofString "ab", Str.ofString "*"], 0, o2) ?wH ?wL ?wF ?wN ?wK ?wP ?_ ?_
      (case wH => exact rfl)
      (case wF => assumption)
      (case wN => (intro p hp; refine N4 p ?_; simp only [List.cons_append, List.nil_append, List.mem_cons, List.not_mem_nil, or_false] at hp ⊢; rcases hp with h | h | h | h | h | h | h | h <;> simp [h]))
      (case wL => exact List.Mem.head _)
      (case wK => kst_all)
      (case wP => exact ⟨by repeat constructor, (by unfold EndOk Alph; decide +kernel : ∀ e ∈ [Str.ofString "", Str.ofString "a", Str.ofString "b", Str.ofString "ab", Str.ofString "*"], EndOk e), Nat.le_refl 5, ⟨_, d2⟩⟩)
      clear F4 N4
      · rintro i v ⟨ws, es, ep, oN⟩ m₁ I oI h tk hv ⟨hws, hes, hel, v0, hoN⟩ off F' N'
        dsimp only [List.nil_append, List.cons_append] at hws hes hel hoN off F' N' ⊢
        --{ loop1
        obtain ⟨x, tx, rfl, hx⟩ := hxs.item i v hv
        have hxk := hok x (List.mem_of_getElem? hx)
        have hxl := hxk.2
        have hIE : @Ne Nat I En := fun q => off _ (.head _) q.symm
        have hwl := hws.length
        have hyl : i < ys.length := (List.getElem?_eq_some_iff.mp hv).1
        have i1 : I ≠ L + 1 + 1 + 1 := fun q => off _ (.tail _ (.head _)) q.symm
        have e1 : En ≠ L + 1 + 1 + 1 := Nat.ne_of_gt l2d
        refine storeX_C (o := oN) (v₀ := v0) F' N' rfl (UpdF.tail i1 (UpdF.tail e1 (UpdF.head ?_))) hoN ?_
        · intro p hp
          simp only [List.mem_cons, List.not_mem_nil, or_false] at hp
          rcases hp with rfl | rfl | rfl | rfl | rfl | rfl
          · exact Ne.symm off3.2.2.1
          · exact Nat.ne_of_gt l1b
          · exact Nat.ne_of_gt (Nat.lt_succ_self _)
          · exact Nat.ne_of_lt (Nat.lt_succ_self _)
          · exact Nat.ne_of_lt (Nat.lt_trans (Nat.lt_succ_self _) (Nat.lt_succ_self _))
          · exact Nat.ne_of_lt (Nat.lt_trans l182 (Nat.lt_trans (Nat.lt_succ_self _) (Nat.lt_trans (Nat.lt_succ_self _) (Nat.lt_succ_self _))))
        intro h' o' F'' N'' d'
        have hE : ∀ p ∈ (L + 1 + 1 + 1, o') :: (Dn, LCg.lst ys) :: [(St, W.listOf #[Value.str (Str.ofString "*") tk1] 0), (L + 1 + 1 + 1 + 1, o1), (L + 1 + 1, oS), (L + 1, o4), (182, tabObj #[])], @Ne Nat p.1 En :=
          ne_all (lt_cons l2d (lt_cons l2a (lt_cons l2b (lt_cons l2c (lt_cons l2e (lt_cons l2f (lt_cons l2g lt_nil)))))))
        clear F' N'
        have hap : ∀ p ∈ (En, seqO "list" ws ep) :: (L + 1 + 1 + 1, oN) :: (Dn, LCg.lst ys) :: [(St, W.listOf #[Value.str (Str.ofString "*") tk1] 0), (L + 1 + 1 + 1 + 1, o1), (L + 1 + 1, oS), (L + 1, o4), (182, tabObj #[])], p.1 ≠ I := off
        k_steps
        · refine Hold.out (FEnd.intro (_, es, ep, o') (by assumption) (by assumption) (.tail _ (.head _)) ?_ (by kst_all) ⟨hws, hes, Nat.le_succ_of_le hel, ⟨_, d'⟩⟩)
          intro p hp
          refine ⟨.tail _ (.tail _ hp), ?_⟩
          rcases List.mem_cons.mp hp with rfl | hp
          · exact off _ (.head _)
          rcases List.mem_cons.mp hp with rfl | hp
          · exact Ne.symm i1
          · exact off p (.tail _ (.tail _ hp))
        · rename_i _ _ _ la tl _ _ e9 _ _ _ _ _ _ _ _ _ _
          refine Hold.out (FEnd.intro (ws ++ [.str la tl], es ++ [la], ep + 1, o') (by assumption) (by assumption) (.head _) ?_ (by kst_all) ⟨hws.append' (.cons _ _ .nil), ?_, ?_, ⟨_, d'⟩⟩)
          · intro p hp
            refine ⟨.tail _ hp, ?_⟩
            rcases List.mem_cons.mp hp with rfl | hp
            · exact Ne.symm hIE
            rcases List.mem_cons.mp hp with rfl | hp
            · exact Ne.symm i1
            · exact off p (.tail _ (.tail _ hp))
          · intro e he
            rcases List.mem_append.mp he with he | he
            · exact hes e he
            · rw [List.mem_singleton.mp he]; exact endOk_last hxk e9
          · rw [List.length_append]; exact Nat.succ_le_succ hel
        --} loop1
      · rintro ⟨ws, es, ep, oN⟩ m₁ h tk ⟨hws, hes, hel, v0, hoN⟩ F' N'
        dsimp only [List.nil_append, List.cons_append] at hws hes hel hoN F' N' ⊢
        rw [hy6] at hel
        clear d2
        have lt182 : @LT.lt Nat _ 182 (L + 1 + 1 + 1 + 1) := Nat.lt_trans l182 (Nat.lt_trans (Nat.lt_succ_self _) (Nat.lt_trans (Nat.lt_succ_self _) (Nat.lt_trans (Nat.lt_succ_self _) (Nat.lt_succ_self _))))
        have h5 : @Ne Nat En 182 := Nat.ne_of_gt l2g
        have k182 : ∀ p ∈ (En, seqO "list" ws ep) :: (L + 1 + 1 + 1, oN) :: (Dn, LCg.lst ys) :: [(St, W.listOf #[Value.str (Str.ofString "*") tk1] 0), (L + 1 + 1 + 1 + 1, o1), (L + 1 + 1, oS), (L + 1, o4)], @Ne Nat p.1 182 := by
          have q1 : 182 < L + 1 := Nat.lt_trans l182 (Nat.lt_succ_self _)
          have q2 : 182 < L + 1 + 1 := Nat.lt_trans q1 (Nat.lt_succ_self _)
          have q3 : 182 < L + 1 + 1 + 1 := Nat.lt_trans q2 (Nat.lt_succ_self _)
          have q4 : 182 < L + 1 + 1 + 1 + 1 := Nat.lt_trans q3 (Nat.lt_succ_self _)
          intro p hp
          simp only [List.mem_cons, List.not_mem_nil, or_false] at hp
          rcases hp with rfl | rfl | rfl | rfl | rfl | rfl | rfl
          · exact h5
          · exact Nat.ne_of_gt q3
          · exact Ne.symm off3.2.2.2.2.2.1
          · exact Nat.ne_of_gt l1e
          · exact Nat.ne_of_gt q4
          · exact Nat.ne_of_gt q2
          · exact Nat.ne_of_gt q1
        k_steps
        refine Hold.out ?_
        rename Fr _ _ _ _ => F5
        rename News _ _ _ _ => N5
        have Nt : News g L _ ((182, tabObj #[]) :: (En, seqO "list" ws ep) :: (L + 1 + 1 + 1, oN) :: (Dn, LCg.lst ys) :: [(St, W.listOf #[Value.str (Str.ofString "*") tk1] 0), (L + 1 + 1 + 1 + 1, o1), (L + 1 + 1, oS), (L + 1, o4)]) := fun p hp => N5 p (by
          simp only [List.mem_cons, List.not_mem_nil, or_false] at hp ⊢
          rcases hp with h | h | h | h | h | h | h | h <;> simp [h])
        refine Con.use (translate_con (ps := [.star, .neg, .star, .chr 46, .star]) rfl (by decide +kernel) (by simp [Pt.Ok]) trivial tab_nil k182) B F5 X Nt T rfl rfl (by decide +kernel) (by decide +kernel) ?_
        rintro r nn h2 tk2 F2 N2 ⟨D1, vs1, ep1, tb1, rfl, rfl, hps1, htb1, lt1⟩
        clear F5 N5 Nt
        k_steps
        refine Hold.out ?_
        rename Fr _ _ _ _ => F6
        rename News _ _ _ _ => N6
        refine LCg.Assign_ListComp_U F6 rfl (by with_unfolding_all rfl) (by with_unfolding_all rfl) (by decide) rfl (by decide) rfl rfl rfl ?_
        k_steps
        have hwl := hws.length
        refine Hold.out (LCg.CompSrc.ledger (ax := En) (its := ws.toArray) (k := ep) rfl F6 N6 (.tail _ (.tail _ (.head _))) (by rw [sizeLine_eq, List.size_toArray]; omega) ?_)
        clear F6 N6
        intro g2
        refine comp_rest (fun i zs nn => ∃ tb parts, nn = (182, tabObj tb) :: (D1, seqO "list" vs1 ep1) :: (En, seqO "list" ws ep) :: (L + 1 + 1 + 1, oN) :: (Dn, LCg.lst ys) :: (St, W.listOf #[Value.str (Str.ofString "*") tk1] 0) :: (L + 1 + 1 + 1 + 1, o1) :: (L + 1 + 1, oS) :: (L + 1, o4) :: objsOf parts ∧ TabOk tb ∧ zs = parts.map (fun p => Value.ref p.1) ∧ parts.length = i ∧ PartsOk St es parts ∧ ∀ p ∈ parts, L + 1 + 1 + 1 + 1 < p.1) ⟨tb1, [], rfl, htb1, rfl, rfl, fun k p e h => by simp at h, fun p h => nomatch h⟩ ?_ ?_
        · rintro i v zs nn I oI C oC D m₂ h tk hi hv ⟨tb, parts, rfl, htb, rfl, hpl, hpp, hpa⟩ hCN hm F3 N3 off3' ne3'
          --{ each
          obtain ⟨e, te, rfl, he⟩ := hws.item i v (by simpa using hv)
          obtain ⟨heA, heL, heD⟩ := hes e (List.mem_of_getElem? he)
          k_steps
          refine Hold.out ?_
          rename Fr _ _ _ _ => F5
          rename News _ _ _ _ => N5
          rename (_ = quoteL _) => hy
          have Nt : News g L _ ((182, tabObj tb) :: (I, oI) :: (C, oC) :: (D, LCg.lst (parts.map fun p => Value.ref p.1)) :: (D1, seqO "list" vs1 ep1) :: (En, seqO "list" ws ep) :: (L + 1 + 1 + 1, oN) :: (Dn, LCg.lst ys) :: (St, W.listOf #[Value.str (Str.ofString "*") tk1] 0) :: (L + 1 + 1 + 1 + 1, o1) :: (L + 1 + 1, oS) :: (L + 1, o4) :: objsOf parts) := fun p hp => N5 p (by
            rcases List.mem_cons.mp hp with rfl | hp
            · exact .tail _ (.tail _ (.tail _ (.head _)))
            rcases List.mem_cons.mp hp with rfl | hp
            · exact .head _
            rcases List.mem_cons.mp hp with rfl | hp
            · exact .tail _ (.head _)
            rcases List.mem_cons.mp hp with rfl | hp
            · exact .tail _ (.tail _ (.head _))
            · exact .tail _ (.tail _ (.tail _ (.tail _ hp))))
          have kb : ∀ p ∈ (D1, seqO "list" vs1 ep1) :: (En, seqO "list" ws ep) :: (L + 1 + 1 + 1, oN) :: (Dn, LCg.lst ys) :: (St, W.listOf #[Value.str (Str.ofString "*") tk1] 0) :: (L + 1 + 1 + 1 + 1, o1) :: (L + 1 + 1, oS) :: (L + 1, o4) :: objsOf parts, @Ne Nat p.1 182 := by
            intro p hp
            rcases List.mem_cons.mp hp with rfl | hp
            · exact Nat.ne_of_gt (Nat.lt_trans l2g (lt1 _ (.head _)))
            · simp only [List.mem_cons] at hp
              rcases hp with rfl | rfl | rfl | rfl | rfl | rfl | rfl | hp
              · exact k182 _ (.head _)
              · exact k182 _ (.tail _ (.head _))
              · exact k182 _ (.tail _ (.tail _ (.head _)))
              · exact k182 _ (.tail _ (.tail _ (.tail _ (.head _))))
              · exact k182 _ (.tail _ (.tail _ (.tail _ (.tail _ (.head _)))))
              · exact k182 _ (.tail _ (.tail _ (.tail _ (.tail _ (.tail _ (.head _))))))
              · exact k182 _ (.tail _ (.tail _ (.tail _ (.tail _ (.tail _ (.tail _ (.head _)))))))
              · obtain ⟨q, hq, rfl⟩ := objs_mem hp
                exact Nat.ne_of_gt (Nat.lt_trans lt182 (hpa q hq))
          have kk : ∀ p ∈ (I, oI) :: (C, oC) :: (D, LCg.lst (parts.map fun p => Value.ref p.1)) :: (D1, seqO "list" vs1 ep1) :: (En, seqO "list" ws ep) :: (L + 1 + 1 + 1, oN) :: (Dn, LCg.lst ys) :: (St, W.listOf #[Value.str (Str.ofString "*") tk1] 0) :: (L + 1 + 1 + 1 + 1, o1) :: (L + 1 + 1, oS) :: (L + 1, o4) :: objsOf parts, @Ne Nat p.1 182 := by
            have z := LCg.Off3.mem off3' (182, tabObj tb) (.head _)
            intro p hp
            rcases List.mem_cons.mp hp with rfl | hp
            · exact Ne.symm z.1
            rcases List.mem_cons.mp hp with rfl | hp
            · exact Ne.symm z.2.1
            rcases List.mem_cons.mp hp with rfl | hp
            · exact Ne.symm z.2.2
            · exact kb p hp
          refine Con.use (translate_con (ps := ptsOf e) (ptsOf_pat hy) (ptsOf_len heL hy) (ptsOf_ok heA) (ptsOf_two e) htb kk) B F5 X Nt T rfl rfl (by decide +kernel) (by decide +kernel) ?_
          rintro r nn h2 tk2 F2 N2 ⟨D2, vs2, ep2, tb2, rfl, rfl, hps2, htb2, lt2⟩
          clear F5 N5 Nt
          k_steps
          refine Hold.out (CEnd.intro ((182, tabObj tb2) :: (D1, seqO "list" vs1 ep1) :: (En, seqO "list" ws ep) :: (L + 1 + 1 + 1, oN) :: (Dn, LCg.lst ys) :: (St, W.listOf #[Value.str (Str.ofString "*") tk1] 0) :: (L + 1 + 1 + 1 + 1, o1) :: (L + 1 + 1, oS) :: (L + 1, o4) :: objsOf (parts ++ [(D2, vs2, ep2)])) (by assumption) (by assumption) ?_ (off3_of ?_) (.inr ⟨_, .tail _ (.tail _ (.head _)), rfl, _, rfl⟩) ⟨tb2, parts ++ [(D2, vs2, ep2)], rfl, htb2, by simp, by simp [hpl], hpp.snoc hpl he hps2, ?_⟩)
          · intro p hp
            rcases List.mem_cons.mp hp with rfl | hp
            · exact .tail _ (.tail _ (.head _))
            rcases List.mem_cons.mp hp with rfl | hp
            · exact .tail _ (.tail _ (.tail _ (.head _)))
            rcases List.mem_cons.mp hp with rfl | hp
            · exact .tail _ (.tail _ (.tail _ (.tail _ (.head _))))
            rcases List.mem_cons.mp hp with rfl | hp
            · exact .head _
            simp only [objsOf, List.map_append, List.map_cons, List.map_nil, List.mem_cons, List.mem_append, List.not_mem_nil, or_false] at hp ⊢
            rcases hp with h | h | h | h | h | h | h | h | h | h <;> simp only [h, true_or, or_true]
          · have z := LCg.Off3.mem off3'
            intro p hp
            rcases List.mem_cons.mp hp with rfl | hp
            · exact z (182, tabObj tb) (.head _)
            have hp' : p = (D2, seqO "list" vs2 ep2) ∨ p ∈ (D1, seqO "list" vs1 ep1) :: (En, seqO "list" ws ep) :: (L + 1 + 1 + 1, oN) :: (Dn, LCg.lst ys) :: (St, W.listOf #[Value.str (Str.ofString "*") tk1] 0) :: (L + 1 + 1 + 1 + 1, o1) :: (L + 1 + 1, oS) :: (L + 1, o4) :: objsOf parts := by
              simp only [objsOf, List.map_append, List.map_cons, List.map_nil, List.mem_cons, List.mem_append, List.not_mem_nil, or_false] at hp ⊢
              rcases hp with h | h | h | h | h | h | h | h | h | h <;> simp only [h, true_or, or_true]
            rcases hp' with rfl | hp
            · exact ⟨Nat.ne_of_gt (lt2 _ (.head _)), Nat.ne_of_gt (lt2 _ (.tail _ (.head _))), Nat.ne_of_gt (lt2 _ (.tail _ (.tail _ (.head _))))⟩
            · exact z p (.tail _ hp)
          · intro p hp
            rcases List.mem_append.mp hp with hp | hp
            · exact hpa p hp
            · rw [List.mem_singleton.mp hp]
              exact lt2 _ (.tail _ (.tail _ (.tail _ (.tail _ (.tail _ (.tail _ (.tail _ (.tail _ (.head _)))))))))
          --} each
        · rintro zs nn ⟨tb, parts, rfl, htb, rfl, hpl, hpp, hpa⟩
          intro Ea h9 tk9 F3 N3 offE
          k_steps
          refine Hold.out (wpAny_For ?_)
          walk1
          rename Fr _ _ _ _ => F4
          rename News _ _ _ _ => N4
          refine' for_listS (σ := Obj × Obj) (its := ys) (ep := _) (l := Dn) (fun _ c => [(L + 1 + 1 + 1, c.1), (L + 1 + 1 + 1 + 1, c.2)])
            ((Dn, LCg.lst ys) :: (182, tabObj tb) :: (Ea, LCg.lst (parts.map fun p => Value.ref p.1)) :: (D1, seqO "list" vs1 ep1) :: (En, seqO "list" ws ep) :: (St, W.listOf #[Value.str (Str.ofString "*") tk1] 0) :: (L + 1 + 1, oS) :: (L + 1, o4) :: objsOf parts)
            (fun _ c => []) [(Str.ofString "endings", .ref En), (Str.ofString "names", .ref Dn), (Str.ofString "some", .ref D1), (Str.ofString "each", .ref Ea)]
            (fun i c => (∃ v0, c.1.data = .cell v0) ∧ ∃ v1, c.2.data = .cell v1) (oN, o1) ?xH ?xL ?xF ?xN ?xK ?xP ?_ ?_
          (case xH => exact rfl)
          (case xF => exact F4)
          (case xN => (intro p hp; refine N4 p ?_; dsimp only [List.nil_append, List.cons_append] at hp; simp only [List.mem_cons] at hp ⊢; rcases hp with h | h | h | h | h | h | h | h | h | h | h <;> simp only [h, true_or, or_true]))
          (case xL => exact List.Mem.head _)
          (case xK => kst_all)
          (case xP => exact ⟨⟨_, hoN⟩, ⟨_, d1⟩⟩)
          clear F4 N4
          have apart : ∀ p ∈ (Dn, LCg.lst ys) :: (182, tabObj tb) :: (Ea, LCg.lst (parts.map fun p => Value.ref p.1)) :: (D1, seqO "list" vs1 ep1) :: (En, seqO "list" ws ep) :: (St, W.listOf #[Value.str (Str.ofString "*") tk1] 0) :: (L + 1 + 1, oS) :: (L + 1, o4) :: objsOf parts, @Ne Nat p.1 (L + 1 + 1 + 1) ∧ @Ne Nat p.1 (L + 1 + 1 + 1 + 1) := by
            intro p hp
            rcases List.mem_cons.mp hp with rfl | hp
            · exact ⟨Ne.symm off3.2.2.1, Ne.symm off3.2.1⟩
            rcases List.mem_cons.mp hp with rfl | hp
            · exact ⟨Nat.ne_of_lt (Nat.lt_trans l182 (Nat.lt_trans (Nat.lt_succ_self _) (Nat.lt_trans (Nat.lt_succ_self _) (Nat.lt_succ_self _)))), Nat.ne_of_lt lt182⟩
            rcases List.mem_cons.mp hp with rfl | hp
            · exact ⟨Ne.symm offE.2.2.2.1, Ne.symm offE.2.2.2.2.2.2.1⟩
            rcases List.mem_cons.mp hp with rfl | hp
            · exact ⟨Nat.ne_of_gt (lt1 _ (.tail _ (.head _))), Nat.ne_of_gt (lt1 _ (.tail _ (.tail _ (.tail _ (.tail _ (.head _))))))⟩
            rcases List.mem_cons.mp hp with rfl | hp
            · exact ⟨Nat.ne_of_gt l2d, Nat.ne_of_gt l2c⟩
            rcases List.mem_cons.mp hp with rfl | hp
            · exact ⟨Nat.ne_of_gt l1b, Nat.ne_of_gt l1a⟩
            rcases List.mem_cons.mp hp with rfl | hp
            · exact ⟨Nat.ne_of_lt (Nat.lt_succ_self _), Nat.ne_of_lt (Nat.lt_trans (Nat.lt_succ_self _) (Nat.lt_succ_self _))⟩
            rcases List.mem_cons.mp hp with rfl | hp
            · exact ⟨Nat.ne_of_lt (Nat.lt_trans (Nat.lt_succ_self _) (Nat.lt_succ_self _)), Nat.ne_of_lt (Nat.lt_trans (Nat.lt_succ_self _) (Nat.lt_trans (Nat.lt_succ_self _) (Nat.lt_succ_self _)))⟩
            obtain ⟨q, hq, rfl⟩ := objs_mem hp
            have h := hpa q hq
            exact ⟨Nat.ne_of_gt (Nat.lt_trans (Nat.lt_succ_self _) h), Nat.ne_of_gt h⟩
          · rintro i v ⟨oN, oE⟩ m₁ I oI h tk hv ⟨⟨v0, hoN⟩, v1, hoE⟩ off F' N'
            dsimp only [List.nil_append, List.cons_append] at hoN hoE off F' N' ⊢
            have i1 : I ≠ L + 1 + 1 + 1 := fun q => off _ (.head _) q.symm
            have i2 : I ≠ L + 1 + 1 + 1 + 1 := fun q => off _ (.tail _ (.head _)) q.symm
            --{ main
            obtain ⟨x, tx, rfl, hx⟩ := hxs.item i v hv
            have hxk := hok x (List.mem_of_getElem? hx)
            have hxl := hxk.2
            refine storeX_C (o := oN) (v₀ := v0) F' N' rfl (UpdF.tail i1 (UpdF.head ?_)) hoN ?_
            · intro p hp
              rcases List.mem_cons.mp hp with rfl | hp
              · exact Nat.ne_of_gt (Nat.lt_succ_self _)
              · exact (apart p hp).1
            intro h' oN' F'' N'' dN
            clear F' N'
            k_steps
            rename_i Dw wv wds last tlast _ _ hsplit hS _ _ _ Fw Nw
            have hwv := split_short hxl hsplit hS
            have hlo := endOk_last hxk hsplit
            have hll := hlo.2.1
            refine Hold.out (wpAny_mono (Q := DueEnd g L { heap := h1, gens := s1.gens, drawn := s1.drawn, toks := tk1, os := s1.os } ((I, oI) :: (L + 1 + 1 + 1, oN') :: (L + 1 + 1 + 1 + 1, oE) :: (Dn, LCg.lst ys) :: (182, tabObj tb) :: (Ea, LCg.lst (parts.map fun p => Value.ref p.1)) :: (D1, seqO "list" vs1 ep1) :: (En, seqO "list" ws ep) :: (St, W.listOf #[Value.str (Str.ofString "*") tk1] 0) :: (L + 1 + 1, oS) :: (L + 1, o4) :: objsOf parts)
              [(Str.ofString "endings", .ref En), (Str.ofString "names", .ref Dn), (Str.ofString "some", .ref D1), (Str.ofString "each", .ref Ea)] wds last) ?_ ?_ (fun _ _ x => x))
            · --{ due
              refine wpAny_If ?_
              k_steps
              rename News _ _ _ _ => N7
              refine join_L N7 (.head _) hS (join_fits hxl hsplit) ?_
              intro t7 k7
              k_steps
              · refine Hold.out (DueEnd.intro (by assumption) (by assumption) (fun p hp => .tail _ (.tail _ hp)) (by kst_all) (.inr ⟨by first | assumption | (simp at *; assumption), rfl⟩))
              · refine Hold.out (DueEnd.intro (by assumption) (by assumption) (fun p hp => .tail _ (.tail _ hp)) (by kst_all) (.inl ⟨by first | assumption | (simp at *; assumption), rfl⟩))
              --} due
            · rintro fl s' ⟨rfl, h5, tk5, m5, due, t5, rfl, F5, N5, hk5, hd5, hdue⟩
              have F6 := fr_named (ps := (Str.ofString "due", Value.str due t5) :: [(Str.ofString "endings", Value.ref En), (Str.ofString "names", Value.ref Dn), (Str.ofString "some", Value.ref D1), (Str.ofString "each", Value.ref Ea)]) (fun p hp => by
                rcases List.mem_cons.mp hp with rfl | hp
                · exact hd5
                · exact hk5 p hp) F5
              clear F5 Fw Nw
              dsimp only
              k_steps
              refine Hold.out ?_
              rename Fr _ _ _ _ => F7
              rename News _ _ _ _ => N7
              refine LCg.Assign_ListComp_U F7 rfl (by with_unfolding_all rfl) (by with_unfolding_all rfl) (by decide) rfl (by decide) rfl rfl rfl ?_
              k_steps
              refine Hold.out (LCg.CompSrc.ledger (ax := Ea) (its := (parts.map fun p => Value.ref p.1).toArray) (k := _) rfl F7 N7 (.tail _ (.tail _ (.tail _ (.tail _ (.tail _ (.head _)))))) (by rw [sizeLine_eq, List.size_toArray, List.length_map, hpl, List.size_toArray]; omega) ?_)
              clear F7 N7
              intro g3
              refine comp_rest (fun i zs nn => nn = (I, oI) :: (L + 1 + 1 + 1, oN') :: (L + 1 + 1 + 1 + 1, oE) :: (Dn, LCg.lst ys) :: (182, tabObj tb) :: (Ea, LCg.lst (parts.map fun p => Value.ref p.1)) :: (D1, seqO "list" vs1 ep1) :: (En, seqO "list" ws ep) :: (St, W.listOf #[Value.str (Str.ofString "*") tk1] 0) :: (L + 1 + 1, oS) :: (L + 1, o4) :: objsOf parts ∧ zs = (es.take i).map fun e => Value.bool (takesL x.cps.toList (ptsOf e))) ⟨rfl, rfl⟩ ?_ ?_
              · rintro j v zs nn I' oI' C oC D m₂ h6 tk6 hj hvj ⟨rfl, rfl⟩ hCN hm F3 N3 off3' ne3'
                --{ taken
                have hjp : j < parts.length := by simpa using hj
                have hje : j < es.length := by rw [← hwl]; rw [hpl, List.size_toArray] at hjp; exact hjp
                have hv : v = .ref parts[j].1 := by
                  have : (parts.map fun p => Value.ref p.1)[j]? = some v := by simpa using hvj
                  rw [List.getElem?_map, List.getElem?_eq_getElem hjp] at this
                  exact (Option.some.inj this).symm
                subst hv
                have hpt := hpp j parts[j] es[j] (List.getElem?_eq_getElem hjp) (List.getElem?_eq_getElem hje)
                have hob : (parts[j].1, seqO "list" parts[j].2.1 parts[j].2.2) ∈ objsOf parts := List.mem_map.mpr ⟨_, List.getElem_mem hjp, rfl⟩
                k_steps
                refine Hold.out ?_
                rename Fr _ _ _ _ => F5
                rename News _ _ _ _ => N5
                refine Con.useV (takes_con (.tail _ (.tail _ (.tail _ (.tail _ (.tail _ (.tail _ (.tail _ (.tail _ (.tail _ (.tail _ (.tail _ (.tail _ (.tail _ (.tail _ hob)))))))))))))) hpt hxl hxk.1) B F5 X N5 T rfl rfl (by decide +kernel) (by decide +kernel) ?_
                intro u9 h9 tk9 F9 N9
                k_steps
                refine Hold.out (CEnd.intro _ (by assumption) (by assumption) (fun _ h => h) off3' (.inr ⟨_, .tail _ (.tail _ (.tail _ (.tail _ (.tail _ (.head _))))), rfl, _, rfl⟩) ⟨rfl, ?_⟩)
                rw [List.take_add_one, List.getElem?_eq_getElem hje, List.map_append]
                rfl
                --} taken
              · rintro zs nn ⟨rfl, rfl⟩
                intro Ta h9 tk9 F3 N3 offT
                k_steps
                refine Hold.out (wpAny_For ?_)
                k_steps
                refine Hold.out ?_
                rename Fr _ _ _ _ => F7
                rename News _ _ _ _ => N7
                rename_i Ft _ l1f
                refine' for_tupleS (σ := Obj) (its := [.str (Str.ofString "") tk9, .str (Str.ofString "a.b") (tk9 + 1), .str (Str.ofString "../") (tk9 + 1 + 1)]) (ep := 0) (l := Ft) (fun _ c => [(L + 1 + 1 + 1 + 1, c)])
                  ((Ft, seqO "tuple" [.str (Str.ofString "") tk9, .str (Str.ofString "a.b") (tk9 + 1), .str (Str.ofString "../") (tk9 + 1 + 1)] 0) :: (Ta, LCg.lst ((es.take (parts.map fun p => Value.ref p.1).toArray.size).map fun e => Value.bool (takesL x.cps.toList (ptsOf e)))) :: (I, oI) :: (L + 1 + 1 + 1, oN') :: (Dn, LCg.lst ys) :: (182, tabObj tb) :: (Ea, LCg.lst (parts.map fun p => Value.ref p.1)) :: (D1, seqO "list" vs1 ep1) :: (En, seqO "list" ws ep) :: (St, W.listOf #[Value.str (Str.ofString "*") tk1] 0) :: (L + 1 + 1, oS) :: (L + 1, o4) :: objsOf parts)
                  (fun _ c => []) [(Str.ofString "due", .str due t5), (Str.ofString "endings", .ref En), (Str.ofString "names", .ref Dn), (Str.ofString "some", .ref D1), (Str.ofString "each", .ref Ea), (Str.ofString "taken", .ref Ta)]
                  (fun i c => ∃ v1, c.data = .cell v1) oE ?yH ?yL ?yF ?yN ?yK ?yP ?_ ?_
                (case yH => exact rfl)
                (case yF => exact F7)
                (case yN => (intro p hp; refine N7 p ?_; dsimp only [List.nil_append, List.cons_append] at hp; simp only [List.mem_cons] at hp ⊢; rcases hp with h | h | h | h | h | h | h | h | h | h | h | h | h | h <;> simp only [h, true_or, or_true]))
                (case yL => exact List.Mem.head _)
                (case yK => kst_all)
                (case yP => exact ⟨_, hoE⟩)
                clear F7 N7
                generalize tk9 = tkF at *
                · rintro k v oE m₁ I2 oI2 h tk hv ⟨v1, hoE⟩ off2 F' N'
                  dsimp only [List.nil_append, List.cons_append] at hoE off2 F' N' ⊢
                  --{ folder
                  have hfol : ∃ f t, v = .str f t ∧ Folder f := by
                    rcases k with _ | _ | _ | k
                    · exact ⟨_, _, (Option.some.inj hv).symm, .inl rfl⟩
                    · exact ⟨_, _, (Option.some.inj hv).symm, .inr (.inl rfl)⟩
                    · exact ⟨_, _, (Option.some.inj hv).symm, .inr (.inr rfl)⟩
                    · simp at hv
                  clear hv
                  obtain ⟨f, tf, rfl, hf⟩ := hfol
                  have hdo : DueOf x due := ⟨wds, last, hsplit, hdue⟩
                  have hdl := due_short hxk hdo
                  k_steps
                  rename_i D9 root9 u9' v9 ep9 so9 lt9 _ _ Fq Nq
                  have i3 : I2 ≠ L + 1 + 1 + 1 + 1 := fun q => off2 _ (.head _) q.symm
                  have i4 : D9 ≠ L + 1 + 1 + 1 + 1 := Nat.ne_of_gt (lt9 _ (.tail _ (.head _)))
                  refine storeX_C (o := oE) (v₀ := v1) Fq Nq rfl (UpdF.tail i4 (UpdF.tail i3 (UpdF.head ?_))) hoE ?_
                  · intro p hp
                    rcases List.mem_cons.mp hp with rfl | hp
                    · exact Nat.ne_of_gt l1f.2.2.2.1
                    rcases List.mem_cons.mp hp with rfl | hp
                    · exact Ne.symm offT.2.2.1
                    rcases List.mem_cons.mp hp with rfl | hp
                    · exact i2
                    rcases List.mem_cons.mp hp with rfl | hp
                    · exact Nat.ne_of_lt (Nat.lt_succ_self _)
                    · exact (apart p hp).2
                  intro h' oE' F'' N'' dE
                  clear Fq Nq
                  have hrl : root9.length ≤ 16 := by
                    have h1 := join_short hxk hf
                    have h2 : (root9 ++ due).length = root9.length + due.length := strLen_append _ _
                    rw [so9] at h2; omega
                  k_steps
                  · exact bne_no2 so9 (by assumption)
                  · exact bne_no (a := due) (by assumption)
                  · exact bne_no (a := x) (by assumption)
                  refine Hold.out ?_
                  rename Fr _ _ _ _ => F5
                  rename News _ _ _ _ => N5
                  refine Con.useV (some_law (.tail _ (.tail _ (.tail _ (.tail _ (.tail _ (.tail _ (.tail _ (.tail _ (.tail _ (.tail _ (.head _))))))))))) hps1 hxk hdo) B F5 X N5 T rfl rfl (by decide +kernel) (by decide +kernel) ?_
                  clear F5 N5
                  intro u9 h9 tk9 F9 N9
                  k_steps
                  · exact bne_no (a := (due != Str.ofString "")) (by assumption)
                  refine Hold.out ?_
                  rename Fr _ _ _ _ => F5
                  rename News _ _ _ _ => N5
                  have hen : es.length ≤ ws.toArray.size := by rw [List.size_toArray, hwl]; exact Nat.le_refl _
                  have hen2 : es.length ≤ (parts.map fun p => Value.ref p.1).toArray.size := by rw [List.size_toArray, List.length_map, hpl]; exact hen
                  refine LCg.ListComp_U F5 rfl (by decide) rfl (by decide) rfl ?_
                  k_steps
                  refine Hold.out (LCg.CompSrc.ledger (ax := En) (its := ws.toArray) (k := ep) rfl F5 N5 (.tail _ (.tail _ (.tail _ (.tail _ (.tail _ (.tail _ (.tail _ (.tail _ (.tail _ (.tail _ (.tail _ (.head _)))))))))))) (by rw [sizeLine_eq, List.size_toArray]; omega) ?_)
                  clear F5 N5
                  intro g4
                  refine comp_rest (fun i zs nn => nn = (D9, seqO "tuple" [Value.str root9 u9', Value.str due v9] ep9) :: (I2, oI2) :: (L + 1 + 1 + 1 + 1, oE') :: (Ft, seqO "tuple" [.str (Str.ofString "") tkF, .str (Str.ofString "a.b") (tkF + 1), .str (Str.ofString "../") (tkF + 1 + 1)] 0) :: (Ta, LCg.lst ((es.take (parts.map fun p => Value.ref p.1).toArray.size).map fun e => Value.bool (takesL x.cps.toList (ptsOf e)))) :: (I, oI) :: (L + 1 + 1 + 1, oN') :: (Dn, LCg.lst ys) :: (182, tabObj tb) :: (Ea, LCg.lst (parts.map fun p => Value.ref p.1)) :: (D1, seqO "list" vs1 ep1) :: (En, seqO "list" ws ep) :: (St, W.listOf #[Value.str (Str.ofString "*") tk1] 0) :: (L + 1 + 1, oS) :: (L + 1, o4) :: objsOf parts ∧ zs = (es.take i).map fun e => Value.bool (due == Str.ofString "." ++ e)) ⟨rfl, rfl⟩ ?_ ?_
                  · rintro j v zs nn I' oI' C oC D m₂ h6 tk6 hj hvj ⟨rfl, rfl⟩ hCN hm F3 N3 off3' ne3'
                    --{ others
                    obtain ⟨e, te, rfl, he⟩ := hws.item j v (by simpa using hvj)
                    obtain ⟨heA, heL, heD⟩ := hes e (List.mem_of_getElem? he)
                    k_steps
                    refine Hold.out (CEnd.intro _ (by assumption) (by assumption) (fun _ h => h) off3' (.inr ⟨_, .tail _ (.tail _ (.tail _ (.tail _ (.tail _ (.tail _ (.tail _ (.tail _ (.tail _ (.tail _ (.tail _ (.head _))))))))))), rfl, _, rfl⟩) ⟨rfl, ?_⟩)
                    rw [List.take_add_one, he, List.map_append]
                    rfl
                    --} others
                  · rintro zs nn ⟨rfl, rfl⟩
                    intro Da h9 tk9 F3 N3 offA
                    k_steps
                    refine Hold.out (ne_bools (bs := es.map fun e => due == Str.ofString "." ++ e) N3 (.tail _ (.tail _ (.tail _ (.tail _ (.tail _ (.head _)))))) (.head _) (taken_is hen2 hdo hes) (others_is hen) (show callerA.units + 3 + 64 < cLine by decide +kernel) ?_)
                    k_steps
                    refine Hold.out (FEnd.intro oE' (by assumption) (by assumption) (.tail _ (.tail _ (.head _))) ?_ (by kst_all) ⟨_, dE⟩)
                    intro p hp
                    rcases List.mem_cons.mp hp with rfl | hp
                    · exact ⟨.tail _ (.tail _ (.tail _ (.head _))), Ne.symm i3⟩
                    · exact ⟨.tail _ (.tail _ (.tail _ (.tail _ hp))), off2 p (.tail _ hp)⟩
                  --} folder
                · rintro oE m₁ h tk ⟨v1, hoE⟩ F' N'
                  dsimp only [List.nil_append, List.cons_append] at hoE F' N' ⊢
                  k_steps
                  refine Hold.out (FEnd.intro (oN', oE) (by assumption) (by assumption) (.tail _ (.tail _ (.tail _ (.head _)))) ?_ (by kst_all) ⟨⟨_, dN⟩, _, hoE⟩)
                  intro p hp
                  rcases List.mem_cons.mp hp with rfl | hp
                  · exact ⟨.tail _ (.tail _ (.tail _ (.tail _ (.head _)))), Ne.symm i1⟩
                  rcases List.mem_cons.mp hp with rfl | hp
                  · exact ⟨.head _, Ne.symm i2⟩
                  · exact ⟨.tail _ (.tail _ (.tail _ (.tail _ (.tail _ hp)))), off p (.tail _ (.tail _ hp))⟩
            --} main
          · rintro ⟨oN, oE⟩ m₁ h tk ⟨⟨v0, hoN⟩, v1, hoE⟩ F' N'
            dsimp only [List.nil_append, List.cons_append] at hoN hoE F' N' ⊢
            k_steps
            exact FinB.intro (by assumption) (by assumption) ⟨rfl, tb, .tail _ (.tail _ (.tail _ (.head _)))⟩)

end
end Mine
theorem PySem.Challenge.cw_dn0072_01_holds : PySem.Challenge.rw_dn0072_01.Holds :=
  Mine.law_holds
