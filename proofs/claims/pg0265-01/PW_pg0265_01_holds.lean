import PyProof.Rows.All
import KE.KPairTest
import KE.KLcPair
import KE.KLcTest
import PyProof.Rows.StrCase
import KE.KNestM
import Wide.All
import OpenK.AllK
import Wide.FinOn
import Lean
import PySem.Challenge.RW_pg0265_01
set_option Elab.async false
open PySem PySem.W PyProof.Rows PySem.Calls PySem.Spec
local macro_rules | `(tactic| walk_at $s:str) => `(tactic| k_extra $s)
local macro_rules | `(tactic| k_room) => `(tactic| walk_at "own_room")
local macro_rules | `(tactic| k_upd) => `(tactic| walk_at "own_upd")
local macro_rules | `(tactic| k_all) => `(tactic| walk_at "own_all")
section
open PySem PySem.W PyProof.Rows PySem.Calls PySem.Spec
namespace Mine
/-! ## the top's run upon a tree of objects, at once -/
/-- a step, by the kit's quick twins -/
noncomputable abbrev qStep (p : Program) (w : World) (s : SharedT) (t : Thread) : Option (SharedT × Thread) := PySem.W.Fast.tw10156331382660048174 (PySem.W.Fast.tw11892475500146522536 PySem.W.Fast.tw14364793385576792824) p w s t
theorem qStep_eq (p : Program) (w : World) (s : SharedT) (t : Thread) : qStep p w s t = stepT (denote treeTable) p w s t := by
  rw [PySem.W.Fast.te10156331382660048174, PySem.W.Fast.te11892475500146522536, PySem.W.Fast.te14364793385576792824]
noncomputable abbrev qOk : Nat → Option Value → Thread → Bool := PySem.W.Fast.tw6613529449190102663
theorem qOk_eq : qOk = stepOk := PySem.W.Fast.te6613529449190102663.symm
noncomputable def topRunT (p : Program) (w : World) (n₀ : Nat) (ann : Option Value) : Nat → SharedT → Thread → Option SharedT
  | 0, _, _ => none
  | n + 1, s, t => match through t with
    | true => some s
    | false => match qOk n₀ ann t with
      | false => none
      | true => match qStep p w s t with
        | some r => topRunT p w n₀ ann n r.1 r.2
        | none => none
theorem topRunT_of {p : Program} {w : World} {n₀ : Nat} {ann : Option Value} : ∀ {n : Nat} {s s' : SharedT} {t : Thread}, topRunT p w n₀ ann n s t = some s' → topRun treeTable p w n₀ ann n s.abs t = some s'.abs
  | 0, _, _, _, h => by cases h
  | n + 1, s, s', t, h => by
    unfold topRunT at h
    unfold topRun
    cases he : through t with
    | true => rw [he] at h; cases h; rfl
    | false =>
      rw [he, qOk_eq] at h
      cases hk : stepOk n₀ ann t with
      | false => rw [hk] at h; cases h
      | true =>
        rw [hk, qStep_eq] at h
        cases hs : stepT (denote treeTable) p w s t with
        | none => rw [hs] at h; cases h
        | some r => obtain ⟨s₂, t₂⟩ := r; rw [hs] at h; dsimp only; rw [stepT_spec hs]; exact topRunT_of h
noncomputable def impEndsT (p : Program) (w : World) : Nat → SharedT → Thread → Option SharedT
  | 0, _, _ => none
  | n + 1, s, t => match t.atExitBegin with
    | some [] => some s
    | some (_ :: _) => none
    | none => match qStep p w s t with
      | some r => impEndsT p w n r.1 r.2
      | none => none
theorem impEndsT_of {p : Program} {w : World} : ∀ {n : Nat} {s s' : SharedT} {t : Thread}, impEndsT p w n s t = some s' → importEnds treeTable p w n s.abs t = some s'.abs
  | 0, _, _, _, h => by cases h
  | n + 1, s, s', t, h => by
    unfold impEndsT at h
    unfold importEnds
    cases he : t.atExitBegin with
    | some x =>
      rw [he] at h
      cases x with
      | nil => cases h; rfl
      | cons a b => cases h
    | none =>
      rw [he, qStep_eq] at h
      cases hs : stepT (denote treeTable) p w s t with
      | none => rw [hs] at h; cases h
      | some r => obtain ⟨s₂, t₂⟩ := r; rw [hs] at h; dsimp only; rw [stepT_spec hs]; exact impEndsT_of h
/-- a list of objects as a tree -/
def growT : List Obj → BT → Nat → Option BT
  | [], t, _ => some t
  | o :: r, t, n => match ((t.ins n o).get n).isSome with
    | true => growT r (t.ins n o) (n + 1)
    | false => none
theorem growT_of {life : Life} : ∀ {l : List Obj} {t t' : BT} {n : Nat}, growT l t n = some t' → absHeap t' (n + l.length) life = ⟨((absHeap t n life).objs.toList ++ l).toArray, life⟩
  | [], t, t', n, h => by
    cases h
    simp [absHeap]
  | o :: r, t, t', n, h => by
    unfold growT at h
    cases hg : ((t.ins n o).get n).isSome with
    | false => rw [hg] at h; cases h
    | true =>
      rw [hg] at h
      have e := growT_of (life := life) h
      rw [List.length_cons, show n + (r.length + 1) = n + 1 + r.length by omega, e, absHeap_ins hg]
      simp [Heap.push]
def toT (s : Shared) : Option SharedT := (growT s.heap.objs.toList .nil 0).map fun t => ⟨t, s.heap.objs.size, s.heap.life, s.gens, s.drawn, s.toks, s.os⟩
theorem toT_of {s : Shared} {s' : SharedT} (h : toT s = some s') : s'.abs = s := by
  obtain ⟨t, ht, rfl⟩ := Option.map_eq_some_iff.mp h
  have e := growT_of (life := s.heap.life) ht
  have e0 : (absHeap BT.nil 0 s.heap.life).objs.toList = [] := by simp [absHeap, BT.list]
  rw [e0, List.nil_append, Nat.zero_add, Array.toArray_toList, Array.length_toList] at e
  show (⟨absHeap t s.heap.objs.size s.heap.life, s.gens, s.drawn, s.toks, s.os⟩ : Shared) = s
  rw [e]
/-- the top from a state behind the opening -/
noncomputable def topFromT {β : Type} (p : Program) (w : World) (N : Nat) (look : Shared → β) (s₀ : Shared) : Option β :=
  match s₀.heap.isNs mainGlobals && s₀.gens.size == 0 with
  | false => none
  | true => (toT s₀).bind fun c => (topRunT p w s₀.heap.objs.size (s₀.heap.nsMap mainGlobals "__annotations__") N c (topStub p)).bind fun d =>
    match staticsOk (importedModules p.main.body) s₀.heap d.abs.heap && namesBound p d.abs.heap && gensDone d.abs && laidKept s₀.heap d.abs.heap with
    | true => some (look d.abs)
    | false => none
theorem topFromT_of {β : Type} {p : Program} {w : World} {N : Nat} {look : Shared → β} {s₀ : Shared} {v : β} (h : topFromT p w N look s₀ = some v) : (topFrom treeTable p w N s₀).map look = some v := by
  unfold topFromT at h
  unfold topFrom
  cases hc : s₀.heap.isNs mainGlobals && s₀.gens.size == 0 with
  | false => rw [hc] at h; cases h
  | true =>
    rw [hc] at h
    obtain ⟨c, h1, h⟩ := Option.bind_eq_some_iff.mp h
    obtain ⟨d, h2, h⟩ := Option.bind_eq_some_iff.mp h
    have r := topRunT_of h2
    rw [toT_of h1] at r
    dsimp only
    rw [r]
    cases hk : staticsOk (importedModules p.main.body) s₀.heap d.abs.heap && namesBound p d.abs.heap && gensDone d.abs && laidKept s₀.heap d.abs.heap with
    | false => rw [hk] at h; cases h
    | true =>
      rw [hk] at h
      show ((match staticsOk (importedModules p.main.body) s₀.heap d.abs.heap && namesBound p d.abs.heap && gensDone d.abs && laidKept s₀.heap d.abs.heap with | true => some d.abs | false => none) : Option Shared).map look = _
      rw [hk]
      exact h
noncomputable def openT (p : Program) (w : World) (N : Nat) : Option Shared :=
  (toT (start (opening p)).1).bind fun a => (impEndsT (opening p) w N a (start (opening p)).2).bind fun b => fenceModules? p b.abs
theorem openT_of {p : Program} {w : World} {N : Nat} {s : Shared} (h : openT p w N = some s) : fencedOpening treeTable p w N = some s := by
  obtain ⟨a, h1, h⟩ := Option.bind_eq_some_iff.mp h
  obtain ⟨b, h2, h⟩ := Option.bind_eq_some_iff.mp h
  have r := impEndsT_of h2
  rw [toT_of h1] at r
  unfold fencedOpening
  rw [r]
  exact h
noncomputable abbrev qSeen := PySem.W.Fast.tw4187177175401517315
theorem qSeen_eq : qSeen = openSeen := PySem.W.Fast.te4187177175401517315.symm
theorem left_of {p q : Program} {loose : List Str} {Xt : Shared → Bool} {α : Type} {Yf : Shared → α} {Ya : World → α} {N : Nat}
    (h : ∀ w, (openT p w N).bind (topFromT p w N fun s => (qSeen q loose (importedModules p.main.body) Xt true s, Yf s)) = some (openGood q loose, Ya w)) : LeftO p q loose Xt Yf Ya N := fun w => by
  rw [qSeen_eq] at h
  obtain ⟨s₀, h1, h2⟩ := Option.bind_eq_some_iff.mp (h w)
  unfold openEnds
  rw [openT_of h1]
  exact topFromT_of h2
end Mine
end
section
open PySem PySem.W PyProof.Rows PySem.Calls PySem.Spec
set_option maxRecDepth 100000
namespace Mine
/-- the program's statements, by place -/
noncomputable def stA (i : Nat) : Stmt := (PySem.Challenge.pw_pg0265_01.main.body[i]?).getD default
noncomputable def stC (i j : Nat) : Stmt := match stA i with | .ClassDef _ _ _ b _ _ _ _ _ _ _ => (b[j]?).getD default | s => s
def fnD (s : Stmt) (q : Str) (gl : Addr) (cl : List (Str × Addr)) (dV kV doc pm : Value) (an : Option Addr) (cd ct : Value) (bi : Addr) : FuncData := match s with
  | .FunctionDef n a b _ _ _ sc _ _ _ => ⟨n, q, a, .stmts b, sc, gl, cl, dV, kV, doc, pm, an, cd, ct, bi⟩
  | _ => default
/-- what the top leaves (objects by address) -/
noncomputable def hdK : Params → Frag := fun P =>
  (nat_lit 3, ⟨.type "dict", none, .dict #[⟨PyData.keyHash P (.ofString "__name__"), .str (.ofString "__name__") 165, .str (.ofString "law_pg0265_01") 628⟩, ⟨PyData.keyHash P (.ofString "__doc__"), .str (.ofString "__doc__") 166, .none⟩, ⟨PyData.keyHash P (.ofString "__package__"), .str (.ofString "__package__") 167, .none⟩, ⟨PyData.keyHash P (.ofString "__loader__"), .str (.ofString "__loader__") 168, .builtin "__main__.__loader__#opaque"⟩, ⟨PyData.keyHash P (.ofString "__spec__"), .str (.ofString "__spec__") 169, .none⟩, ⟨PyData.keyHash P (.ofString "__annotations__"), .str (.ofString "__annotations__") 170, .ref 6⟩, ⟨PyData.keyHash P (.ofString "__builtins__"), .str (.ofString "__builtins__") 171, .ref 4⟩, ⟨PyData.keyHash P (.ofString "__file__"), .str (.ofString "__file__") 173, .str (.ofString "/claim/cut.py") 172⟩, ⟨PyData.keyHash P (.ofString "__cached__"), .str (.ofString "__cached__") 174, .none⟩, ⟨PyData.keyHash P (.ofString "_sre"), .str (.ofString "_sre") 275, .ref 12⟩, ⟨PyData.keyHash P (.ofString "_wall"), .str (.ofString "_wall") 288, .ref 38⟩, ⟨PyData.keyHash P (.ofString "bisect_right"), .str (.ofString "bisect_right") 304, .ref 47⟩, ⟨PyData.keyHash P (.ofString "_netrclex"), .str (.ofString "_netrclex") 364, .ref 85⟩, ⟨PyData.keyHash P (.ofString "tspecials"), .str (.ofString "tspecials") 400, .ref 94⟩, ⟨PyData.keyHash P (.ofString "_name_disallowed_re"), .str (.ofString "_name_disallowed_re") 426, .ref 99⟩, ⟨PyData.keyHash P (.ofString "_value_disallowed_re"), .str (.ofString "_value_disallowed_re") 460, .ref 104⟩, ⟨PyData.keyHash P (.ofString "_formatparam"), .str (.ofString "_formatparam") 470, .ref 112⟩, ⟨PyData.keyHash P (.ofString "Headers"), .str (.ofString "Headers") 627, .ref 233⟩, ⟨PyData.keyHash P (.ofString "_law_lexer"), .str (.ofString "_law_lexer") 639, .ref 244⟩, ⟨PyData.keyHash P (.ofString "_law_words"), .str (.ofString "_law_words") 645, .ref 249⟩, ⟨PyData.keyHash P (.ofString "_law_tables"), .str (.ofString "_law_tables") 651, .ref 254⟩, ⟨PyData.keyHash P (.ofString "_law_fillings"), .str (.ofString "_law_fillings") 661, .ref 261⟩, ⟨PyData.keyHash P (.ofString "_law_rising"), .str (.ofString "_law_rising") 667, .ref 266⟩, ⟨PyData.keyHash P (.ofString "law"), .str (.ofString "law") 673, .ref 271⟩] 24, #[]⟩) ::
  (nat_lit 32, ⟨.type "tuple", none, .seq #[] 0, #[]⟩) ::
  (nat_lit 34, ⟨.type "tuple", none, .seq #[.str (.ofString "k") 285] 0, #[]⟩) ::
  (nat_lit 35, ⟨.type "tuple", none, .seq #[] 0, #[]⟩) ::
  (nat_lit 37, ⟨.type "code", none, .fields #[.str (.ofString "_wall") 282, .str (.ofString "_wall") 283, .str (.ofString "/claim/cut.py") 284, .int 2 0, .int 1 0, .int 0 0, .int 0 0, .int 3 0, .ref 32, .bool true, .int 276 0, .ref 33, .none, .ref 34, .ref 35, .ref 36, .int 286 0, .int 2 0, .str (.ofString "/claim/cut.py") 287], #[]⟩) ::
  (nat_lit 38, ⟨.type "function", none, .func (fnD (stA 1) (.ofString "_wall") 3 [] .none .none .none (.str (.ofString "__main__") 164) none (.ref 37) .none 0), #[]⟩) ::
  (nat_lit 39, ⟨.type "tuple", none, .seq #[.int 0 291, .none] 0, #[]⟩) ::
  (nat_lit 40, ⟨.type "dict", none, .dict #[⟨PyData.keyHash P (.ofString "key"), .str (.ofString "key") 292, .none⟩] 1, #[]⟩) ::
  (nat_lit 41, ⟨.type "tuple", none, .seq #[] 0, #[]⟩) ::
  (nat_lit 43, ⟨.type "tuple", none, .seq #[.str (.ofString "a") 296, .str (.ofString "x") 297, .str (.ofString "lo") 298, .str (.ofString "hi") 299, .str (.ofString "key") 300, .str (.ofString "mid") 301] 0, #[]⟩) ::
  (nat_lit 44, ⟨.type "tuple", none, .seq #[] 0, #[]⟩) ::
  (nat_lit 46, ⟨.type "code", none, .fields #[.str (.ofString "bisect_right") 293, .str (.ofString "bisect_right") 294, .str (.ofString "/claim/cut.py") 295, .int 6 0, .int 4 0, .int 0 0, .int 1 0, .int 3 0, .ref 41, .bool true, .int 276 0, .ref 42, .none, .ref 43, .ref 44, .ref 45, .int 302 0, .int 6 0, .str (.ofString "/claim/cut.py") 303], #[]⟩) ::
  (nat_lit 47, ⟨.type "function", none, .func (fnD (stA 3) (.ofString "bisect_right") 3 [] (.ref 39) (.ref 40) .none (.str (.ofString "cpy313.bisect") 289) none (.ref 46) .none 0), #[]⟩) ::
  (nat_lit 55, ⟨.type "tuple", none, .seq #[] 0, #[]⟩) ::
  (nat_lit 57, ⟨.type "tuple", none, .seq #[.str (.ofString "self") 322, .str (.ofString "fp") 323] 0, #[]⟩) ::
  (nat_lit 58, ⟨.type "tuple", none, .seq #[] 0, #[]⟩) ::
  (nat_lit 60, ⟨.type "code", none, .fields #[.str (.ofString "__init__") 319, .str (.ofString "_netrclex.__init__") 320, .str (.ofString "/claim/cut.py") 321, .int 29 0, .int 2 0, .int 0 0, .int 0 0, .int 3 0, .ref 55, .bool true, .int 276 0, .ref 56, .none, .ref 57, .ref 58, .ref 59, .int 324 0, .int 29 0, .str (.ofString "/claim/cut.py") 325], #[]⟩) ::
  (nat_lit 61, ⟨.type "function", none, .func (fnD (stC 5 0) (.ofString "_netrclex.__init__") 3 [] .none .none .none (.str (.ofString "cpy313.netrc") 305) none (.ref 60) .none 0), #[]⟩) ::
  (nat_lit 62, ⟨.type "tuple", none, .seq #[] 0, #[]⟩) ::
  (nat_lit 64, ⟨.type "tuple", none, .seq #[.str (.ofString "self") 330, .str (.ofString "ch") 331] 0, #[]⟩) ::
  (nat_lit 65, ⟨.type "tuple", none, .seq #[] 0, #[]⟩) ::
  (nat_lit 67, ⟨.type "code", none, .fields #[.str (.ofString "_read_char") 327, .str (.ofString "_netrclex._read_char") 328, .str (.ofString "/claim/cut.py") 329, .int 35 0, .int 1 0, .int 0 0, .int 0 0, .int 3 0, .ref 62, .bool true, .int 276 0, .ref 63, .none, .ref 64, .ref 65, .ref 66, .int 332 0, .int 35 0, .str (.ofString "/claim/cut.py") 333], #[]⟩) ::
  (nat_lit 68, ⟨.type "function", none, .func (fnD (stC 5 1) (.ofString "_netrclex._read_char") 3 [] .none .none .none (.str (.ofString "cpy313.netrc") 305) none (.ref 67) .none 0), #[]⟩) ::
  (nat_lit 69, ⟨.type "tuple", none, .seq #[] 0, #[]⟩) ::
  (nat_lit 71, ⟨.type "tuple", none, .seq #[.str (.ofString "self") 338, .str (.ofString "token") 339, .str (.ofString "fiter") 340, .str (.ofString "ch") 341] 0, #[]⟩) ::
  (nat_lit 72, ⟨.type "tuple", none, .seq #[] 0, #[]⟩) ::
  (nat_lit 74, ⟨.type "code", none, .fields #[.str (.ofString "get_token") 335, .str (.ofString "_netrclex.get_token") 336, .str (.ofString "/claim/cut.py") 337, .int 41 0, .int 1 0, .int 0 0, .int 0 0, .int 3 0, .ref 69, .bool true, .int 276 0, .ref 70, .none, .ref 71, .ref 72, .ref 73, .int 342 0, .int 41 0, .str (.ofString "/claim/cut.py") 343], #[]⟩) ::
  (nat_lit 75, ⟨.type "function", none, .func (fnD (stC 5 2) (.ofString "_netrclex.get_token") 3 [] .none .none .none (.str (.ofString "cpy313.netrc") 305) none (.ref 74) .none 0), #[]⟩) ::
  (nat_lit 76, ⟨.type "tuple", none, .seq #[] 0, #[]⟩) ::
  (nat_lit 78, ⟨.type "tuple", none, .seq #[.str (.ofString "self") 348, .str (.ofString "token") 349] 0, #[]⟩) ::
  (nat_lit 79, ⟨.type "tuple", none, .seq #[] 0, #[]⟩) ::
  (nat_lit 81, ⟨.type "code", none, .fields #[.str (.ofString "push_token") 345, .str (.ofString "_netrclex.push_token") 346, .str (.ofString "/claim/cut.py") 347, .int 68 0, .int 2 0, .int 0 0, .int 0 0, .int 3 0, .ref 76, .bool true, .int 276 0, .ref 77, .none, .ref 78, .ref 79, .ref 80, .int 350 0, .int 68 0, .str (.ofString "/claim/cut.py") 351], #[]⟩) ::
  (nat_lit 82, ⟨.type "function", none, .func (fnD (stC 5 3) (.ofString "_netrclex.push_token") 3 [] .none .none .none (.str (.ofString "cpy313.netrc") 305) none (.ref 81) .none 0), #[]⟩) ::
  (nat_lit 83, ⟨.type "tuple", none, .seq #[.str (.ofString "instream") 353, .str (.ofString "lineno") 354, .str (.ofString "pushback") 355, .str (.ofString "whitespace") 356] 0, #[]⟩) ::
  (nat_lit 84, ⟨.type "dict", none, .dict #[⟨PyData.keyHash P (.ofString "__module__"), .str (.ofString "__module__") 314, .str (.ofString "cpy313.netrc") 305⟩, ⟨PyData.keyHash P (.ofString "__firstlineno__"), .str (.ofString "__firstlineno__") 318, .int 27 317⟩, ⟨PyData.keyHash P (.ofString "__init__"), .str (.ofString "__init__") 326, .ref 61⟩, ⟨PyData.keyHash P (.ofString "_read_char"), .str (.ofString "_read_char") 334, .ref 68⟩, ⟨PyData.keyHash P (.ofString "get_token"), .str (.ofString "get_token") 344, .ref 75⟩, ⟨PyData.keyHash P (.ofString "push_token"), .str (.ofString "push_token") 352, .ref 82⟩, ⟨PyData.keyHash P (.ofString "__static_attributes__"), .str (.ofString "__static_attributes__") 357, .ref 83⟩, ⟨PyData.keyHash P (.ofString "__dict__"), .str (.ofString "__dict__") 359, .ref 86⟩, ⟨PyData.keyHash P (.ofString "__weakref__"), .str (.ofString "__weakref__") 361, .ref 87⟩, ⟨PyData.keyHash P (.ofString "__doc__"), .str (.ofString "__doc__") 362, .none⟩] 4, #[]⟩) ::
  (nat_lit 85, ⟨.type "type", none, .cls ⟨.ofString "_netrclex", [.type "object"], [.ref 85, .type "object"], 84, .ofString "_netrclex", true, [], [], false, none, false⟩, #[none, none, some (.str (.ofString "_netrclex") 307), some (.str (.ofString "_netrclex") 315), some (.builtin "object.__new__"), some (.bool true)]⟩) ::
  (nat_lit 86, ⟨.type "getset_descriptor", none, .fields #[.str (.ofString "__dict__") 358, .ref 85, .builtin "function.__dict__", .builtin "function.__dict__#set"], #[]⟩) ::
  (nat_lit 87, ⟨.type "getset_descriptor", none, .fields #[.str (.ofString "__weakref__") 360, .ref 85, .builtin "ExceptionGroup.__weakref__", .none], #[]⟩) ::
  (nat_lit 93, ⟨.type "tuple", none, .seq #[.int 14 0, .int 14 0, .int 4 0, .int 1 0, .int 1 0, .int 9 0, .int 0 0, .int 4227896069 0, .int 939524097 0, .int 0 0, .int 0 0, .int 0 0, .int 0 0, .int 0 0, .int 0 0, .int 13 0, .int 11 0, .int 9 0, .int 0 0, .int 4227896069 0, .int 939524097 0, .int 0 0, .int 0 0, .int 0 0, .int 0 0, .int 0 0, .int 0 0, .int 1 0] 0, #[]⟩) ::
  (nat_lit 94, ⟨.type "re.Pattern", none, .fields #[.str (.ofString "[ \\(\\)<>@,;:\\\\\"/\\[\\]\\?=]") 368, .int 32 399, .int 0 0, .none, .none, .ref 93, .int 0 0], #[]⟩) ::
  (nat_lit 98, ⟨.type "tuple", none, .seq #[.int 14 0, .int 10 0, .int 4 0, .int 1 0, .int 1 0, .int 22 0, .int 0 0, .int 31 0, .int 16 0, .int 127 0, .int 0 0, .int 13 0, .int 7 0, .int 22 0, .int 0 0, .int 31 0, .int 16 0, .int 127 0, .int 0 0, .int 1 0] 0, #[]⟩) ::
  (nat_lit 99, ⟨.type "re.Pattern", none, .fields #[.str (.ofString "[\\x00-\\x1F\\x7F]") 402, .int 32 425, .int 0 0, .none, .none, .ref 98, .int 0 0], #[]⟩) ::
  (nat_lit 103, ⟨.type "tuple", none, .seq #[.int 14 0, .int 14 0, .int 4 0, .int 1 0, .int 1 0, .int 9 0, .int 4294966783 0, .int 0 0, .int 0 0, .int 2147483648 0, .int 0 0, .int 0 0, .int 0 0, .int 0 0, .int 0 0, .int 13 0, .int 11 0, .int 9 0, .int 4294966783 0, .int 0 0, .int 0 0, .int 2147483648 0, .int 0 0, .int 0 0, .int 0 0, .int 0 0, .int 0 0, .int 1 0] 0, #[]⟩) ::
  (nat_lit 104, ⟨.type "re.Pattern", none, .fields #[.str (.ofString "[\\x00-\\x08\\x0A-\\x1F\\x7F]") 428, .int 32 459, .int 0 0, .none, .none, .ref 103, .int 0 0], #[]⟩) ::
  (nat_lit 105, ⟨.type "tuple", none, .seq #[.none, .int 1 461] 0, #[]⟩) ::
  (nat_lit 106, ⟨.type "tuple", none, .seq #[] 0, #[]⟩) ::
  (nat_lit 108, ⟨.type "tuple", none, .seq #[.str (.ofString "param") 465, .str (.ofString "value") 466, .str (.ofString "quote") 467] 0, #[]⟩) ::
  (nat_lit 109, ⟨.type "tuple", none, .seq #[] 0, #[]⟩) ::
  (nat_lit 111, ⟨.type "code", none, .fields #[.str (.ofString "_formatparam") 462, .str (.ofString "_formatparam") 463, .str (.ofString "/claim/cut.py") 464, .int 74 0, .int 3 0, .int 0 0, .int 0 0, .int 3 0, .ref 106, .bool true, .int 276 0, .ref 107, .none, .ref 108, .ref 109, .ref 110, .int 468 0, .int 74 0, .str (.ofString "/claim/cut.py") 469], #[]⟩) ::
  (nat_lit 112, ⟨.type "function", none, .func (fnD (stA 10) (.ofString "_formatparam") 3 [] (.ref 105) .none .none (.str (.ofString "cpy313.wsgiref.headers") 365) none (.ref 111) .none 0), #[]⟩) ::
  (nat_lit 120, ⟨.type "tuple", none, .seq #[.none] 0, #[]⟩) ::
  (nat_lit 121, ⟨.type "tuple", none, .seq #[] 0, #[]⟩) ::
  (nat_lit 123, ⟨.type "tuple", none, .seq #[.str (.ofString "self") 486, .str (.ofString "headers") 487, .str (.ofString "k") 488, .str (.ofString "v") 489] 0, #[]⟩) ::
  (nat_lit 124, ⟨.type "tuple", none, .seq #[] 0, #[]⟩) ::
  (nat_lit 126, ⟨.type "code", none, .fields #[.str (.ofString "__init__") 483, .str (.ofString "Headers.__init__") 484, .str (.ofString "/claim/cut.py") 485, .int 85 0, .int 2 0, .int 0 0, .int 0 0, .int 3 0, .ref 121, .bool true, .int 276 0, .ref 122, .none, .ref 123, .ref 124, .ref 125, .int 490 0, .int 85 0, .str (.ofString "/claim/cut.py") 491], #[]⟩) ::
  (nat_lit 127, ⟨.type "function", none, .func (fnD (stC 11 0) (.ofString "Headers.__init__") 3 [] (.ref 120) .none .none (.str (.ofString "cpy313.wsgiref.headers") 365) none (.ref 126) .none 0), #[]⟩) ::
  (nat_lit 128, ⟨.type "tuple", none, .seq #[] 0, #[]⟩) ::
  (nat_lit 130, ⟨.type "tuple", none, .seq #[.str (.ofString "self") 496, .str (.ofString "value") 497, .str (.ofString "name") 498, .str (.ofString "regex") 499] 0, #[]⟩) ::
  (nat_lit 131, ⟨.type "tuple", none, .seq #[] 0, #[]⟩) ::
  (nat_lit 133, ⟨.type "code", none, .fields #[.str (.ofString "_convert_string_type") 493, .str (.ofString "Headers._convert_string_type") 494, .str (.ofString "/claim/cut.py") 495, .int 95 0, .int 2 0, .int 0 0, .int 1 0, .int 3 0, .ref 128, .bool true, .int 276 0, .ref 129, .none, .ref 130, .ref 131, .ref 132, .int 500 0, .int 95 0, .str (.ofString "/claim/cut.py") 501], #[]⟩) ::
  (nat_lit 134, ⟨.type "function", none, .func (fnD (stC 11 1) (.ofString "Headers._convert_string_type") 3 [] .none .none .none (.str (.ofString "cpy313.wsgiref.headers") 365) none (.ref 133) .none 0), #[]⟩) ::
  (nat_lit 135, ⟨.type "tuple", none, .seq #[] 0, #[]⟩) ::
  (nat_lit 137, ⟨.type "tuple", none, .seq #[.str (.ofString "self") 506] 0, #[]⟩) ::
  (nat_lit 138, ⟨.type "tuple", none, .seq #[] 0, #[]⟩) ::
  (nat_lit 140, ⟨.type "code", none, .fields #[.str (.ofString "__len__") 503, .str (.ofString "Headers.__len__") 504, .str (.ofString "/claim/cut.py") 505, .int 103 0, .int 1 0, .int 0 0, .int 0 0, .int 3 0, .ref 135, .bool true, .int 276 0, .ref 136, .none, .ref 137, .ref 138, .ref 139, .int 507 0, .int 103 0, .str (.ofString "/claim/cut.py") 508], #[]⟩) ::
  (nat_lit 141, ⟨.type "function", none, .func (fnD (stC 11 2) (.ofString "Headers.__len__") 3 [] .none .none .none (.str (.ofString "cpy313.wsgiref.headers") 365) none (.ref 140) .none 0), #[]⟩) ::
  (nat_lit 142, ⟨.type "tuple", none, .seq #[] 0, #[]⟩) ::
  (nat_lit 144, ⟨.type "tuple", none, .seq #[.str (.ofString "self") 513, .str (.ofString "name") 514, .str (.ofString "val") 515] 0, #[]⟩) ::
  (nat_lit 145, ⟨.type "tuple", none, .seq #[] 0, #[]⟩) ::
  (nat_lit 147, ⟨.type "code", none, .fields #[.str (.ofString "__setitem__") 510, .str (.ofString "Headers.__setitem__") 511, .str (.ofString "/claim/cut.py") 512, .int 106 0, .int 3 0, .int 0 0, .int 0 0, .int 3 0, .ref 142, .bool true, .int 276 0, .ref 143, .none, .ref 144, .ref 145, .ref 146, .int 516 0, .int 106 0, .str (.ofString "/claim/cut.py") 517], #[]⟩) ::
  (nat_lit 148, ⟨.type "function", none, .func (fnD (stC 11 3) (.ofString "Headers.__setitem__") 3 [] .none .none .none (.str (.ofString "cpy313.wsgiref.headers") 365) none (.ref 147) .none 0), #[]⟩) ::
  (nat_lit 149, ⟨.type "tuple", none, .seq #[] 0, #[]⟩) ::
  (nat_lit 152, ⟨.type "code", none, .fields #[.str (.ofString "__delitem__") 519, .str (.ofString "Headers.__delitem__") 520, .str (.ofString "/claim/cut.py") 521, .int 110 0, .int 2 0, .int 0 0, .int 0 0, .int 3 0, .ref 149, .bool true, .int 276 0, .ref 150, .none, .none, .none, .ref 151, .int 522 0, .int 110 0, .str (.ofString "/claim/cut.py") 523], #[]⟩) ::
  (nat_lit 153, ⟨.type "function", none, .func (fnD (stC 11 4) (.ofString "Headers.__delitem__") 3 [] .none .none .none (.str (.ofString "cpy313.wsgiref.headers") 365) none (.ref 152) .none 0), #[]⟩) ::
  (nat_lit 154, ⟨.type "tuple", none, .seq #[] 0, #[]⟩) ::
  (nat_lit 156, ⟨.type "tuple", none, .seq #[.str (.ofString "self") 528, .str (.ofString "name") 529] 0, #[]⟩) ::
  (nat_lit 157, ⟨.type "tuple", none, .seq #[] 0, #[]⟩) ::
  (nat_lit 159, ⟨.type "code", none, .fields #[.str (.ofString "__getitem__") 525, .str (.ofString "Headers.__getitem__") 526, .str (.ofString "/claim/cut.py") 527, .int 114 0, .int 2 0, .int 0 0, .int 0 0, .int 3 0, .ref 154, .bool true, .int 276 0, .ref 155, .none, .ref 156, .ref 157, .ref 158, .int 530 0, .int 114 0, .str (.ofString "/claim/cut.py") 531], #[]⟩) ::
  (nat_lit 160, ⟨.type "function", none, .func (fnD (stC 11 5) (.ofString "Headers.__getitem__") 3 [] .none .none .none (.str (.ofString "cpy313.wsgiref.headers") 365) none (.ref 159) .none 0), #[]⟩) ::
  (nat_lit 161, ⟨.type "tuple", none, .seq #[] 0, #[]⟩) ::
  (nat_lit 163, ⟨.type "tuple", none, .seq #[.str (.ofString "self") 536, .str (.ofString "name") 537] 0, #[]⟩) ::
  (nat_lit 164, ⟨.type "tuple", none, .seq #[] 0, #[]⟩) ::
  (nat_lit 166, ⟨.type "code", none, .fields #[.str (.ofString "__contains__") 533, .str (.ofString "Headers.__contains__") 534, .str (.ofString "/claim/cut.py") 535, .int 117 0, .int 2 0, .int 0 0, .int 0 0, .int 3 0, .ref 161, .bool true, .int 276 0, .ref 162, .none, .ref 163, .ref 164, .ref 165, .int 538 0, .int 117 0, .str (.ofString "/claim/cut.py") 539], #[]⟩) ::
  (nat_lit 167, ⟨.type "function", none, .func (fnD (stC 11 6) (.ofString "Headers.__contains__") 3 [] .none .none .none (.str (.ofString "cpy313.wsgiref.headers") 365) none (.ref 166) .none 0), #[]⟩) ::
  (nat_lit 168, ⟨.type "tuple", none, .seq #[] 0, #[]⟩) ::
  (nat_lit 171, ⟨.type "code", none, .fields #[.str (.ofString "get_all") 541, .str (.ofString "Headers.get_all") 542, .str (.ofString "/claim/cut.py") 543, .int 120 0, .int 2 0, .int 0 0, .int 0 0, .int 3 0, .ref 168, .bool true, .int 276 0, .ref 169, .none, .none, .none, .ref 170, .int 544 0, .int 120 0, .str (.ofString "/claim/cut.py") 545], #[]⟩) ::
  (nat_lit 172, ⟨.type "function", none, .func (fnD (stC 11 7) (.ofString "Headers.get_all") 3 [] .none .none .none (.str (.ofString "cpy313.wsgiref.headers") 365) none (.ref 171) .none 0), #[]⟩) ::
  (nat_lit 173, ⟨.type "tuple", none, .seq #[.none] 0, #[]⟩) ::
  (nat_lit 174, ⟨.type "tuple", none, .seq #[] 0, #[]⟩) ::
  (nat_lit 176, ⟨.type "tuple", none, .seq #[.str (.ofString "self") 550, .str (.ofString "name") 551, .str (.ofString "default") 552, .str (.ofString "k") 553, .str (.ofString "v") 554] 0, #[]⟩) ::
  (nat_lit 177, ⟨.type "tuple", none, .seq #[] 0, #[]⟩) ::
  (nat_lit 179, ⟨.type "code", none, .fields #[.str (.ofString "get") 547, .str (.ofString "Headers.get") 548, .str (.ofString "/claim/cut.py") 549, .int 124 0, .int 3 0, .int 0 0, .int 0 0, .int 3 0, .ref 174, .bool true, .int 276 0, .ref 175, .none, .ref 176, .ref 177, .ref 178, .int 555 0, .int 124 0, .str (.ofString "/claim/cut.py") 556], #[]⟩) ::
  (nat_lit 180, ⟨.type "function", none, .func (fnD (stC 11 8) (.ofString "Headers.get") 3 [] (.ref 173) .none .none (.str (.ofString "cpy313.wsgiref.headers") 365) none (.ref 179) .none 0), #[]⟩) ::
  (nat_lit 181, ⟨.type "tuple", none, .seq #[] 0, #[]⟩) ::
  (nat_lit 184, ⟨.type "code", none, .fields #[.str (.ofString "keys") 558, .str (.ofString "Headers.keys") 559, .str (.ofString "/claim/cut.py") 560, .int 131 0, .int 1 0, .int 0 0, .int 0 0, .int 3 0, .ref 181, .bool true, .int 276 0, .ref 182, .none, .none, .none, .ref 183, .int 561 0, .int 131 0, .str (.ofString "/claim/cut.py") 562], #[]⟩) ::
  (nat_lit 185, ⟨.type "function", none, .func (fnD (stC 11 9) (.ofString "Headers.keys") 3 [] .none .none .none (.str (.ofString "cpy313.wsgiref.headers") 365) none (.ref 184) .none 0), #[]⟩) ::
  (nat_lit 186, ⟨.type "tuple", none, .seq #[] 0, #[]⟩) ::
  (nat_lit 189, ⟨.type "code", none, .fields #[.str (.ofString "values") 564, .str (.ofString "Headers.values") 565, .str (.ofString "/claim/cut.py") 566, .int 134 0, .int 1 0, .int 0 0, .int 0 0, .int 3 0, .ref 186, .bool true, .int 276 0, .ref 187, .none, .none, .none, .ref 188, .int 567 0, .int 134 0, .str (.ofString "/claim/cut.py") 568], #[]⟩) ::
  (nat_lit 190, ⟨.type "function", none, .func (fnD (stC 11 10) (.ofString "Headers.values") 3 [] .none .none .none (.str (.ofString "cpy313.wsgiref.headers") 365) none (.ref 189) .none 0), #[]⟩) ::
  (nat_lit 191, ⟨.type "tuple", none, .seq #[] 0, #[]⟩) ::
  (nat_lit 193, ⟨.type "tuple", none, .seq #[.str (.ofString "self") 573] 0, #[]⟩) ::
  (nat_lit 194, ⟨.type "tuple", none, .seq #[] 0, #[]⟩) ::
  (nat_lit 196, ⟨.type "code", none, .fields #[.str (.ofString "items") 570, .str (.ofString "Headers.items") 571, .str (.ofString "/claim/cut.py") 572, .int 137 0, .int 1 0, .int 0 0, .int 0 0, .int 3 0, .ref 191, .bool true, .int 276 0, .ref 192, .none, .ref 193, .ref 194, .ref 195, .int 574 0, .int 137 0, .str (.ofString "/claim/cut.py") 575], #[]⟩) ::
  (nat_lit 197, ⟨.type "function", none, .func (fnD (stC 11 11) (.ofString "Headers.items") 3 [] .none .none .none (.str (.ofString "cpy313.wsgiref.headers") 365) none (.ref 196) .none 0), #[]⟩) ::
  (nat_lit 198, ⟨.type "tuple", none, .seq #[] 0, #[]⟩) ::
  (nat_lit 200, ⟨.type "tuple", none, .seq #[.str (.ofString "self") 580] 0, #[]⟩) ::
  (nat_lit 201, ⟨.type "tuple", none, .seq #[] 0, #[]⟩) ::
  (nat_lit 203, ⟨.type "code", none, .fields #[.str (.ofString "__repr__") 577, .str (.ofString "Headers.__repr__") 578, .str (.ofString "/claim/cut.py") 579, .int 140 0, .int 1 0, .int 0 0, .int 0 0, .int 3 0, .ref 198, .bool true, .int 276 0, .ref 199, .none, .ref 200, .ref 201, .ref 202, .int 581 0, .int 140 0, .str (.ofString "/claim/cut.py") 582], #[]⟩) ::
  (nat_lit 204, ⟨.type "function", none, .func (fnD (stC 11 12) (.ofString "Headers.__repr__") 3 [] .none .none .none (.str (.ofString "cpy313.wsgiref.headers") 365) none (.ref 203) .none 0), #[]⟩) ::
  (nat_lit 205, ⟨.type "tuple", none, .seq #[] 0, #[]⟩) ::
  (nat_lit 208, ⟨.type "code", none, .fields #[.str (.ofString "__str__") 584, .str (.ofString "Headers.__str__") 585, .str (.ofString "/claim/cut.py") 586, .int 143 0, .int 1 0, .int 0 0, .int 0 0, .int 3 0, .ref 205, .bool true, .int 276 0, .ref 206, .none, .none, .none, .ref 207, .int 587 0, .int 143 0, .str (.ofString "/claim/cut.py") 588], #[]⟩) ::
  (nat_lit 209, ⟨.type "function", none, .func (fnD (stC 11 13) (.ofString "Headers.__str__") 3 [] .none .none .none (.str (.ofString "cpy313.wsgiref.headers") 365) none (.ref 208) .none 0), #[]⟩) ::
  (nat_lit 210, ⟨.type "tuple", none, .seq #[] 0, #[]⟩) ::
  (nat_lit 212, ⟨.type "tuple", none, .seq #[.str (.ofString "self") 593] 0, #[]⟩) ::
  (nat_lit 213, ⟨.type "tuple", none, .seq #[] 0, #[]⟩) ::
  (nat_lit 215, ⟨.type "code", none, .fields #[.str (.ofString "__bytes__") 590, .str (.ofString "Headers.__bytes__") 591, .str (.ofString "/claim/cut.py") 592, .int 146 0, .int 1 0, .int 0 0, .int 0 0, .int 3 0, .ref 210, .bool true, .int 276 0, .ref 211, .none, .ref 212, .ref 213, .ref 214, .int 594 0, .int 146 0, .str (.ofString "/claim/cut.py") 595], #[]⟩) ::
  (nat_lit 216, ⟨.type "function", none, .func (fnD (stC 11 14) (.ofString "Headers.__bytes__") 3 [] .none .none .none (.str (.ofString "cpy313.wsgiref.headers") 365) none (.ref 215) .none 0), #[]⟩) ::
  (nat_lit 217, ⟨.type "tuple", none, .seq #[] 0, #[]⟩) ::
  (nat_lit 219, ⟨.type "tuple", none, .seq #[.str (.ofString "self") 600, .str (.ofString "name") 601, .str (.ofString "value") 602] 0, #[]⟩) ::
  (nat_lit 220, ⟨.type "tuple", none, .seq #[] 0, #[]⟩) ::
  (nat_lit 222, ⟨.type "code", none, .fields #[.str (.ofString "setdefault") 597, .str (.ofString "Headers.setdefault") 598, .str (.ofString "/claim/cut.py") 599, .int 149 0, .int 3 0, .int 0 0, .int 0 0, .int 3 0, .ref 217, .bool true, .int 276 0, .ref 218, .none, .ref 219, .ref 220, .ref 221, .int 603 0, .int 149 0, .str (.ofString "/claim/cut.py") 604], #[]⟩) ::
  (nat_lit 223, ⟨.type "function", none, .func (fnD (stC 11 15) (.ofString "Headers.setdefault") 3 [] .none .none .none (.str (.ofString "cpy313.wsgiref.headers") 365) none (.ref 222) .none 0), #[]⟩) ::
  (nat_lit 224, ⟨.type "tuple", none, .seq #[] 0, #[]⟩) ::
  (nat_lit 226, ⟨.type "tuple", none, .seq #[.str (.ofString "self") 609, .str (.ofString "_name") 610, .str (.ofString "_value") 611, .str (.ofString "_params") 612, .str (.ofString "parts") 613, .str (.ofString "k") 614, .str (.ofString "v") 615] 0, #[]⟩) ::
  (nat_lit 227, ⟨.type "tuple", none, .seq #[] 0, #[]⟩) ::
  (nat_lit 229, ⟨.type "code", none, .fields #[.str (.ofString "add_header") 606, .str (.ofString "Headers.add_header") 607, .str (.ofString "/claim/cut.py") 608, .int 152 0, .int 3 0, .int 0 0, .int 0 0, .int 11 0, .ref 224, .bool true, .int 276 0, .ref 225, .none, .ref 226, .ref 227, .ref 228, .int 616 0, .int 152 0, .str (.ofString "/claim/cut.py") 617], #[]⟩) ::
  (nat_lit 230, ⟨.type "function", none, .func (fnD (stC 11 16) (.ofString "Headers.add_header") 3 [] .none .none .none (.str (.ofString "cpy313.wsgiref.headers") 365) none (.ref 229) .none 0), #[]⟩) ::
  (nat_lit 231, ⟨.type "tuple", none, .seq #[.str (.ofString "_headers") 619] 0, #[]⟩) ::
  (nat_lit 232, ⟨.type "dict", none, .dict #[⟨PyData.keyHash P (.ofString "__module__"), .str (.ofString "__module__") 478, .str (.ofString "cpy313.wsgiref.headers") 365⟩, ⟨PyData.keyHash P (.ofString "__firstlineno__"), .str (.ofString "__firstlineno__") 482, .int 83 481⟩, ⟨PyData.keyHash P (.ofString "__init__"), .str (.ofString "__init__") 492, .ref 127⟩, ⟨PyData.keyHash P (.ofString "_convert_string_type"), .str (.ofString "_convert_string_type") 502, .ref 134⟩, ⟨PyData.keyHash P (.ofString "__len__"), .str (.ofString "__len__") 509, .ref 141⟩, ⟨PyData.keyHash P (.ofString "__setitem__"), .str (.ofString "__setitem__") 518, .ref 148⟩, ⟨PyData.keyHash P (.ofString "__delitem__"), .str (.ofString "__delitem__") 524, .ref 153⟩, ⟨PyData.keyHash P (.ofString "__getitem__"), .str (.ofString "__getitem__") 532, .ref 160⟩, ⟨PyData.keyHash P (.ofString "__contains__"), .str (.ofString "__contains__") 540, .ref 167⟩, ⟨PyData.keyHash P (.ofString "get_all"), .str (.ofString "get_all") 546, .ref 172⟩, ⟨PyData.keyHash P (.ofString "get"), .str (.ofString "get") 557, .ref 180⟩, ⟨PyData.keyHash P (.ofString "keys"), .str (.ofString "keys") 563, .ref 185⟩, ⟨PyData.keyHash P (.ofString "values"), .str (.ofString "values") 569, .ref 190⟩, ⟨PyData.keyHash P (.ofString "items"), .str (.ofString "items") 576, .ref 197⟩, ⟨PyData.keyHash P (.ofString "__repr__"), .str (.ofString "__repr__") 583, .ref 204⟩, ⟨PyData.keyHash P (.ofString "__str__"), .str (.ofString "__str__") 589, .ref 209⟩, ⟨PyData.keyHash P (.ofString "__bytes__"), .str (.ofString "__bytes__") 596, .ref 216⟩, ⟨PyData.keyHash P (.ofString "setdefault"), .str (.ofString "setdefault") 605, .ref 223⟩, ⟨PyData.keyHash P (.ofString "add_header"), .str (.ofString "add_header") 618, .ref 230⟩, ⟨PyData.keyHash P (.ofString "__static_attributes__"), .str (.ofString "__static_attributes__") 620, .ref 231⟩, ⟨PyData.keyHash P (.ofString "__dict__"), .str (.ofString "__dict__") 622, .ref 234⟩, ⟨PyData.keyHash P (.ofString "__weakref__"), .str (.ofString "__weakref__") 624, .ref 235⟩, ⟨PyData.keyHash P (.ofString "__doc__"), .str (.ofString "__doc__") 625, .none⟩] 4, #[]⟩) ::
  (nat_lit 233, ⟨.type "type", none, .cls ⟨.ofString "Headers", [.type "object"], [.ref 233, .type "object"], 232, .ofString "Headers", true, [], [], false, none, false⟩, #[none, none, some (.str (.ofString "Headers") 471), some (.str (.ofString "Headers") 479), some (.builtin "object.__new__"), some (.bool true)]⟩) ::
  (nat_lit 234, ⟨.type "getset_descriptor", none, .fields #[.str (.ofString "__dict__") 621, .ref 233, .builtin "function.__dict__", .builtin "function.__dict__#set"], #[]⟩) ::
  (nat_lit 235, ⟨.type "getset_descriptor", none, .fields #[.str (.ofString "__weakref__") 623, .ref 233, .builtin "ExceptionGroup.__weakref__", .none], #[]⟩) ::
  (nat_lit 238, ⟨.type "tuple", none, .seq #[] 0, #[]⟩) ::
  (nat_lit 240, ⟨.type "tuple", none, .seq #[.str (.ofString "text") 633, .str (.ofString "stream") 634, .str (.ofString "_law_next") 635] 0, #[]⟩) ::
  (nat_lit 241, ⟨.type "tuple", none, .seq #[.str (.ofString "left") 636] 0, #[]⟩) ::
  (nat_lit 243, ⟨.type "code", none, .fields #[.str (.ofString "_law_lexer") 630, .str (.ofString "_law_lexer") 631, .str (.ofString "/claim/cut.py") 632, .int 166 0, .int 1 0, .int 0 0, .int 0 0, .int 3 0, .ref 238, .bool true, .int 276 0, .ref 239, .none, .ref 240, .ref 241, .ref 242, .int 637 0, .int 166 0, .str (.ofString "/claim/cut.py") 638], #[]⟩) ::
  (nat_lit 244, ⟨.type "function", none, .func (fnD (stA 13) (.ofString "_law_lexer") 3 [] .none .none .none (.str (.ofString "law_pg0265_01") 628) none (.ref 243) .none 0), #[]⟩) ::
  (nat_lit 245, ⟨.type "tuple", none, .seq #[] 0, #[]⟩) ::
  (nat_lit 248, ⟨.type "code", none, .fields #[.str (.ofString "_law_words") 640, .str (.ofString "_law_words") 641, .str (.ofString "/claim/cut.py") 642, .int 174 0, .int 1 0, .int 0 0, .int 0 0, .int 3 0, .ref 245, .bool true, .int 276 0, .ref 246, .none, .none, .none, .ref 247, .int 643 0, .int 174 0, .str (.ofString "/claim/cut.py") 644], #[]⟩) ::
  (nat_lit 249, ⟨.type "function", none, .func (fnD (stA 14) (.ofString "_law_words") 3 [] .none .none .none (.str (.ofString "law_pg0265_01") 628) none (.ref 248) .none 0), #[]⟩) ::
  (nat_lit 250, ⟨.type "tuple", none, .seq #[] 0, #[]⟩) ::
  (nat_lit 253, ⟨.type "code", none, .fields #[.str (.ofString "_law_tables") 646, .str (.ofString "_law_tables") 647, .str (.ofString "/claim/cut.py") 648, .int 181 0, .int 1 0, .int 0 0, .int 0 0, .int 3 0, .ref 250, .bool true, .int 276 0, .ref 251, .none, .none, .none, .ref 252, .int 649 0, .int 181 0, .str (.ofString "/claim/cut.py") 650], #[]⟩) ::
  (nat_lit 254, ⟨.type "function", none, .func (fnD (stA 15) (.ofString "_law_tables") 3 [] .none .none .none (.str (.ofString "law_pg0265_01") 628) none (.ref 253) .none 0), #[]⟩) ::
  (nat_lit 255, ⟨.type "tuple", none, .seq #[] 0, #[]⟩) ::
  (nat_lit 257, ⟨.type "tuple", none, .seq #[.str (.ofString "shape") 655, .str (.ofString "fillings") 656, .str (.ofString "k") 657, .str (.ofString "rows") 658] 0, #[]⟩) ::
  (nat_lit 258, ⟨.type "tuple", none, .seq #[] 0, #[]⟩) ::
  (nat_lit 260, ⟨.type "code", none, .fields #[.str (.ofString "_law_fillings") 652, .str (.ofString "_law_fillings") 653, .str (.ofString "/claim/cut.py") 654, .int 204 0, .int 1 0, .int 0 0, .int 0 0, .int 3 0, .ref 255, .bool true, .int 276 0, .ref 256, .none, .ref 257, .ref 258, .ref 259, .int 659 0, .int 204 0, .str (.ofString "/claim/cut.py") 660], #[]⟩) ::
  (nat_lit 261, ⟨.type "function", none, .func (fnD (stA 16) (.ofString "_law_fillings") 3 [] .none .none .none (.str (.ofString "law_pg0265_01") 628) none (.ref 260) .none 0), #[]⟩) ::
  (nat_lit 262, ⟨.type "tuple", none, .seq #[] 0, #[]⟩) ::
  (nat_lit 265, ⟨.type "code", none, .fields #[.str (.ofString "_law_rising") 662, .str (.ofString "_law_rising") 663, .str (.ofString "/claim/cut.py") 664, .int 213 0, .int 1 0, .int 0 0, .int 0 0, .int 3 0, .ref 262, .bool true, .int 276 0, .ref 263, .none, .none, .none, .ref 264, .int 665 0, .int 213 0, .str (.ofString "/claim/cut.py") 666], #[]⟩) ::
  (nat_lit 266, ⟨.type "function", none, .func (fnD (stA 17) (.ofString "_law_rising") 3 [] .none .none .none (.str (.ofString "law_pg0265_01") 628) none (.ref 265) .none 0), #[]⟩) ::
  (nat_lit 267, ⟨.type "tuple", none, .seq #[] 0, #[]⟩) ::
  (nat_lit 270, ⟨.type "code", none, .fields #[.str (.ofString "law") 668, .str (.ofString "law") 669, .str (.ofString "/claim/cut.py") 670, .int 221 0, .int 1 0, .int 0 0, .int 0 0, .int 3 0, .ref 267, .bool true, .int 276 0, .ref 268, .none, .none, .none, .ref 269, .int 671 0, .int 221 0, .str (.ofString "/claim/cut.py") 672], #[]⟩) ::
  (nat_lit 271, ⟨.type "function", none, .func (fnD (stA 18) (.ofString "law") 3 [] .none .none .none (.str (.ofString "law_pg0265_01") 628) none (.ref 270) .none 0), #[]⟩) :: []
noncomputable def hdV : Program := view PySem.Challenge.pw_pg0265_01 [0, 1, 5, 7, 8, 9, 11, 13, 14, 15, 16, 17, 18]
abbrev hdL : List Str := [Str.ofString "bisect_right", Str.ofString "tspecials", Str.ofString "_name_disallowed_re", Str.ofString "_value_disallowed_re", Str.ofString "_formatparam"]
abbrev hdA : List Addr := [3, 32, 34, 35, 37, 38, 39, 40, 41, 43, 44, 46, 47, 55, 57, 58, 60, 61, 62, 64, 65, 67, 68, 69, 71, 72, 74, 75, 76, 78, 79, 81, 82, 83, 84, 85, 86, 87, 93, 94, 98, 99, 103, 104, 105, 106, 108, 109, 111, 112, 120, 121, 123, 124, 126, 127, 128, 130, 131, 133, 134, 135, 137, 138, 140, 141, 142, 144, 145, 147, 148, 149, 152, 153, 154, 156, 157, 159, 160, 161, 163, 164, 166, 167, 168, 171, 172, 173, 174, 176, 177, 179, 180, 181, 184, 185, 186, 189, 190, 191, 193, 194, 196, 197, 198, 200, 201, 203, 204, 205, 208, 209, 210, 212, 213, 215, 216, 217, 219, 220, 222, 223, 224, 226, 227, 229, 230, 231, 232, 233, 234, 235, 238, 240, 241, 243, 244, 245, 248, 249, 250, 253, 254, 255, 257, 258, 260, 261, 262, 265, 266, 267, 270, 271]
theorem hdA_of (P : Params) : hdA = (hdK P).map (·.1) := by kernel_rfl
noncomputable abbrev hdH : Hook := kmHook hdK hdA hdA_of [239]
noncomputable abbrev hdX (s : Shared) : Bool := xlAt hdV [] s && recOk (RowW.records (OpenRow.toRowW (OpenLaw.row PySem.Challenge.rw_pg0265_01))) s
theorem hd_run (w : World) : (openT PySem.Challenge.pw_pg0265_01 w 3284).bind (topFromT PySem.Challenge.pw_pg0265_01 w 3284 fun s => (qSeen hdV hdL (importedModules PySem.Challenge.pw_pg0265_01.main.body) hdX true s, Hook.obs hdH s)) = some (openGood hdV hdL, Hook.val hdH w) := by kernel_rfl
theorem hl : LeftO PySem.Challenge.pw_pg0265_01 hdV hdL hdX (Hook.obs hdH) (Hook.val hdH) 3284 := left_of hd_run
end Mine
end
section
open PySem PySem.W PyProof.Rows PySem.Calls PySem.Spec
set_option maxRecDepth 100000
namespace Mine

abbrev top (dp un : Nat) (gd : Option (List Code)) (frs : List Env) : Around := { handled := none, depth := dp, frames := some frs, guards := gd, units := un }

def Owns (g h : Heap) (own : List (Addr × Obj)) : Prop := ∀ p ∈ own, h.get? p.1 = some p.2 ∧ g.get? p.1 = none

theorem Owns.nil {g h : Heap} : Owns g h [] := fun _ hp => nomatch hp
theorem Owns.sub {g h : Heap} {a b : List (Addr × Obj)} (O : Owns g h a) (hs : ∀ p ∈ b, p ∈ a) : Owns g h b := fun p hp => O p (hs p hp)

def Fill (_ : OpenLaw) (_ : Params → Frag) : Prop := True

structure Site (w : World) (dp un : Nat) (gd : Option (List Code)) (frs : List Env) (g : Heap) : Prop where
  B : ∃ base, Below (top dp un gd frs) base frs g
  X : (Mine.hdK w.params).In g
  T : ∃ p loose mean mg mb, Top p loose mean mg mb g

theorem Below.reA {A A' : Around} {base h : Heap} {outer : List Env} (B : Below A base outer h) (e : A'.frames = some outer) : Below A' base outer h := ⟨e, B.stays, B.frames⟩
theorem Below.keeps {A : Around} {base h h' : Heap} {outer : List Env} (B : Below A base outer h) (k : h.StaysIn h') : Below A base outer h' :=
  ⟨B.stack, fun b o e => k b o (B.stays b o e), B.frames.of_keeps fun b o e _ => ⟨o, k b o e, rfl⟩⟩
theorem Site.re {w : World} {dp un dp' un' : Nat} {gd gd' : Option (List Code)} {frs : List Env} {g : Heap} (S : Site w dp un gd frs g) : Site w dp' un' gd' frs g :=
  ⟨S.B.imp fun _ b => Below.reA b rfl, S.X, S.T⟩
theorem Site.keeps {w : World} {dp un : Nat} {gd : Option (List Code)} {frs : List Env} {g g' : Heap} (S : Site w dp un gd frs g) (k : g.StaysIn g') : Site w dp un gd frs g' :=
  ⟨S.B.imp fun _ b => Below.keeps b k, S.X.keeps k, let ⟨p, l, m, a, b, t⟩ := S.T; ⟨p, l, m, a, b, t.keeps k⟩⟩

theorem owns_not {g h : Heap} {own : List (Addr × Obj)} (O : Owns g h own) : ∀ b o, g.get? b = some o → b ∉ own.map (·.1) := fun b o e q => by
  obtain ⟨p, hp, rfl⟩ := List.mem_map.mp q
  rw [(O p hp).2] at e; cases e
theorem stays_hide {g h : Heap} {own : List (Addr × Obj)} (k : g.StaysIn h) (O : Owns g h own) : g.StaysIn (hideAll h (own.map (·.1))) :=
  fun b o e => hideAll_get _ (k b o e) (owns_not O b o e)

section
variable {prog : Program} {w : World} {s : Shared} {g : Heap} {own : List (Addr × Obj)} {dp un : Nat} {gd : Option (List Code)} {frs : List Env}
  {R : Result → Shared → Prop} {name qual : Str} {params : Arguments} {body : List Stmt} {scope : Scope} {cl : List (Str × Addr)} {dV kV doc pm cdv ct : Value} {an : Option Addr} {fo : Obj} {f : Addr} {args : Args} {binds : List (Str × Value)}

/-- what a body's end is to give -/
abbrev endR (R : Result → Shared → Prop) : Flow → Shared → Prop := fun fl s' => R (.ok (.ret (match fl with | .ret v => v | _ => .none))) s'
abbrev noE : Value → Shared → Prop := fun _ _ => False

theorem enterX (Si : Site w dp un gd frs g) (S : g.StaysIn s.heap) (O : Owns g s.heap own)
    (ho : s.heap.get? f = some fo) (hd : fo.data = .func (fnX name qual params body scope cl dV kV doc pm an cdv ct)) (hcd : s.heap.CodeRec cdv qual) (hroom : dp < recursionLimit)
    (hbind : BindsTo s (fnX name qual params body scope cl dV kV doc pm an cdv ct) args binds) (hloc : ∀ y ∈ binds, scope.names.lookup y.1 = some .local)
    (h : ∀ g' L' h₁, g.StaysIn g' → Fr g' L' h₁ (fun y => binds.reverse.lookup y) → News g' L' h₁ own → (∀ p ∈ own, p.1 < L') → Site w dp un gd frs g' →
      wpAny (model prog w) (top (dp + 1) (un + 3) gd (envX qual scope L' f cdv cl :: frs)) (execs body (envX qual scope L' f cdv cl)) (endR R) noE
        { s with heap := h₁, toks := s.toks + binds.length })
    (hcell : ∀ x ∈ scope.names, x.2 ≠ .cell) (hco : scope.isCoroutine = false := by rfl) (hgen : scope.isGenerator = false := by rfl) (hk : scope.kind = .function := by rfl) :
    codeAny (model prog w) (top dp un gd frs) (.call (.ref f) args) R s := by
  have st := stays_hide S O
  obtain ⟨p, loose, mean, mg, mb, T⟩ := Si.T
  refine codeAny_call_def (fd := fnX name qual params body scope cl dV kV doc pm an cdv ct) (body := body) (binds := binds) hroom ho hd (T.nolimit.keeps S) hcd rfl hbind hcell hloc (fun h₁ hns hk₁ => ?_) hco hgen hk
  exact wpAny_mono (h _ s.heap.objs.size h₁ st ⟨hns, fun b o e => hk₁ b o (of_hideAll _ e), Nat.le_of_eq (hideAll_size _ _)⟩
    (fun p hp => ⟨hk₁ _ _ (O p hp).1, Nat.ne_of_lt (Heap.lt_size (O p hp).1), hideAll_none _ (List.mem_map_of_mem hp)⟩) (fun p hp => Heap.lt_size (O p hp).1) (Si.keeps st)) (fun _ _ hl => hl) fun _ _ y => y.elim

theorem enterC (Si : Site w dp un gd frs g) (S : g.StaysIn s.heap) (O : Owns g s.heap own)
    (ho : s.heap.get? f = some fo) (hd : fo.data = .func (fnX name qual params body scope [] dV kV doc pm an cdv ct)) (hcd : s.heap.CodeRec cdv qual) (hroom : dp < recursionLimit)
    (hbind : BindsTo s (fnX name qual params body scope [] dV kV doc pm an cdv ct) args binds)
    (hkind : (binds.all fun y => scope.names.lookup y.1 == some .local || scope.names.lookup y.1 == some .cell) = true)
    (hnd : ((cellsFrom 0 scope.names []).map (·.1)).Nodup)
    (h : ∀ g' L' h₁ tk cells, g.StaysIn g' → Fr g' L' h₁ (bindL (envOfC qual scope L' f cdv).kindOf binds fun _ => none) → News g' L' h₁ (cells ++ own) →
      CellsAre (bindC (envOfC qual scope L' f cdv).kindOf binds fun _ => none) (cellsFrom (L' + 1) scope.names []) cells → (∀ p ∈ own, p.1 < L') → Site w dp un gd frs g' →
      wpAny (model prog w) (top (dp + 1) (un + 3) gd (envOfC qual scope L' f cdv :: frs)) (execs body (envOfC qual scope L' f cdv)) (endR R) noE
        { s with heap := h₁, toks := tk })
    (hco : scope.isCoroutine = false := by rfl) (hgen : scope.isGenerator = false := by rfl) (hk : scope.kind = .function := by rfl) :
    codeAny (model prog w) (top dp un gd frs) (.call (.ref f) args) R s := by
  have st := stays_hide S O
  obtain ⟨p, loose, mean, mg, mb, T⟩ := Si.T
  refine codeAny_call_function hroom ho hd hco hgen rfl hcd (hbind _ _ _ _ ?_)
  refine wpAny_newFunctionEnv_cells hk (kindsX hkind _) fun env' he s' x => ?_
  subst he
  refine ⟨(T.nolimit.keeps S).keeps x.toInCall.keep, codeAny_func ?_⟩
  obtain ⟨h₁, tk, rfl, _⟩ := x.done
  have hk₁ := x.toInCall.keep
  obtain ⟨cells, NC, Y⟩ := Cl.news (h₀ := s.heap) (Nat.le_refl _) fun n c hm => ⟨x.cell n c (lookup_of_mem_nodup (cellsFrom_names scope.names 0 (s.heap.objs.size + 1) [] [] rfl ▸ hnd) hm), x.above n c hm⟩
  refine wpAny_mono (h _ s.heap.objs.size h₁ tk cells st ⟨x.toInCall.ns, fun b o e => hk₁ b o (of_hideAll _ e), Nat.le_of_eq (hideAll_size _ _)⟩ (fun p hp => ?_) Y (fun p hp => Heap.lt_size (O p hp).1) (Si.keeps st)) (fun _ _ hl => hl) fun _ _ y => y.elim
  rcases List.mem_append.mp hp with hp | hp
  · refine ⟨(NC p hp).1, (NC p hp).2.1, ?_⟩
    cases q : (hideAll s.heap (own.map (·.1))).get? p.1 with
    | none => rfl
    | some o => have := of_hideAll _ q; rw [(NC p hp).2.2] at this; cases this
  · exact ⟨hk₁ _ _ (O p hp).1, Nat.ne_of_lt (Heap.lt_size (O p hp).1), hideAll_none _ (List.mem_map_of_mem hp)⟩

/-- at a call within a body: the ground for the callee -/
theorem ground_at {L : Addr} {m : Str → Option Value} {env : Env} {h : Heap} {rest : List (Addr × Obj)} (Si : Site w dp un gd frs g) (F : Fr g L h m) (N : News g L h own) (hf : env.frame = some L) (hke : env.scope.kind = .function) :
    Site w (dp + 1) (un + 3) gd (env :: frs) (hideAll h (own.map (·.1))) ∧ (hideAll h (own.map (·.1))).StaysIn h ∧ Owns (hideAll h (own.map (·.1))) h own := by
  have O : Owns g h own := fun p hp => ⟨(N p hp).1, (N p hp).2.2⟩
  have st := stays_hide F.keep O
  obtain ⟨base, B⟩ := Si.B
  refine ⟨⟨⟨base, ⟨rfl, fun b o e => st b o (B.stays b o e), ?_⟩⟩, Si.X.keeps st, let ⟨p, l, m, a, b, t⟩ := Si.T; ⟨p, l, m, a, b, t.keeps st⟩⟩, fun b o e => of_hideAll _ e, fun p hp => ⟨(N p hp).1, hideAll_none _ (List.mem_map_of_mem hp)⟩⟩
  have B₁ := pushX B F hf hke
  refine funFrames_hideAll B₁.frames fun env' he b hb hf' => ?_
  have nL : L ∉ own.map (·.1) := fun q => by
    obtain ⟨p, hp, e⟩ := List.mem_map.mp q
    exact (N p hp).2.1 e
  cases he with
  | head => exact nL ((Option.some.inj (hf.symm.trans hf') : L = b) ▸ hb)
  | tail _ he =>
    obtain ⟨L₁, o₁, hf₁, ho₁⟩ := funFrames_in B.frames env' he
    rw [hf₁] at hf'
    exact owns_not O L₁ o₁ ho₁ ((Option.some.inj hf' : L₁ = b) ▸ hb)

/-- behind the call -/
theorem after_at {L : Addr} {m : Str → Option Value} {h h' : Heap} {rest own' : List (Addr × Obj)} (F : Fr g L h m) (N : News g L h own) (NR : News g L h rest)
    (hdis : ∀ p ∈ rest, p.1 ∉ own.map (·.1)) (k : (hideAll h (own.map (·.1))).StaysIn h') (O' : Owns (hideAll h (own.map (·.1))) h' own') :
    Fr g L h' m ∧ News g L h' (own' ++ rest) ∧ ∀ p ∈ own', ∀ q ∈ rest, p.1 ≠ q.1 := by
  have O : Owns g h own := fun p hp => ⟨(N p hp).1, (N p hp).2.2⟩
  have st := stays_hide F.keep O
  obtain ⟨oL, es, ep, hL, r⟩ := F.ns
  have nL : L ∉ own.map (·.1) := fun q => by
    obtain ⟨p, hp, e⟩ := List.mem_map.mp q
    exact (N p hp).2.1 e
  have hLg := hideAll_get (own.map (·.1)) hL nL
  refine ⟨⟨⟨oL, es, ep, k _ _ hLg, r⟩, fun b o e => k b o (st b o e), F.above⟩, fun p hp => ?_, fun p hp q hq e => ?_⟩
  · rcases List.mem_append.mp hp with hp | hp
    · refine ⟨(O' p hp).1, fun q => ?_, ?_⟩
      · have := (O' p hp).2; rw [q, hLg] at this; cases this
      · cases q : g.get? p.1 with
        | none => rfl
        | some o => have := (O' p hp).2; rw [st _ _ q] at this; cases this
    · exact ⟨k _ _ (hideAll_get _ (NR p hp).1 (hdis p hp)), (NR p hp).2⟩
  · have := (O' p hp).2
    rw [e, hideAll_get _ (NR q hq).1 (hdis q hq)] at this; cases this
end

theorem binds_peek {K : Frag} {s : Shared} {fd : FuncData} {args : Args} {binds : List (Str × Value)} (X : K.In s.heap) (e : ∀ S, peek K S (bindArgs fd args) = some binds) : BindsTo s fd args binds :=
  fun _ _ _ _ q => (Looks.of_peek X (e _)).here q
theorem K_at {K : Frag} {h : Heap} {f : Addr} {o : Obj} (X : K.In h) (e : K.lookup f = some o) : h.get? f = some o := X _ _ e
theorem Owns.of {g g' h : Heap} {L : Addr} {own : List (Addr × Obj)} (N : News g' L h own) (k : g.StaysIn g') : Owns g h own := fun p hp => ⟨(N p hp).1, by
  cases q : g.get? p.1 with
  | none => rfl
  | some o => have := (N p hp).2.2; rw [k _ _ q] at this; cases this⟩
theorem stays_of {g g' h : Heap} {L : Addr} {m : Str → Option Value} (F : Fr g' L h m) (k : g.StaysIn g') : g.StaysIn h := fun b o e => F.keep b o (k b o e)
end Mine
end
section
open PySem PySem.W PyProof.Rows PySem.Calls PySem.Spec
set_option maxRecDepth 100000
namespace Mine
/-- the walk stands still here -/
def Stop (P : Prop) : Prop := P
theorem stop_of {P : Prop} (h : Stop P) : P := h
/-- what is held behind a block -/
def Held (P : Prop) : Prop := P
abbrev T := List Nat
def S (l : T) : Str := ⟨l.toArray⟩
theorem strsAre_length {vs : List Value} {xs : List Str} (h : StrsAre vs xs) : vs.length = xs.length := by
  induction h with
  | nil => rfl
  | cons _ _ _ ih => rw [List.length_cons, List.length_cons, ih]
theorem getD_S (xs : List T) (i : Nat) : ((xs.map S).getD i Str.empty).cps.toList = xs.getD i [] := by
  simp only [List.getD_eq_getElem?_getD, List.getElem?_map]
  cases xs[i]? <;> rfl
theorem S_cps (x : T) : (S x).cps.toList = x := rfl
theorem strsAre_carried {vs : List Value} {xs : List Str} (h : CarriedAll vs (xs.map .str)) : StrsAre vs xs := by
  induction xs generalizing vs with
  | nil => cases h; exact .nil
  | cons x xs ih => cases h with | cons a b => cases a; exact .cons _ _ (ih b)
theorem signs_S (x : T) : signs (S x) = (x.map fun c => [c]).map S := by
  simp only [signs, S_cps, List.map_map]; rfl
section
variable {prog : Program} {w : World} {A : Around} {E : Value → Shared → Prop} {s : Shared}
theorem half_is (lo hi : Nat) : Int.fdiv ((lo : Int) + (hi : Int)) 2 = (((lo + hi) / 2 : Nat) : Int) := by
  rw [Int.fdiv_eq_ediv_of_nonneg _ (by decide)]; omega
theorem floordiv_half {lo hi : Nat} {t u : Tok} {Q : Value → Shared → Prop} (hb : lo + hi < 2 ^ 62) (h : Q (.int (((lo + hi) / 2 : Nat) : Int) s.toks) { s with toks := s.toks + 1 }) :
    wpAny (model prog w) A (binaryOp .FloorDiv (.int ((lo : Int) + (hi : Int)) t) (.int 2 u)) Q E s :=
  floordiv_int (by decide) (by rw [half_is]; exact h) (Or.inl (PyProof.noPylong_small (by omega)))
variable {h₀ : Heap} {L : Addr} {m : Str → Option Value} {news : List (Addr × Obj)} {Q : Value → Shared → Prop}
theorem list_str_K {x : T} {t : Tok} (hh : A.handled = none) (F : Fr h₀ L s.heap m) (N : News h₀ L s.heap news) (hsz : x.length ≤ 1000)
    (h : ∀ D ys n h' tk, Fr h₀ L h' m → News h₀ L h' ((D, listOf (List.toArray ys) n) :: news) → StrsAre ys ((x.map fun c => [c]).map S) → (∀ p ∈ news, p.1 < D) → Q (.ref D) { s with heap := h', toks := tk }) :
    wpAny (model prog w) A (call (.type "list") [.str (S x) t]) Q E s := by
  refine list_strD hh F N (fun h' tk ys F' N' _ hn _ hp hc => ?_) (by show (S x).length ≤ 2 ^ 24; simp only [Str.length, S, List.size_toArray]; omega)
  obtain ⟨⟨n, hD⟩, hne⟩ := hp
  refine h _ ys n h' tk F' (fun p hp => ?_) (signs_S x ▸ strsAre_carried hc) (fun p hp => Heap.lt_size (N p hp).1)
  rcases List.mem_cons.mp hp with rfl | hp
  · exact ⟨hD, Nat.ne_of_gt F.ns.lt, hn⟩
  · exact N' p hp
theorem ofString_nil : Str.ofString "" = S [] := by decide +kernel
theorem S_append (a b : T) : S a ++ S b = S (a ++ b) := by
  apply Str.ext'
  simp [Str.cps_append, S]
theorem S_length (a : T) : (S a).length = a.length := by simp [S, Str.length]
theorem iadd_empty {x : Str} {t u : Tok} (hx : x.length ≤ 100000) (h : ∀ t' tk, Q (.str x t') { s with toks := tk }) : wpAny (model prog w) A (inplaceOp .Add (.str (Str.ofString "") t) (.str x u)) Q E s :=
  PyProof.Rows.iadd_str (fun t' tk => by rw [show Str.ofString "" = Str.empty from by decide +kernel, Str.empty_append]; exact h t' tk) (by
    rw [show (Str.ofString "").length = 0 from by decide +kernel]
    show 0 + x.length ≤ 2 ^ 24
    omega)
theorem seqIndex_zero {n : Nat} (h : 0 < n) : seqIndex? 0 n = some 0 := by
  unfold seqIndex?
  simp only [Int.lt_irrefl, if_false]
  rw [if_pos (by simp; omega)]; rfl
theorem pop0_K {D : Addr} {y : Value} {q : List Value} {n : Nat} {u : Tok} {news' : List (Addr × Obj)} (F : Fr h₀ L s.heap m) (N : News h₀ L s.heap news)
    (U : Upd D (listOf (List.toArray (y :: q)) n) (listOf (List.toArray q) (n + 1)) news news') (hz : q.length ≤ 5000) (h : ∀ h', Fr h₀ L h' m → News h₀ L h' news' → Q y { s with heap := h' }) :
    wpAny (model prog w) A (call (.builtin "list.pop") [.ref D, .int 0 u]) Q E s :=
  kl_popAt (k := 0) (p := []) F N (by decide) (seqIndex_zero (by simp)) rfl U (by show q.length + 1 ≤ 2 ^ 24; omega) h
theorem truthy_nil {l : Addr} {Q : Bool → Shared → Prop} (hl : s.heap.IsList l #[]) (h : ∀ tk, Q false { s with toks := tk }) : wpAny (model prog w) A (truthy (.ref l)) Q E s :=
  wpAny_truthy_list hl (by decide) (h _)
theorem truthy_cons {l : Addr} {x : Value} {r : List Value} {Q : Bool → Shared → Prop} (hl : s.heap.IsList l (List.toArray (x :: r))) (hz : r.length ≤ 5000) (h : ∀ tk, Q true { s with toks := tk }) : wpAny (model prog w) A (truthy (.ref l)) Q E s :=
  wpAny_truthy_list hl (by rw [List.size_toArray, List.length_cons]; omega) (by
    have : ((List.toArray (x :: r)).size != 0) = true := by rw [List.size_toArray, List.length_cons]; simp
    first | exact h _ | (rw [this]; exact h _) | (simp; exact h _))
end
theorem call_own {w : World} {g h : Heap} {dp un : Nat} {gd : Option (List Code)} {frs : List Env} {L : Addr} {m : Str → Option Value} {env : Env} {own rest news : List (Addr × Obj)} (Si : Site w dp un gd frs g) (F : Fr g L h m) (N : News g L h news)
    (ho : ∀ p ∈ own, p ∈ news) (hr : ∀ p ∈ rest, p ∈ news) (hd : ∀ p ∈ rest, ∀ q ∈ own, p.1 ≠ q.1) (hf : env.frame = some L) (hke : env.scope.kind = .function) :
    ∃ g', Site w (dp + 1) (un + 3) gd (env :: frs) g' ∧ g'.StaysIn h ∧ Owns g' h own ∧ g.StaysIn g' ∧ (∀ b o, h.get? b = some o → (∀ q ∈ own, b ≠ q.1) → g'.get? b = some o) ∧
      ∀ h' own', g'.StaysIn h' → Owns g' h' own' → Fr g L h' m ∧ News g L h' (own' ++ rest) ∧ ∀ p ∈ own', ∀ q ∈ rest, p.1 ≠ q.1 := by
  have N1 : News g L h own := fun p hp => N p (ho p hp)
  have N2 : News g L h rest := fun p hp => N p (hr p hp)
  obtain ⟨a, b, c⟩ := ground_at (rest := rest) Si F N1 hf hke
  refine ⟨_, a, b, c, stays_hide F.keep (fun p hp => ⟨(N1 p hp).1, (N1 p hp).2.2⟩), fun x o e hx => hideAll_get _ e fun q => ?_, fun h' own' k o' => after_at F N1 N2 (fun p hp q => ?_) k o'⟩
  · obtain ⟨r, hr', e⟩ := List.mem_map.mp q
    exact hx r hr' e.symm
  · obtain ⟨r, hr', e⟩ := List.mem_map.mp q
    exact hd p hp r hr' e.symm
theorem call_at {prog : Program} {w : World} {g : Heap} {dp un : Nat} {gd : Option (List Code)} {frs : List Env} {L f : Addr} {m : Str → Option Value} {env : Env} {own rest news : List (Addr × Obj)} {vs : List Value} {Q E : Value → Shared → Prop} {s : Shared} (Si : Site w dp un gd frs g) (F : Fr g L s.heap m) (N : News g L s.heap news)
    (ho : ∀ p ∈ own, p ∈ news) (hr : ∀ p ∈ rest, p ∈ news) (hd : ∀ p ∈ rest, ∀ q ∈ own, p.1 ≠ q.1) (hf : env.frame = some L) (hke : env.scope.kind = .function)
    (k : ∀ g', Site w (dp + 1) (un + 3) gd (env :: frs) g' → g'.StaysIn s.heap → Owns g' s.heap own → g.StaysIn g' → (∀ b o, s.heap.get? b = some o → (∀ q ∈ own, b ≠ q.1) → g'.get? b = some o) →
      (∀ h' own', g'.StaysIn h' → Owns g' h' own' → Fr g L h' m ∧ News g L h' (own' ++ rest) ∧ ∀ p ∈ own', ∀ q ∈ rest, p.1 ≠ q.1) →
      codeAny (model prog w) (top (dp + 1) (un + 3) gd (env :: frs)) (.call (.ref f) ⟨vs, []⟩) (fun r s' => match r with | .ok (.ret v) => Q v s' | .ok _ => False | .error e => E e s') s) :
    wpAny (model prog w) (top (dp + 1) (un + 3) gd (env :: frs)) (call (.ref f) vs) Q E s := by
  obtain ⟨g', a, b, c, d, e, x⟩ := call_own Si F N ho hr hd hf hke
  exact wpAny_call (k g' a b c d e x)
end Mine
end
section
open PySem PySem.W PyProof.Rows PySem.Calls PySem.Spec
set_option maxRecDepth 100000
namespace Mine
theorem filler : Fill PySem.Challenge.rw_pg0265_01 Mine.hdK := by
  k_fill
  trivial
theorem lnLex1 : True := by
  k_with_none
  k_with "own_room" => ((show _ < 1000; (try simp only [depth_under_make, depth_under_kw, depth_in1, depth_deeper]); omega))
  k_with "eval Name" => ((k_here; k_dflt (refine' nameX_F ?N ?c ?m ?d ?_ ?a ?b; (case a => rfl); (case b => rfl); (case N => k_asm); (case c => rfl); (case m => k_mem); (case d => k_asm); k_whole)))
  k_with "ite" => (first | (refine ite_pos (by decide +kernel) ?_) | (refine ite_neg (by decide +kernel) ?_))
  k_with "inplaceOp Add str str" => ((refine iadd_empty (by first | assumption | (simp only [S_length]; omega)) ?_; intro tq' tkq'))
  k_with "m_get" => (first | rfl | (with_reducible assumption) | exact if_pos rfl | (refine (if_neg (by decide +kernel)).trans ?_; walk_at "m_get"))
  k_with "m_subs" => (first | exact List.forall_mem_nil _ | (refine List.forall_mem_cons.mpr ⟨by k_dflt k_mem, ?_⟩; walk_at "m_subs"))
  k_with "m_dis" => (first | exact List.forall_mem_nil _ | (refine List.forall_mem_cons.mpr ⟨by k_all, ?_⟩; walk_at "m_dis"))
  k_with "m_list" => (first | (with_reducible assumption) | exact stays_list (Fr.keep (by with_reducible assumption)) (by with_reducible assumption) | exact News.isList (by with_reducible assumption) (by k_mem))
  k_with "m_size" => (first | omega | (simp only [List.size_toArray, List.length_map, List.length_cons, List.length_append, List.length_nil, strsAre_length (by assumption)]; omega))
  k_with "truthy ref" => (((with_reducible show wpAny _ _ (truthy (Value.ref _)) _ _ _); k_dflt (first | (refine truthy_nil (by walk_at "m_list") ?_; intro tkq') | (refine truthy_cons (by walk_at "m_list") (by walk_at "m_size") ?_; intro tkq'))))
  k_with "call type:list" => (((with_reducible show wpAny _ _ (call (Value.type _) [Value.str _ _]) _ _ _); refine list_str_K rfl (by k_asm) (by k_asm) (by assumption) ?_; intro Dq' ysq' nq' hq' tkq' Fq' Nq' hSq' l1q; k_lt l1q; (try k_sweep)))
  k_with "call builtin:list.pop" => (((with_reducible show wpAny _ _ (call (Value.builtin _) [Value.ref _, Value.int 0 _]) _ _ _); k_dflt (refine' pop0_K ?F ?N ?U ?z ?_; (case F => k_asm); (case N => k_asm); (case U => k_upd); (case z => walk_at "m_size"); intro hq' Fq' Nq'; (try dsimp only [List.nil_append, List.cons_append] at Nq'); (try k_sweep))))
  k_with "m_apart" => (first | exact List.forall_mem_nil _ | ((with_reducible refine List.forall_mem_cons.mpr ⟨?_, ?_⟩); (show @Ne Nat _ _; (try dsimp only); omega); walk_at "m_apart"))
  trivial
def nextQual : Str := "_law_lexer.<locals>._law_next"
structure LexZ where
  (lx dlx st dst fn cell left pb cc pb2 : Nat)
  (fo co : Obj)
  (a1 a2 a3 a4 a5 b1 b2 b3 b4 b5 b6 b7 : Tok)

abbrev lexObjs (w : World) (z : LexZ) (ln : Int) (tl : Tok) (ys : List Value) (n : Nat) (ps : List Value) (k : Nat) : List (Addr × Obj) :=
  [(z.pb, listOf (List.toArray ps) k), (z.lx, instObj 85 z.dlx),
   (z.dlx, dictOf [{ hash := PyData.keyHash w.params (Str.ofString "lineno"), key := Value.str (Str.ofString "lineno") z.a1, val := Value.int ln tl },
     { hash := PyData.keyHash w.params (Str.ofString "instream"), key := Value.str (Str.ofString "instream") z.a2, val := Value.ref z.st },
     { hash := PyData.keyHash w.params (Str.ofString "whitespace"), key := Value.str (Str.ofString "whitespace") z.a3, val := Value.str (Str.ofString "\n\t\x0d ") z.a4 },
     { hash := PyData.keyHash w.params (Str.ofString "pushback"), key := Value.str (Str.ofString "pushback") z.a5, val := Value.ref z.pb }] 4),
   (z.fn, z.fo), (z.st, instObj 85 z.dst),
   (z.dst, dictOf [{ hash := PyData.keyHash w.params (Str.ofString "lineno"), key := Value.str (Str.ofString "lineno") z.b1, val := Value.int 1 z.b2 },
     { hash := PyData.keyHash w.params (Str.ofString "instream"), key := Value.str (Str.ofString "instream") z.b3, val := Value.none },
     { hash := PyData.keyHash w.params (Str.ofString "whitespace"), key := Value.str (Str.ofString "whitespace") z.b4, val := Value.str (Str.ofString "\n\t\x0d ") z.b5 },
     { hash := PyData.keyHash w.params (Str.ofString "pushback"), key := Value.str (Str.ofString "pushback") z.b6, val := Value.ref z.pb2 },
     { hash := PyData.keyHash w.params (Str.ofString "read"), key := Value.str (Str.ofString "read") z.b7, val := Value.ref z.fn }] 5),
   (z.left, listOf (List.toArray ys) n), (z.cell, z.co)]

/-- what the lexer's own source gives back: the first of what is left, or the empty text -/
def NextDoes (w : World) (fn left cell cc : Addr) (fo co : Obj) : Prop :=
  ∀ (prog : Program) (dp un : Nat) (gd : Option (List Code)) (frs : List Env) (g : Heap) (s : Shared) (R : Result → Shared → Prop) (ys : List Value) (n : Nat) (v : Value),
    Site w dp un gd frs g → g.StaysIn s.heap → Owns g s.heap [(fn, fo), (left, listOf (List.toArray ys) n), (cell, co)] → s.heap.CodeRec (.ref cc) nextQual → dp < 900 → un < 9000 → ys.length ≤ 5000 →
    (∀ h' tk' n' t, g.StaysIn h' → Owns g h' [(fn, fo), (left, listOf (List.toArray ys.tail) n'), (cell, co)] → R (.ok (.ret (ys.headD (.str (Str.ofString "") t)))) { s with heap := h', toks := tk' }) →
    codeAny (model prog w) (top dp un gd frs) (.call (.ref fn) ⟨[v], []⟩) R s

structure LexOk (w : World) (z : LexZ) : Prop where
  ord : z.cell < z.left ∧ z.left < z.dst ∧ z.dst < z.st ∧ z.st < z.fn ∧ z.fn < z.dlx ∧ z.dlx < z.lx ∧ z.lx < z.pb
  does : NextDoes w z.fn z.left z.cell z.cc z.fo z.co
  isFn : ∃ od fd sl oc, z.fo = ⟨oc, od, .func fd, sl⟩

theorem lookup_is {K : Frag} {a : Addr} {o o' : Obj} (e : K.lookup a = some o) (e' : K.lookup a = some o') : o = o' := Option.some.inj (e.symm.trans e')
set_option maxHeartbeats 4000000 in
theorem next_does {w : World} {fn left cell cc : Nat} {params : Arguments} {body : List Stmt} {scope : Scope} {co : Obj} {doc pm ctv : Value} {oc : Value} {od an0 : Option Addr} {osl : Array (Option Value)} {nm0 q0 nm1 : Str} {ps0 : Arguments} {st1 st2 : Stmt} {rest : List Stmt} {sc0 : Scope} {dV0 kV0 doc0 pm0 cd0 ct0 : Value} {dl : List PySem.Expr} {rt : Option PySem.Expr} {tps : List TypeParam} {tsc : Option Scope} {bd : Str} {pos1 : Pos}
    (e : (Mine.hdK w.params).lookup 244 = some ⟨oc, od, .func (fnOf nm0 q0 ps0 (st1 :: st2 :: .FunctionDef nm1 params body dl rt tps scope tsc bd pos1 :: rest) sc0 dV0 kV0 doc0 pm0 an0 cd0 ct0), osl⟩)
    (hco : co.data = .cell (some (.ref left))) (h1 : cell < left) (h2 : left < fn) :
    NextDoes w fn left cell cc (fnMade (Str.ofString "_law_next") nextQual params body scope [(Str.ofString "left", cell)] doc pm cc ctv) co := by
  have e' := lookup_is (a := 244) (by k_is) e
  cases e'
  clear e
  intro prog dp un gd frs g s R ys n v Si K O CR hdp hun hsz ret
  refine' enterX (binds := [(Str.ofString "size", v)]) Si K O (O _ (.head _)).1 ?hd CR ?k8 ?k9 ?kB ?_ ?c5 ?c2 ?c3 ?c4
  (case hd => exact rfl)
  (case k8 => (show _ < 1000; omega))
  (case k9 => exact BindsTo.of_eq rfl)
  (case c5 => decide)
  (case kB => exact locs rfl)
  (case c2 => exact rfl)
  (case c3 => exact rfl)
  (case c4 => exact rfl)
  k_whole
  intro g1 L1 h1 hg F1 N1 l1 Si1
  (try k_lt l1)
  have X1 := Site.X Si1
  obtain ⟨p1, loose1, mean1, mg1, mb1, T1⟩ := Site.T Si1
  (try dsimp only)
  cases ys with
  | nil =>
    (repeat' (first | (k_unfold; (try dsimp only)) | walk1 | (dsimp only; first | walk1 | (k_unfold; (try dsimp only)))))
    exact ret _ _ _ _ (stays_of (by assumption) hg) (Owns.of (by assumption) hg)
  | cons y ys =>
    have hsz' : ys.length ≤ 5000 := by rw [List.length_cons] at hsz; omega
    (repeat' (first | (k_unfold; (try dsimp only)) | walk1 | (dsimp only; first | walk1 | (k_unfold; (try dsimp only)))))
    exact ret _ _ _ 0 (stays_of (by assumption) hg) (Owns.of (by assumption) hg)

/-- the table of _law_lexer's inner code -/
def TabIs (tb : List (Addr × Obj)) (cc : Addr) : Prop :=
  ∃ oc vs tk, tb = [(239, tabObj #[rawInt 170, rawInt 4, .ref cc]), (cc, oc)] ∧ oc.data = .fields vs ∧ vs[1]? = some (.str nextQual tk) ∧ @LT.lt Nat _ 239 cc

theorem lex_pack {w : World} {g1 h : Heap} {L1 : Addr} {lx dlx st dst fn cell left pb cc pb2 : Addr} {fo co oc : Obj} {a1 a2 a3 a4 a5 b1 b2 b3 b4 b5 b6 b7 tl : Tok} {ys : List Value} {n n2 : Nat} {tb : Obj}
    (N : News g1 L1 h [(pb, listOf #[] 0), (lx, instObj 85 dlx),
      (dlx, dictOf [{ hash := PyData.keyHash w.params (Str.ofString "lineno"), key := Value.str (Str.ofString "lineno") a1, val := Value.int 1 tl },
     { hash := PyData.keyHash w.params (Str.ofString "instream"), key := Value.str (Str.ofString "instream") a2, val := Value.ref st },
     { hash := PyData.keyHash w.params (Str.ofString "whitespace"), key := Value.str (Str.ofString "whitespace") a3, val := Value.str (Str.ofString "\n\t\x0d ") a4 },
     { hash := PyData.keyHash w.params (Str.ofString "pushback"), key := Value.str (Str.ofString "pushback") a5, val := Value.ref pb }] 4),
      (fn, fo), (cc, oc), (pb2, listOf #[] n2), (st, instObj 85 dst),
      (dst, dictOf [{ hash := PyData.keyHash w.params (Str.ofString "lineno"), key := Value.str (Str.ofString "lineno") b1, val := Value.int 1 b2 },
     { hash := PyData.keyHash w.params (Str.ofString "instream"), key := Value.str (Str.ofString "instream") b3, val := Value.none },
     { hash := PyData.keyHash w.params (Str.ofString "whitespace"), key := Value.str (Str.ofString "whitespace") b4, val := Value.str (Str.ofString "\n\t\x0d ") b5 },
     { hash := PyData.keyHash w.params (Str.ofString "pushback"), key := Value.str (Str.ofString "pushback") b6, val := Value.ref pb2 },
     { hash := PyData.keyHash w.params (Str.ofString "read"), key := Value.str (Str.ofString "read") b7, val := Value.ref fn }] 5),
      (left, listOf (List.toArray ys) n), (cell, co), (239, tb)]) :
    News g1 L1 h (lexObjs w ⟨lx, dlx, st, dst, fn, cell, left, pb, cc, pb2, fo, co, a1, a2, a3, a4, a5, b1, b2, b3, b4, b5, b6, b7⟩ 1 tl ys n [] 0 ++ [(239, tb), (cc, oc)]) :=
  fun p hp => N p (by
    simp only [lexObjs, List.cons_append, List.nil_append, List.mem_cons, List.not_mem_nil, or_false] at hp ⊢
    rcases hp with h | h | h | h | h | h | h | h | h | h <;> simp [h])

theorem lex_pack2 {w : World} {g1 h : Heap} {L1 : Addr} {lx dlx st dst fn cell left pb cc pb2 : Addr} {fo co oc : Obj} {a1 a2 a3 a4 a5 b1 b2 b3 b4 b5 b6 b7 tl : Tok} {ys : List Value} {n n2 : Nat} {tb : Obj}
    (N : News g1 L1 h [(pb, listOf #[] 0), (lx, instObj 85 dlx),
      (dlx, dictOf [{ hash := PyData.keyHash w.params (Str.ofString "lineno"), key := Value.str (Str.ofString "lineno") a1, val := Value.int 1 tl },
     { hash := PyData.keyHash w.params (Str.ofString "instream"), key := Value.str (Str.ofString "instream") a2, val := Value.ref st },
     { hash := PyData.keyHash w.params (Str.ofString "whitespace"), key := Value.str (Str.ofString "whitespace") a3, val := Value.str (Str.ofString "\n\t\x0d ") a4 },
     { hash := PyData.keyHash w.params (Str.ofString "pushback"), key := Value.str (Str.ofString "pushback") a5, val := Value.ref pb }] 4),
      (fn, fo), (pb2, listOf #[] n2), (st, instObj 85 dst),
      (dst, dictOf [{ hash := PyData.keyHash w.params (Str.ofString "lineno"), key := Value.str (Str.ofString "lineno") b1, val := Value.int 1 b2 },
     { hash := PyData.keyHash w.params (Str.ofString "instream"), key := Value.str (Str.ofString "instream") b3, val := Value.none },
     { hash := PyData.keyHash w.params (Str.ofString "whitespace"), key := Value.str (Str.ofString "whitespace") b4, val := Value.str (Str.ofString "\n\t\x0d ") b5 },
     { hash := PyData.keyHash w.params (Str.ofString "pushback"), key := Value.str (Str.ofString "pushback") b6, val := Value.ref pb2 },
     { hash := PyData.keyHash w.params (Str.ofString "read"), key := Value.str (Str.ofString "read") b7, val := Value.ref fn }] 5),
      (left, listOf (List.toArray ys) n), (cell, co), (239, tb), (cc, oc)]) :
    News g1 L1 h (lexObjs w ⟨lx, dlx, st, dst, fn, cell, left, pb, cc, pb2, fo, co, a1, a2, a3, a4, a5, b1, b2, b3, b4, b5, b6, b7⟩ 1 tl ys n [] 0 ++ [(239, tb), (cc, oc)]) :=
  fun p hp => N p (by
    simp only [lexObjs, List.cons_append, List.nil_append, List.mem_cons, List.not_mem_nil, or_false] at hp ⊢
    rcases hp with h | h | h | h | h | h | h | h | h | h <;> simp [h])

section
variable {prog : Program} {w : World} {s : Shared} {g : Heap} {dp un : Nat} {gd : Option (List Code)} {frs : List Env} {R : Result → Shared → Prop}
set_option maxHeartbeats 4000000 in
theorem lexer_walk {t : T} {tx : Tok} (Si : Site w dp un gd frs g) (K : g.StaysIn s.heap) (O : Owns g s.heap [(239, tabObj #[])]) (C : CodeHd g 243 239) (hdp : dp < 900) (hun : un < 9000)
    (hsz : t.length ≤ 1000)
    (ret : ∀ h' tk' z tb tl ys n, g.StaysIn h' → Owns g h' (lexObjs w z 1 tl ys n [] 0 ++ tb) → TabIs tb z.cc → LexOk w z → (∀ p ∈ tb, ∀ q ∈ lexObjs w z 1 tl ys n [] 0, @Ne Nat p.1 q.1) → StrsAre ys ((t.map fun c => [c]).map S) → R (.ok (.ret (.ref z.lx))) { s with heap := h', toks := tk' }) :
    codeAny (model prog w) (top dp un gd frs) (.call (.ref 244) ⟨[.str (S t) tx], []⟩) R s := by
  refine' enterC (binds := [("text", .str (S t) tx)]) ?Si ?S ?O (K_at (Frag.In.keeps (Site.X ?Si) ?S) ?k6) ?hd (codeRec_of (Frag.In.keeps (Site.X ?Si) ?S) ?k7) ?k8 ?k9 ?kB ?kD ?_ ?c2 ?c3 ?c4
  (case Si => assumption)
  (case S => assumption)
  (case O => first | assumption | exact Owns.nil)
  (case k6 => k_is)
  (case hd => exact rfl)
  (case k7 => k_is)
  (case k8 => first | decide | (show _ < 1000; omega))
  (case k9 => first | exact BindsTo.of_eq rfl | exact binds_peek (Frag.In.keeps (Site.X (by assumption)) (by assumption)) (fun _ => by kernel_rfl))
  (case kB => exact rfl)
  (case kD => decide +kernel)
  (case c2 => exact rfl)
  (case c3 => exact rfl)
  (case c4 => exact rfl)
  k_whole
  intro g1 L1 h1 tk1 cells1 hg F1 N1 Y1 l1 Si1
  k_cells Y1
  (try simp only [List.cons_append, List.nil_append] at N1)
  (try k_lt l1)
  (have X1 := Site.X Si1)
  obtain ⟨p1, loose1, mean1, mg1, mb1, T1⟩ := Site.T Si1
  (try dsimp only)
  (try k_fold)
  have C1 := C.keeps hg
  obtain ⟨base, B1⟩ := Si1.B
  (repeat' (first | (k_unfold; (try dsimp only)) | walk1 | (dsimp only; first | walk1 | (k_unfold; (try dsimp only)))))
  rename News _ _ _ _ => kN
  rename Fr _ _ _ _ => kF
  dsimp only at kN
  have P := lex_pack kN
  refine ret _ _ _ _ _ _ _ (stays_of kF hg) (Owns.of P hg) ?tab ?ok ?sep (by assumption)
  case tab => exact ⟨_, _, _, rfl, by assumption, by assumption, by dsimp only; omega⟩
  case ok =>
    refine ⟨?ord, ?does, ⟨_, _, _, _, rfl⟩⟩
    case ord => dsimp only; omega
    case does => exact next_does (by k_is) (by assumption) (by dsimp only; omega) (by dsimp only; omega)
  case sep =>
    dsimp only [lexObjs]
    exact List.forall_mem_cons.mpr ⟨by walk_at "m_apart", List.forall_mem_cons.mpr ⟨by walk_at "m_apart", List.forall_mem_nil _⟩⟩
set_option maxHeartbeats 4000000 in
theorem lexer_walk2 {t : T} {tx : Tok} (Si : Site w dp un gd frs g) (K : g.StaysIn s.heap) {cc : Addr} {tb0 : List (Addr × Obj)} (O0 : Owns g s.heap tb0) (tb0Is : TabIs tb0 cc) (C : CodeHd g 243 239) (hdp : dp < 900) (hun : un < 9000)
    (hsz : t.length ≤ 1000)
    (ret : ∀ h' tk' z tb tl ys n, g.StaysIn h' → Owns g h' (lexObjs w z 1 tl ys n [] 0 ++ tb) → TabIs tb z.cc → LexOk w z → (∀ p ∈ tb, ∀ q ∈ lexObjs w z 1 tl ys n [] 0, @Ne Nat p.1 q.1) → StrsAre ys ((t.map fun c => [c]).map S) → R (.ok (.ret (.ref z.lx))) { s with heap := h', toks := tk' }) :
    codeAny (model prog w) (top dp un gd frs) (.call (.ref 244) ⟨[.str (S t) tx], []⟩) R s := by
  obtain ⟨oc, vsc, tkc, rfl, hoc1, hoc2, hne⟩ := tb0Is
  have O := O0
  clear O0
  refine' enterC (binds := [("text", .str (S t) tx)]) ?Si ?S ?O (K_at (Frag.In.keeps (Site.X ?Si) ?S) ?k6) ?hd (codeRec_of (Frag.In.keeps (Site.X ?Si) ?S) ?k7) ?k8 ?k9 ?kB ?kD ?_ ?c2 ?c3 ?c4
  (case Si => assumption)
  (case S => assumption)
  (case O => first | assumption | exact Owns.nil)
  (case k6 => k_is)
  (case hd => exact rfl)
  (case k7 => k_is)
  (case k8 => first | decide | (show _ < 1000; omega))
  (case k9 => first | exact BindsTo.of_eq rfl | exact binds_peek (Frag.In.keeps (Site.X (by assumption)) (by assumption)) (fun _ => by kernel_rfl))
  (case kB => exact rfl)
  (case kD => decide +kernel)
  (case c2 => exact rfl)
  (case c3 => exact rfl)
  (case c4 => exact rfl)
  k_whole
  intro g1 L1 h1 tk1 cells1 hg F1 N1 Y1 l1 Si1
  k_cells Y1
  (try simp only [List.cons_append, List.nil_append] at N1)
  (try k_lt l1)
  (have X1 := Site.X Si1)
  obtain ⟨p1, loose1, mean1, mg1, mb1, T1⟩ := Site.T Si1
  (try dsimp only)
  (try k_fold)
  have C1 := C.keeps hg
  obtain ⟨base, B1⟩ := Si1.B
  (repeat' (first | (k_unfold; (try dsimp only)) | walk1 | (dsimp only; first | walk1 | (k_unfold; (try dsimp only)))))
  rename News _ _ _ _ => kN
  rename Fr _ _ _ _ => kF
  dsimp only at kN
  have P := lex_pack2 kN
  refine ret _ _ _ _ _ _ _ (stays_of kF hg) (Owns.of P hg) ?tab ?ok ?sep (by assumption)
  case tab => exact ⟨_, _, _, rfl, by assumption, by assumption, by dsimp only; omega⟩
  case ok =>
    refine ⟨?ord, ?does, ⟨_, _, _, _, rfl⟩⟩
    case ord => dsimp only; omega
    case does => exact next_does (by k_is) (by assumption) (by dsimp only; omega) (by dsimp only; omega)
  case sep =>
    dsimp only [lexObjs]
    exact List.forall_mem_cons.mpr ⟨by walk_at "m_apart", List.forall_mem_cons.mpr ⟨by walk_at "m_apart", List.forall_mem_nil _⟩⟩
end
end Mine
end
section
open PySem PySem.W PyProof.Rows PySem.Calls PySem.Spec
set_option maxRecDepth 100000
namespace Mine
theorem lnPush1 : True := by
  k_with_none
  k_with "own_room" => ((show _ < 1000; (try simp only [depth_under_make, depth_under_kw, depth_in1, depth_deeper]); omega))
  k_with "eval Name" => ((k_here; k_dflt (refine' nameX_F ?N ?c ?m ?d ?_ ?a ?b; (case a => rfl); (case b => rfl); (case N => k_asm); (case c => rfl); (case m => k_mem); (case d => k_asm); k_whole)))
  k_with "ite" => (first | (refine ite_pos (by decide +kernel) ?_) | (refine ite_neg (by decide +kernel) ?_))
  k_with "inplaceOp Add str str" => ((refine iadd_empty (by first | assumption | (simp only [S_length]; omega)) ?_; intro tq' tkq'))
  k_with "m_get" => (first | rfl | (with_reducible assumption) | exact if_pos rfl | (refine (if_neg (by decide +kernel)).trans ?_; walk_at "m_get"))
  k_with "m_subs" => (first | exact List.forall_mem_nil _ | (refine List.forall_mem_cons.mpr ⟨by k_dflt k_mem, ?_⟩; walk_at "m_subs"))
  k_with "m_dis" => (first | exact List.forall_mem_nil _ | (refine List.forall_mem_cons.mpr ⟨by k_all, ?_⟩; walk_at "m_dis"))
  k_with "m_list" => (first | (with_reducible assumption) | exact stays_list (Fr.keep (by with_reducible assumption)) (by with_reducible assumption) | exact News.isList (by with_reducible assumption) (by k_mem))
  k_with "m_size" => (first | omega | (simp only [List.size_toArray, List.length_map, List.length_cons, List.length_append, List.length_nil, strsAre_length (by assumption)]; omega))
  k_with "truthy ref" => (((with_reducible show wpAny _ _ (truthy (Value.ref _)) _ _ _); k_dflt (first | (refine truthy_nil (by walk_at "m_list") ?_; intro tkq') | (refine truthy_cons (by walk_at "m_list") (by walk_at "m_size") ?_; intro tkq'))))
  k_with "call type:list" => (((with_reducible show wpAny _ _ (call (Value.type _) [Value.str _ _]) _ _ _); refine list_str_K rfl (by k_asm) (by k_asm) (by assumption) ?_; intro Dq' ysq' nq' hq' tkq' Fq' Nq' hSq' l1q; k_lt l1q; (try k_sweep)))
  k_with "call builtin:list.pop" => (((with_reducible show wpAny _ _ (call (Value.builtin _) [Value.ref _, Value.int 0 _]) _ _ _); k_dflt (refine' pop0_K ?F ?N ?U ?z ?_; (case F => k_asm); (case N => k_asm); (case U => k_upd); (case z => walk_at "m_size"); intro hq' Fq' Nq'; (try dsimp only [List.nil_append, List.cons_append] at Nq'); (try k_sweep))))
  trivial
section
variable {prog : Program} {w : World} {s : Shared} {g : Heap} {dp un : Nat} {gd : Option (List Code)} {frs : List Env} {R : Result → Shared → Prop}
set_option maxHeartbeats 4000000 in
theorem push_walk {z : LexZ} {ln : Int} {tl : Tok} {ys : List Value} {n : Nat} {v : Value} {k : Nat} (ok : LexOk w z) (Si : Site w dp un gd frs g) (K : g.StaysIn s.heap)
    (O : Owns g s.heap (lexObjs w z ln tl ys n [] k)) (hdp : dp < 870) (hun : un < 8700)
    (ret : ∀ h' tk' ln' tl' n' k', g.StaysIn h' → Owns g h' (lexObjs w z ln' tl' ys n' [v] k') → R (.ok (.ret .none)) { s with heap := h', toks := tk' }) :
    codeAny (model prog w) (top dp un gd frs) (.call (.ref 82) ⟨[.ref z.lx, v], []⟩) R s := by
  refine' enterX (cl := []) (binds := [("self", .ref z.lx), ("token", v)]) ?Si ?S ?O (K_at (Frag.In.keeps (Site.X ?Si) ?S) ?k6) ?hd (codeRec_of (Frag.In.keeps (Site.X ?Si) ?S) ?k7) ?k8 ?k9 ?kB ?_ ?c5 ?c2 ?c3 ?c4
  (case Si => assumption)
  (case S => assumption)
  (case O => assumption)
  (case k6 => k_is)
  (case hd => exact rfl)
  (case k7 => k_is)
  (case k8 => first | decide | (show _ < 1000; omega))
  (case k9 => first | exact BindsTo.of_eq rfl | exact binds_peek (Frag.In.keeps (Site.X (by assumption)) (by assumption)) (fun _ => by kernel_rfl))
  (case c5 => decide)
  (case kB => exact locs rfl)
  (case c2 => exact rfl)
  (case c3 => exact rfl)
  (case c4 => exact rfl)
  k_whole
  intro g1 L1 h1 hg F1 N1 l1 Si1
  (try k_lt l1)
  (have X1 := Site.X Si1)
  obtain ⟨p1, loose1, mean1, mg1, mb1, T1⟩ := Site.T Si1
  obtain ⟨base1, B1⟩ := Site.B Si1
  (try dsimp only)
  (try k_fold)
  have ord := ok.ord
  (repeat' (first | (k_unfold; (try dsimp only)) | walk1 | (dsimp only; first | walk1 | (k_unfold; (try dsimp only)))))
  (rename News _ _ _ _ => kN; rename Fr _ _ _ _ => kF; exact ret _ _ _ _ _ _ (stays_of kF hg) ((Owns.of kN hg).sub (by walk_at "m_subs")))
end
end Mine
end
section
open PySem PySem.W PyProof.Rows PySem.Calls PySem.Spec
set_option maxRecDepth 100000
namespace Mine
theorem slot_ci_next : Slot "callable_iterator" "__next__" "callable_iterator.__next__" :=
  .of (owner := "callable_iterator") (n := "__next__") (by rw [typeLookup_type, builtinLookup_eq_fast]; kernel_rfl) (by decide +kernel) (by decide +kernel) (by decide +kernel)
    (by first | exact .inl (by decide +kernel) | exact .inr (by decide +kernel)) (by rw [isSubtype_type]; kernel_rfl)
theorem slot_ci_iter : Slot "callable_iterator" "__iter__" "callable_iterator.__iter__" :=
  .of (owner := "callable_iterator") (n := "__iter__") (by rw [typeLookup_type, builtinLookup_eq_fast]; kernel_rfl) (by decide +kernel) (by decide +kernel) (by decide +kernel)
    (by first | exact .inl (by decide +kernel) | exact .inr (by decide +kernel)) (by rw [isSubtype_type]; kernel_rfl)
theorem entry_ci_next : entryFor table "callable_iterator.__next__" = some Builtin.«callable_iterator.__next__» := entryFor_of_fast (by kernel_rfl)
theorem entry_ci_iter : entryFor table "callable_iterator.__iter__" = some Builtin.«dict_keyiterator.__iter__» :=
  entryFor_alias (id' := "dict_keyiterator.__iter__") (by kernel_rfl) rfl (by decide +kernel) (by kernel_rfl)
theorem args_ci_next (a : Value) : argsOk "callable_iterator.__next__" ⟨[a], []⟩ := by unfold argsOk; kernel_rfl
theorem args_ci_iter (a : Value) : argsOk "callable_iterator.__iter__" ⟨[a], []⟩ := by unfold argsOk; kernel_rfl
theorem args_iter2 (a b : Value) : argsOk "iter" ⟨[a, b], []⟩ := by unfold argsOk; kernel_rfl
theorem lookup_method_call : typeLookup (.type "method") "__call__" = pure (some (.builtin "method.__call__")) := by rw [typeLookup_type, builtinLookup_eq_fast]; kernel_rfl

abbrev ciObj (f sent : Value) (b : Bool) : Obj := { cls := .type "callable_iterator", data := .fields #[f, sent, .bool b] }
section
variable {prog : Program} {w : World} {A : Around} {E : Value → Shared → Prop} {s : Shared} {h₀ : Heap} {L : Addr} {m : Str → Option Value} {news : List (Addr × Obj)}

theorem iter_sentinel {q : Addr} {f self sent : Value} {Q : Value → Shared → Prop} (F : Fr h₀ L s.heap m) (N : News h₀ L s.heap news) (hq : (q, methodObj f self) ∈ news)
    (h : ∀ I h', Fr h₀ L h' m → News h₀ L h' ((I, ciObj (.ref q) sent false) :: news) → (∀ p ∈ news, p.1 < I) → Q (.ref I) { s with heap := h' }) :
    wpAny (model prog w) A (call (.builtin "iter") [.ref q, sent]) Q E s := by
  refine call_function_entry (by decide +kernel) (by decide +kernel) kdk_entry_iter (args_iter2 _ _) ?_
  unfold Builtin.«iter»
  refine wpAny_bind (m := someArgs "iter" 1 2 _) (wpAny_of_eq (a := [Value.ref q, sent]) (by first | rfl | kernel_rfl!) ?_)
  dsimp only
  refine wpAny_bind (wpAny_specialOf (T := "method") ⟨_, (N _ hq).1, rfl⟩ lookup_method_call ?_)
  rw [if_neg (by simp)]
  refine wpAny_bind (wpAny_rule (wpAny_bind ?_))
  exact wpAny_newObj_type (wpAny_pure ⟨_, rfl, h _ _ (F.push _) (News.push F N _ rfl) (fun p hp => Heap.lt_size (N p hp).1)⟩)

theorem pyIter_ci {I : Addr} {f sent : Value} {b : Bool} {Q : Value → Shared → Prop} (N : News h₀ L s.heap news) (hI : (I, ciObj f sent b) ∈ news) (h : Q (.ref I) s) :
    wpAny (model prog w) A (pyIter (.ref I)) Q E s := by
  have hT : s.TypeIs (.ref I) "callable_iterator" := ⟨_, (N _ hI).1, rfl⟩
  refine wpAny_pyIter_slot hT slot_ci_iter (wpAny_call_entry slot_ci_iter hT entry_ci_iter ?_ (args_ci_iter _))
  show wpAny _ _ (ret (.ref I)) _ _ s
  exact wpAny_pure ⟨_, rfl, "callable_iterator", _, hT, slot_ci_next.lookup, h⟩

theorem wpAny_callBorrowed {M : Model} {f : Value} {pos : List Value} {Q : Value → Shared → Prop}
    (hc : codeAny M A (.call f ⟨pos, []⟩) (fun r s' => match r with | .ok (.ret v) => Q v s' | .ok _ => False | .error e => E e s') s) : wpAny M A (callBorrowed f pos) Q E s := fun Γ p hΓ => by
  have q := wpAny_call hc Γ p hΓ
  rw [Sem.wp_cmd_call] at q
  unfold callBorrowed
  rw [Sem.wp_call]
  refine wpCode_mono (fun r s' h => ?_) q
  cases r with
  | error e => exact h
  | ok f => cases f <;> exact h

theorem borrows_method {q fn : Addr} {self : Value} {Q : Bool → Shared → Prop} {M : Model} (hq : s.heap.get? q = some (methodObj (.ref fn) self)) (hf : FnAt fn s.heap) (h : Q true s) : wpAny M A (borrowsExactly (.ref q)) Q E s := by
  obtain ⟨oc, od, fd, sl, e⟩ := hf
  unfold borrowsExactly
  refine wpAny_bind (wpAny_load hq ?_)
  dsimp only
  rw [if_pos (by decide)]
  refine wpAny_bind (wpAny_load e ?_)
  exact wpAny_pure h
def CiPost (I q fn : Addr) (self : Value) (t : Tok) (Q : Option Value → Shared → Prop) (r : Result) (s' : Shared) : Prop := match r with
  | .ok (.ret v) => s'.heap.get? I = some (ciObj (.ref q) (.str (Str.ofString "") t) false) ∧ s'.heap.get? q = some (methodObj (.ref fn) self) ∧ FnAt fn s'.heap ∧
      ∃ x tx, v = .str x tx ∧ (x ≠ Str.ofString "" → Q (some v) s') ∧ (x = Str.ofString "" → ∀ h', Heap.ExtBut I s'.heap h' → Q none { s' with heap := h' })
  | _ => False

theorem pyNext_ci {I q fn : Addr} {self : Value} {t : Tok} {Q : Option Value → Shared → Prop} (hh : A.handled = none) (hI : s.heap.get? I = some (ciObj (.ref q) (.str (Str.ofString "") t) false)) (hq : s.heap.get? q = some (methodObj (.ref fn) self)) (hf : FnAt fn s.heap)
    (h : codeAny (model prog w) A.in1 (.call (.ref fn) ⟨[self], []⟩) (CiPost I q fn self t Q) s) : wpAny (model prog w) A (pyNext (.ref I)) Q E s := by
  have hT : s.TypeIs (.ref I) "callable_iterator" := ⟨_, hI, rfl⟩
  unfold pyNext
  refine wpAny_bind (wpAny_attempt (wpAny_callSpecial?_slot (name := Str.ofString "__next__") hT slot_ci_next
    (wpAny_call_entry slot_ci_next hT entry_ci_next ?_ (args_ci_next _))))
  refine wpAny_bind (wpAny_pure ?_)
  refine wpAny_bind (wpAny_field hI rfl (x := .bool false) rfl ?_)
  show wpAny _ _ (if (Value.bool false == Value.bool true) = true then _ else _) _ _ s
  rw [if_neg (show ¬ ((Value.bool false == Value.bool true) = true) from Bool.false_ne_true)]
  refine wpAny_bind (wpAny_field hI rfl (x := .ref q) rfl ?_)
  refine wpAny_bind (wpAny_attempt ?_)
  unfold callOutOfASlot
  refine wpAny_bind (borrows_method hq hf ?_)
  rw [if_pos rfl]
  refine wpAny_callBorrowed (method_call hq (codeAny_mono h (fun r s' hp => ?_)))
  cases r with
  | error e => exact hp.elim
  | ok f =>
    cases f with
    | ret v =>
      obtain ⟨hI', hq', hf', x, tx, rfl, h1, h2⟩ := hp
      dsimp only
      refine wpAny_bind (wpAny_field hI' rfl (x := .bool false) rfl ?_)
      show wpAny _ _ (if (Value.bool false == Value.bool true) = true then _ else _) _ _ s'
      rw [if_neg (show ¬ ((Value.bool false == Value.bool true) = true) from Bool.false_ne_true)]
      refine wpAny_bind (wpAny_field hI' rfl (x := .str (Str.ofString "") t) rfl ?_)
      refine wpAny_bind (wpAny_holding (eqBool_str ?_))
      by_cases hx : x = Str.ofString ""
      · have e : (Str.ofString "" == x) = true := by rw [hx]; exact beq_self_eq_true _
        rw [e]
        rw [if_neg (show ¬ (!true) = true by decide)]
        refine wpAny_bind (wpAny_rule ?_)
        refine wpAny_bind ?_
        refine wpAny_bind (wpAny_field hI' rfl (x := .ref q) rfl ?_)
        refine wpAny_bind (m := slotLetsGo _ _ _) ?_
        unfold slotLetsGo
        refine wpAny_bind (borrows_method hq' hf' ?_)
        rw [if_pos rfl]
        refine wpAny_pure ?_
        refine wpAny_bind (wpAny_setField_rec (cls := .type "callable_iterator") (vs := #[.ref q, .str (Str.ofString "") t, .bool false]) hI' (by simp) fun g1 k1 b1 => ?_)
        refine wpAny_bind (wpAny_setField_rec k1 (by simp) fun g2 k2 b2 => ?_)
        refine wpAny_setField_rec k2 (by simp) fun g3 k3 b3 => ?_
        have sb := (b1.trans b2).trans b3
        show wpAny _ _ (newExc (.type "StopIteration") [] >>= _) _ _ _
        refine wpAny_bind ?_
        simp only [newExc, newTuple]
        refine wpAny_bind (wpAny_newObj_type ?_ (by size_fits))
        refine wpAny_bind (m := firstArgMember _ _) (wpAny_of_eq (a := Value.none) (by first | rfl | (simp only [firstArgMember]; rfl)) ?_)
        refine wpAny_newObj_type ?_ (by size_fits)
        simp only [raiseNew]
        refine wpAny_bind (wpAny_handled ?_)
        rw [show A.in1.handled = none from hh]
        refine wpAny_bind (wpAny_pure (wpAny_throw ?_))
        refine wpAny_bind (wpAny_isInstance (T := "StopIteration") (b := true) ⟨_, Heap.get?_push_size _ rfl, rfl⟩ isSubtype_stop ?_)
        exact wpAny_pure (h2 hx _ ((sb.extBut.push _).push _))
      · have e : (Str.ofString "" == x) = false := by
          cases q : (Str.ofString "" == x) with
          | false => rfl
          | true => exact absurd (eq_of_beq q).symm hx
        rw [e]
        rw [if_pos (show (!false) = true from rfl)]
        exact wpAny_pure ⟨_, rfl, wpAny_pure (h1 hx)⟩
    | _ => exact hp.elim
end
end Mine
end
section
open PySem PySem.W PyProof.Rows PySem.Calls PySem.Spec
set_option maxRecDepth 100000
namespace Mine
theorem lnRc1 : True := by
  k_with_none
  k_with "own_room" => ((show _ < 1000; (try simp only [depth_under_make, depth_under_kw, depth_in1, depth_deeper]); omega))
  k_with "eval Name" => ((k_here; k_dflt (refine' nameX_F ?N ?c ?m ?d ?_ ?a ?b; (case a => rfl); (case b => rfl); (case N => k_asm); (case c => rfl); (case m => k_mem); (case d => k_asm); k_whole)))
  k_with "ite" => (first | (refine ite_pos (by decide +kernel) ?_) | (refine ite_neg (by decide +kernel) ?_))
  k_with "inplaceOp Add str str" => ((refine iadd_empty (by first | assumption | (simp only [S_length]; omega)) ?_; intro tq' tkq'))
  k_with "m_get" => (first | rfl | (with_reducible assumption) | exact if_pos rfl | (refine (if_neg (by decide +kernel)).trans ?_; walk_at "m_get"))
  k_with "m_subs" => (first | exact List.forall_mem_nil _ | (refine List.forall_mem_cons.mpr ⟨by k_dflt k_mem, ?_⟩; walk_at "m_subs"))
  k_with "m_dis" => (first | exact List.forall_mem_nil _ | (refine List.forall_mem_cons.mpr ⟨by k_all, ?_⟩; walk_at "m_dis"))
  k_with "m_list" => (first | (with_reducible assumption) | exact stays_list (Fr.keep (by with_reducible assumption)) (by with_reducible assumption) | exact News.isList (by with_reducible assumption) (by k_mem))
  k_with "m_size" => (first | omega | (simp only [List.size_toArray, List.length_map, List.length_cons, List.length_append, List.length_nil, strsAre_length (by assumption)]; omega))
  k_with "truthy ref" => (((with_reducible show wpAny _ _ (truthy (Value.ref _)) _ _ _); k_dflt (first | (refine truthy_nil (by walk_at "m_list") ?_; intro tkq') | (refine truthy_cons (by walk_at "m_list") (by walk_at "m_size") ?_; intro tkq'))))
  k_with "call type:list" => (((with_reducible show wpAny _ _ (call (Value.type _) [Value.str _ _]) _ _ _); refine list_str_K rfl (by k_asm) (by k_asm) (by assumption) ?_; intro Dq' ysq' nq' hq' tkq' Fq' Nq' hSq' l1q; k_lt l1q; (try k_sweep)))
  k_with "call builtin:list.pop" => (((with_reducible show wpAny _ _ (call (Value.builtin _) [Value.ref _, Value.int 0 _]) _ _ _); k_dflt (refine' pop0_K ?F ?N ?U ?z ?_; (case F => k_asm); (case N => k_asm); (case U => k_upd); (case z => walk_at "m_size"); intro hq' Fq' Nq'; (try dsimp only [List.nil_append, List.cons_append] at Nq'); (try k_sweep))))
  trivial
theorem fnAt_of {h₀ h : Heap} {L q : Addr} {fo : Obj} {news : List (Addr × Obj)} (N : News h₀ L h news) (hm : (q, fo) ∈ news) (e : ∃ od fd sl oc, fo = ⟨oc, od, .func fd, sl⟩) : FnAt q h := by
  obtain ⟨od, fd, sl, oc, rfl⟩ := e
  exact ⟨oc, od, fd, sl, (N _ hm).1⟩
theorem lnRc2 : True := by
  k_with "FnAt" => ((k_dflt (exact fnAt_of (by k_asm) (by k_mem) (by with_reducible assumption))))
  k_with "callWith ref" => ((k_here; k_dflt (first | (refine' callWith_F ?k1 ?_; (case k1 => exact fnAt_of (by k_asm) (by k_mem) (by with_reducible assumption)); k_whole) | (refine' callWith_F0 ?k1 ?_; (case k1 => exact fnAt_of (by k_asm) (by k_mem) (by with_reducible assumption)); k_whole; try dsimp only [List.nil_append, List.cons_append]))))
  k_with "call ref" => (((with_reducible show wpAny _ _ (call (Value.ref (LexZ.fn _)) _) _ _ _); refine stop_of ?_))
  trivial
section
variable {prog : Program} {w : World} {s : Shared} {g : Heap} {dp un : Nat} {gd : Option (List Code)} {frs : List Env} {R : Result → Shared → Prop}
set_option maxHeartbeats 4000000 in
theorem read_walk {z : LexZ} {ln : Int} {tl : Tok} {ys : List Value} {n : Nat} {ps : List Value} {k : Nat} (ok : LexOk w z) (Si : Site w dp un gd frs g) (K : g.StaysIn s.heap)
    (O : Owns g s.heap (lexObjs w z ln tl ys n ps k)) (CR : g.CodeRec (.ref z.cc) nextQual) (hdp : dp < 890) (hun : un < 8900) (hsz : ys.length ≤ 5000) (hst : ∀ v ∈ ys, ∃ x t, v = .str x t)
    (ret : ∀ h' tk' ln' tl' n' t, g.StaysIn h' → Owns g h' (lexObjs w z ln' tl' ys.tail n' ps k) → R (.ok (.ret (ys.headD (.str (Str.ofString "") t)))) { s with heap := h', toks := tk' }) :
    codeAny (model prog w) (top dp un gd frs) (.call (.ref 68) ⟨[.ref z.lx], []⟩) R s := by
  refine' enterX (cl := []) (binds := [("self", .ref z.lx)]) ?Si ?S ?O (K_at (Frag.In.keeps (Site.X ?Si) ?S) ?k6) ?hd (codeRec_of (Frag.In.keeps (Site.X ?Si) ?S) ?k7) ?k8 ?k9 ?kB ?_ ?c5 ?c2 ?c3 ?c4
  (case Si => assumption)
  (case S => assumption)
  (case O => assumption)
  (case k6 => k_is)
  (case hd => exact rfl)
  (case k7 => k_is)
  (case k8 => first | decide | (show _ < 1000; omega))
  (case k9 => first | exact BindsTo.of_eq rfl | exact binds_peek (Frag.In.keeps (Site.X (by assumption)) (by assumption)) (fun _ => by kernel_rfl))
  (case c5 => decide)
  (case kB => exact locs rfl)
  (case c2 => exact rfl)
  (case c3 => exact rfl)
  (case c4 => exact rfl)
  k_whole
  intro g1 L1 h1 hg F1 N1 l1 Si1
  (try k_lt l1)
  (have X1 := Site.X Si1)
  obtain ⟨p1, loose1, mean1, mg1, mb1, T1⟩ := Site.T Si1
  obtain ⟨base1, B1⟩ := Site.B Si1
  (try dsimp only)
  (try k_fold)
  have ord := ok.ord
  have isFn := ok.isFn
  (repeat' (first | (k_unfold; (try dsimp only)) | walk1 | (dsimp only; first | walk1 | (k_unfold; (try dsimp only)))))
  show wpAny _ _ _ _ _ _
  refine call_at (own := [(z.fn, z.fo), (z.left, listOf (List.toArray ys) n), (z.cell, z.co)])
    (rest := [(z.pb, listOf (List.toArray ps) k), (z.lx, instObj 85 z.dlx), (z.dlx, _), (z.st, instObj 85 z.dst), (z.dst, _)])
    Si1 (by with_reducible assumption) (by with_reducible assumption) (by walk_at "m_subs") (by walk_at "m_subs") (by walk_at "m_dis") rfl rfl ?_
  intro g2 S2 K2 O2 G2 P2 back
  refine (ok.does _ _ _ _ _ _ _ _ ys n _ S2 K2 O2 (CR.keeps (stays_of (by with_reducible assumption) hg)) (by omega) (by omega) hsz ?_)
  intro h2 tk2 n2 t2 k2 o2
  obtain ⟨F2, N2, D2⟩ := back _ _ k2 o2
  simp only [List.cons_append, List.nil_append] at N2
  dsimp only
  cases ys with
  | nil =>
    dsimp only [List.headD_nil, List.tail_nil] at *
    (repeat' (first | (k_unfold; (try dsimp only)) | walk1 | (dsimp only; first | walk1 | (k_unfold; (try dsimp only)))))
    (all_goals (rename News _ _ _ _ => kN; rename Fr _ _ _ _ => kF; first | exact ret _ _ _ _ _ _ (stays_of kF hg) ((Owns.of kN hg).sub (by walk_at "m_subs")) | exact ret _ _ _ _ _ 0 (stays_of kF hg) ((Owns.of kN hg).sub (by walk_at "m_subs"))))
  | cons y ys =>
    obtain ⟨x, tx, rfl⟩ := hst _ (.head _)
    dsimp only [List.headD_cons, List.tail_cons] at *
    (repeat' (first | (k_unfold; (try dsimp only)) | walk1 | (dsimp only; first | walk1 | (k_unfold; (try dsimp only)))))
    (all_goals (rename News _ _ _ _ => kN; rename Fr _ _ _ _ => kF; first | exact ret _ _ _ _ _ _ (stays_of kF hg) ((Owns.of kN hg).sub (by walk_at "m_subs")) | exact ret _ _ _ _ _ 0 (stays_of kF hg) ((Owns.of kN hg).sub (by walk_at "m_subs"))))
end
end Mine
end
section
open PySem PySem.W PyProof.Rows PySem.Calls PySem.Spec
set_option maxRecDepth 100000
namespace Mine
theorem fnAt_read {w : World} {h : Heap} (X : (Mine.hdK w.params).In h) : FnAt 68 h := ⟨_, _, _, _, K_at X (by k_is)⟩
section
variable {prog : Program} {w : World} {s : Shared} {g : Heap} {dp un : Nat} {gd : Option (List Code)} {frs : List Env} {E : Value → Shared → Prop}
theorem lex_next {z : LexZ} {ln : Int} {tl : Tok} {ys : List Value} {n : Nat} {ps : List Value} {k : Nat} {L I q : Addr} {m : Str → Option Value} {env : Env} {t : Tok} {Q : Option Value → Shared → Prop} (ok : LexOk w z) (Si : Site w dp un gd frs g)
    (F : Fr g L s.heap m) (N : News g L s.heap ((I, ciObj (.ref q) (.str (Str.ofString "") t) false) :: (q, methodObj (.ref 68) (.ref z.lx)) :: lexObjs w z ln tl ys n ps k))
    (d1 : @Ne Nat I q) (d2 : ∀ p ∈ lexObjs w z ln tl ys n ps k, @Ne Nat p.1 I) (d3 : ∀ p ∈ lexObjs w z ln tl ys n ps k, @Ne Nat p.1 q) (CR : g.CodeRec (.ref z.cc) nextQual) (hdp : dp < 880) (hun : un < 8800) (hsz : ys.length ≤ 5000)
    (hst : ∀ v ∈ ys, ∃ x t, v = .str x t ∧ x ≠ Str.ofString "") (hf : env.frame = some L) (hke : env.scope.kind = .function)
    (item : ∀ h' tk ln' tl' n' x tx ys', ys = .str x tx :: ys' → Fr g L h' m → News g L h' ((I, ciObj (.ref q) (.str (Str.ofString "") t) false) :: (q, methodObj (.ref 68) (.ref z.lx)) :: lexObjs w z ln' tl' ys' n' ps k) → Q (some (.str x tx)) { s with heap := h', toks := tk })
    (fin : ys = [] → ∀ h' tk ln' tl' n', Fr g L h' m → News g L h' (lexObjs w z ln' tl' [] n' ps k) → Q none { s with heap := h', toks := tk }) :
    wpAny (model prog w) (top (dp + 1) (un + 3) gd (env :: frs)) (pyNext (.ref I)) Q E s := by
  have hI := (N _ (.head _)).1
  have hq := (N _ (.tail _ (.head _))).1
  have mem1 : ∀ p ∈ [(I, ciObj (.ref q) (.str (Str.ofString "") t) false), (q, methodObj (.ref 68) (.ref z.lx))], p ∈ ((I, ciObj (.ref q) (.str (Str.ofString "") t) false) :: (q, methodObj (.ref 68) (.ref z.lx)) :: lexObjs w z ln tl ys n ps k) := fun p hp => by
    rcases List.mem_cons.mp hp with rfl | hp
    · exact .head _
    · rcases List.mem_cons.mp hp with rfl | hp
      · exact .tail _ (.head _)
      · cases hp
  refine pyNext_ci rfl hI hq (fnAt_read (Si.X.keeps F.keep)) ?_
  obtain ⟨g', a, b, c, d, e, back⟩ := call_own (own := lexObjs w z ln tl ys n ps k) (rest := [(I, ciObj (.ref q) (.str (Str.ofString "") t) false), (q, methodObj (.ref 68) (.ref z.lx))]) Si F N (fun p hp => .tail _ (.tail _ hp)) mem1
    (fun p hp r hr => by
      rcases List.mem_cons.mp hp with rfl | hp
      · exact (d2 r hr).symm
      · rcases List.mem_cons.mp hp with rfl | hp
        · exact (d3 r hr).symm
        · cases hp) hf hke
  refine read_walk (dp := dp + 1) (un := un + 4) (gd := gd) (frs := env :: frs) ok a.re b c (CR.keeps d) (by omega) (by omega) hsz (fun v hv => let ⟨x, t, e, _⟩ := hst v hv; ⟨x, t, e⟩) ?_
  intro h' tk' ln' tl' n' t' k' O'
  obtain ⟨F2, N2, D2⟩ := back _ _ k' O'
  have N3 : News g L h' ((I, ciObj (.ref q) (.str (Str.ofString "") t) false) :: (q, methodObj (.ref 68) (.ref z.lx)) :: lexObjs w z ln' tl' ys.tail n' ps k) := fun p hp => N2 p (by
    rcases List.mem_cons.mp hp with rfl | hp
    · exact List.mem_append_right _ (.head _)
    · rcases List.mem_cons.mp hp with rfl | hp
      · exact List.mem_append_right _ (.tail _ (.head _))
      · exact List.mem_append_left _ hp)
  refine ⟨(N3 _ (.head _)).1, (N3 _ (.tail _ (.head _))).1, fnAt_read (Si.X.keeps F2.keep), ?_⟩
  cases ys with
  | nil =>
    refine ⟨_, _, rfl, fun h => absurd rfl h, fun _ h2 eb => fin rfl _ _ ln' tl' n' ?_ ?_⟩
    · obtain ⟨oL, es, ep, hL, r⟩ := F2.ns
      have hn := N3 _ (.head _)
      exact ⟨⟨oL, es, ep, eb _ _ (Ne.symm hn.2.1) hL, r⟩, fun x o e => eb _ _ (fun q => by have := hn.2.2; rw [← q, e] at this; cases this) (F2.keep x o e), F2.above⟩
    · intro p hp
      have := N3 p (.tail _ (.tail _ hp))
      exact ⟨eb _ _ (D2 p hp _ (.head _)) this.1, this.2⟩
  | cons y ys =>
    obtain ⟨x, tx, rfl, hx⟩ := hst _ (.head _)
    exact ⟨x, tx, rfl, fun _ => item _ _ _ _ _ _ _ _ rfl F2 N3, fun h => absurd h hx⟩
theorem lex_read {z : LexZ} {ln : Int} {tl : Tok} {ys : List Value} {n : Nat} {ps : List Value} {k : Nat} {L : Addr} {a b : Addr × Obj} {m : Str → Option Value} {env : Env} {Q : Value → Shared → Prop} (ok : LexOk w z) (Si : Site w dp un gd frs g)
    (F : Fr g L s.heap m) (N : News g L s.heap (a :: b :: lexObjs w z ln tl ys n ps k))
    (d2 : ∀ p ∈ lexObjs w z ln tl ys n ps k, @Ne Nat p.1 a.1) (d3 : ∀ p ∈ lexObjs w z ln tl ys n ps k, @Ne Nat p.1 b.1) (CR : g.CodeRec (.ref z.cc) nextQual) (hdp : dp < 880) (hun : un < 8800) (hsz : ys.length ≤ 5000)
    (hst : ∀ v ∈ ys, ∃ x t, v = .str x t ∧ x ≠ Str.ofString "") (hf : env.frame = some L) (hke : env.scope.kind = .function)
    (h : ∀ h' tk ln' tl' n' t, Fr g L h' m → News g L h' (a :: b :: lexObjs w z ln' tl' ys.tail n' ps k) → Q (ys.headD (.str (Str.ofString "") t)) { s with heap := h', toks := tk }) :
    wpAny (model prog w) (top (dp + 1) (un + 3) gd (env :: frs)) (call (.ref 68) [.ref z.lx]) Q E s := by
  obtain ⟨g', sa, sb, sc, sd, se, back⟩ := call_own (own := lexObjs w z ln tl ys n ps k) (rest := [a, b]) Si F N (fun p hp => .tail _ (.tail _ hp)) (fun p hp => by
    rcases List.mem_cons.mp hp with rfl | hp
    · exact .head _
    · rcases List.mem_cons.mp hp with rfl | hp
      · exact .tail _ (.head _)
      · cases hp)
    (fun p hp r hr => by
      rcases List.mem_cons.mp hp with rfl | hp
      · exact (d2 r hr).symm
      · rcases List.mem_cons.mp hp with rfl | hp
        · exact (d3 r hr).symm
        · cases hp) hf hke
  refine wpAny_call (read_walk ok sa sb sc (CR.keeps sd) (by omega) (by omega) hsz (fun v hv => let ⟨x, t, e, _⟩ := hst v hv; ⟨x, t, e⟩) ?_)
  intro h' tk' ln' tl' n' t' k' O'
  obtain ⟨F2, N2, D2⟩ := back _ _ k' O'
  exact h _ _ ln' tl' n' t' F2 fun p hp => N2 p (by
    rcases List.mem_cons.mp hp with rfl | hp
    · exact List.mem_append_right _ (.head _)
    · rcases List.mem_cons.mp hp with rfl | hp
      · exact List.mem_append_right _ (.tail _ (.head _))
      · exact List.mem_append_left _ hp)
end
end Mine
end
section
open PySem PySem.W PyProof.Rows PySem.Calls PySem.Spec
set_option maxRecDepth 100000
namespace Mine
theorem lnTok1 : True := by
  k_with_none
  k_with "own_room" => ((show _ < 1000; (try simp only [depth_under_make, depth_under_kw, depth_in1, depth_deeper]); omega))
  k_with "eval Name" => ((k_here; k_dflt (refine' nameX_F ?N ?c ?m ?d ?_ ?a ?b; (case a => rfl); (case b => rfl); (case N => k_asm); (case c => rfl); (case m => k_mem); (case d => k_asm); k_whole)))
  k_with "ite" => (first | (refine ite_pos (by decide +kernel) ?_) | (refine ite_neg (by decide +kernel) ?_))
  k_with "inplaceOp Add str str" => ((refine iadd_empty (by first | assumption | (simp only [S_length]; omega)) ?_; intro tq' tkq'))
  k_with "m_get" => (first | rfl | (with_reducible assumption) | exact if_pos rfl | (refine (if_neg (by decide +kernel)).trans ?_; walk_at "m_get"))
  k_with "m_subs" => (first | exact List.forall_mem_nil _ | (refine List.forall_mem_cons.mpr ⟨by k_dflt k_mem, ?_⟩; walk_at "m_subs"))
  k_with "m_dis" => (first | exact List.forall_mem_nil _ | (refine List.forall_mem_cons.mpr ⟨by k_all, ?_⟩; walk_at "m_dis"))
  k_with "m_list" => (first | (with_reducible assumption) | exact stays_list (Fr.keep (by with_reducible assumption)) (by with_reducible assumption) | exact News.isList (by with_reducible assumption) (by k_mem))
  k_with "m_size" => (first | omega | (simp only [List.size_toArray, List.length_map, List.length_cons, List.length_append, List.length_nil, strsAre_length (by assumption)]; omega))
  k_with "truthy ref" => (((with_reducible show wpAny _ _ (truthy (Value.ref _)) _ _ _); k_dflt (first | (refine truthy_nil (by walk_at "m_list") ?_; intro tkq') | (refine truthy_cons (by walk_at "m_list") (by walk_at "m_size") ?_; intro tkq'))))
  k_with "call type:list" => (((with_reducible show wpAny _ _ (call (Value.type _) [Value.str _ _]) _ _ _); refine list_str_K rfl (by k_asm) (by k_asm) (by assumption) ?_; intro Dq' ysq' nq' hq' tkq' Fq' Nq' hSq' l1q; k_lt l1q; (try k_sweep)))
  k_with "call builtin:list.pop" => (((with_reducible show wpAny _ _ (call (Value.builtin _) [Value.ref _, Value.int 0 _]) _ _ _); k_dflt (refine' pop0_K ?F ?N ?U ?z ?_; (case F => k_asm); (case N => k_asm); (case U => k_upd); (case z => walk_at "m_size"); intro hq' Fq' Nq'; (try dsimp only [List.nil_append, List.cons_append] at Nq'); (try k_sweep))))
  k_with "call ref" => (((with_reducible show wpAny _ _ (call (Value.ref 68) _) _ _ _); refine stop_of ?_))
  k_with "exec For Name Name cons nil" => ((k_dflt (refine owit_for ?_ (hE := PassesOwn.never))))
  k_with "pyIter ref" => ((k_dflt (refine pyIter_ci (by k_asm) (by k_mem) ?_); refine OwitAt.intro (OwitRest.succ ?_); refine stop_of ?_))
  k_with "call builtin:iter" => ((k_dflt (refine iter_sentinel (by k_asm) (by k_asm) (by k_mem) ?_); intro Iq' hq' Fq' Nq' lIq; k_lt lIq))
  trivial
section
variable {prog : Program} {w : World} {s : Shared} {g : Heap} {dp un : Nat} {gd : Option (List Code)} {frs : List Env} {R : Result → Shared → Prop}
set_option maxHeartbeats 4000000 in
theorem tok_push {z : LexZ} {ln : Int} {tl : Tok} {ys : List Value} {n : Nat} {v : Value} {k : Nat} (ok : LexOk w z) (Si : Site w dp un gd frs g) (K : g.StaysIn s.heap)
    (O : Owns g s.heap (lexObjs w z ln tl ys n [v] k)) (hdp : dp < 870) (hun : un < 8700)
    (ret : ∀ h' tk' ln' tl' n' k', g.StaysIn h' → Owns g h' (lexObjs w z ln' tl' ys n' [] k') → R (.ok (.ret v)) { s with heap := h', toks := tk' }) :
    codeAny (model prog w) (top dp un gd frs) (.call (.ref 75) ⟨[.ref z.lx], []⟩) R s := by
  refine' enterX (cl := []) (binds := [("self", .ref z.lx)]) ?Si ?S ?O (K_at (Frag.In.keeps (Site.X ?Si) ?S) ?k6) ?hd (codeRec_of (Frag.In.keeps (Site.X ?Si) ?S) ?k7) ?k8 ?k9 ?kB ?_ ?c5 ?c2 ?c3 ?c4
  (case Si => assumption)
  (case S => assumption)
  (case O => assumption)
  (case k6 => k_is)
  (case hd => exact rfl)
  (case k7 => k_is)
  (case k8 => first | decide | (show _ < 1000; omega))
  (case k9 => first | exact BindsTo.of_eq rfl | exact binds_peek (Frag.In.keeps (Site.X (by assumption)) (by assumption)) (fun _ => by kernel_rfl))
  (case c5 => decide)
  (case kB => exact locs rfl)
  (case c2 => exact rfl)
  (case c3 => exact rfl)
  (case c4 => exact rfl)
  k_whole
  intro g1 L1 h1 hg F1 N1 l1 Si1
  (try k_lt l1)
  (have X1 := Site.X Si1)
  obtain ⟨p1, loose1, mean1, mg1, mb1, T1⟩ := Site.T Si1
  obtain ⟨base1, B1⟩ := Site.B Si1
  (try dsimp only)
  (try k_fold)
  have ord := ok.ord
  (repeat' (first | (k_unfold; (try dsimp only)) | walk1 | (dsimp only; first | walk1 | (k_unfold; (try dsimp only)))))
  (rename News _ _ _ _ => kN; rename Fr _ _ _ _ => kF; exact ret _ _ _ _ _ _ (stays_of kF hg) ((Owns.of kN hg).sub (by walk_at "m_subs")))

set_option maxHeartbeats 4000000 in
theorem tok_end {z : LexZ} {ln : Int} {tl : Tok} {n : Nat} {k : Nat} (ok : LexOk w z) (Si : Site w dp un gd frs g) (K : g.StaysIn s.heap)
    (O : Owns g s.heap (lexObjs w z ln tl [] n [] k)) (CR : g.CodeRec (.ref z.cc) nextQual) (hdp : dp < 870) (hun : un < 8700)
    (ret : ∀ h' tk' ln' tl' n' k' t, g.StaysIn h' → Owns g h' (lexObjs w z ln' tl' [] n' [] k') → R (.ok (.ret (.str (Str.ofString "") t))) { s with heap := h', toks := tk' }) :
    codeAny (model prog w) (top dp un gd frs) (.call (.ref 75) ⟨[.ref z.lx], []⟩) R s := by
  refine' enterX (cl := []) (binds := [("self", .ref z.lx)]) ?Si ?S ?O (K_at (Frag.In.keeps (Site.X ?Si) ?S) ?k6) ?hd (codeRec_of (Frag.In.keeps (Site.X ?Si) ?S) ?k7) ?k8 ?k9 ?kB ?_ ?c5 ?c2 ?c3 ?c4
  (case Si => assumption)
  (case S => assumption)
  (case O => assumption)
  (case k6 => k_is)
  (case hd => exact rfl)
  (case k7 => k_is)
  (case k8 => first | decide | (show _ < 1000; omega))
  (case k9 => first | exact BindsTo.of_eq rfl | exact binds_peek (Frag.In.keeps (Site.X (by assumption)) (by assumption)) (fun _ => by kernel_rfl))
  (case c5 => decide)
  (case kB => exact locs rfl)
  (case c2 => exact rfl)
  (case c3 => exact rfl)
  (case c4 => exact rfl)
  k_whole
  intro g1 L1 h1 hg F1 N1 l1 Si1
  (try k_lt l1)
  (have X1 := Site.X Si1)
  obtain ⟨p1, loose1, mean1, mg1, mb1, T1⟩ := Site.T Si1
  obtain ⟨base1, B1⟩ := Site.B Si1
  (try dsimp only)
  (try k_fold)
  have ord := ok.ord
  (repeat' (first | (k_unfold; (try dsimp only)) | walk1 | (dsimp only; first | walk1 | (k_unfold; (try dsimp only)))))
  show wpAny _ _ _ _ _ _
  refine lex_next ok Si1 (by with_reducible assumption) (by with_reducible assumption) (by k_ne) (by k_all) (by k_all) (CR.keeps hg) (by omega) (by omega) (by simp) (by simp) rfl rfl ?item ?fin
  case item =>
    intro h2 tk2 ln2 tl2 n2 x tx ys' e
    cases e
  case fin =>
    intro _ h2 tk2 ln2 tl2 n2 F2 N2
    show OwitTurn _ _ _ _ _ _ _ _ _ _ _
    dsimp only [OwitTurn]
    (repeat' (first | (k_unfold; (try dsimp only)) | walk1 | (dsimp only; first | walk1 | (k_unfold; (try dsimp only)))))
    (rename News _ _ _ _ => kN; rename Fr _ _ _ _ => kF; exact ret _ _ _ _ _ _ _ (stays_of kF hg) ((Owns.of kN hg).sub (by walk_at "m_subs")))

set_option maxHeartbeats 4000000 in
theorem tok_read {z : LexZ} {ln : Int} {tl : Tok} {ys : List Value} {n : Nat} {k : Nat} {x : Str} {t1 t2 t3 : Tok} (ok : LexOk w z) (Si : Site w dp un gd frs g) (K : g.StaysIn s.heap)
    (O : Owns g s.heap (lexObjs w z ln tl (.str (Str.ofString "\\") t1 :: .str x t2 :: .str (Str.ofString "\n") t3 :: ys) n [] k)) (CR : g.CodeRec (.ref z.cc) nextQual) (hdp : dp < 870) (hun : un < 8700)
    (hsz : ys.length ≤ 4000) (hx : x ≠ Str.ofString "") (hxl : x.length ≤ 100000) (hst : ∀ v ∈ ys, ∃ x t, v = .str x t ∧ x ≠ Str.ofString "")
    (ret : ∀ h' tk' ln' tl' n' k' t, g.StaysIn h' → Owns g h' (lexObjs w z ln' tl' ys n' [] k') → R (.ok (.ret (.str x t))) { s with heap := h', toks := tk' }) :
    codeAny (model prog w) (top dp un gd frs) (.call (.ref 75) ⟨[.ref z.lx], []⟩) R s := by
  have hst3 : ∀ v ∈ (.str (Str.ofString "\n") t3 :: ys), ∃ x t, v = Value.str x t ∧ x ≠ Str.ofString "" := fun v hv => by
    rcases List.mem_cons.mp hv with rfl | hv
    · exact ⟨_, _, rfl, by decide +kernel⟩
    · exact hst v hv
  have hst2 : ∀ v ∈ (.str x t2 :: .str (Str.ofString "\n") t3 :: ys), ∃ x t, v = Value.str x t ∧ x ≠ Str.ofString "" := fun v hv => by
    rcases List.mem_cons.mp hv with rfl | hv
    · exact ⟨_, _, rfl, hx⟩
    · exact hst3 v hv
  have hst1 : ∀ v ∈ (.str (Str.ofString "\\") t1 :: .str x t2 :: .str (Str.ofString "\n") t3 :: ys), ∃ x t, v = Value.str x t ∧ x ≠ Str.ofString "" := fun v hv => by
    rcases List.mem_cons.mp hv with rfl | hv
    · exact ⟨_, _, rfl, by decide +kernel⟩
    · exact hst2 v hv
  refine' enterX (cl := []) (binds := [("self", .ref z.lx)]) ?Si ?S ?O (K_at (Frag.In.keeps (Site.X ?Si) ?S) ?k6) ?hd (codeRec_of (Frag.In.keeps (Site.X ?Si) ?S) ?k7) ?k8 ?k9 ?kB ?_ ?c5 ?c2 ?c3 ?c4
  (case Si => assumption)
  (case S => assumption)
  (case O => assumption)
  (case k6 => k_is)
  (case hd => exact rfl)
  (case k7 => k_is)
  (case k8 => first | decide | (show _ < 1000; omega))
  (case k9 => first | exact BindsTo.of_eq rfl | exact binds_peek (Frag.In.keeps (Site.X (by assumption)) (by assumption)) (fun _ => by kernel_rfl))
  (case c5 => decide)
  (case kB => exact locs rfl)
  (case c2 => exact rfl)
  (case c3 => exact rfl)
  (case c4 => exact rfl)
  k_whole
  intro g1 L1 h1 hg F1 N1 l1 Si1
  (try k_lt l1)
  (have X1 := Site.X Si1)
  obtain ⟨p1, loose1, mean1, mg1, mb1, T1⟩ := Site.T Si1
  obtain ⟨base1, B1⟩ := Site.B Si1
  (try dsimp only)
  (try k_fold)
  have ord := ok.ord
  (repeat' (first | (k_unfold; (try dsimp only)) | walk1 | (dsimp only; first | walk1 | (k_unfold; (try dsimp only)))))
  show wpAny _ _ _ _ _ _
  refine lex_next ok Si1 (by with_reducible assumption) (by with_reducible assumption) (by k_ne) (by k_all) (by k_all) (CR.keeps hg) (by omega) (by omega) (by simp only [List.length_cons]; omega) hst1 rfl rfl ?item ?fin
  case fin =>
    intro e
    cases e
  case item =>
    intro h2 tk2 ln2 tl2 n2 x' tx ys' e F2 N2
    cases e
    show OwitTurn _ _ _ _ _ _ _ _ _ _ _
    dsimp only [OwitTurn]
    (repeat' (first | (k_unfold; (try dsimp only)) | walk1 | (dsimp only; first | walk1 | (k_unfold; (try dsimp only)))))
    show wpAny _ _ _ _ _ _
    dsimp only [List.append_nil, List.cons_append]
    refine lex_read ok Si1 (by with_reducible assumption) (by with_reducible assumption) (by k_all) (by k_all) (CR.keeps hg) (by omega) (by omega) ?sz ?st rfl rfl ?_
    case sz => simp only [List.length_cons]; omega
    case st => exact hst2
    intro h3 tk3 ln3 tl3 n3 t3' F3 N3
    dsimp only [List.headD_cons, List.tail_cons] at N3 ⊢
    (repeat' (first | (k_unfold; (try dsimp only)) | walk1 | (dsimp only; first | walk1 | (k_unfold; (try dsimp only)))))
    show wpAny _ _ _ _ _ _
    refine lex_next ok Si1 (by with_reducible assumption) (by with_reducible assumption) (by k_ne) (by k_all) (by k_all) (CR.keeps hg) (by omega) (by omega) (by simp only [List.length_cons]; omega) hst3 rfl rfl ?item ?fin
    case fin =>
      intro e
      cases e
    case item =>
      intro h4 tk4 ln4 tl4 n4 x4 tx4 ys4 e F4 N4
      cases e
      show OwitTurn _ _ _ _ _ _ _ _ _ _ _
      dsimp only [OwitTurn]
      (repeat' (first | (k_unfold; (try dsimp only)) | walk1 | (dsimp only; first | walk1 | (k_unfold; (try dsimp only)))))
      (rename News _ _ _ _ => kN; rename Fr _ _ _ _ => kF; exact ret _ _ _ _ _ _ _ (stays_of kF hg) ((Owns.of kN hg).sub (by walk_at "m_subs")))
end
end Mine
end
section
open PySem PySem.W PyProof.Rows PySem.Calls PySem.Spec
set_option maxRecDepth 100000
namespace Mine
theorem lnBis1 : True := by
  k_with_none
  k_with "m_get" => (first | rfl | (with_reducible assumption) | exact if_pos rfl | (refine (if_neg (by decide +kernel)).trans ?_; walk_at "m_get"))
  k_with "eval Name" => ((refine ld (by with_reducible assumption) (by walk_at "m_get") ?_))
  k_with "exec While" => ((refine stop_of ?_))
  k_with "m_list" => (first | (with_reducible assumption) | exact stays_list (Fr.keep (by with_reducible assumption)) (by with_reducible assumption) | exact News.isList (by with_reducible assumption) (by k_mem))
  k_with "m_size" => (first | omega | (simp only [List.size_toArray, List.length_map, StrsAre.length (by assumption)]; omega))
  k_with "call builtin:len" => ((refine kun_lenL (by walk_at "m_list") rfl (by walk_at "m_size") ?_))
  k_with "binaryOp FloorDiv int int" => ((refine floordiv_half (by omega) ?_))
  k_with "subscriptTail" => (((with_reducible show wpAny _ _ (subscriptTail _ _ (Value.ref _) (Value.int _ _)) _ _ _); refine item_strsR (by walk_at "m_list") (by with_reducible assumption) (by walk_at "m_size") (by walk_at "m_size") (by walk_at "m_size") ?_; intro _))
  trivial


def bisGo (xs : List T) (x : T) : Nat → Nat → Nat → Nat
  | 0, lo, _ => lo
  | n + 1, lo, hi => if lo < hi then (if x < xs.getD ((lo + hi) / 2) [] then bisGo xs x n lo ((lo + hi) / 2) else bisGo xs x n ((lo + hi) / 2 + 1) hi) else lo
def bis (xs : List T) (x : T) : Nat := bisGo xs x xs.length 0 xs.length

section
variable {prog : Program} {w : World} {s : Shared} {g : Heap} {dp un : Nat} {gd : Option (List Code)} {frs : List Env} {R : Result → Shared → Prop}

set_option maxHeartbeats 4000000 in
theorem bisect_walk {l : Addr} {x : T} {tx : Tok} {vs : List Value} {xs : List T} (Si : Site w dp un gd frs g) (K : g.StaysIn s.heap) (hl : g.IsList l vs.toArray) (hx : StrsAre vs (xs.map S)) (hdp : dp < 900) (hun : un < 9000)
    (hsz : xs.length ≤ 1000)
    (ret : ∀ h' tk' t, g.StaysIn h' → R (.ok (.ret (.int (bis xs x) t))) { s with heap := h', toks := tk' }) :
    codeAny (model prog w) (top dp un gd frs) (.call (.ref 47) ⟨[.ref l, .str (S x) tx], []⟩) R s := by
  refine' enterX (cl := []) (binds := [("a", .ref l), ("x", .str (S x) tx), ("lo", .int 0 291), ("hi", .none), ("key", .none)]) ?Si ?S ?O (K_at (Frag.In.keeps (Site.X ?Si) ?S) ?k6) ?hd (codeRec_of (Frag.In.keeps (Site.X ?Si) ?S) ?k7) ?k8 ?k9 ?kB ?_ ?c5 ?c2 ?c3 ?c4
  (case Si => assumption)
  (case S => assumption)
  (case O => first | assumption | exact Owns.nil)
  (case k6 => k_is)
  (case hd => exact rfl)
  (case k7 => k_is)
  (case k8 => first | decide | (show _ < 1000; omega))
  (case k9 => first | exact BindsTo.of_eq rfl | exact binds_peek (Frag.In.keeps (Site.X (by assumption)) (by assumption)) (fun _ => by kernel_rfl))
  (case c5 => decide)
  (case kB => exact locs rfl)
  (case c2 => exact rfl)
  (case c3 => exact rfl)
  (case c4 => exact rfl)
  k_whole
  intro g1 L1 h1 hg F1 N1 l1 Si1
  (try k_lt l1)
  (have X1 := Site.X Si1)
  obtain ⟨p1, loose1, mean1, mg1, mb1, T1⟩ := Site.T Si1
  (try dsimp only)
  (try k_fold)
  have hl1 := stays_list hg hl
  have hvs : vs.length = xs.length := by rw [strsAre_length hx, List.length_map]
  (repeat' (first | (k_unfold; (try dsimp only)) | walk1 | (dsimp only; first | walk1 | (k_unfold; (try dsimp only)))))
  show wpAny _ _ _ _ _ _
  refine While_inv (fun k m₁ _ => ∃ (lo hi : Nat) (t1 t2 : Tok), m₁ "lo" = some (.int lo t1) ∧ m₁ "hi" = some (.int hi t2) ∧ m₁ "a" = some (.ref l) ∧ m₁ "x" = some (.str (S x) tx) ∧ m₁ "key" = some .none ∧ hi ≤ lo + k ∧ hi ≤ xs.length ∧ bisGo xs x k lo hi = bis xs x) (n₀ := xs.length) (by with_reducible assumption) (by with_reducible assumption) ?start ?turn PassesOwn.never
  case start => exact ⟨0, xs.length, _, _, rfl, by show some (Value.int (vs.toArray.size : Int) _) = _; rw [List.size_toArray, hvs], rfl, rfl, rfl, by omega, Nat.le_refl _, rfl⟩
  case turn =>
    rintro k m₁ news₁ h₂ tk₂ F2 N2 ⟨lo, hi, t1, t2, e1, e2, e3, e4, e5, hk, hhi, hb⟩
    (repeat' (first | (k_unfold; (try dsimp only)) | walk1 | (dsimp only; first | walk1 | (k_unfold; (try dsimp only)))))
    · cases k with
      | zero => omega
      | succ k =>
        have c : (S x).cps.toList < ((xs.map S).getD (((((lo + hi) / 2 : Nat) : Int)).toNat) Str.empty).cps.toList := by assumption
        rw [getD_S, S_cps, Int.toNat_natCast] at c
        rw [bisGo, if_pos (by omega), if_pos c] at hb
        exact WhileStep.intro (by with_reducible assumption) (by with_reducible assumption) (Nat.lt_succ_self k) ⟨lo, (lo + hi) / 2, _, _, by walk_at "m_get", by walk_at "m_get", by walk_at "m_get", by walk_at "m_get", by walk_at "m_get", by omega, by omega, hb⟩
    · cases k with
      | zero => omega
      | succ k =>
        have c : ¬ (S x).cps.toList < ((xs.map S).getD (((((lo + hi) / 2 : Nat) : Int)).toNat) Str.empty).cps.toList := by assumption
        rw [getD_S, S_cps, Int.toNat_natCast] at c
        rw [bisGo, if_pos (by omega), if_neg c] at hb
        exact WhileStep.intro (by with_reducible assumption) (by with_reducible assumption) (Nat.lt_succ_self k) ⟨(lo + hi) / 2 + 1, hi, _, _, by walk_at "m_get", by walk_at "m_get", by walk_at "m_get", by walk_at "m_get", by walk_at "m_get", by omega, by omega, hb⟩
    · have e : bisGo xs x k lo hi = lo := by cases k with
        | zero => rfl
        | succ k => rw [bisGo, if_neg (by omega)]
      rw [e] at hb
      subst hb
      exact ret _ _ _ (stays_of F2 hg)
end
end Mine
end
section
open PySem PySem.W PyProof.Rows PySem.Calls PySem.Spec
set_option maxRecDepth 100000
namespace Mine
section
variable {prog : Program} {w : World} {A : Around} {E : Value → Shared → Prop} {s : Shared} {h₀ : Heap} {L D : Addr} {m : Str → Option Value} {news news' : List (Addr × Obj)} {n : Nat}
theorem append_L {xs : List Value} {x : Value} {Q : Value → Shared → Prop} (F : Fr h₀ L s.heap m) (N : News h₀ L s.heap news) (U : Upd D (listOf (List.toArray xs) n) (listOf (List.toArray (xs ++ [x])) (n + 1)) news news')
    (hsz : xs.length ≤ 5000) (h : ∀ h', Fr h₀ L h' m → News h₀ L h' news' → Q .none { s with heap := h' }) : wpAny (model prog w) A (call (.builtin "list.append") [.ref D, x]) Q E s := by
  refine append_K F N (by rw [show (List.toArray xs).push x = (xs ++ [x]).toArray by simp]; exact U) h (by rw [List.size_toArray]; show xs.length ≤ 2 ^ 24; omega)
theorem setItem_L {xs : List Value} {v : Value} {k : Nat} {u : Tok} {Q : Unit → Shared → Prop} (F : Fr h₀ L s.heap m) (N : News h₀ L s.heap news) (U : Upd D (listOf (List.toArray xs) n) (listOf (List.toArray (xs.set k v)) n) news news')
    (hk : k < xs.length) (hsz : xs.length ≤ 5000) (h : ∀ h', Fr h₀ L h' m → News h₀ L h' news' → Q () { s with heap := h' }) : wpAny (model prog w) A (setItem (.ref D) (.int k u) v) Q E s := by
  obtain ⟨pre, post, rfl, rfl, a, b⟩ := U.split
  have z := N (D, listOf (List.toArray xs) n) (List.mem_append.mpr (.inr (.head _)))
  refine ki_setAt z.1 (by omega) (by omega) (by rw [List.size_toArray]; omega) (h _ (F.change (Heap.SameBut.update ..) z.2.1 z.2.2) (ki_turn _ N a b ?_ ?_))
  · show (List.toArray xs).setIfInBounds (k : Int).toNat v = (xs.set k v).toArray
    simp
  · simp
theorem item_L {value slice : PySem.Expr} {l : Addr} {vs : List Value} {k : Nat} {u : Tok} {v : Value} {Q : Value → Shared → Prop} (hl : s.heap.IsList l vs.toArray) (hx : vs[k]? = some v) (hk : vs.length ≤ 5000) (h : Q v s)
    (hs : subscripted slice false (.ref l) (.int k u) = operate [.ref l, .int k u] (getItem (.ref l) (.int k u)) := by with_unfolding_all rfl) :
    wpAny (model prog w) A (subscriptTail value slice (.ref l) (.int k u)) Q E s := by
  have hlt : k < vs.length := by
    rcases Nat.lt_or_ge k vs.length with h | h
    · exact h
    · rw [List.getElem?_eq_none h] at hx; cases hx
  exact tail_any hl.typeIs slot_list_getitem.lookup (wpAny_getItem_list hl (by omega) (by omega) (by simpa using hx) h) hs
theorem getItem_L {l : Addr} {vs : List Value} {k : Nat} {u : Tok} {v : Value} {Q : Value → Shared → Prop} (hl : s.heap.IsList l vs.toArray) (hx : vs[k]? = some v) (hk : vs.length ≤ 5000) (h : Q v s) :
    wpAny (model prog w) A (getItem (.ref l) (.int k u)) Q E s := by
  have hlt : k < vs.length := by
    rcases Nat.lt_or_ge k vs.length with h | h
    · exact h
    · rw [List.getElem?_eq_none h] at hx; cases hx
  exact wpAny_getItem_list hl (by omega) (by omega) (by simpa using hx) h
theorem len_L {l : Addr} {vs : List Value} {Q : Value → Shared → Prop} (hl : s.heap.IsList l vs.toArray) (hk : vs.length ≤ 5000) (h : ∀ t tk, Q (.int vs.length t) { s with toks := tk }) :
    wpAny (model prog w) A (call (.builtin "len") [.ref l]) Q E s := kun_lenL hl (by rw [List.size_toArray]) (by omega) (h _ _)
end

/-! the plain machine -/
structure TS where
  rows : List (List T)
  times : List T
  deep : Nat
  turn : Nat
  sign : T
  ws : List T

def digs (n : Nat) : T := (Nat.toDigits 10 n).map Char.toNat
/-- a row is there for the depth -/
def TS.open (σ : TS) : TS := if σ.deep = σ.rows.length then { σ with rows := σ.rows ++ [[]], times := σ.times ++ [[]] } else σ
/-- the row's change, behind open -/
def TS.turnOf (σ : TS) : TS :=
  let row := σ.rows.getD σ.deep []
  let place := bis row σ.sign
  if place = row.length then
    { rows := σ.rows.set σ.deep (row ++ [σ.sign]), times := σ.times.set σ.deep (σ.times.getD σ.deep [] ++ digs (σ.turn + 1)), deep := 0, turn := σ.turn + 1, sign := σ.ws.headD [], ws := σ.ws.tail }
  else
    { rows := if 1 ≤ place ∧ row.getD (place - 1) [] = σ.sign then σ.rows else σ.rows.set σ.deep (row.set place σ.sign), times := σ.times, deep := σ.deep + 1, turn := σ.turn, sign := row.getD place [], ws := σ.ws }
def TS.step (σ : TS) : TS := σ.open.turnOf
/-- how it ends, if it does within n turns -/
def TS.run : Nat → TS → Option TS
  | 0, σ => if σ.sign = [] then some σ else none
  | n + 1, σ => if σ.sign = [] then some σ else σ.step.run n
def tablesOf (ws : List T) : Option TS := TS.run 200 { rows := [], times := [], deep := 0, turn := 0, sign := ws.headD [], ws := ws.tail }
end Mine
end
section
open PySem PySem.W PyProof.Rows PySem.Calls PySem.Spec
set_option maxRecDepth 100000
namespace Mine
inductive TextIs : List Value → List T → Prop
  | nil : TextIs [] []
  | cons (t1 t2 t3 : Tok) (c : T) {ys : List Value} {ws : List T} (hc : c ≠ []) (hl : c.length ≤ 10) : TextIs ys ws → TextIs (.str (Str.ofString "\\") t1 :: .str (S c) t2 :: .str (Str.ofString "\n") t3 :: ys) (c :: ws)
theorem S_ne {c : T} (h : c ≠ []) : S c ≠ Str.ofString "" := fun e => h (by
  have := congrArg (fun x : Str => x.cps.toList) e
  simpa [S_cps] using this.trans (show (Str.ofString "").cps.toList = [] by decide +kernel))
theorem TextIs.strs {ys : List Value} {ws : List T} (h : TextIs ys ws) : ∀ v ∈ ys, ∃ x t, v = .str x t ∧ x ≠ Str.ofString "" := by
  induction h with
  | nil => intro v hv; cases hv
  | cons t1 t2 t3 c hc hl _ ih =>
    intro v hv
    rcases List.mem_cons.mp hv with rfl | hv
    · exact ⟨_, _, rfl, by decide +kernel⟩
    · rcases List.mem_cons.mp hv with rfl | hv
      · exact ⟨_, _, rfl, S_ne hc⟩
      · rcases List.mem_cons.mp hv with rfl | hv
        · exact ⟨_, _, rfl, by decide +kernel⟩
        · exact ih v hv
theorem lex_le {w : World} {z : LexZ} (ok : LexOk w z) {ln : Int} {tl : Tok} {ys ps : List Value} {n k : Nat} : ∀ r ∈ lexObjs w z ln tl ys n ps k, @LE.le Nat _ r.1 z.pb := by
  have o := ok.ord
  intro r hr
  simp only [lexObjs, List.mem_cons, List.not_mem_nil, or_false] at hr
  rcases hr with rfl | rfl | rfl | rfl | rfl | rfl | rfl | rfl <;> dsimp only <;> omega
section
variable {prog : Program} {w : World} {s : Shared} {g : Heap} {dp un : Nat} {gd : Option (List Code)} {frs : List Env} {E : Value → Shared → Prop}
  {z : LexZ} {ln : Int} {tl : Tok} {ys : List Value} {ws ws2 : List T} {n : Nat} {ps : List Value} {k : Nat} {L : Addr} {rest : List (Addr × Obj)} {m : Str → Option Value} {env : Env} {Q : Value → Shared → Prop} {sgn : T}

theorem lex_tok (ok : LexOk w z) (Si : Site w dp un gd frs g)
    (F : Fr g L s.heap m) (N : News g L s.heap (lexObjs w z ln tl ys n ps k ++ rest)) (hR : ∀ p ∈ rest, @LT.lt Nat _ z.pb p.1) (CR : g.CodeRec (.ref z.cc) nextQual) (hdp : dp < 860) (hun : un < 8600) (hsz : ys.length ≤ 4000)
    (ht : TextIs ys ws) (hps : (ps = [] ∧ sgn = ws.headD [] ∧ ws2 = ws.tail) ∨ ∃ t, ps = [.str (S sgn) t] ∧ ws2 = ws) (hf : env.frame = some L) (hke : env.scope.kind = .function)
    (h : ∀ h' tk ln' tl' ys' n' k' t, Fr g L h' m → News g L h' (lexObjs w z ln' tl' ys' n' [] k' ++ rest) → TextIs ys' ws2 → ys'.length ≤ ys.length → Q (.str (S sgn) t) { s with heap := h', toks := tk }) :
    wpAny (model prog w) (top (dp + 1) (un + 3) gd (env :: frs)) (call (.ref 75) [.ref z.lx]) Q E s := by
  obtain ⟨g', sa, sb, sc, sd, se, back⟩ := call_own (own := lexObjs w z ln tl ys n ps k) (rest := rest) Si F N (fun p hp => List.mem_append_left _ hp) (fun p hp => List.mem_append_right _ hp)
    (fun p hp r hr => by have a := hR p hp; have b := lex_le ok r hr; exact fun e => absurd (Nat.lt_of_le_of_lt b a) (by rw [e]; exact Nat.lt_irrefl _)) hf hke
  refine wpAny_call ?_
  rcases hps with ⟨rfl, rfl, rfl⟩ | ⟨t, rfl, rfl⟩
  · cases ht with
    | nil =>
      refine tok_end ok sa sb sc (CR.keeps sd) (by omega) (by omega) ?_
      intro h' tk' ln' tl' n' k' t' kk O'
      obtain ⟨F2, N2, _⟩ := back _ _ kk O'
      exact ofString_nil ▸ h _ _ _ _ _ _ _ t' F2 N2 .nil (Nat.le_refl _)
    | cons t1 t2 t3 c hc hl ht' =>
      refine tok_read ok sa sb sc (CR.keeps sd) (by omega) (by omega) (by simp only [List.length_cons] at hsz; omega) (S_ne hc) (by rw [S_length]; omega) ht'.strs ?_
      intro h' tk' ln' tl' n' k' t' kk O'
      obtain ⟨F2, N2, _⟩ := back _ _ kk O'
      exact h _ _ _ _ _ _ _ t' F2 N2 ht' (by simp only [List.length_cons]; omega)
  · refine tok_push ok sa sb sc (by omega) (by omega) ?_
    intro h' tk' ln' tl' n' k' kk O'
    obtain ⟨F2, N2, _⟩ := back _ _ kk O'
    exact h _ _ _ _ _ _ _ t F2 N2 ht (Nat.le_refl _)

theorem lex_push {v : Value} (ok : LexOk w z) (Si : Site w dp un gd frs g)
    (F : Fr g L s.heap m) (N : News g L s.heap (lexObjs w z ln tl ys n [] k ++ rest)) (hR : ∀ p ∈ rest, @LT.lt Nat _ z.pb p.1) (hdp : dp < 860) (hun : un < 8600)
    (hf : env.frame = some L) (hke : env.scope.kind = .function)
    (h : ∀ h' tk ln' tl' n' k', Fr g L h' m → News g L h' (lexObjs w z ln' tl' ys n' [v] k' ++ rest) → Q .none { s with heap := h', toks := tk }) :
    wpAny (model prog w) (top (dp + 1) (un + 3) gd (env :: frs)) (call (.ref 82) [.ref z.lx, v]) Q E s := by
  obtain ⟨g', sa, sb, sc, sd, se, back⟩ := call_own (own := lexObjs w z ln tl ys n [] k) (rest := rest) Si F N (fun p hp => List.mem_append_left _ hp) (fun p hp => List.mem_append_right _ hp)
    (fun p hp r hr => by have a := hR p hp; have b := lex_le ok r hr; exact fun e => absurd (Nat.lt_of_le_of_lt b a) (by rw [e]; exact Nat.lt_irrefl _)) hf hke
  refine wpAny_call (push_walk ok sa sb sc (by omega) (by omega) ?_)
  intro h' tk' ln' tl' n' k' kk O'
  obtain ⟨F2, N2, _⟩ := back _ _ kk O'
  exact h _ _ _ _ _ _ F2 N2

theorem bis_at {l : Addr} {x : T} {tx : Tok} {vs : List Value} {xs : List T} {news : List (Addr × Obj)} (Si : Site w dp un gd frs g) (F : Fr g L s.heap m) (N : News g L s.heap news) (hl : s.heap.IsList l vs.toArray) (hx : StrsAre vs (xs.map S)) (hdp : dp < 860) (hun : un < 8600)
    (hsz : xs.length ≤ 1000) (hf : env.frame = some L) (hke : env.scope.kind = .function)
    (h : ∀ h' tk t, Fr g L h' m → News g L h' news → Q (.int (bis xs x) t) { s with heap := h', toks := tk }) :
    wpAny (model prog w) (top (dp + 1) (un + 3) gd (env :: frs)) (call (.ref 47) [.ref l, .str (S x) tx]) Q E s := by
  obtain ⟨g', sa, sb, sc, sd, se, back⟩ := call_own (own := []) (rest := news) Si F N (fun p hp => nomatch hp) (fun p hp => hp) (fun p hp r hr => nomatch hr) hf hke
  obtain ⟨ol, hol, r⟩ := hl
  refine wpAny_call (bisect_walk sa sb ⟨ol, se _ _ hol (fun q hq => nomatch hq), r⟩ hx (by omega) (by omega) hsz ?_)
  intro h' tk' t kk
  obtain ⟨F2, N2, _⟩ := back _ [] kk Owns.nil
  exact h _ _ t F2 N2
end
end Mine
end
section
open PySem PySem.W PyProof.Rows PySem.Calls PySem.Spec
set_option maxRecDepth 100000
namespace Mine
abbrev RowE := Nat × List Value × Nat
def rowL (rs : List RowE) : List (Addr × Obj) := rs.map fun r => (r.1, listOf (List.toArray r.2.1) r.2.2)
def refsOf (rs : List RowE) : List Value := rs.map fun r => .ref r.1
theorem rowL_append (a b : List RowE) : rowL (a ++ b) = rowL a ++ rowL b := List.map_append
structure RowsAre (rs : List RowE) (rows : List (List T)) : Prop where
  len : rs.length = rows.length
  row : ∀ i r, rs[i]? = some r → StrsAre r.2.1 ((rows.getD i []).map S)
theorem RowsAre.nil : RowsAre [] [] := ⟨rfl, fun i r h => by cases h⟩
theorem RowsAre.push {rs : List RowE} {rows : List (List T)} (h : RowsAre rs rows) (a n : Nat) : RowsAre (rs ++ [(a, [], n)]) (rows ++ [[]]) := by
  refine ⟨by simp [h.len], fun i r hr => ?_⟩
  rcases Nat.lt_trichotomy i rs.length with hi | hi | hi
  · rw [List.getElem?_append_left hi] at hr
    have := h.row i r hr
    rw [List.getD_eq_getElem?_getD, List.getElem?_append_left (by rw [← h.len]; exact hi), ← List.getD_eq_getElem?_getD]
    exact this
  · subst hi
    rw [List.getElem?_append_right (Nat.le_refl _)] at hr
    simp only [Nat.sub_self, List.getElem?_cons_zero, Option.some.injEq] at hr
    subst hr
    rw [List.getD_eq_getElem?_getD, List.getElem?_append_right (by rw [h.len]; exact Nat.le_refl _), h.len]
    simp only [Nat.sub_self, List.getElem?_cons_zero]
    exact .nil
  · rw [List.getElem?_append_right (Nat.le_of_lt hi)] at hr
    rw [List.getElem?_eq_none (by simp; omega)] at hr
    cases hr
theorem RowsAre.set {rs : List RowE} {rows : List (List T)} (h : RowsAre rs rows) {i a n : Nat} {vs : List Value} {row : List T} (hv : StrsAre vs (row.map S)) : RowsAre (rs.set i (a, vs, n)) (rows.set i row) := by
  refine ⟨by simp [h.len], fun j r hr => ?_⟩
  by_cases e : i = j
  · subst e
    rw [List.getElem?_set] at hr
    by_cases hi : i < rs.length
    · simp only [if_true, if_pos hi, Option.some.injEq] at hr
      subst hr
      rw [List.getD_eq_getElem?_getD, List.getElem?_set, if_pos rfl, if_pos (by rw [← h.len]; exact hi)]
      exact hv
    · simp only [if_true, if_neg hi] at hr; cases hr
  · rw [List.getElem?_set_ne e] at hr
    rw [List.getD_eq_getElem?_getD, List.getElem?_set_ne e, ← List.getD_eq_getElem?_getD]
    exact h.row j r hr
theorem StrsAre.append {a b : List Value} {x y : List Str} (h : StrsAre a x) (h' : StrsAre b y) : StrsAre (a ++ b) (x ++ y) := by
  induction h with
  | nil => exact h'
  | cons s t _ ih => exact .cons s t ih
theorem StrsAre.one (x : Str) (t : Tok) : StrsAre [.str x t] [x] := .cons x t .nil
theorem StrsAre.set {a : List Value} {x : List Str} (h : StrsAre a x) (i : Nat) (y : Str) (t : Tok) : StrsAre (a.set i (.str y t)) (x.set i y) := by
  induction h generalizing i with
  | nil => exact .nil
  | cons s t' h ih => cases i with
    | zero => exact .cons _ _ h
    | succ i => exact .cons _ _ (ih i)
theorem StrsAre.get {a : List Value} {x : List Str} (h : StrsAre a x) (i : Nat) (hi : i < x.length) : ∃ t, a[i]? = some (.str (x.getD i Str.empty) t) := by
  induction h generalizing i with
  | nil => exact absurd hi (Nat.not_lt_zero _)
  | cons s t' h ih => cases i with
    | zero => exact ⟨t', rfl⟩
    | succ i => exact ih i (Nat.lt_of_succ_lt_succ hi)
theorem StrsAre.drop {a : List Value} {x : List Str} (h : StrsAre a x) (i : Nat) : StrsAre (a.drop i) (x.drop i) := by
  induction h generalizing i with
  | nil => cases i <;> exact .nil
  | cons s t' h ih => cases i with
    | zero => exact .cons _ _ h
    | succ i => exact ih i
theorem StrsAre.take {a : List Value} {x : List Str} (h : StrsAre a x) (i : Nat) : StrsAre (a.take i) (x.take i) := by
  induction h generalizing i with
  | nil => cases i <;> exact .nil
  | cons s t' h ih => cases i with
    | zero => exact .nil
    | succ i => exact .cons _ _ (ih i)
theorem getD_mapS (xs : List T) (i : Nat) : (xs.map S).getD i Str.empty = S (xs.getD i []) := by
  simp only [List.getD_eq_getElem?_getD, List.getElem?_map]
  cases xs[i]? <;> rfl

/-- the rows at the side of the one at hand -/
def Aside (others : List (Addr × Obj)) (ta a : Nat) : Prop := ∀ p ∈ others, @LT.lt Nat _ ta p.1 ∧ @Ne Nat p.1 a
theorem tail_ne {w : World} {z : LexZ} (ok : LexOk w z) {others : List (Addr × Obj)} {ta a d : Nat} (ho : Aside others ta a) (hd : z.pb < d ∧ (d ≤ ta ∨ d = a)) {ln : Int} {tl : Tok} {ys ps : List Value} {n k : Nat} :
    ∀ p ∈ lexObjs w z ln tl ys n ps k ++ others, @Ne Nat p.1 d := by
  intro p hp e
  rcases List.mem_append.mp hp with hp | hp
  · have := lex_le ok p hp
    rw [e] at this; omega
  · obtain ⟨h1, h2⟩ := ho p hp
    rw [e] at h1 h2
    omega
theorem rows_aside {rs : List RowE} {ta : Nat} (h : ∀ r ∈ rs, ta < r.1) : Aside (rowL rs) ta 0 := by
  intro p hp
  obtain ⟨r, hr, rfl⟩ := List.mem_map.mp hp
  have := h r hr
  exact ⟨this, by show r.1 ≠ 0; omega⟩
/-- the rows without the i-th -/
def butOf (rs : List RowE) (i : Nat) : List RowE := rs.take i ++ rs.drop (i + 1)
theorem but_split {rs : List RowE} {i : Nat} {r : RowE} (h : rs[i]? = some r) : rs = rs.take i ++ r :: rs.drop (i + 1) := by
  obtain ⟨hi, e⟩ := List.getElem?_eq_some_iff.mp h
  rw [← e, List.getElem_cons_drop, List.take_append_drop]
theorem but_aside {rs : List RowE} {ta i : Nat} {r : RowE} (h : ∀ r ∈ rs, ta < r.1) (hn : (rs.map (·.1)).Nodup) (hi : rs[i]? = some r) : Aside (rowL (butOf rs i)) ta r.1 := by
  have e := but_split hi
  intro p hp
  obtain ⟨q, hq, rfl⟩ := List.mem_map.mp hp
  have hq' : q ∈ rs := by
    rw [e]
    rcases List.mem_append.mp hq with hq | hq
    · exact List.mem_append_left _ hq
    · exact List.mem_append_right _ (.tail _ hq)
  refine ⟨h q hq', fun e2 => ?_⟩
  rw [e, List.map_append, List.map_cons, List.nodup_append] at hn
  obtain ⟨_, hn2, hn3⟩ := hn
  rcases List.mem_append.mp hq with hq | hq
  · exact hn3 _ (List.mem_map_of_mem hq) _ (.head _) e2
  · exact (List.nodup_cons.mp hn2).1 (e2 ▸ List.mem_map_of_mem hq)
theorem focus_in {g h : Heap} {L : Addr} {x y : Addr × Obj} {l : List (Addr × Obj)} {rs : List RowE} {i : Nat} {r : RowE} (hi : rs[i]? = some r) (N : News g L h (x :: y :: (l ++ rowL rs))) :
    News g L h (x :: y :: (r.1, listOf (List.toArray r.2.1) r.2.2) :: (l ++ rowL (butOf rs i))) := by
  have e := but_split hi
  intro p hp
  refine N p ?_
  rcases List.mem_cons.mp hp with rfl | hp
  · exact .head _
  rcases List.mem_cons.mp hp with rfl | hp
  · exact .tail _ (.head _)
  refine .tail _ (.tail _ ?_)
  rcases List.mem_cons.mp hp with rfl | hp
  · exact List.mem_append_right _ (List.mem_map.mpr ⟨r, by rw [e]; exact List.mem_append_right _ (.head _), rfl⟩)
  rcases List.mem_append.mp hp with hp | hp
  · exact List.mem_append_left _ hp
  · obtain ⟨q, hq, rfl⟩ := List.mem_map.mp hp
    refine List.mem_append_right _ (List.mem_map.mpr ⟨q, ?_, rfl⟩)
    rw [e]
    rcases List.mem_append.mp hq with hq | hq
    · exact List.mem_append_left _ hq
    · exact List.mem_append_right _ (.tail _ hq)
theorem focus_out {g h : Heap} {L : Addr} {x y : Addr × Obj} {l : List (Addr × Obj)} {rs : List RowE} {i : Nat} {r' : RowE} (hi : i < rs.length) (N : News g L h (x :: y :: (r'.1, listOf (List.toArray r'.2.1) r'.2.2) :: (l ++ rowL (butOf rs i)))) :
    News g L h (x :: y :: (l ++ rowL (rs.set i r'))) := by
  intro p hp
  refine N p ?_
  rcases List.mem_cons.mp hp with rfl | hp
  · exact .head _
  rcases List.mem_cons.mp hp with rfl | hp
  · exact .tail _ (.head _)
  refine .tail _ (.tail _ ?_)
  rcases List.mem_append.mp hp with hp | hp
  · exact .tail _ (List.mem_append_left _ hp)
  · obtain ⟨q, hq, rfl⟩ := List.mem_map.mp hp
    rw [List.set_eq_take_append_cons_drop, if_pos hi] at hq
    rcases List.mem_append.mp hq with hq | hq
    · exact .tail _ (List.mem_append_right _ (List.mem_map_of_mem (List.mem_append_left _ hq)))
    · rcases List.mem_cons.mp hq with rfl | hq
      · exact .head _
      · exact .tail _ (List.mem_append_right _ (List.mem_map_of_mem (List.mem_append_right _ hq)))
theorem rot3 {g h : Heap} {L : Addr} {x y u : Addr × Obj} {l o : List (Addr × Obj)} (N : News g L h (x :: y :: u :: (l ++ o))) : News g L h (l ++ (x :: y :: u :: o)) := fun p hp => N p (by
  rcases List.mem_append.mp hp with hp | hp
  · exact .tail _ (.tail _ (.tail _ (List.mem_append_left _ hp)))
  · rcases List.mem_cons.mp hp with rfl | hp
    · exact .head _
    rcases List.mem_cons.mp hp with rfl | hp
    · exact .tail _ (.head _)
    rcases List.mem_cons.mp hp with rfl | hp
    · exact .tail _ (.tail _ (.head _))
    exact .tail _ (.tail _ (.tail _ (List.mem_append_right _ hp))))
theorem rot3' {g h : Heap} {L : Addr} {x y u : Addr × Obj} {l o : List (Addr × Obj)} (N : News g L h (l ++ (x :: y :: u :: o))) : News g L h (x :: y :: u :: (l ++ o)) := fun p hp => N p (by
  rcases List.mem_cons.mp hp with rfl | hp
  · exact List.mem_append_right _ (.head _)
  rcases List.mem_cons.mp hp with rfl | hp
  · exact List.mem_append_right _ (.tail _ (.head _))
  rcases List.mem_cons.mp hp with rfl | hp
  · exact List.mem_append_right _ (.tail _ (.tail _ (.head _)))
  rcases List.mem_append.mp hp with hp | hp
  · exact List.mem_append_left _ hp
  · exact List.mem_append_right _ (.tail _ (.tail _ (.tail _ hp))))
theorem rot2 {g h : Heap} {L : Addr} {x y : Addr × Obj} {l o : List (Addr × Obj)} (N : News g L h (x :: y :: (l ++ o))) : News g L h (l ++ (x :: y :: o)) := fun p hp => N p (by
  rcases List.mem_append.mp hp with hp | hp
  · exact .tail _ (.tail _ (List.mem_append_left _ hp))
  · rcases List.mem_cons.mp hp with rfl | hp
    · exact .head _
    rcases List.mem_cons.mp hp with rfl | hp
    · exact .tail _ (.head _)
    exact .tail _ (.tail _ (List.mem_append_right _ hp)))
theorem rot2' {g h : Heap} {L : Addr} {x y : Addr × Obj} {l o : List (Addr × Obj)} (N : News g L h (l ++ (x :: y :: o))) : News g L h (x :: y :: (l ++ o)) := fun p hp => N p (by
  rcases List.mem_cons.mp hp with rfl | hp
  · exact List.mem_append_right _ (.head _)
  rcases List.mem_cons.mp hp with rfl | hp
  · exact List.mem_append_right _ (.tail _ (.head _))
  rcases List.mem_append.mp hp with hp | hp
  · exact List.mem_append_left _ hp
  · exact List.mem_append_right _ (.tail _ (.tail _ hp)))
theorem tab_start {g h : Heap} {L : Addr} {x y : Addr × Obj} {l : List (Addr × Obj)} (N : News g L h (l ++ [y, x])) : News g L h (x :: y :: (l ++ rowL [])) := fun p hp => N p (by
  rcases List.mem_cons.mp hp with rfl | hp
  · exact List.mem_append_right _ (.tail _ (.head _))
  rcases List.mem_cons.mp hp with rfl | hp
  · exact List.mem_append_right _ (.head _)
  rcases List.mem_append.mp hp with hp | hp
  · exact List.mem_append_left _ hp
  · cases hp)
theorem TextIs.head_le {ys : List Value} {ws : List T} (h : TextIs ys ws) : (ws.headD []).length ≤ 10 := by
  cases h with
  | nil => exact Nat.zero_le _
  | cons _ _ _ _ _ hl _ => exact hl
section
variable {prog : Program} {w : World} {A : Around} {E : Value → Shared → Prop} {s : Shared} {Q : Bool → Shared → Prop} {x : T} {t : Tok}
theorem truthy_S_t (hx : x ≠ []) (hl : x.length ≤ 5000) (h : ∀ tk, Q true { s with toks := tk }) : wpAny (model prog w) A (truthy (.str (S x) t)) Q E s := by
  refine P.truthy_str (by rw [S_length]; omega) ?_
  have e : (((S x).length : Int) != 0) = true := by
    rw [S_length]
    cases x with
    | nil => exact absurd rfl hx
    | cons a l => simp; omega
  rw [e]; exact h _
theorem truthy_S_f (h : ∀ tk, Q false { s with toks := tk }) : wpAny (model prog w) A (truthy (.str (S []) t)) Q E s :=
  P.truthy_str (by decide) (h _)
end
def joinT (sep : T) : List T → T
  | [] => []
  | [x] => x
  | x :: y :: r => x ++ sep ++ joinT sep (y :: r)
theorem join_S (sep : T) : ∀ xs : List T, Str.join (S sep) (xs.map S) = S (joinT sep xs)
  | [] => rfl
  | [x] => rfl
  | x :: y :: r => by
    show S x ++ S sep ++ Str.join (S sep) ((y :: r).map S) = _
    rw [join_S sep (y :: r), S_append, S_append]; rfl
theorem strs_values {vs : List Value} {xs : List Str} (h : StrsAre vs xs) : ∃ l : List (Str × Tok), strValues l = vs ∧ l.map (·.1) = xs := by
  induction h with
  | nil => exact ⟨[], rfl, rfl⟩
  | cons y t _ ih => obtain ⟨l, rfl, rfl⟩ := ih; exact ⟨(y, t) :: l, rfl, rfl⟩
section
variable {prog : Program} {w : World} {A : Around} {E : Value → Shared → Prop} {s : Shared} {Q : Value → Shared → Prop}
theorem join_L {sep : T} {t : Tok} {l : Addr} {vs : List Value} {xs : List T} (B : Nat) (hl : s.heap.IsList l vs.toArray) (hx : StrsAre vs (xs.map S)) (hB : ∀ x ∈ xs, x.length ≤ B) (hs : xs.length * B + xs.length * sep.length ≤ 16000000)
    (h : ∀ t tk, Q (.str (S (joinT sep xs)) t) { s with toks := tk }) : wpAny (model prog w) A (call (.builtin "str.join") [.str (S sep) t, .ref l]) Q E s := by
  obtain ⟨lv, rfl, e⟩ := strs_values hx
  refine SC.join hl e ?_ (fun t' k => ?_)
  · unfold JoinOk
    rw [StrLaws.joinFits (B := B) (fun y hy => ?_) (by rw [List.length_map, S_length]; omega)]
    · rfl
    · obtain ⟨x, hx', rfl⟩ := List.mem_map.mp hy
      rw [S_length]; exact hB x hx'
  · have e2 : Txt.join (S sep) (xs.map S) = S (joinT sep xs) := by
      rw [← join_S]
      exact StrLaws.glued_eq_join _ _
    rw [e2]; exact h _ _
end
end Mine
end
section
open PySem PySem.W PyProof.Rows PySem.Calls PySem.Spec
set_option maxRecDepth 100000
namespace Mine
section
variable {prog : Program} {w : World} {A : Around} {s : Shared} {h₀ : Heap} {L : Addr} {m : Str → Option Value} {env : Env} {elt : PySem.Expr} {x : Str} {scope : Scope} {cl : List (Str × Addr)} {St : List (Addr × Obj) → Prop} {Fin : List Value → List (Addr × Obj) → Prop} {news : List (Addr × Obj)}
/-- what a turn of a comprehension gives back -/
def TurnEnd (h₀ : Heap) (L : Addr) (m : Str → Option Value) (s₁ : Shared) (I : Addr) (oI : Obj) (C : Addr) (oC : Obj) (D : Addr) (oD : Obj) (news : List (Addr × Obj)) (P : Value → Prop) (y : Value) (s₂ : Shared) : Prop :=
  ∃ h' tk, s₂ = { s₁ with heap := h', toks := tk } ∧ Fr h₀ L h' m ∧ News h₀ L h' ((I, oI) :: (C, oC) :: (D, oD) :: news) ∧ P y
theorem TurnEnd.intro {s₁ : Shared} {I C D : Addr} {oI oC oD : Obj} {P : Value → Prop} {y : Value} {h' : Heap} {tk : Nat} {all : List (Addr × Obj)} (F : Fr h₀ L h' m) (N : News h₀ L h' all) (sub : ∀ p ∈ (I, oI) :: (C, oC) :: (D, oD) :: news, p ∈ all) (r : P y) :
    TurnEnd h₀ L m s₁ I oI C oC D oD news P y { s₁ with heap := h', toks := tk } := ⟨h', tk, rfl, F, fun p hp => N p (sub p hp), r⟩
theorem comp_inv {vs : List Value} (inv : Nat → List Value → Prop) (hS : St news) (h0 : inv 0 [])
    (turn : ∀ i v ys I oI C oC D m₂ h tk (E' : Value → Shared → Prop), vs[i]? = some v → inv i ys → LCg.NsObj oC m₂ → m₂ x = some v → Fr h₀ L h m → News h₀ L h ((I, oI) :: (C, oC) :: (D, LCg.lst ys) :: news) → LCg.Off3 I C D news → ((@Ne Nat I C) ∧ (@Ne Nat I D) ∧ (@Ne Nat C D)) →
      wpAny (model prog w) A (eval elt (compEnvC scope cl C env)) (TurnEnd h₀ L m { s with heap := h, toks := tk } I oI C oC D (LCg.lst ys) news (fun y => inv (i + 1) (ys ++ [y]))) E' { s with heap := h, toks := tk })
    (fin : ∀ ys, inv vs.length ys → Fin ys news) : LCg.CompRest prog w A h₀ L m env elt x scope cl s St (fun i v => vs.toArray[i]? = some v) Fin vs.toArray.size 0 [] news := by
  have key : ∀ (j i : Nat) (ys : List Value), i + j = vs.length → inv i ys → LCg.CompRest prog w A h₀ L m env elt x scope cl s St (fun i v => vs.toArray[i]? = some v) Fin j i ys news := by
    intro j
    induction j with
    | zero =>
      intro i ys hi hy
      exact LCg.CompRest.zero (fin ys (by rw [show vs.length = i by omega]; exact hy))
    | succ j ih =>
      intro i ys hi hy
      refine LCg.CompRest.succ ?_
      intro v I oI C oC D m₂ h tk E' hv hC hx F N off ne
      refine wpAny_mono (turn i v ys I oI C oC D m₂ h tk E' (by simpa using hv) hy hC hx F N off ne) (fun y s₂ hq => ?_) fun _ _ e => e
      obtain ⟨h', tk', rfl, F', N', hy'⟩ := hq
      exact ⟨h', tk', news, rfl, F', N', off, hS, ih (i + 1) _ (by omega) hy'⟩
  have := key vs.length 0 [] (by omega) h0
  rw [List.size_toArray]
  exact this
end
theorem refs_get {rs : List RowE} {i : Nat} {v : Value} (h : (refsOf rs)[i]? = some v) : ∃ r, rs[i]? = some r ∧ v = .ref r.1 := by
  unfold refsOf at h
  rw [List.getElem?_map] at h
  cases e : rs[i]? with
  | none => rw [e] at h; cases h
  | some r => rw [e] at h; exact ⟨r, rfl, (Option.some.inj h).symm⟩
theorem row_mem {rs : List RowE} {i : Nat} {r : RowE} (h : rs[i]? = some r) : (r.1, listOf (List.toArray r.2.1) r.2.2) ∈ rowL rs := List.mem_map.mpr ⟨r, List.mem_of_getElem? h, rfl⟩
theorem getD_mem {α : Type} {xs : List α} {i : Nat} {d : α} (h : i < xs.length) : xs.getD i d ∈ xs := by
  rw [List.getD_eq_getElem?_getD, List.getElem?_eq_getElem h]; exact List.getElem_mem h
theorem take_succ_S {xs : List T} {i : Nat} (h : i < xs.length) : (xs.take (i + 1)).map S = (xs.take i).map S ++ [S (xs.getD i [])] := by
  rw [List.take_add_one, List.getElem?_eq_getElem h, List.map_append, List.getD_eq_getElem?_getD, List.getElem?_eq_getElem h]; rfl
theorem getD_map' {α β : Type} (f : α → β) (xs : List α) (i : Nat) (d : α) (d' : β) (h : i < xs.length) : (xs.map f).getD i d' = f (xs.getD i d) := by
  simp [List.getD_eq_getElem?_getD, List.getElem?_eq_getElem h]
theorem joinT_len (sep : T) : ∀ xs : List T, (∀ x ∈ xs, x.length ≤ 10) → (joinT sep xs).length ≤ xs.length * (10 + sep.length)
  | [], _ => Nat.zero_le _
  | [x], h => by have := h x (.head _); simp only [joinT, List.length_cons, List.length_nil]; omega
  | x :: y :: r, h => by
    have h1 := h x (.head _)
    have h2 := joinT_len sep (y :: r) (fun z hz => h z (.tail _ hz))
    simp only [joinT, List.length_append, List.length_cons, Nat.add_mul, Nat.one_mul] at h2 ⊢
    omega
theorem refsOf_append (rs : List RowE) (e : RowE) : refsOf (rs ++ [e]) = refsOf rs ++ [.ref e.1] := by simp [refsOf]
theorem grow_rows {g h : Heap} {L : Addr} {a : Nat} {x y : Addr × Obj} {l : List (Addr × Obj)} {rs : List RowE} (N : News g L h ((a, listOf (List.toArray []) 0) :: x :: y :: (l ++ rowL rs))) : News g L h (x :: y :: (l ++ rowL (rs ++ [(a, [], 0)]))) := fun p hp => N p (by
  rcases List.mem_cons.mp hp with rfl | hp
  · exact .tail _ (.head _)
  rcases List.mem_cons.mp hp with rfl | hp
  · exact .tail _ (.tail _ (.head _))
  rcases List.mem_append.mp hp with hp | hp
  · exact .tail _ (.tail _ (.tail _ (List.mem_append_left _ hp)))
  · rw [rowL_append] at hp
    rcases List.mem_append.mp hp with hp | hp
    · exact .tail _ (.tail _ (.tail _ (List.mem_append_right _ hp)))
    · rw [List.mem_singleton.mp hp]; exact .head _)
/-- the new address lies above the rows -/
theorem allLt_rows {d : Nat} {l : List (Addr × Obj)} {rs : List RowE} (h : AllLt d (l ++ rowL rs)) : ∀ r ∈ rs, r.1 < d := fun r hr => by
  have all : ∀ (l : List (Addr × Obj)), AllLt d l → ∀ p ∈ l, @LT.lt Nat _ p.1 d := fun l => by
    induction l with
    | nil => intro _ p hp; cases hp
    | cons q l ih =>
      intro h p hp
      rcases List.mem_cons.mp hp with rfl | hp
      · exact h.1
      · exact ih h.2 p hp
  exact all _ h (r.1, listOf (List.toArray r.2.1) r.2.2) (List.mem_append_right _ (List.mem_map_of_mem hr))
end Mine
end
section
open PySem PySem.W PyProof.Rows PySem.Calls PySem.Spec
set_option maxRecDepth 100000
namespace Mine
theorem str_digs (n : Nat) : Str.ofString (toString (n : Int)) = S (digs n) := by
  have h := KIN.signs_num n
  show _ = (⟨((Nat.toDigits 10 n).map Char.toNat).toArray⟩ : Str)
  rw [← h]
theorem S_inj {a b : T} (h : S a = S b) : a = b := by
  have := congrArg (fun x : Str => x.cps.toList) h
  simpa [S_cps] using this
theorem mapS_inj : ∀ {p q : List T}, p.map S = q.map S → p = q
  | [], [], _ => rfl
  | [], _ :: _, h => by cases h
  | _ :: _, [], h => by cases h
  | a :: p, b :: q, h => by
    simp only [List.map_cons, List.cons.injEq] at h
    rw [S_inj h.1, mapS_inj h.2]
theorem digs_le {n : Nat} (h : n ≤ 310) : (digs n).length ≤ 30 := by
  have e : ∀ k < 311, (digs k).length ≤ 30 := by decide +kernel
  exact e n (by omega)
section
variable {prog : Program} {w : World} {A : Around} {E : Value → Shared → Prop} {s : Shared}
theorem str_nat {a : Int} {n : Nat} {t : Tok} {Q : Value → Shared → Prop} (ha : a = (n : Int)) (hn : n ≤ 100000) (h : ∀ t' tk, Q (.str (S (digs n)) t') { s with toks := tk }) : wpAny (model prog w) A (call (.type "str") [.int a t]) Q E s := by
  subst ha
  refine P.str_of_int (shown (N := 1000000) (by omega) (by omega) (by decide +kernel)) ?_
  have := h s.toks (s.toks + 1)
  rw [← str_digs] at this
  exact this
theorem iadd_S {x y : T} {t u : Tok} {Q : Value → Shared → Prop} (hx : x.length ≤ 100000) (hy : y.length ≤ 100000) (h : ∀ t' tk, Q (.str (S (x ++ y)) t') { s with toks := tk }) : wpAny (model prog w) A (inplaceOp .Add (.str (S x) t) (.str (S y) u)) Q E s :=
  PyProof.Rows.iadd_str (fun t' tk => S_append x y ▸ h t' tk) (by rw [S_length, S_length]; simp only [sizeLine_eq]; omega)
theorem StrsAre.at {a : List Value} {x : List Str} (h : StrsAre a x) (i : Nat) (hi : i < a.length) : ∃ t, a[i] = .str (x.getD i Str.empty) t := by
  have hl := strsAre_length h
  obtain ⟨t, e⟩ := StrsAre.get h i (by omega)
  exact ⟨t, (List.getElem?_eq_some_iff.mp e).2⟩
theorem range_all_eq : ∀ (p q : List Str), p.length = q.length → (List.range p.length).all (fun j => p.getD j Str.empty == q.getD j Str.empty) = decide (p = q) := by
  intro p q h
  rw [Bool.eq_iff_iff, List.all_eq_true, decide_eq_true_eq]
  constructor
  · intro hh
    apply List.ext_getElem h
    intro j h1 h2
    have := hh j (List.mem_range.mpr h1)
    simp only [List.getD_eq_getElem?_getD, List.getElem?_eq_getElem h1, List.getElem?_eq_getElem h2, Option.getD_some, beq_iff_eq] at this
    exact this
  · rintro rfl j hj
    exact beq_self_eq_true _
theorem ne_strs {a b : Addr} {xs ys : List Value} {p q : List Str} {Q : Value → Shared → Prop} (ha : s.heap.IsList a xs.toArray) (hb : s.heap.IsList b ys.toArray) (hi : StrsAre xs p) (hj : StrsAre ys q) (hu : A.units < cLine) (h : Q (.bool (!decide (p = q))) s) :
    wpAny (model prog w) A (compareOp .NotEq (.ref a) (.ref b)) Q E s := by
  have l1 := strsAre_length hi
  have l2 := strsAre_length hj
  by_cases hl : p.length = q.length
  · refine SeqAt.RcNeAt.lists (e := fun j => p.getD j Str.empty == q.getD j Str.empty) ha hb (by simp; omega) hu (fun j h1 h2 => ?_) prog w E Q ?_
    · obtain ⟨t, e1⟩ := StrsAre.at hi j (by simpa using h1)
      obtain ⟨u, e2⟩ := StrsAre.at hj j (by simpa using h2)
      simp only [List.getElem_toArray]
      rw [e1, e2]
      exact SeqAt.EqAt.str_str _ _ _ _
    · rw [List.size_toArray, l1, range_all_eq p q hl]; exact h
  · refine SeqAt.RcNeAt.lists_lengths ha hb (by simp; omega) hu prog w E Q ?_
    have e : decide (p = q) = false := decide_eq_false (fun e => hl (by rw [e]))
    rw [e] at h
    exact h
theorem eq_strs {a b : Addr} {xs ys : List Value} {p q : List Str} {Q : Value → Shared → Prop} (ha : s.heap.IsList a xs.toArray) (hb : s.heap.IsList b ys.toArray) (hi : StrsAre xs p) (hj : StrsAre ys q) (hu : A.units < cLine) (h : Q (.bool (decide (p = q))) s) :
    wpAny (model prog w) A (compareOp .Eq (.ref a) (.ref b)) Q E s := by
  have l1 := strsAre_length hi
  have l2 := strsAre_length hj
  by_cases hl : p.length = q.length
  · refine SeqAt.eq_listAt (e := fun j => p.getD j Str.empty == q.getD j Str.empty) ha hb (by simp; omega) hu (fun j h1 h2 => ?_) ?_
    · obtain ⟨t, e1⟩ := StrsAre.at hi j (by simpa using h1)
      obtain ⟨u, e2⟩ := StrsAre.at hj j (by simpa using h2)
      simp only [List.getElem_toArray]
      rw [e1, e2]
      exact SeqAt.EqAt.str_str _ _ _ _
    · rw [List.size_toArray, l1, range_all_eq p q hl]; exact h
  · refine SeqAt.eq_list_lengthsAt ha hb (by simp; omega) hu ?_
    have e : decide (p = q) = false := decide_eq_false (fun e => hl (by rw [e]))
    rw [e] at h
    exact h
end
theorem pick_prev (l : List Value) (p : Nat) (h : p < l.length) : kms_pick l (some ((p : Int) - 1)) (some (p : Int)) = if 1 ≤ p then (l.drop (p - 1)).take 1 else [] := by
  by_cases h1 : 1 ≤ p
  · rw [if_pos h1]
    simp only [kms_pick, kms_lo, kms_hi]
    rw [if_neg (by omega), if_neg (by omega), show min ((p : Int) - 1).toNat l.length = p - 1 by omega, show min (p : Int).toNat l.length = p by omega, show p - (p - 1) = 1 by omega]
  · rw [if_neg h1]
    have : p = 0 := by omega
    subst this
    simp [kms_pick, kms_hi]
/-- what the loop keeps of its state's sizes -/
structure Bounds (k : Nat) (σ : TS) : Prop where
  rows : σ.rows.length + k ≤ 300
  times : σ.times.length = σ.rows.length
  deep : σ.deep ≤ σ.rows.length
  row : ∀ r ∈ σ.rows, r.length + k ≤ 300 ∧ ∀ x ∈ r, x.length ≤ 10
  time : ∀ t ∈ σ.times, t.length + 30 * k ≤ 9000
  turn : σ.turn + k ≤ 300
  sign : σ.sign.length ≤ 10
/-- and behind open -/
structure Bounds' (k : Nat) (σ : TS) : Prop where
  rows : σ.rows.length + k ≤ 300
  times : σ.times.length = σ.rows.length
  deep : σ.deep < σ.rows.length
  row : ∀ r ∈ σ.rows, r.length + (k + 1) ≤ 300 ∧ ∀ x ∈ r, x.length ≤ 10
  time : ∀ t ∈ σ.times, t.length + 30 * (k + 1) ≤ 9000
  turn : σ.turn + (k + 1) ≤ 300
  sign : σ.sign.length ≤ 10
theorem Bounds.open {k : Nat} {σ : TS} (h : Bounds (k + 1) σ) : Bounds' k σ.open := by
  have h1 := h.rows
  have h2 := h.deep
  have h3 := h.times
  unfold TS.open
  by_cases hd : σ.deep = σ.rows.length
  · rw [if_pos hd]
    refine ⟨by simp only [List.length_append, List.length_cons, List.length_nil]; omega, by simp only [List.length_append, List.length_cons, List.length_nil]; omega, by simp only [List.length_append, List.length_cons, List.length_nil]; omega, ?_, ?_, h.turn, h.sign⟩
    · intro r hr
      rcases List.mem_append.mp hr with hr | hr
      · exact h.row r hr
      · rw [List.mem_singleton.mp hr]
        exact ⟨by simp only [List.length_nil]; omega, fun x hx => nomatch hx⟩
    · intro r hr
      rcases List.mem_append.mp hr with hr | hr
      · exact h.time r hr
      · rw [List.mem_singleton.mp hr]
        simp only [List.length_nil]; omega
  · rw [if_neg hd]
    exact ⟨by omega, h3, by omega, h.row, h.time, h.turn, h.sign⟩
theorem Bounds'.turnOf {k : Nat} {σ : TS} (h : Bounds' k σ) (hw : (σ.ws.headD []).length ≤ 10) : Bounds k σ.turnOf := by
  have h1 := h.rows
  have h2 := h.deep
  have h3 := h.times
  have h4 := h.turn
  have hr0 := h.row _ (getD_mem (d := []) h2)
  unfold TS.turnOf
  by_cases hp : bis (σ.rows.getD σ.deep []) σ.sign = (σ.rows.getD σ.deep []).length
  · simp only [hp, if_true]
    refine ⟨by simp only [List.length_set]; omega, by simp only [List.length_set]; omega, by simp only [List.length_set]; omega, ?_, ?_, by simp only; omega, hw⟩
    · intro r hr
      rcases List.mem_or_eq_of_mem_set hr with hr | rfl
      · have := h.row r hr
        exact ⟨by omega, this.2⟩
      · refine ⟨by simp only [List.length_append, List.length_cons, List.length_nil]; omega, fun x hx => ?_⟩
        rcases List.mem_append.mp hx with hx | hx
        · exact hr0.2 x hx
        · rw [List.mem_singleton.mp hx]; exact h.sign
    · intro t ht
      rcases List.mem_or_eq_of_mem_set ht with ht | rfl
      · have := h.time t ht; omega
      · have a := h.time _ (getD_mem (d := []) (by omega : σ.deep < σ.times.length))
        have b := digs_le (n := σ.turn + 1) (by omega)
        simp only [List.length_append]; omega
  · simp only [hp, if_false]
    have hrow : ∀ r ∈ σ.rows, r.length + k ≤ 300 ∧ ∀ x ∈ r, x.length ≤ 10 := fun r hr => by
      have := h.row r hr
      exact ⟨by omega, this.2⟩
    refine ⟨?_, ?_, ?_, ?_, fun t ht => by have := h.time t ht; omega, by simp only; omega, ?_⟩
    · split <;> (try simp only [List.length_set]) <;> omega
    · split <;> (try simp only [List.length_set]) <;> omega
    · split <;> (try simp only [List.length_set]) <;> omega
    · split
      · exact hrow
      · intro r hr
        rcases List.mem_or_eq_of_mem_set hr with hr | rfl
        · exact hrow r hr
        · refine ⟨by rw [List.length_set]; omega, fun x hx => ?_⟩
          rcases List.mem_or_eq_of_mem_set hx with hx | rfl
          · exact hr0.2 x hx
          · exact h.sign
    · simp only
      rw [List.getD_eq_getElem?_getD]
      rcases hq : (σ.rows.getD σ.deep [])[bis (σ.rows.getD σ.deep []) σ.sign]? with _ | x
      · simp
      · exact hr0.2 x (List.mem_of_getElem? hq)
theorem bisGo_le (xs : List T) (x : T) : ∀ n lo hi, lo ≤ hi → hi ≤ xs.length → bisGo xs x n lo hi ≤ xs.length
  | 0, lo, hi, h, h' => by simp only [bisGo]; omega
  | n + 1, lo, hi, h, h' => by
    simp only [bisGo]
    split
    · split
      · exact bisGo_le xs x n _ _ (by omega) (by omega)
      · exact bisGo_le xs x n _ _ (by omega) (by omega)
    · omega
theorem bis_le (xs : List T) (x : T) : bis xs x ≤ xs.length := bisGo_le xs x _ _ _ (Nat.zero_le _) (Nat.le_refl _)

theorem open_same (σ : TS) : σ.open.deep = σ.deep ∧ σ.open.turn = σ.turn ∧ σ.open.sign = σ.sign ∧ σ.open.ws = σ.ws := by
  unfold TS.open
  split <;> exact ⟨rfl, rfl, rfl, rfl⟩
theorem pick_strs {vs : List Value} {row : List T} (h : StrsAre vs (row.map S)) (p : Nat) : StrsAre (if 1 ≤ p then (vs.drop (p - 1)).take 1 else []) ((if 1 ≤ p then (row.drop (p - 1)).take 1 else []).map S) := by
  split
  · rw [List.map_take, List.map_drop]
    exact StrsAre.take (StrsAre.drop h _) _
  · exact .nil
theorem pick_eq {row : List T} {p : Nat} {x : T} (h : p < row.length) : ((if 1 ≤ p then (row.drop (p - 1)).take 1 else []).map S = [x].map S) ↔ (1 ≤ p ∧ row.getD (p - 1) [] = x) := by
  constructor
  · intro e
    have e := mapS_inj e
    by_cases h1 : 1 ≤ p
    · rw [if_pos h1] at e
      refine ⟨h1, ?_⟩
      have := congrArg (fun l : List T => l.getD 0 []) e
      simp only [List.getD_eq_getElem?_getD, List.getElem?_take, List.getElem?_drop, List.getElem?_cons_zero] at this
      simpa [List.getD_eq_getElem?_getD] using this
    · rw [if_neg h1] at e; cases e
  · rintro ⟨h1, rfl⟩
    rw [if_pos h1]
    congr 1
    have hlt : p - 1 < row.length := by omega
    rw [List.getD_eq_getElem?_getD, List.getElem?_eq_getElem hlt, Option.getD_some, ← List.getElem_cons_drop (h := hlt)]
    rfl
theorem pick_size {vs : List Value} {p : Nat} : (if 1 ≤ p then (vs.drop (p - 1)).take 1 else []).length ≤ 1 := by
  split
  · exact List.length_take_le _ _
  · exact Nat.zero_le _
theorem refs_set {rs : List RowE} {d n n' : Nat} {a : Nat} {vs vs' : List Value} (h : rs[d]? = some (a, vs, n)) : refsOf (rs.set d (a, vs', n')) = refsOf rs := by
  unfold refsOf
  rw [List.map_set]
  apply List.ext_getElem? 
  intro i
  rw [List.getElem?_set]
  by_cases e : d = i
  · subst e
    rw [if_pos rfl, List.getElem?_map, h]
    obtain ⟨hd, _⟩ := List.getElem?_eq_some_iff.mp h
    rw [List.length_map, if_pos hd]
    rfl
  · rw [if_neg e]
theorem fst_set {rs : List RowE} {d n n' : Nat} {a : Nat} {vs vs' : List Value} (h : rs[d]? = some (a, vs, n)) : (rs.set d (a, vs', n')).map (·.1) = rs.map (·.1) := by
  rw [List.map_set]
  apply List.ext_getElem? 
  intro i
  rw [List.getElem?_set]
  by_cases e : d = i
  · subst e
    rw [if_pos rfl, List.getElem?_map, h]
    obtain ⟨hd, _⟩ := List.getElem?_eq_some_iff.mp h
    rw [List.length_map, if_pos hd]
    rfl
  · rw [if_neg e]
theorem above_set {rs : List RowE} {d n n' ta : Nat} {a : Nat} {vs vs' : List Value} (h : rs[d]? = some (a, vs, n)) (ho : ∀ r ∈ rs, ta < r.1) : ∀ r ∈ rs.set d (a, vs', n'), ta < r.1 := by
  intro r hr
  rcases List.mem_or_eq_of_mem_set hr with hr | rfl
  · exact ho r hr
  · exact ho (a, vs, n) (List.mem_of_getElem? h)
theorem set_same {α : Type} {xs : List α} {d : Nat} {x : α} (h : xs[d]? = some x) : xs.set d x = xs := by
  apply List.ext_getElem? 
  intro i
  rw [List.getElem?_set]
  by_cases e : d = i
  · subst e
    obtain ⟨hd, _⟩ := List.getElem?_eq_some_iff.mp h
    rw [if_pos rfl, if_pos hd, h]
  · rw [if_neg e]
theorem getD_set_same {xs : List T} {d : Nat} : xs.set d (xs.getD d []) = xs := by
  by_cases hd : d < xs.length
  · exact set_same (by rw [List.getD_eq_getElem?_getD, List.getElem?_eq_getElem hd]; rfl)
  · rw [List.set_eq_of_length_le (by omega)]
theorem getD_set_rows {xs : List (List T)} {d : Nat} : xs.set d (xs.getD d []) = xs := by
  by_cases hd : d < xs.length
  · exact set_same (by rw [List.getD_eq_getElem?_getD, List.getElem?_eq_getElem hd]; rfl)
  · rw [List.set_eq_of_length_le (by omega)]
theorem turnOf_end {σ : TS} (h : bis (σ.rows.getD σ.deep []) σ.sign = (σ.rows.getD σ.deep []).length) : σ.turnOf =
    { rows := σ.rows.set σ.deep (σ.rows.getD σ.deep [] ++ [σ.sign]), times := σ.times.set σ.deep (σ.times.getD σ.deep [] ++ digs (σ.turn + 1)), deep := 0, turn := σ.turn + 1, sign := σ.ws.headD [], ws := σ.ws.tail } := by
  unfold TS.turnOf; simp only [h, if_true]
theorem turnOf_bump {σ : TS} (h : bis (σ.rows.getD σ.deep []) σ.sign ≠ (σ.rows.getD σ.deep []).length) (b : 1 ≤ bis (σ.rows.getD σ.deep []) σ.sign ∧ (σ.rows.getD σ.deep []).getD (bis (σ.rows.getD σ.deep []) σ.sign - 1) [] = σ.sign) : σ.turnOf =
    { rows := σ.rows.set σ.deep (σ.rows.getD σ.deep []), times := σ.times, deep := σ.deep + 1, turn := σ.turn, sign := (σ.rows.getD σ.deep []).getD (bis (σ.rows.getD σ.deep []) σ.sign) [], ws := σ.ws } := by
  unfold TS.turnOf; simp only [h, if_false, b, and_self, if_true, getD_set_rows]
theorem turnOf_set {σ : TS} (h : bis (σ.rows.getD σ.deep []) σ.sign ≠ (σ.rows.getD σ.deep []).length) (b : ¬ (1 ≤ bis (σ.rows.getD σ.deep []) σ.sign ∧ (σ.rows.getD σ.deep []).getD (bis (σ.rows.getD σ.deep []) σ.sign - 1) [] = σ.sign)) : σ.turnOf =
    { rows := σ.rows.set σ.deep ((σ.rows.getD σ.deep []).set (bis (σ.rows.getD σ.deep []) σ.sign) σ.sign), times := σ.times, deep := σ.deep + 1, turn := σ.turn, sign := (σ.rows.getD σ.deep []).getD (bis (σ.rows.getD σ.deep []) σ.sign) [], ws := σ.ws } := by
  unfold TS.turnOf; simp only [h, if_false, b]
theorem rest_above {z : LexZ} {x y u : Addr × Obj} {rs : List (Addr × Obj)} {ta a : Nat} (h1 : @LT.lt Nat _ z.pb x.1) (h2 : @LT.lt Nat _ z.pb y.1) (h3 : @LT.lt Nat _ z.pb u.1) (h4 : z.pb < ta) (ho : Aside rs ta a) : ∀ p ∈ x :: y :: u :: rs, @LT.lt Nat _ z.pb p.1 := by
  intro p hp
  rcases List.mem_cons.mp hp with rfl | hp
  · exact h1
  rcases List.mem_cons.mp hp with rfl | hp
  · exact h2
  rcases List.mem_cons.mp hp with rfl | hp
  · exact h3
  · exact Nat.lt_trans h4 (ho p hp).1
end Mine
end
section
open PySem PySem.W PyProof.Rows PySem.Calls PySem.Spec
set_option maxRecDepth 100000
namespace Mine
theorem lnTab1 : True := by
  k_with_none
  k_with "own_room" => ((show _ < 1000; (try simp only [depth_under_make, depth_under_kw, depth_in1, depth_deeper]); omega))
  k_with "eval Name" => ((k_here; k_dflt (refine' nameX_F ?N ?c ?m ?d ?_ ?a ?b; (case a => rfl); (case b => rfl); (case N => k_asm); (case c => rfl); (case m => k_mem); (case d => k_asm); k_whole)))
  k_with "ite" => (first | (refine ite_pos (by decide +kernel) ?_) | (refine ite_neg (by decide +kernel) ?_))
  k_with "inplaceOp Add str str" => ((refine iadd_empty (by first | assumption | (simp only [S_length]; omega)) ?_; intro tq' tkq'))
  k_with "m_get" => (first | rfl | (with_reducible assumption) | exact if_pos rfl | (refine (if_neg (by decide +kernel)).trans ?_; walk_at "m_get"))
  k_with "m_subs" => (first | exact List.forall_mem_nil _ | (refine List.forall_mem_cons.mpr ⟨by k_dflt k_mem, ?_⟩; walk_at "m_subs"))
  k_with "m_dis" => (first | exact List.forall_mem_nil _ | (refine List.forall_mem_cons.mpr ⟨by k_all, ?_⟩; walk_at "m_dis"))
  k_with "m_list" => (first | (with_reducible assumption) | exact stays_list (Fr.keep (by with_reducible assumption)) (by with_reducible assumption) | exact News.isList (by with_reducible assumption) (by k_mem))
  k_with "m_size" => (first | omega | (simp only [List.size_toArray, List.length_map, List.length_cons, List.length_append, List.length_nil, strsAre_length (by assumption)]; omega))
  k_with "truthy ref" => (((with_reducible show wpAny _ _ (truthy (Value.ref _)) _ _ _); k_dflt (first | (refine truthy_nil (by walk_at "m_list") ?_; intro tkq') | (refine truthy_cons (by walk_at "m_list") (by walk_at "m_size") ?_; intro tkq'))))
  k_with "call type:list" => (((with_reducible show wpAny _ _ (call (Value.type _) [Value.str _ _]) _ _ _); refine list_str_K rfl (by k_asm) (by k_asm) (by assumption) ?_; intro Dq' ysq' nq' hq' tkq' Fq' Nq' hSq' l1q; k_lt l1q; (try k_sweep)))
  k_with "call builtin:list.pop" => (((with_reducible show wpAny _ _ (call (Value.builtin _) [Value.ref _, Value.int 0 _]) _ _ _); k_dflt (refine' pop0_K ?F ?N ?U ?z ?_; (case F => k_asm); (case N => k_asm); (case U => k_upd); (case z => walk_at "m_size"); intro hq' Fq' Nq'; (try dsimp only [List.nil_append, List.cons_append] at Nq'); (try k_sweep))))
  k_with "eval Name" => ((refine ld (by with_reducible assumption) (by walk_at "m_get") ?_))
  k_with "truthy str" => (first | (refine truthy_S_f ?_; intro tkq') | (refine truthy_S_t (by with_reducible assumption) (by omega) ?_; intro tkq'))
  k_with "exec While" => ((refine stop_of ?_))
  k_with "call ref" => (((with_reducible show wpAny _ _ (call (Value.ref _) _) _ _ _); refine stop_of ?_))
  k_with "eval ListComp" => ((refine stop_of ?_))
  k_with "CompSrc" => ((refine stop_of ?_))
  k_with "TurnEnd" => ((refine stop_of ?_))
  k_with "eval Name" => ((k_here; (with_reducible show wpAny _ _ (eval (Expr.Name _ _) (compEnvC _ _ _ _)) _ _ _); k_dflt (first | refine LCgL.ld_own (by k_asm) (by k_mem) (by with_reducible assumption) (by with_reducible assumption) ?_ | refine LCgL.ld_global (by k_asm) (by k_asm) (by k_asm) (by k_is) ?_ | refine LCgL.ld_built (by k_asm) (by k_asm) (by k_asm) (by k_is) (by boot_by_name) (by decide) ?_)))
  k_with "call builtin:str.join" => ((refine stop_of ?_))
  k_with "m_far" => (first | exact tail_ne (by with_reducible assumption) (by with_reducible assumption) (by omega) | exact List.forall_mem_nil _ | ((with_reducible refine List.forall_mem_cons.mpr ⟨?_, ?_⟩); (show @Ne Nat _ _; (try dsimp only); omega); walk_at "m_far"))
  k_with "own_upd" => (first | ((with_reducible refine Upd.head ?_); walk_at "m_far") | ((with_reducible refine Upd.tail ?_ ?_); (show @Ne Nat _ _; (try dsimp only); omega); k_upd))
  k_with "m_get" => (first | (with_reducible assumption) | (with_reducible exact if_pos rfl) | ((with_reducible refine (if_neg (by decide +kernel)).trans ?_); walk_at "m_get"))
  k_with "own_all" => (exact tail_ne (by with_reducible assumption) (by with_reducible assumption) (by omega))
  k_with "call builtin:len" => (((with_reducible show wpAny _ _ (call (Value.builtin "len") [Value.ref _]) _ _ _); k_dflt (refine len_L (by walk_at "m_list") (by walk_at "m_size") ?_); intro tq' tkq'))
  k_with "call builtin:list.append" => (((with_reducible show wpAny _ _ (call (Value.builtin _) [Value.ref _, _]) _ _ _); k_dflt (refine' append_L ?F ?N ?U ?z ?_; (case F => k_asm); (case N => k_asm); (case U => k_upd); (case z => walk_at "m_size"); intro hq' Fq' Nq'; (try k_sweep))))
  k_with "m_cond" => (first | decide +kernel | (simp only [beq_iff_eq, decide_eq_true_eq]; omega) | (simp only [beq_iff_eq, bne_iff_ne, ne_eq, decide_eq_true_eq]; omega))
  k_with "ite" => (first | (refine ite_pos (by walk_at "m_cond") ?_) | (refine ite_neg (by walk_at "m_cond") ?_))
  k_with "subscriptTail" => (((with_reducible show wpAny _ _ (subscriptTail _ _ (Value.ref _) (Value.int _ _)) _ _ _); k_dflt (refine item_L (by walk_at "m_list") (by with_reducible assumption) (by walk_at "m_size") ?_)))
  k_with "subscriptTail Name Name ref int" => (((with_reducible show wpAny _ _ (subscriptTail _ _ (Value.ref _) (Value.int _ _)) _ _ _); k_dflt (refine item_L (by walk_at "m_list") (by with_reducible assumption) (by walk_at "m_size") ?_)))
  k_with "subscriptTail Subscript Name ref int" => (((with_reducible show wpAny _ _ (subscriptTail _ _ (Value.ref _) (Value.int _ _)) _ _ _); k_dflt (refine item_L (by walk_at "m_list") (by with_reducible assumption) (by walk_at "m_size") ?_)))
  k_with "loadName" => (refine ldn (by with_reducible assumption) (by walk_at "m_get") ?_)
  k_with "getItem ref int" => (((with_reducible show wpAny _ _ (getItem (Value.ref _) (Value.int _ _)) _ _ _); k_dflt (refine getItem_L (by walk_at "m_list") (by with_reducible assumption) (by walk_at "m_size") ?_)))
  k_with "setItem ref int" => (((with_reducible show wpAny _ _ (setItem (Value.ref _) (Value.int _ _) _) _ _ _); k_dflt (refine' setItem_L ?F ?N ?U ?k ?z ?_; (case F => k_asm); (case N => k_asm); (case U => k_upd); (case k => omega); (case z => walk_at "m_size"); intro hq' Fq' Nq'; (try k_sweep))))
  k_with "call type:str" => (((with_reducible show wpAny _ _ (call (Value.type "str") [Value.int _ _]) _ _ _); refine str_nat (by with_reducible assumption) (by omega) ?_; intro tq' tkq'))
  k_with "inplaceOp Add str str" => (((with_reducible refine iadd_S (by omega) (by omega) ?_); intro tq' tkq'))
  k_with "subscriptTail Name Slice ref ref" => ((refine stop_of ?_))
  k_with "subscriptTail Subscript Slice ref ref" => ((refine stop_of ?_))
  k_with "compareOp NotEq ref ref" => ((refine stop_of ?_))
  k_with "WhileStep" => ((refine stop_of ?_))
  trivial

/-- the loop's state, at its test -/
structure LoopAt (w : World) (z : LexZ) (σf : TS) (k : Nat) (m : Str → Option Value) (news : List (Addr × Obj)) (σ : TS) (ra ta n1 n2 : Nat) (rs : List RowE) (tms : List Value) (ln : Int) (tl : Tok) (ys : List Value) (n kk : Nat) (t1 t2 t3 : Tok) : Prop where
  news : news = (ra, listOf (List.toArray (refsOf rs)) n1) :: (ta, listOf (List.toArray tms) n2) :: (lexObjs w z ln tl ys n [] kk ++ rowL rs)
  lexer : m "lexer" = some (.ref z.lx)
  mrows : m "rows" = some (.ref ra)
  mtimes : m "times" = some (.ref ta)
  mdeep : m "deep" = some (.int σ.deep t1)
  mturn : m "turn" = some (.int σ.turn t2)
  msign : m "sign" = some (.str (S σ.sign) t3)
  o1 : z.pb < ra
  o2 : ra < ta
  o3 : ∀ r ∈ rs, ta < r.1
  nd : (rs.map (·.1)).Nodup
  rowsAre : RowsAre rs σ.rows
  timesAre : StrsAre tms (σ.times.map S)
  text : TextIs ys σ.ws
  ysz : ys.length ≤ 4000
  bounds : Bounds k σ
  run : σ.run k = some σf
section
variable {prog : Program} {w : World} {s : Shared} {g : Heap} {dp un : Nat} {gd : Option (List Code)} {frs : List Env} {R : Result → Shared → Prop}
set_option maxHeartbeats 4000000 in
theorem tables_walk {z : LexZ} {ln : Int} {tl : Tok} {ys : List Value} {ws : List T} {n : Nat} {k : Nat} {σ : TS} (ok : LexOk w z) (Si : Site w dp un gd frs g) (K : g.StaysIn s.heap)
    (O : Owns g s.heap (lexObjs w z ln tl ys n [] k)) (CR : g.CodeRec (.ref z.cc) nextQual) (hdp : dp < 850) (hun : un < 8500) (hys : TextIs ys ws) (hsz : ys.length ≤ 4000) (run : tablesOf ws = some σ)
    (ret : ∀ h' tk' D t1 t2, g.StaysIn h' → Owns g h' [(D, { cls := .type "tuple", data := .seq #[.str (S (joinT [47] (σ.rows.map (joinT [])))) t1, .str (S (joinT [47] σ.times)) t2] })] → R (.ok (.ret (.ref D))) { s with heap := h', toks := tk' }) :
    codeAny (model prog w) (top dp un gd frs) (.call (.ref 254) ⟨[.ref z.lx], []⟩) R s := by
  refine' enterX (cl := []) (binds := [("lexer", .ref z.lx)]) ?Si ?S ?O (K_at (Frag.In.keeps (Site.X ?Si) ?S) ?k6) ?hd (codeRec_of (Frag.In.keeps (Site.X ?Si) ?S) ?k7) ?k8 ?k9 ?kB ?_ ?c5 ?c2 ?c3 ?c4
  (case Si => assumption)
  (case S => assumption)
  (case O => assumption)
  (case k6 => k_is)
  (case hd => exact rfl)
  (case k7 => k_is)
  (case k8 => first | decide | (show _ < 1000; omega))
  (case k9 => first | exact BindsTo.of_eq rfl | exact binds_peek (Frag.In.keeps (Site.X (by assumption)) (by assumption)) (fun _ => by kernel_rfl))
  (case c5 => decide)
  (case kB => exact locs rfl)
  (case c2 => exact rfl)
  (case c3 => exact rfl)
  (case c4 => exact rfl)
  k_whole
  intro g1 L1 h1 hg F1 N1 l1 Si1
  (try k_lt l1)
  (have X1 := Site.X Si1)
  obtain ⟨p1, loose1, mean1, mg1, mb1, T1⟩ := Site.T Si1
  obtain ⟨base1, B1⟩ := Site.B Si1
  (try dsimp only)
  (try k_fold)
  have ord := ok.ord
  have isFn := ok.isFn
  (repeat' (first | (k_unfold; (try dsimp only)) | walk1 | (dsimp only; first | walk1 | (k_unfold; (try dsimp only)))))
  show wpAny _ _ _ _ _ _
  dsimp only [List.append_nil, List.cons_append]
  refine lex_tok ok Si1 (by with_reducible assumption) (rot2 (x := (_, listOf #[] 0)) (y := (_, listOf #[] 0)) (o := []) (by rw [List.append_nil]; with_reducible assumption)) ?hR (CR.keeps hg) (by omega) (by omega) hsz hys (.inl ⟨rfl, rfl, rfl⟩) rfl rfl ?_
  case hR => exact List.forall_mem_cons.mpr ⟨by dsimp only; omega, List.forall_mem_cons.mpr ⟨by dsimp only; omega, List.forall_mem_nil _⟩⟩
  intro h2 tk2 ln2 tl2 ys2 n2 k2 t2 F2 N2 T2 hl2
  (repeat' (first | (k_unfold; (try dsimp only)) | walk1 | (dsimp only; first | walk1 | (k_unfold; (try dsimp only)))))
  show wpAny _ _ _ _ _ _
  refine While_inv (fun k m₁ news₁ => ∃ σ1 ra ta n1 n2 rs tms ln tl ys n kk t1 t2 t3, LoopAt w z σ k m₁ news₁ σ1 ra ta n1 n2 rs tms ln tl ys n kk t1 t2 t3) (n₀ := 200) (by with_reducible assumption) (tab_start (by with_reducible assumption)) ?start ?turn PassesOwn.never
  case start =>
    refine' ⟨{ rows := [], times := [], deep := 0, turn := 0, sign := ws.headD [], ws := ws.tail }, _, _, 0, 0, [], [], ln2, tl2, ys2, n2, k2, _, _, t2, ⟨rfl, ?a1, ?a2, ?a3, ?a4, ?a5, ?a6, ?a7, ?a8, ?a9, ?a10, .nil, .nil, T2, ?a11, ⟨?b1, rfl, Nat.le_refl _, (fun r hr => nomatch hr), (fun r hr => nomatch hr), ?b2, hys.head_le⟩, run⟩⟩
    case a1 => walk_at "m_get"
    case a2 => walk_at "m_get"
    case a3 => walk_at "m_get"
    case a4 => walk_at "m_get"
    case a5 => walk_at "m_get"
    case a6 => walk_at "m_get"
    case a7 => omega
    case a8 => omega
    case a9 => exact (fun r hr => nomatch hr)
    case a10 => exact .nil
    case a11 => omega
    case b1 => show 0 + 200 ≤ 300; omega
    case b2 => show 0 + 200 ≤ 300; omega
  case turn =>
    rintro k m₁ news₁ h₂ tk₂ F2 N2 ⟨σ1, ra, ta, n1, n2, rs, tms, ln, tl, ys, n, kk, t1, t2, t3, A⟩
    have mlexer := A.lexer
    have mrows := A.mrows
    have mtimes := A.mtimes
    have mdeep := A.mdeep
    have mturn := A.mturn
    have msign := A.msign
    have o1 := A.o1
    have o2 := A.o2
    have o3 := A.o3
    rw [A.news] at N2
    have hsg := A.bounds.sign
    by_cases hs : σ1.sign = []
    ·
      -- [[
      rw [hs] at msign
      (repeat' (first | (k_unfold; (try dsimp only)) | walk1 | (dsimp only; first | walk1 | (k_unfold; (try dsimp only)))))
      show wpAny _ _ _ _ _ _
      k_dflt (refine LCg.ListComp_U (F₀ := by k_asm) (by rfl) (by decide) (by rfl) (by decide) (by rfl) ?_)
      (repeat' (first | (k_unfold; (try dsimp only)) | walk1 | (dsimp only; first | walk1 | (k_unfold; (try dsimp only)))))
      show LCg.CompSrc _ _ _ _ _ _ _ _ _ _ _ _ _ _
      have hlen := A.rowsAre.len
      have hrl : (refsOf rs).length = σ1.rows.length := by unfold refsOf; rw [List.length_map, hlen]
      have hrb := A.bounds.rows
      refine LCg.CompSrc.ledger rfl (by with_reducible assumption) (by with_reducible assumption) (by k_dflt k_mem) ?sz (fun g9 => ?_)
      case sz => show (List.toArray (refsOf rs)).size ≤ 2 ^ 24; rw [List.size_toArray, hrl]; omega
      refine comp_inv (fun i ys => StrsAre ys (((σ1.rows.map (joinT [])).take i).map S)) (.inr ⟨_, .head _, rfl, _, rfl⟩) .nil ?el ?fin
      case el =>
        intro i v ys' I oI C oC D m₂ h9 tk9 E' hv hinv hNs hx9 F9 N9 off9 ne9
        obtain ⟨r, hr, rfl⟩ := refs_get hv
        have hi : i < σ1.rows.length := by rw [← hlen]; exact (List.getElem?_eq_some_iff.mp hr).1
        have hrow := A.bounds.row _ (getD_mem (d := []) hi)
        (repeat' (first | (k_unfold; (try dsimp only)) | walk1 | (dsimp only; first | walk1 | (k_unfold; (try dsimp only)))))
        show wpAny _ _ _ _ _ _
        refine join_L (sep := []) 10 (News.isList N9 (.tail _ (.tail _ (.tail _ (.tail _ (.tail _ (List.mem_append_right _ (row_mem hr)))))))) (A.rowsAre.row i r hr) hrow.2 (by simp only [List.length_nil]; omega) ?_
        intro t9 tk9'
        (repeat' (first | (k_unfold; (try dsimp only)) | walk1 | (dsimp only; first | walk1 | (k_unfold; (try dsimp only)))))
        show TurnEnd _ _ _ _ _ _ _ _ _ _ _ _ _ _
        refine TurnEnd.intro (by with_reducible assumption) (by with_reducible assumption) (fun p hp => hp) ?_
        rw [take_succ_S (by rw [List.length_map]; exact hi), getD_map' (joinT []) σ1.rows i [] [] hi]
        exact StrsAre.append hinv (StrsAre.one _ _)
      case fin =>
        intro ys9 hys9 D h9 tk9 F9 N9 off9
        rw [hrl, show (σ1.rows.map (joinT [])).take σ1.rows.length = σ1.rows.map (joinT []) by rw [← List.length_map (f := joinT []), List.take_length]] at hys9
        (repeat' (first | (k_unfold; (try dsimp only)) | walk1 | (dsimp only; first | walk1 | (k_unfold; (try dsimp only)))))
        show wpAny _ _ _ _ _ _
        refine join_L (sep := [47]) 3000 (News.isList N9 (.head _)) hys9 ?jb ?js ?_
        case jb =>
          intro x hx
          obtain ⟨r, hr, rfl⟩ := List.mem_map.mp hx
          have h1 := A.bounds.row r hr
          have h2 := joinT_len [] r h1.2
          simp only [List.length_nil, Nat.add_zero] at h2
          omega
        case js => rw [List.length_map]; simp only [List.length_cons, List.length_nil]; omega
        intro t9 tk9'
        (repeat' (first | (k_unfold; (try dsimp only)) | walk1 | (dsimp only; first | walk1 | (k_unfold; (try dsimp only)))))
        show wpAny _ _ _ _ _ _
        refine join_L (sep := [47]) 9000 (News.isList N9 (.tail _ (.tail _ (.head _)))) A.timesAre (fun x hx => by have := A.bounds.time x hx; omega) (by have := A.bounds.times; simp only [List.length_cons, List.length_nil]; omega) ?_
        intro t9' tk9''
        (repeat' (first | (k_unfold; (try dsimp only)) | walk1 | (dsimp only; first | walk1 | (k_unfold; (try dsimp only)))))
        rename News _ _ _ _ => kN
        rename Fr _ _ _ _ => kF
        obtain rfl : σ1 = σ := by
          have hr := A.run
          cases k <;> (simp only [TS.run, if_pos hs, Option.some.injEq] at hr; exact hr)
        exact ret _ _ _ _ _ (stays_of kF hg) ((Owns.of kN hg).sub (by walk_at "m_subs"))
      -- ]]
    · have hlen := A.rowsAre.len
      have hrl : (refsOf rs).length = σ1.rows.length := by unfold refsOf; rw [List.length_map, hlen]
      have htl : tms.length = σ1.rows.length := by rw [strsAre_length A.timesAre, List.length_map, A.bounds.times]
      have hrb := A.bounds.rows
      have hdp1 := A.bounds.deep
      have hA0 := rows_aside o3
      iterate 4 walk1
      refine wpAny_execs_cons ?_
      refine wpAny_mono (Q := fun fl s' => Held (fl = .next ∧ ∃ h tk rs1 tms1 n1' n2' r, s' = { s with heap := h, toks := tk } ∧ Fr g1 L1 h m₁ ∧ News g1 L1 h ((ra, listOf (List.toArray (refsOf rs1)) n1') :: (ta, listOf (List.toArray tms1) n2') :: (lexObjs w z ln tl ys n [] kk ++ rowL rs1)) ∧
        RowsAre rs1 σ1.open.rows ∧ StrsAre tms1 (σ1.open.times.map S) ∧ (∀ r ∈ rs1, ta < r.1) ∧ (rs1.map (·.1)).Nodup ∧ rs1[σ1.deep]? = some r)) ?first ?second (fun _ _ h => h)
      case first =>
        -- [[
        by_cases hd : σ1.deep = σ1.rows.length
        · have eo : σ1.open = { σ1 with rows := σ1.rows ++ [[]], times := σ1.times ++ [[]] } := if_pos hd
          rw [eo]
          (repeat' (first | (k_unfold; (try dsimp only)) | walk1 | (dsimp only; first | walk1 | (k_unfold; (try dsimp only)))))
          rename News _ _ _ _ => kN
          rename Fr _ _ _ _ => kF
          rename (_ ∧ _ ∧ AllLt _ _) => l9
          obtain ⟨q1, q2, q3⟩ := l9
          have q4 := allLt_rows q3
          have kN2 := grow_rows kN
          refine ⟨rfl, _, _, _, tms ++ [.str (Str.ofString "") _], n1 + 1, n2 + 1, _, rfl, kF, (by rw [refsOf_append]; exact kN2), A.rowsAre.push _ _, ?_, ?_, ?_, (by rw [hd, ← hlen, List.getElem?_append_right (Nat.le_refl _), Nat.sub_self]; exact List.getElem?_cons_zero)⟩
          · rw [List.map_append]; exact StrsAre.append A.timesAre (StrsAre.one (S []) _)
          · intro r hr
            rcases List.mem_append.mp hr with hr | hr
            · exact o3 r hr
            · rw [List.mem_singleton.mp hr]; exact q2
          · rw [List.map_append, List.nodup_append]
            refine ⟨A.nd, by simp, ?_⟩
            intro a ha b hb
            obtain ⟨r, hr, rfl⟩ := List.mem_map.mp ha
            simp only [List.map_cons, List.map_nil, List.mem_singleton] at hb
            subst hb
            exact Nat.ne_of_lt (q4 r hr)
        · have eo : σ1.open = σ1 := if_neg hd
          rw [eo]
          (repeat' (first | (k_unfold; (try dsimp only)) | walk1 | (dsimp only; first | walk1 | (k_unfold; (try dsimp only)))))
          have hlt : σ1.deep < rs.length := by omega
          exact ⟨rfl, h₂, _, rs, tms, n1, n2, rs[σ1.deep], rfl, F2, N2, A.rowsAre, A.timesAre, o3, A.nd, List.getElem?_eq_getElem hlt⟩
        -- ]]
      case second =>
        obtain ⟨k, rfl⟩ : ∃ j, k = j + 1 := by
          cases k with
          | zero => (have q := A.run; simp only [TS.run, if_neg hs] at q; cases q)
          | succ j => exact ⟨j, rfl⟩
        have hB := A.bounds.open
        have hrun : σ1.open.turnOf.run k = some σ := by
          have q := A.run
          simp only [TS.run, if_neg hs] at q
          exact q
        obtain ⟨e1, e2, e3, e4⟩ := open_same σ1
        have htx := A.text
        have hysz := A.ysz
        rw [← e1] at mdeep
        rw [← e2] at mturn
        rw [← e3] at msign
        rw [← e4] at htx
        rw [← e1]
        generalize σ1.open = σ2 at *
        rintro fl s3 ⟨rfl, h3, tk3, rs1, tms1, n1', n2', r, rfl, F3, N3, hR1, hT1, ho1, hn1, hr1⟩
        dsimp only
        have N4 := focus_in hr1 N3
        have hA1 := but_aside ho1 hn1 hr1
        have hrow1 := hR1.row _ r hr1
        have o4 : ta < r.1 := ho1 _ (List.mem_of_getElem? hr1)
        obtain ⟨ra1, row1, rn1⟩ := r
        dsimp only at N4 hA1 hrow1 o4
        clear N3 N2 F2
        have b1 := hB.rows
        have b2 := hB.deep
        have b3 := hB.times
        have b4 := hB.turn
        have b5 := hB.sign
        have b6 := (hB.row _ (getD_mem (d := []) b2)).1
        have b7 := hB.time _ (getD_mem (d := []) (by omega : σ2.deep < σ2.times.length))
        have b8 := digs_le (n := σ2.turn + 1) (by omega)
        have ht1 : ((σ2.turn : Int) + 1) = ((σ2.turn + 1 : Nat) : Int) := by omega
        have hl1 : (refsOf rs1).length = σ2.rows.length := by unfold refsOf; rw [List.length_map, hR1.len]
        have hl2 : row1.length = (σ2.rows.getD σ2.deep []).length := by rw [strsAre_length hrow1, List.length_map]
        have hl3 : tms1.length = σ2.times.length := by rw [strsAre_length hT1, List.length_map]
        have hl4 : σ2.deep < rs1.length := by rw [hR1.len]; exact b2
        have hxr : (refsOf rs1)[σ2.deep]? = some (.ref ra1) := by unfold refsOf; rw [List.getElem?_map, hr1]; rfl
        obtain ⟨tt, hxt⟩ := StrsAre.get hT1 σ2.deep (by rw [List.length_map]; omega)
        rw [getD_mapS] at hxt
        (repeat' (first | (k_unfold; (try dsimp only)) | walk1 | (dsimp only; first | walk1 | (k_unfold; (try dsimp only)))))
        show wpAny _ _ _ _ _ _
        refine bis_at Si1 F3 N4 (News.isList N4 (by k_mem)) hrow1 (by omega) (by omega) (by omega) rfl rfl ?_
        intro h5 tk5 t5 F5 N5
        have hble := bis_le (σ2.rows.getD σ2.deep []) σ2.sign
        by_cases hp : bis (σ2.rows.getD σ2.deep []) σ2.sign = (σ2.rows.getD σ2.deep []).length
        ·
          have et := turnOf_end hp
          have hb2 := hB.turnOf htx.head_le
          rw [et] at hrun hb2
          (repeat' (first | (k_unfold; (try dsimp only)) | ((try dsimp only); walk1) | walk1))
          show wpAny _ _ _ _ _ _
          rename News _ _ _ _ => kN
          rename Fr _ _ _ _ => kF
          refine lex_tok ok Si1 kF (rot3 kN) (rest_above (ta := ta) o1 (by dsimp only; omega) (by dsimp only; omega) (by omega) hA1) (CR.keeps hg) (by omega) (by omega) hysz htx (.inl ⟨rfl, rfl, rfl⟩) rfl rfl ?_
          intro h6 tk6 ln6 tl6 ys6 n6 k6 t6 F6 N6 T6 hl6
          have N7 := focus_out (rs := rs1) (i := σ2.deep) (r' := (ra1, _, _)) hl4 (rot3' N6)
          rw [← refs_set (vs' := row1 ++ [Value.str (S σ2.sign) t3]) (n' := rn1 + 1) hr1] at N7
          clear kN kF N6
          (repeat' (first | (k_unfold; (try dsimp only)) | ((try dsimp only); walk1) | walk1))
          show WhileStep _ _ _ _ _ _ _
          refine WhileStep.intro (by with_reducible assumption) (by with_reducible assumption) (Nat.lt_succ_self k) ⟨_, ra, ta, _, _, _, _, ln6, tl6, ys6, n6, k6, _, _, t6, ⟨rfl, by walk_at "m_get", by walk_at "m_get", by walk_at "m_get", by walk_at "m_get", by walk_at "m_get", by walk_at "m_get", o1, o2, above_set hr1 ho1, by rw [fst_set hr1]; exact hn1, ?_, ?_, T6, by omega, hb2, hrun⟩⟩
          · exact hR1.set (by rw [List.map_append]; exact StrsAre.append hrow1 (StrsAre.one _ _))
          · rw [List.map_set]; exact StrsAre.set hT1 _ _ _
        ·
          have hlt : bis (σ2.rows.getD σ2.deep []) σ2.sign < (σ2.rows.getD σ2.deep []).length := by omega
          obtain ⟨tp, hxp⟩ := StrsAre.get hrow1 (bis (σ2.rows.getD σ2.deep []) σ2.sign) (by rw [List.length_map]; omega)
          rw [getD_mapS] at hxp
          (repeat' (first | (k_unfold; (try dsimp only)) | ((try dsimp only); walk1) | walk1))
          show wpAny _ _ _ _ _ _
          rename News _ _ _ _ => kN
          rename Fr _ _ _ _ => kF
          refine lex_push ok Si1 kF (rot3 kN) (rest_above (ta := ta) o1 (by dsimp only; omega) (by dsimp only; omega) (by omega) hA1) (by omega) (by omega) rfl rfl ?_
          intro h6 tk6 ln6 tl6 n6 k6 F6 N6
          have N7 := rot3' N6
          clear kN kF N6
          (repeat' (first | (k_unfold; (try dsimp only)) | ((try dsimp only); walk1) | walk1))
          show wpAny _ _ _ _ _ _
          k_dflt (refine' kms_slice_lit (s := { s with heap := h6, toks := _ }) ?kF ?kN ?kl ?kp ?kq ?ke ?_ ?ks ?kt ?kz; (case kF => k_asm); (case kN => k_asm); (case kl => walk_at "m_list"); (case kp => kmk_part); (case kq => kmk_part); (case ke => exact pick_prev row1 _ (by omega)); (case ks => with_unfolding_all rfl); (case kt => kmk_pure); (case kz => show row1.toArray.size ≤ sizeLine; rw [List.size_toArray, sizeLine_eq]; omega))
          intro D7 h7 F7 N8 l7
          k_lt l7
          (try k_sweep)
          (repeat' (first | (k_unfold; (try dsimp only)) | ((try dsimp only); walk1) | walk1))
          show wpAny _ _ _ _ _ _
          rename News _ _ _ _ => kN
          k_dflt (refine ne_strs (News.isList kN (by k_mem)) (News.isList kN (by k_mem)) (pick_strs hrow1 _) (StrsAre.one (S σ2.sign) _) (by show un + 3 < cLine; simp only [cLine]; omega) ?_)
          have kN2 : News g1 L1 _ ((ra, _) :: (ta, _) :: (ra1, _) :: (lexObjs w z ln6 tl6 ys n6 _ k6 ++ rowL (butOf rs1 σ2.deep))) := fun p hp => kN p (.tail _ (.tail _ hp))
          clear kN
          by_cases hb : 1 ≤ bis (σ2.rows.getD σ2.deep []) σ2.sign ∧ (σ2.rows.getD σ2.deep []).getD (bis (σ2.rows.getD σ2.deep []) σ2.sign - 1) [] = σ2.sign
          · have eb : (!decide ((if 1 ≤ bis (σ2.rows.getD σ2.deep []) σ2.sign then ((σ2.rows.getD σ2.deep []).drop (bis (σ2.rows.getD σ2.deep []) σ2.sign - 1)).take 1 else []).map S = [S σ2.sign])) = false := by
              rw [show [S σ2.sign] = [σ2.sign].map S from rfl, decide_eq_true ((pick_eq hlt).mpr hb)]; rfl
            rw [eb]
            have et := turnOf_bump hp hb
            have hb2 := hB.turnOf htx.head_le
            rw [et] at hrun hb2
            (repeat' (first | (k_unfold; (try dsimp only)) | ((try dsimp only); walk1) | walk1))
            show wpAny _ _ _ _ _ _
            rename News _ _ _ _ => kN
            rename Fr _ _ _ _ => kF
            dsimp only [List.cons_append, List.nil_append] at kN ⊢
            refine lex_tok ok Si1 kF (rot3 kN) (rest_above (ta := ta) o1 (by dsimp only; omega) (by dsimp only; omega) (by omega) hA1) (CR.keeps hg) (by omega) (by omega) hysz htx (.inr ⟨_, rfl, rfl⟩) rfl rfl ?_
            intro h8 tk8 ln8 tl8 ys8 n8 k8 t8 F8 N9 T8 hl8
            have N10 := focus_out (rs := rs1) (i := σ2.deep) (r' := (ra1, _, _)) hl4 (rot3' N9)
            rw [← refs_set (vs' := row1) (n' := rn1) hr1] at N10
            clear kN kF N9
            (repeat' (first | (k_unfold; (try dsimp only)) | ((try dsimp only); walk1) | walk1))
            show WhileStep _ _ _ _ _ _ _
            refine WhileStep.intro (by with_reducible assumption) (by with_reducible assumption) (Nat.lt_succ_self k) ⟨{ rows := σ2.rows.set σ2.deep (σ2.rows.getD σ2.deep []), times := σ2.times, deep := σ2.deep + 1, turn := σ2.turn, sign := (σ2.rows.getD σ2.deep []).getD (bis (σ2.rows.getD σ2.deep []) σ2.sign) [], ws := σ2.ws }, ra, ta, _, _, _, _, ln8, tl8, ys8, n8, k8, _, _, t8, ⟨rfl, by walk_at "m_get", by walk_at "m_get", by walk_at "m_get", by walk_at "m_get", by walk_at "m_get", by walk_at "m_get", o1, o2, above_set hr1 ho1, by rw [fst_set hr1]; exact hn1, ?_, hT1, T8, by omega, hb2, hrun⟩⟩
            exact hR1.set hrow1
          · have eb : (!decide ((if 1 ≤ bis (σ2.rows.getD σ2.deep []) σ2.sign then ((σ2.rows.getD σ2.deep []).drop (bis (σ2.rows.getD σ2.deep []) σ2.sign - 1)).take 1 else []).map S = [S σ2.sign])) = true := by
              rw [show [S σ2.sign] = [σ2.sign].map S from rfl, decide_eq_false (fun e => hb ((pick_eq hlt).mp e))]; rfl
            rw [eb]
            have et := turnOf_set hp hb
            have hb2 := hB.turnOf htx.head_le
            rw [et] at hrun hb2
            (repeat' (first | (k_unfold; (try dsimp only)) | ((try dsimp only); walk1) | walk1))
            show wpAny _ _ _ _ _ _
            rename News _ _ _ _ => kN
            rename Fr _ _ _ _ => kF
            dsimp only [List.cons_append, List.nil_append] at kN ⊢
            refine lex_tok ok Si1 kF (rot3 kN) (rest_above (ta := ta) o1 (by dsimp only; omega) (by dsimp only; omega) (by omega) hA1) (CR.keeps hg) (by omega) (by omega) hysz htx (.inr ⟨_, rfl, rfl⟩) rfl rfl ?_
            intro h8 tk8 ln8 tl8 ys8 n8 k8 t8 F8 N9 T8 hl8
            have N10 := focus_out (rs := rs1) (i := σ2.deep) (r' := (ra1, _, _)) hl4 (rot3' N9)
            rw [← refs_set (vs' := row1.set (bis (σ2.rows.getD σ2.deep []) σ2.sign) (Value.str (S σ2.sign) t3)) (n' := rn1) hr1] at N10
            clear kN kF N9
            (repeat' (first | (k_unfold; (try dsimp only)) | ((try dsimp only); walk1) | walk1))
            show WhileStep _ _ _ _ _ _ _
            refine WhileStep.intro (by with_reducible assumption) (by with_reducible assumption) (Nat.lt_succ_self k) ⟨{ rows := σ2.rows.set σ2.deep ((σ2.rows.getD σ2.deep []).set (bis (σ2.rows.getD σ2.deep []) σ2.sign) σ2.sign), times := σ2.times, deep := σ2.deep + 1, turn := σ2.turn, sign := (σ2.rows.getD σ2.deep []).getD (bis (σ2.rows.getD σ2.deep []) σ2.sign) [], ws := σ2.ws }, ra, ta, _, _, _, _, ln8, tl8, ys8, n8, k8, _, _, t8, ⟨rfl, by walk_at "m_get", by walk_at "m_get", by walk_at "m_get", by walk_at "m_get", by walk_at "m_get", by walk_at "m_get", o1, o2, above_set hr1 ho1, by rw [fst_set hr1]; exact hn1, ?_, hT1, T8, by omega, hb2, hrun⟩⟩
            exact hR1.set (by rw [List.map_set]; exact StrsAre.set hrow1 _ _ _)
end
end Mine
end
section
open PySem PySem.W PyProof.Rows PySem.Calls PySem.Spec
set_option maxRecDepth 100000
namespace Mine
section
variable {prog : Program} {w : World} {A : Around} {E : Value → Shared → Prop} {s : Shared} {env : Env} {h₀ : Heap} {x : Str} {body : List Stmt} {Q : Flow → Shared → Prop}
/-- the end of a turn -/
def TEnd (h₀ : Heap) (L : Addr) (I : Addr) (io : Obj) (J : (Str → Option Value) → List (Addr × Obj) → Prop) (s₁ : Shared) (Q : Flow → Shared → Prop) (f : Flow) (s₂ : Shared) : Prop :=
  UnrPost h₀ L s₁ I io J Q f s₂
theorem TEnd.next {L I : Addr} {io : Obj} {J : (Str → Option Value) → List (Addr × Obj) → Prop} {s₁ : Shared} {h' : Heap} {tk : Nat} {m' : Str → Option Value} {all : List (Addr × Obj)} (F : Fr h₀ L h' m') (N : News h₀ L h' all) (news' : List (Addr × Obj))
    (hI : (I, io) ∈ all) (sub : ∀ p ∈ news', p ∈ all) (off : ∀ p ∈ news', p.1 ≠ I) (r : J m' news') : TEnd h₀ L I io J s₁ Q .next { s₁ with heap := h', toks := tk } :=
  UnrEnd.intro F N news' (fun p hp => by
    rcases List.mem_cons.mp hp with rfl | hp
    · exact hI
    · exact sub p hp) off r
theorem TEnd.cont {L I : Addr} {io : Obj} {J : (Str → Option Value) → List (Addr × Obj) → Prop} {s₁ : Shared} {h' : Heap} {tk : Nat} {m' : Str → Option Value} {all : List (Addr × Obj)} (F : Fr h₀ L h' m') (N : News h₀ L h' all) (news' : List (Addr × Obj))
    (hI : (I, io) ∈ all) (sub : ∀ p ∈ news', p ∈ all) (off : ∀ p ∈ news', p.1 ≠ I) (r : J m' news') : TEnd h₀ L I io J s₁ Q .cont { s₁ with heap := h', toks := tk } :=
  UnrEnd.intro F N news' (fun p hp => by
    rcases List.mem_cons.mp hp with rfl | hp
    · exact hI
    · exact sub p hp) off r
theorem TEnd.ret {L I : Addr} {io : Obj} {J : (Str → Option Value) → List (Addr × Obj) → Prop} {s₁ s₂ : Shared} {v : Value} (h : Q (.ret v) s₂) : TEnd h₀ L I io J s₁ Q (.ret v) s₂ := h

theorem range0_size (n : Nat) : Builtin.Range.rangeSize 0 (n : Int) 1 = (n : Int) := by
  unfold Builtin.Range.rangeSize
  rw [if_pos (by decide)]
  split
  · rw [Int.ediv_one]; omega
  · omega
theorem range0_small {n : Nat} (hb : n ≤ 1000) : Builtin.Range.small 0 (n : Int) 1 = true := small_one (by omega) (by omega) (by omega) (by omega)
theorem range_J {r : Addr} {b₀ : Int} {t₀ u₀ v₀ : Tok} {n : Nat} {m₀ : Str → Option Value} {news : List (Addr × Obj)} (J : Nat → (Str → Option Value) → List (Addr × Obj) → Prop)
    (hh : A.handled = none) (hr : IsRange s.heap r 0 b₀ 1 t₀ u₀ v₀) (hn : b₀ = (n : Int)) (hb : n ≤ 1000) (F : Fr h₀ env.locals s.heap m₀) (N : News h₀ env.locals s.heap news) (hj : J 0 m₀ news)
    (turn : ∀ i t m₁ news₁ I io h tk, i < n → (∀ p ∈ news, p.1 < I) → J i m₁ news₁ → (∀ p ∈ news₁, p.1 ≠ I) → Fr h₀ env.locals h (fun y => if y = x then some (.int (i : Int) t) else m₁ y) → News h₀ env.locals h ((I, io) :: news₁) →
      wpAny (model prog w) A (execs body env) (TEnd h₀ env.locals I io (J (i + 1)) { s with heap := h, toks := tk } Q) E { s with heap := h, toks := tk })
    (done : ∀ m₁ news₁ h tk, J n m₁ news₁ → Fr h₀ env.locals h m₁ → News h₀ env.locals h news₁ → Q .next { s with heap := h, toks := tk }) :
    wpAny (model prog w) A (pyIter (.ref r)) (fun it s₂ => LoopAtV prog w A h₀ env x body Q E it s₂) E s := by
  subst hn
  refine iter_rangeUnr (n := n) hh hr ?small ?size F N fun I hI => ?_
  case small => exact range0_small hb
  case size => exact range0_size n
  have key : ∀ (k i : Nat) (m : Str → Option Value) (nw : List (Addr × Obj)), i + k = n → J i m nw → (∀ p ∈ nw, p.1 ≠ I) → RangeRest prog w A E h₀ env x body Q s I 0 n k i m nw := by
    intro k
    induction k with
    | zero =>
      intro i m nw hi hj _
      obtain rfl : i = n := by omega
      exact RangeRest.zero fun h tk F' N' => done _ _ _ _ hj F' N'
    | succ k ih =>
      intro i m nw hi hj ho
      refine RangeRest.succ fun t h tk F' N' => ?_
      rw [Int.zero_add] at F'
      refine wpAny_mono (turn i t m nw I _ h tk (by omega) hI hj ho F' N') (fun f s₂ hp => ?_) fun _ _ e => e
      have go : UnrEnd h₀ env.locals { s with heap := h, toks := tk } I (itR (0 + ((i + 1 : Nat) : Int)) ((n : Int) - ((i + 1 : Nat) : Int))) (J (i + 1)) s₂ → UnrEnd h₀ env.locals { s with heap := h, toks := tk } I (itR (0 + ((i + 1 : Nat) : Int)) ((n : Int) - ((i + 1 : Nat) : Int))) (RangeRest prog w A E h₀ env x body Q s I 0 n k (i + 1)) s₂ := by
        rintro ⟨h', tk', m', nw', e, F2, N2, o2, j2⟩
        exact ⟨h', tk', m', nw', e, F2, N2, o2, ih (i + 1) m' nw' (by omega) j2 o2⟩
      cases f with
      | ret v => exact hp
      | brk => exact hp
      | next => exact go hp
      | cont => exact go hp
  exact key n 0 _ _ (by omega) hj fun p hp => Nat.ne_of_lt (hI p hp)

theorem list_J {l : Addr} {lo : Obj} {vs : List Value} {c : Nat} {m₀ : Str → Option Value} {news : List (Addr × Obj)} (J : Nat → (Str → Option Value) → List (Addr × Obj) → Prop)
    (hh : A.handled = none) (F : Fr h₀ env.locals s.heap m₀) (N : News h₀ env.locals s.heap news) (hm : (l, lo) ∈ news) (hc : lo.cls = .type "list") (hd : lo.data = .seq vs.toArray c) (hj : J 0 m₀ news)
    (hin : ∀ i m₁ news₁, J i m₁ news₁ → (l, lo) ∈ news₁)
    (turn : ∀ i v m₁ news₁ I io h tk, vs[i]? = some v → (∀ p ∈ news, p.1 < I) → J i m₁ news₁ → (∀ p ∈ news₁, p.1 ≠ I) → Fr h₀ env.locals h (fun y => if y = x then some v else m₁ y) → News h₀ env.locals h ((I, io) :: news₁) →
      wpAny (model prog w) A (execs body env) (TEnd h₀ env.locals I io (J (i + 1)) { s with heap := h, toks := tk } Q) E { s with heap := h, toks := tk })
    (done : ∀ m₁ news₁ h tk, J vs.length m₁ news₁ → Fr h₀ env.locals h m₁ → News h₀ env.locals h news₁ → Q .next { s with heap := h, toks := tk }) :
    wpAny (model prog w) A (pyIter (.ref l)) (fun it s₂ => LoopAtV prog w A h₀ env x body Q E it s₂) E s := by
  refine iter_listUnr hh F N hm hc hd fun I hI => ?_
  have key : ∀ (r : List Value) (i : Nat) (m : Str → Option Value) (nw : List (Addr × Obj)), vs.drop i = r → i ≤ vs.length → J i m nw → (∀ p ∈ nw, p.1 ≠ I) → ListRest prog w A E h₀ env x body Q s I (l, lo) r m nw := by
    intro r
    induction r with
    | nil =>
      intro i m nw hi hle hj _
      obtain rfl : i = vs.length := by
        have := congrArg List.length hi
        simp only [List.length_drop, List.length_nil] at this; omega
      exact ListRest.zero fun h tk F' N' => done _ _ _ _ hj F' N'
    | cons v r ih =>
      intro i m nw hi hle hj ho
      have hv : vs[i]? = some v := by
        have := congrArg (fun l : List Value => l[0]?) hi
        simpa using this
      have hlt : i < vs.length := by
        rcases Nat.lt_or_ge i vs.length with h | h
        · exact h
        · rw [List.getElem?_eq_none h] at hv; cases hv
      have hr : vs.drop (i + 1) = r := by rw [← List.drop_drop, hi]; rfl
      refine ListRest.succ fun it h tk _ F' N' => ?_
      refine wpAny_mono (turn i v m nw I it h tk hv hI hj ho F' N') (fun f s₂ hp => ?_) fun _ _ e => e
      have go : UnrEnd h₀ env.locals { s with heap := h, toks := tk } I it (J (i + 1)) s₂ → UnrEnd h₀ env.locals { s with heap := h, toks := tk } I it (fun m' n' => (l, lo) ∈ n' ∧ ListRest prog w A E h₀ env x body Q s I (l, lo) r m' n') s₂ := by
        rintro ⟨h', tk', m', nw', e, F2, N2, o2, j2⟩
        exact ⟨h', tk', m', nw', e, F2, N2, o2, hin _ _ _ j2, ih (i + 1) m' nw' hr (by omega) j2 o2⟩
      cases f with
      | ret v => exact hp
      | brk => exact hp
      | next => exact go hp
      | cont => exact go hp
  exact key vs 0 _ _ rfl (Nat.zero_le _) hj fun p hp => Nat.ne_of_lt (hI p hp)

/-- the same over a list of the ground -/
theorem list_G {l : Addr} {vs : List Value} {m₀ : Str → Option Value} {news : List (Addr × Obj)} (J : Nat → (Str → Option Value) → List (Addr × Obj) → Prop)
    (hh : A.handled = none) (F : Fr h₀ env.locals s.heap m₀) (N : News h₀ env.locals s.heap news) (hl : h₀.IsList l vs.toArray) (hj : J 0 m₀ news)
    (turn : ∀ i v m₁ news₁ I io h tk, vs[i]? = some v → (∀ p ∈ news, p.1 < I) → J i m₁ news₁ → (∀ p ∈ news₁, p.1 ≠ I) → Fr h₀ env.locals h (fun y => if y = x then some v else m₁ y) → News h₀ env.locals h ((I, io) :: news₁) →
      wpAny (model prog w) A (execs body env) (TEnd h₀ env.locals I io (J (i + 1)) { s with heap := h, toks := tk } Q) E { s with heap := h, toks := tk })
    (done : ∀ m₁ news₁ h tk, J vs.length m₁ news₁ → Fr h₀ env.locals h m₁ → News h₀ env.locals h news₁ → Q .next { s with heap := h, toks := tk }) :
    wpAny (model prog w) A (pyIter (.ref l)) (fun it s₂ => LoopAtV prog w A h₀ env x body Q E it s₂) E s := by
  have hls : s.heap.IsList l vs.toArray := hl.at fun o e => F.keep l o e
  obtain ⟨ol, hol, _⟩ := id hl
  have hlt : l < h₀.objs.size := Heap.lt_size hol
  have hne : l ≠ s.heap.objs.size := Nat.ne_of_lt (Nat.lt_trans (Nat.lt_of_lt_of_le hlt F.above) F.ns.lt)
  have hnew := next_is_new F
  refine wpAny_pyIter_list hls ?_
  have W := Walks.list (prog := prog) (w := w) hh s.heap.objs.size l hne vs.toArray
  have hlen : vs.toArray.size = vs.length := by simp
  rw [hlen] at W
  refine ⟨_, _, _, vs.length, _, _, m₀, news, J, rfl, W, ?_, ?_, ?_, ⟨⟨_, Heap.get?_push_size _ rfl, rfl, rfl⟩, hls.at fun o e => Heap.get?_push_of_some _ e⟩, F.push _, (fun p hp => ⟨Heap.get?_push_of_some _ (N p hp).1, (N p hp).2⟩), hj, ?_, ?_⟩
  · intro hm
    rcases List.mem_cons.mp hm with e | hm
    · exact absurd F.ns.lt (e ▸ Nat.lt_irrefl _)
    · exact absurd (Nat.lt_of_lt_of_le hlt F.above) ((List.mem_singleton.mp hm) ▸ Nat.lt_irrefl _)
  · intro b hb
    rw [List.mem_singleton.mp hb]
    exact hnew
  · intro p hp hI
    exact absurd (Heap.lt_size (N p hp).1) ((List.mem_singleton.mp hI) ▸ Nat.lt_irrefl _)
  · rintro i v m₁ news₁ s₁ own ⟨hh', tk', rfl⟩ hin hP hJ hoff hown hget hall hst F₁ N₁
    obtain ⟨it, hit, hic, hid⟩ := hst.1
    have hmemI := hall s.heap.objs.size (List.mem_cons_self ..) hnew _ hit
    have N₂ : News h₀ env.locals hh' ((s.heap.objs.size, it) :: news₁) := fun p hp => by
      rcases List.mem_cons.mp hp with rfl | hp
      · exact N₁ _ (List.mem_append_left _ hmemI)
      · exact N₁ _ (List.mem_append_right _ hp)
    refine wpAny_mono (turn i v m₁ news₁ s.heap.objs.size it hh' tk' (by simpa using hP) (fun p hp => Heap.lt_size (N p hp).1) hJ (fun p hp e => hoff p hp (List.mem_singleton.mpr e)) F₁ N₂) (fun f s₂ p => ?_) fun _ _ e => e
    have fin : UnrEnd h₀ env.locals { s with heap := hh', toks := tk' } s.heap.objs.size it (J (i + 1)) s₂ → LoopStepU h₀ env.locals [s.heap.objs.size] own (J (i + 1)) { s with heap := hh', toks := tk' } .next s₂ := by
      rintro ⟨h', tk, m', news', e, F', N', ho, r⟩
      refine ⟨rfl, h', tk, m', news', e, F', fun p hp => ?_, fun p hp hI => ho p hp (List.mem_singleton.mp hI), r⟩
      rcases List.mem_append.mp hp with hp | hp
      · have h2 : hh'.get? p.1 = some p.2 := hget p hp
        rcases List.mem_cons.mp (hown p hp) with h1 | h1
        · have h3 : p = (s.heap.objs.size, it) := by
            rw [h1, hit] at h2
            exact Prod.ext h1 (Option.some.inj h2).symm
          rw [h3]; exact N' _ (List.mem_cons_self ..)
        · have h1' : p.1 = l := List.mem_singleton.mp h1
          have := (N₁ p (List.mem_append_left _ hp)).2.2
          rw [h1', hol] at this; cases this
      · exact N' _ (List.mem_cons_of_mem _ hp)
    cases f with
    | ret v => exact .ret p
    | brk => exact .brk p
    | next => exact .next (fin p)
    | cont => exact .cont (fin p)
  · rintro h' tk m' news' F' N' _ hJ
    exact done m' news' h' tk hJ F' N'

/-- over a range, the target no local name -/
def TEndT (h₀ : Heap) (L : Addr) (I : Addr) (io : Obj) (J : (Str → Option Value) → List (Addr × Obj) → Prop) (s₁ : Shared) (f : Flow) (s₂ : Shared) : Prop :=
  f = .next ∧ UnrEnd h₀ L s₁ I io J s₂
theorem TEndT.next {L I : Addr} {io : Obj} {J : (Str → Option Value) → List (Addr × Obj) → Prop} {s₁ : Shared} {h' : Heap} {tk : Nat} {m' : Str → Option Value} {all : List (Addr × Obj)} (F : Fr h₀ L h' m') (N : News h₀ L h' all) (news' : List (Addr × Obj))
    (hI : (I, io) ∈ all) (sub : ∀ p ∈ news', p ∈ all) (off : ∀ p ∈ news', p.1 ≠ I) (r : J m' news') : TEndT h₀ L I io J s₁ .next { s₁ with heap := h', toks := tk } :=
  ⟨rfl, UnrEnd.intro F N news' (fun p hp => by
    rcases List.mem_cons.mp hp with rfl | hp
    · exact hI
    · exact sub p hp) off r⟩
theorem rangeT_J {r : Addr} {b₀ : Int} {t₀ u₀ v₀ : Tok} {n : Nat} {m₀ : Str → Option Value} {news : List (Addr × Obj)} {px : Pos} (J : Nat → (Str → Option Value) → List (Addr × Obj) → Prop)
    (hh : A.handled = none) (hr : IsRange s.heap r 0 b₀ 1 t₀ u₀ v₀) (hn : b₀ = (n : Int)) (hb : n ≤ 1000) (F : Fr h₀ env.locals s.heap m₀) (N : News h₀ env.locals s.heap news) (hj : J 0 m₀ news)
    (turn : ∀ i t m₁ news₁ I io (s₁ : Shared), i < n → (∀ p ∈ news, p.1 < I) → J i m₁ news₁ → (∀ p ∈ news₁, p.1 ≠ I) → Fr h₀ env.locals s₁.heap m₁ → News h₀ env.locals s₁.heap ((I, io) :: news₁) →
      wpAny (model prog w) A (assign (.Name x px) env (.int (i : Int) t)) (fun _ s₃ => wpAny (model prog w) A (execs body env) (TEndT h₀ env.locals I io (J (i + 1)) s₁) E s₃) E s₁)
    (done : ∀ m₁ news₁ h tk, J n m₁ news₁ → Fr h₀ env.locals h m₁ → News h₀ env.locals h news₁ → Q .next { s with heap := h, toks := tk }) :
    wpAny (model prog w) A (pyIter (.ref r)) (fun it s₂ => LoopAtT prog w A h₀ env (.Name x px) body Q E it s₂) E s := by
  subst hn
  have hsize : Builtin.Range.rangeSize 0 (n : Int) 1 = (n : Int) := range0_size n
  refine wpAny_pyIter_range hr (range0_small hb) ?_
  have hI : ∀ p ∈ news, p.1 < s.heap.objs.size := fun p hp => Heap.lt_size (N p hp).1
  have W : Walks prog w A s.heap.objs.size [s.heap.objs.size] [s.heap.objs.size] n (fun i v => i < n ∧ ∃ t, v = .int (0 + i * 1) t)
      (fun i h => IsRangeIter h s.heap.objs.size (0 + (i : Nat) * 1) ((n : Int) - (i : Nat)) 1) := (Walks.range hh _ 0 1 n).bound
  have hnew := next_is_new F
  refine ⟨_, _, _, n, _, _, m₀, news, J, rfl, W, ?_, ?_, ?_, (by show IsRangeIter _ _ _ _ _; rw [hsize]; simpa using Heap.get?_push_size _ rfl), F.push _, (fun p hp => ⟨Heap.get?_push_of_some _ (N p hp).1, (N p hp).2⟩), ?_, hj, ?_, ?_⟩
  · intro hm
    exact absurd F.ns.lt ((List.mem_singleton.mp hm) ▸ Nat.lt_irrefl _)
  · intro b hb
    rw [List.mem_singleton.mp hb]
    exact hnew
  · intro p hp hI
    exact absurd (Heap.lt_size (N p hp).1) ((List.mem_singleton.mp hI) ▸ Nat.lt_irrefl _)
  · intro i s' v Q' _ hQ'
    unfold letOwnedTupleGo
    exact wpAny_pure hQ'
  · rintro i v m₁ news₁ s₁ own hin ⟨_, t, rfl⟩ hJ hoff hown hget hall hst F₁ N₁
    obtain ⟨io, hio⟩ : ∃ io, s₁.heap.get? s.heap.objs.size = some io := ⟨_, hst⟩
    have hmemI := hall s.heap.objs.size (List.mem_cons_self ..) hnew _ hio
    have N₂ : News h₀ env.locals s₁.heap ((s.heap.objs.size, io) :: news₁) := fun p hp => by
      rcases List.mem_cons.mp hp with rfl | hp
      · exact N₁ _ (List.mem_append_left _ hmemI)
      · exact N₁ _ (List.mem_append_right _ hp)
    have e0 : (0 : Int) + (i : Int) * 1 = (i : Int) := by omega
    rw [e0]
    refine wpAny_mono (turn i t m₁ news₁ s.heap.objs.size io s₁ hin hI hJ (fun p hp e => hoff p hp (List.mem_singleton.mpr e)) F₁ N₂) (fun _ s₃ h₃ => wpAny_mono h₃ (fun f s₂ p => ?_) fun _ _ e => e) fun _ _ e => e
    obtain ⟨rfl, h', tk, m', news', e, F', N', ho, r⟩ := p
    refine ⟨rfl, h', tk, m', news', e, F', fun p hp => ?_, fun p hp hI => ho p hp (List.mem_singleton.mp hI), r⟩
    rcases List.mem_append.mp hp with hp | hp
    · have h2 : s₁.heap.get? p.1 = some p.2 := hget p hp
      have h1 : p.1 = s.heap.objs.size := List.mem_singleton.mp (hown p hp)
      have h3 : p = (s.heap.objs.size, io) := by
        rw [h1, hio] at h2
        exact Prod.ext h1 (Option.some.inj h2).symm
      rw [h3]; exact N' _ (List.mem_cons_self ..)
    · exact N' _ (List.mem_cons_of_mem _ hp)
  · rintro h' tk m' news' F' N' _ hJ
    exact done m' news' h' tk hJ F' N'
end
end Mine
end
section
open PySem PySem.W PyProof.Rows PySem.Calls PySem.Spec
set_option maxRecDepth 100000
namespace Mine
def swapAt (o : List Int) (k : Nat) : List Int := o.take k ++ [o.getD (k + 1) 0, o.getD k 0] ++ o.drop (k + 2)
def sgnOf (k : Nat) : T := [[32, 34, 35, 92].getD k 0]
/-- the words behind i turns of the loop -/
def wordsAt (rec' : List Int → List T) (o : List Int) : Nat → List T
  | 0 => []
  | i + 1 => wordsAt rec' o i ++ (if o.getD i 0 > o.getD (i + 1) 0 then (rec' (swapAt o i)).map (· ++ sgnOf i) else [])
def orOne (ws : List T) : List T := if ws = [] then [[]] else ws
def wordsOf : Nat → List Int → List T
  | 0, _ => [[]]
  | n + 1, o => orOne (wordsAt (wordsOf n) o 4)
def fuelOk : Nat → List Int → Bool
  | 0, o => (List.range 4).all fun k => decide (o.getD k 0 ≤ o.getD (k + 1) 0)
  | n + 1, o => (List.range 4).all fun k => decide (o.getD k 0 ≤ o.getD (k + 1) 0) || fuelOk n (swapAt o k)
theorem orOne_ne (ws : List T) : orOne ws ≠ [] := by
  unfold orOne
  split
  · simp
  · assumption
theorem wordsOf_ne (n : Nat) (o : List Int) : wordsOf n o ≠ [] := by
  cases n with
  | zero => simp [wordsOf]
  | succ n => exact orOne_ne _
theorem wordsOf_zero {o : List Int} (h : fuelOk 0 o = true) (r : List Int → List T) : orOne (wordsAt r o 4) = wordsOf 0 o := by
  have hk : ∀ k < 4, ¬ o.getD k 0 > o.getD (k + 1) 0 := fun k hk => by
    have := List.all_eq_true.mp h k (List.mem_range.mpr hk)
    have := of_decide_eq_true this
    omega
  have e : ∀ i ≤ 4, wordsAt r o i = [] := by
    intro i
    induction i with
    | zero => intro _; rfl
    | succ i ih => intro hi; rw [wordsAt, ih (by omega), if_neg (hk i (by omega))]; rfl
  rw [e 4 (Nat.le_refl _)]; rfl
theorem fuelOk_succ {n : Nat} {o : List Int} (h : fuelOk (n + 1) o = true) {k : Nat} (hk : k < 4) (hd : o.getD k 0 > o.getD (k + 1) 0) : fuelOk n (swapAt o k) = true := by
  have := List.all_eq_true.mp h k (List.mem_range.mpr hk)
  rcases Bool.or_eq_true _ _ ▸ this with h | h
  · have := of_decide_eq_true h; omega
  · exact h
theorem fuelOk_zero {o : List Int} (h : fuelOk 0 o = true) {k : Nat} (hk : k < 4) : ¬ o.getD k 0 > o.getD (k + 1) 0 := by
  have := of_decide_eq_true (List.all_eq_true.mp h k (List.mem_range.mpr hk))
  omega
theorem wordsAt_len {r : List Int → List T} {o : List Int} {B : Nat} (h : ∀ k < 4, o.getD k 0 > o.getD (k + 1) 0 → (r (swapAt o k)).length ≤ B) : ∀ i ≤ 4, (wordsAt r o i).length ≤ i * B := by
  intro i
  induction i with
  | zero => intro _; simp [wordsAt]
  | succ i ih =>
    intro hi
    have h1 := ih (by omega)
    simp only [wordsAt, List.length_append, Nat.add_mul, Nat.one_mul]
    split
    · have := h i (by omega) (by assumption)
      simp only [List.length_map]; omega
    · simp only [List.length_nil]; omega
theorem wordsOf_len : ∀ (n : Nat) (o : List Int), (wordsOf n o).length ≤ 4 ^ n
  | 0, _ => by simp [wordsOf]
  | n + 1, o => by
    have h := wordsAt_len (r := wordsOf n) (o := o) (B := 4 ^ n) (fun k _ _ => wordsOf_len n _) 4 (Nat.le_refl _)
    have hp : 0 < 4 ^ n := Nat.pow_pos (by decide)
    rw [Nat.pow_succ]
    unfold wordsOf orOne
    split
    · simp only [List.length_cons, List.length_nil]; omega
    · omega
theorem wordsAt_each {r : List Int → List T} {o : List Int} {B : Nat} (h : ∀ k < 4, o.getD k 0 > o.getD (k + 1) 0 → ∀ x ∈ r (swapAt o k), x.length ≤ B) : ∀ i ≤ 4, ∀ x ∈ wordsAt r o i, x.length ≤ B + 1 := by
  intro i
  induction i with
  | zero => intro _ x hx; cases hx
  | succ i ih =>
    intro hi x hx
    rcases List.mem_append.mp hx with hx | hx
    · exact ih (by omega) x hx
    · split at hx
      · obtain ⟨y, hy, rfl⟩ := List.mem_map.mp hx
        have := h i (by omega) (by assumption) y hy
        simp only [List.length_append, sgnOf, List.length_cons, List.length_nil]; omega
      · cases hx
theorem wordsOf_each : ∀ (n : Nat) (o : List Int), ∀ x ∈ wordsOf n o, x.length ≤ n
  | 0, _ => by intro x hx; simp [wordsOf] at hx; subst hx; exact Nat.le_refl _
  | n + 1, o => by
    have h := wordsAt_each (r := wordsOf n) (o := o) (B := n) (fun k _ _ => wordsOf_each n _) 4 (Nat.le_refl _)
    intro x hx
    unfold wordsOf orOne at hx
    split at hx
    · rw [List.mem_singleton.mp hx]; exact Nat.zero_le _
    · exact h x hx
theorem swapAt_len {o : List Int} {k : Nat} (h : o.length = 5) (hk : k < 4) : (swapAt o k).length = 5 := by
  simp only [swapAt, List.length_append, List.length_take, List.length_cons, List.length_nil, List.length_drop]; omega
section
variable {prog : Program} {w : World} {A : Around} {E : Value → Shared → Prop} {s : Shared} {h₀ : Heap} {L D b : Addr} {m : Str → Option Value} {news news' : List (Addr × Obj)} {n n2 : Nat}
theorem extend_L {xs ys : List Value} {Q : Value → Shared → Prop} (F : Fr h₀ L s.heap m) (N : News h₀ L s.heap news) (hb : (b, listOf (List.toArray ys) n2) ∈ news) (hne : ys ≠ [])
    (U : Upd D (listOf (List.toArray xs) n) (listOf (List.toArray (xs ++ ys)) (n + 1)) news news') (hz : xs.length + ys.length ≤ 10000)
    (h : ∀ h', Fr h₀ L h' m → News h₀ L h' news' → Q .none { s with heap := h' }) : wpAny (model prog w) A (call (.builtin "list.extend") [.ref D, .ref b]) Q E s := by
  have hs : (List.toArray xs).size + (List.toArray ys).size ≤ sizeLine := by rw [List.size_toArray, List.size_toArray, sizeLine_eq]; omega
  refine kl_extend F N hb rfl (by simpa using hne) U (extend_door hs) (by show xs.length ≤ sizeLine; rw [sizeLine_eq]; omega) (by omega) h
theorem add_L {a : Addr} {xs ys : List Value} {Q : Value → Shared → Prop} (F : Fr h₀ L s.heap m) (N : News h₀ L s.heap news) (ha : s.heap.IsList a xs.toArray) (hb : s.heap.IsList b ys.toArray) (hz : xs.length + ys.length ≤ 10000)
    (h : ∀ D h', Fr h₀ L h' m → News h₀ L h' ((D, listOf (List.toArray (xs ++ ys)) 0) :: news) → (∀ p ∈ news, p.1 < D) → Q (.ref D) { s with heap := h' }) :
    wpAny (model prog w) A (binaryOp .Add (.ref a) (.ref b)) Q E s :=
  kmk_add_lit F N ha hb rfl h (by show xs.length + ys.length ≤ sizeLine; rw [sizeLine_eq]; omega)
theorem add_nat {a c : Nat} {t u : Tok} {Q : Value → Shared → Prop} (hz : a + c ≤ 100000) (h : Q (.int ((a + c : Nat) : Int) s.toks) { s with toks := s.toks + 1 }) : wpAny (model prog w) A (binaryOp .Add (.int (a : Int) t) (.int (c : Int) u)) Q E s :=
  add_int (by rw [← Int.natCast_add]; exact h)
end
section
variable {prog : Program} {w : World} {A : Around} {E : Value → Shared → Prop} {s : Shared} {h₀ : Heap} {L l : Addr} {m : Str → Option Value} {news : List (Addr × Obj)} {value slice : PySem.Expr} {vs zs : List Value} {vl vu : Value} {lo hi : Option Int} {Q : Value → Shared → Prop}
theorem slice_N {h : Heap} {ge dr tk os} (F : Fr h₀ L h m) (N : News h₀ L h news) (hl : h.IsList l vs.toArray) (pl : IsPart vl lo) (pu : IsPart vu hi) (e : kms_pick vs lo hi = zs) (hz : vs.length ≤ 10000)
    (k : ∀ D h', Fr h₀ L h' m → News h₀ L h' ((D, listOf (List.toArray zs) 0) :: news) → (∀ p ∈ news, p.1 < D) → Q (.ref D) ⟨h', ge, dr, tk, os⟩)
    (hs : subscripted slice false (.ref l) (.ref h.objs.size) = operate [.ref h.objs.size, .ref l] (getItem (.ref l) (.ref h.objs.size))) (ht : ∀ r, letTemporaryGo value (.ref l) r = pure ()) :
    wpAny (model prog w) A (subscriptTail value slice (.ref l) (.ref h.objs.size)) Q E ⟨h.push { cls := .type "slice", data := .fields #[vl, vu, .none] }, ge, dr, tk, os⟩ :=
  kms_slice_lit (s := ⟨h, ge, dr, tk, os⟩) F N hl pl pu e k hs ht (by rw [List.size_toArray, sizeLine_eq]; omega)
end
theorem sig4 : Str.ofString " \"#\\" = S [32, 34, 35, 92] := by decide +kernel
section
variable {prog : Program} {w : World} {A : Around} {E : Value → Shared → Prop} {s : Shared}
theorem sig_const {env : Env} {k : Nat} {pos : Pos} {Q : Value → Shared → Prop} (h : ∀ t tk, Q (.str (S [32, 34, 35, 92]) t) { s with toks := tk }) : wpAny (model prog w) A (eval (.Constant (.str (Str.ofString " \"#\\")) k pos) env) Q E s :=
  Calls.Constant_str (by rw [sig4]; exact h _ _)
theorem add_S {x y : T} {t u : Tok} {Q : Value → Shared → Prop} (hx : x.length ≤ 100000) (hy : y.length ≤ 100000) (h : ∀ t' tk, Q (.str (S (x ++ y)) t') { s with toks := tk }) : wpAny (model prog w) A (binaryOp .Add (.str (S x) t) (.str (S y) u)) Q E s :=
  PyProof.Rows.add_str (fun t' tk => S_append x y ▸ h t' tk) (by rw [S_length, S_length]; simp only [sizeLine_eq]; omega)
end
theorem sgn_char : ∀ k < 4, [(Txt.charAt (S [32, 34, 35, 92]) ((k : Nat) : Int)).getD 0] = sgnOf k := by decide +kernel
theorem pick_to (l : List Value) (k : Nat) (h : k ≤ l.length) : kms_pick l none (some (k : Int)) = l.take k := by
  simp only [kms_pick, kms_lo, kms_hi]
  rw [if_neg (by omega), Nat.sub_zero, List.drop_zero, show min (k : Int).toNat l.length = k by omega]
theorem pick_from (l : List Value) (k : Nat) (h : k ≤ l.length) : kms_pick l (some (k : Int)) none = l.drop k := by
  simp only [kms_pick, kms_lo, kms_hi]
  rw [if_neg (by omega), show min (k : Int).toNat l.length = k by omega]
  exact List.take_of_length_le (by rw [List.length_drop]; exact Nat.le_refl _)
theorem pick_fromI (l : List Value) {x : Int} (h0 : 0 ≤ x) (h : x ≤ l.length) : kms_pick l (some x) none = l.drop x.toNat := by
  obtain ⟨k, rfl⟩ := Int.eq_ofNat_of_zero_le h0
  exact pick_from l k (by omega)
theorem pick_toI (l : List Value) {x : Int} (h0 : 0 ≤ x) (h : x ≤ l.length) : kms_pick l none (some x) = l.take x.toNat := by
  obtain ⟨k, rfl⟩ := Int.eq_ofNat_of_zero_le h0
  exact pick_to l k (by omega)
theorem ints_get {vs : List Value} {ns : List Int} (h : IntsAre vs ns) {i : Nat} (hi : i < ns.length) : ∃ t, vs[i]? = some (.int (ns.getD i 0) t) := by
  have hl : vs.length = ns.length := h.length
  have e : vs[i]? = some vs[i] := List.getElem?_eq_getElem (by omega)
  obtain ⟨t, ht⟩ := IntsAre.int_at h i _ e
  exact ⟨t, e.trans (congrArg some ht)⟩
end Mine
end
section
open PySem PySem.W PyProof.Rows PySem.Calls PySem.Spec
set_option maxRecDepth 100000
namespace Mine
theorem lnWords1 : True := by
  k_with_none
  k_with "own_room" => ((show _ < 1000; (try simp only [depth_under_make, depth_under_kw, depth_in1, depth_deeper]); omega))
  k_with "eval Name" => ((k_here; k_dflt (refine' nameX_F ?N ?c ?m ?d ?_ ?a ?b; (case a => rfl); (case b => rfl); (case N => k_asm); (case c => rfl); (case m => k_mem); (case d => k_asm); k_whole)))
  k_with "ite" => (first | (refine ite_pos (by decide +kernel) ?_) | (refine ite_neg (by decide +kernel) ?_))
  k_with "inplaceOp Add str str" => ((refine iadd_empty (by first | assumption | (simp only [S_length]; omega)) ?_; intro tq' tkq'))
  k_with "m_get" => (first | rfl | (with_reducible assumption) | exact if_pos rfl | (refine (if_neg (by decide +kernel)).trans ?_; walk_at "m_get"))
  k_with "m_subs" => (first | exact List.forall_mem_nil _ | (refine List.forall_mem_cons.mpr ⟨by k_dflt k_mem, ?_⟩; walk_at "m_subs"))
  k_with "m_dis" => (first | exact List.forall_mem_nil _ | (refine List.forall_mem_cons.mpr ⟨by k_all, ?_⟩; walk_at "m_dis"))
  k_with "m_list" => (first | (with_reducible assumption) | exact stays_list (Fr.keep (by with_reducible assumption)) (by with_reducible assumption) | exact News.isList (by with_reducible assumption) (by k_mem))
  k_with "m_size" => (first | omega | (simp only [List.size_toArray, List.length_map, List.length_cons, List.length_append, List.length_nil, strsAre_length (by assumption)]; omega))
  k_with "truthy ref" => (((with_reducible show wpAny _ _ (truthy (Value.ref _)) _ _ _); k_dflt (first | (refine truthy_nil (by walk_at "m_list") ?_; intro tkq') | (refine truthy_cons (by walk_at "m_list") (by walk_at "m_size") ?_; intro tkq'))))
  k_with "call type:list" => (((with_reducible show wpAny _ _ (call (Value.type _) [Value.str _ _]) _ _ _); refine list_str_K rfl (by k_asm) (by k_asm) (by assumption) ?_; intro Dq' ysq' nq' hq' tkq' Fq' Nq' hSq' l1q; k_lt l1q; (try k_sweep)))
  k_with "call builtin:list.pop" => (((with_reducible show wpAny _ _ (call (Value.builtin _) [Value.ref _, Value.int 0 _]) _ _ _); k_dflt (refine' pop0_K ?F ?N ?U ?z ?_; (case F => k_asm); (case N => k_asm); (case U => k_upd); (case z => walk_at "m_size"); intro hq' Fq' Nq'; (try dsimp only [List.nil_append, List.cons_append] at Nq'); (try k_sweep))))
  k_with "exec For Name Call cons nil" => (((rename Fr _ _ _ _ => lF'); k_dflt (refine' For_invTF lF' ?_ ?k2; (case k2 => (intro _; rfl)))))
  k_with "pyIter ref" => ((refine stop_of ?_))
  k_with "call ref" => (((with_reducible show wpAny _ _ (call (Value.ref _) _) _ _ _); refine stop_of ?_))
  k_with "eval ListComp" => ((refine stop_of ?_))
  k_with "CompSrc" => ((refine stop_of ?_))
  k_with "TurnEnd" => ((refine stop_of ?_))
  k_with "eval Name" => ((k_here; (with_reducible show wpAny _ _ (eval (Expr.Name _ _) (compEnvC _ _ _ _)) _ _ _); k_dflt (first | refine LCgL.ld_own (by k_asm) (by k_mem) (by with_reducible assumption) (by with_reducible assumption) ?_ | refine LCgL.ld_global (by k_asm) (by k_asm) (by k_asm) (by k_is) ?_ | refine LCgL.ld_built (by k_asm) (by k_asm) (by k_asm) (by k_is) (by boot_by_name) (by decide) ?_)))
  k_with "m_far" => (first | exact tail_ne (by with_reducible assumption) (by with_reducible assumption) (by omega) | exact List.forall_mem_nil _ | ((with_reducible refine List.forall_mem_cons.mpr ⟨?_, ?_⟩); (show @Ne Nat _ _; (try dsimp only); omega); walk_at "m_far"))
  k_with "own_upd" => (first | ((with_reducible refine Upd.head ?_); walk_at "m_far") | ((with_reducible refine Upd.tail ?_ ?_); (show @Ne Nat _ _; (try dsimp only); omega); k_upd))
  k_with "m_get" => (first | (with_reducible assumption) | (with_reducible exact if_pos rfl) | ((with_reducible refine (if_neg (by decide +kernel)).trans ?_); walk_at "m_get"))
  k_with "own_all" => (exact tail_ne (by with_reducible assumption) (by with_reducible assumption) (by omega))
  k_with "call builtin:len" => (((with_reducible show wpAny _ _ (call (Value.builtin "len") [Value.ref _]) _ _ _); k_dflt (refine len_L (by walk_at "m_list") (by walk_at "m_size") ?_); intro tq' tkq'))
  k_with "call builtin:list.append" => (((with_reducible show wpAny _ _ (call (Value.builtin _) [Value.ref _, _]) _ _ _); k_dflt (refine' append_L ?F ?N ?U ?z ?_; (case F => k_asm); (case N => k_asm); (case U => k_upd); (case z => walk_at "m_size"); intro hq' Fq' Nq'; (try k_sweep))))
  k_with "m_cond" => (first | decide +kernel | (simp only [beq_iff_eq, decide_eq_true_eq]; omega) | (simp only [beq_iff_eq, bne_iff_ne, ne_eq, decide_eq_true_eq]; omega))
  k_with "ite" => (first | (refine ite_pos (by walk_at "m_cond") ?_) | (refine ite_neg (by walk_at "m_cond") ?_))
  k_with "TEndT" => ((refine stop_of ?_))
  k_with "subscriptTail Name Name ref int" => (((with_reducible show wpAny _ _ (subscriptTail _ _ (Value.ref _) (Value.int _ _)) _ _ _); k_dflt (refine item_L (by walk_at "m_list") (by with_reducible assumption) (by omega) ?_)))
  k_with "subscriptTail Name BinOp ref int" => (((with_reducible show wpAny _ _ (subscriptTail _ _ (Value.ref _) (Value.int _ _)) _ _ _); k_dflt (refine item_L (by walk_at "m_list") (by with_reducible assumption) (by omega) ?_)))
  k_with "m_pick" => (first | (with_reducible exact pick_to _ _ (by omega)) | (with_reducible exact pick_from _ _ (by omega)) | exact pick_toI _ (by omega) (by omega) | exact pick_fromI _ (by omega) (by omega))
  k_with "m_len" => (first | omega | ((simp only [List.size_toArray, sizeLine_eq, List.length_append, List.length_take, List.length_drop, List.length_cons, List.length_nil, List.length_map, List.length_set]); omega))
  k_with "subscriptTail Name Slice ref ref" => (((with_reducible show wpAny _ _ (subscriptTail _ (PySem.Expr.Slice _ _ none _) (Value.ref _) (Value.ref _)) _ _ _); k_dflt (refine' slice_N ?kF ?kN ?kl ?kp ?kq ?ke ?kz ?_ ?ks ?kt; (case kF => k_asm); (case kN => k_asm); (case kl => walk_at "m_list"); (case kp => kmk_part); (case kq => kmk_part); (case ke => walk_at "m_pick"); (case ks => with_unfolding_all rfl); (case kt => kmk_pure); (case kz => walk_at "m_len")); intro Dq' hq' Fq' Nq' l1q; (try k_lt l1q); (try k_sweep)))
  k_with "binaryOp Add ref ref" => (((with_reducible show wpAny _ _ (binaryOp _ (Value.ref _) (Value.ref _)) _ _ _); k_dflt (refine' add_L ?kF ?kN ?ka ?kb ?kz ?_; (case kF => k_asm); (case kN => k_asm); (case ka => walk_at "m_list"); (case kb => walk_at "m_list"); (case kz => walk_at "m_len")); intro Dq' hq' Fq' Nq' l1q; (try k_lt l1q); (try k_sweep)))
  k_with "call builtin:list.extend" => ((refine stop_of ?_))
  k_with "eval Name" => (((with_reducible show wpAny _ _ (eval (Expr.Name _ _) (envOfC _ _ _ _ _)) _ _ _); k_dflt (first | refine nameX_L (by k_asm) (by walk_at "m_get") ?_ | refine nameX_C (by k_asm) (by rfl) (by k_mem) (by with_reducible assumption) ?_)))
  k_with "eval Name" => (((with_reducible show wpAny _ _ (eval (Expr.Name _ _) (compEnvC _ _ _ _)) _ _ _); k_dflt (refine lcf_free (by k_asm) (by rfl) (by k_mem) (by with_reducible assumption) ?_ (by rfl) (by rfl))))
  k_with "eval Constant str" => (((with_reducible show wpAny _ _ (eval (Expr.Constant (Const.str (Str.ofString " \"#\\")) _ _) _) _ _ _); refine sig_const ?_; intro tq'))
  k_with "binaryOp Add str str" => ((k_dflt (refine add_S (by first | omega | (simp only [List.length_cons, List.length_nil]; omega)) (by first | omega | (simp only [List.length_cons, List.length_nil]; omega)) ?_); intro tq' tkq'))
  trivial
/-- what _law_words does of one order -/
def WordsC (w : World) (r : List T) (o : List Int) (d : Nat) : Prop :=
  ∀ (prog : Program) (s : Shared) (g : Heap) (dp un : Nat) (gd : Option (List Code)) (frs : List Env) (R : Result → Shared → Prop) (l : Addr) (vs : List Value),
    Site w dp un gd frs g → g.StaysIn s.heap → g.IsList l vs.toArray → IntsAre vs o → dp + d < 850 → un + 3 * d < 8500 →
    (∀ h' tk' D ys c, g.StaysIn h' → Owns g h' [(D, listOf (List.toArray ys) c)] → StrsAre ys (r.map S) → R (.ok (.ret (.ref D))) { s with heap := h', toks := tk' }) →
    codeAny (model prog w) (top dp un gd frs) (.call (.ref 249) ⟨[.ref l], []⟩) R s
structure WordsAt (rc : List Int → List T) (o : List Int) (l cl : Nat) (i : Nat) (m : Str → Option Value) (news : List (Addr × Obj)) (lw : Nat) (ys : List Value) (c : Nat) (oc : Obj) (v0 : Option Value) : Prop where
  news : news = [(lw, listOf (List.toArray ys) c), (cl, oc)]
  cell : oc.data = .cell v0
  order : m "order" = some (.ref l)
  words : m "words" = some (.ref lw)
  lt : @LT.lt Nat _ cl lw
  syms : StrsAre ys ((wordsAt rc o i).map S)
set_option maxHeartbeats 4000000 in
theorem words_step {w : World} {rc : List Int → List T} {o : List Int} {d : Nat} (hol : o.length = 5) (hrec : ∀ k < 4, o.getD k 0 > o.getD (k + 1) 0 → WordsC w (rc (swapAt o k)) (swapAt o k) d ∧ (rc (swapAt o k)).length ≤ 256 ∧ rc (swapAt o k) ≠ [] ∧ ∀ x ∈ rc (swapAt o k), x.length ≤ 10) :
    WordsC w (orOne (wordsAt rc o 4)) o (d + 1) := by
  intro prog s g dp un gd frs R l vs Si K hl hi hdp hun ret
  have hvl : vs.length = 5 := by rw [hi.length, hol]
  refine' enterC (binds := [("order", .ref l)]) ?Si ?S ?O (K_at (Frag.In.keeps (Site.X ?Si) ?S) ?k6) ?hd (codeRec_of (Frag.In.keeps (Site.X ?Si) ?S) ?k7) ?k8 ?k9 ?kB ?kD ?_ ?c2 ?c3 ?c4
  (case Si => assumption)
  (case S => assumption)
  (case O => first | assumption | exact Owns.nil)
  (case k6 => k_is)
  (case hd => exact rfl)
  (case k7 => k_is)
  (case k8 => first | decide | (show _ < 1000; omega))
  (case k9 => first | exact BindsTo.of_eq rfl | exact binds_peek (Frag.In.keeps (Site.X (by assumption)) (by assumption)) (fun _ => by kernel_rfl))
  (case kB => exact rfl)
  (case kD => decide +kernel)
  (case c2 => exact rfl)
  (case c3 => exact rfl)
  (case c4 => exact rfl)
  k_whole
  intro g1 L1 h1 tk1 cells1 hg F1 N1 Y1 l1 Si1
  k_cells Y1
  (try simp only [List.cons_append, List.nil_append] at N1)
  (try k_lt l1)
  (have X1 := Site.X Si1)
  obtain ⟨p1, loose1, mean1, mg1, mb1, T1⟩ := Site.T Si1
  (try dsimp only)
  (try k_fold)
  (repeat' (first | (k_unfold; (try dsimp only)) | ((try dsimp only); walk1) | walk1))
  show wpAny _ _ _ _ _ _
  rename IsRange _ _ _ _ _ _ _ _ => kR
  rename News _ _ _ _ => kN
  rename Fr _ _ _ _ => kF
  refine rangeT_J (fun i m news => ∃ lw ys c oc v0, WordsAt rc o l (L1 + 1) i m news lw ys c oc v0) rfl kR (n := 4) rfl (by decide) kF kN ?start ?turn ?done
  case start => exact ⟨_, [], 0, _, _, rfl, by assumption, by walk_at "m_get", by walk_at "m_get", by omega, .nil⟩
  case turn =>
    clear kR kN kF
    rintro i t m₁ news₁ I io ⟨h3, gens3, drawn3, toks3, os3⟩ hi4 hI ⟨lw, ys, c, oc, v0, A⟩ off F3 N3
    have mOrder := A.order
    have mWords := A.words
    have hcell := A.cell
    have hlt := A.lt
    have hstrs := A.syms
    obtain rfl := A.news
    clear A
    replace F3 : Fr g1 L1 h3 m₁ := F3
    replace N3 : News g1 L1 h3 _ := N3
    have oI1 : @Ne Nat lw I := off _ (.head _)
    have oI2 : @Ne Nat (L1 + 1) I := off _ (.tail _ (.head _))
    obtain ⟨ta, hxa⟩ := ints_get hi (i := i) (by omega)
    obtain ⟨tb, hxb⟩ := ints_get hi (i := i + 1) (by omega)
    have hl3 := stays_list hg hl
    by_cases hd : o.getD i 0 > o.getD (i + 1) 0
    · obtain ⟨hc1, hc2, hc3, hc4⟩ := hrec i hi4 hd
      (repeat' (first | (k_unfold; (try dsimp only)) | ((try dsimp only); walk1) | walk1))
      show wpAny _ _ _ _ _ _
      k_dflt (refine LCg.ListComp_U (F₀ := by k_asm) (by rfl) (by decide) (by rfl) (by decide) (by rfl) ?_)
      (repeat' (first | (k_unfold; (try dsimp only)) | ((try dsimp only); walk1) | walk1))
      show wpAny _ _ _ _ _ _
      rename News _ _ _ _ => kN
      rename Fr _ _ _ _ => kF
      refine call_at (own := []) (rest := _) Si1 kF kN (fun p hp => nomatch hp) (fun p hp => hp) (fun p hp q hq => nomatch hq) rfl rfl ?_
      intro g4 S4 K4 O4 G4 P4 back
      refine hc1 _ _ _ _ _ _ _ _ _ _ S4 K4 ⟨_, P4 _ _ (kN _ (.head _)).1 (fun q hq => nomatch hq), rfl, _, rfl⟩ ?kints (by omega) (by omega) ?_
      case kints =>
        rw [show ((i : Int) + 2).toNat = i + 2 by omega]
        exact IntsAre.append (IntsAre.append (IntsAre.take hi _) (IntsAre.cons _ _ (IntsAre.cons _ _ IntsAre.nil))) (IntsAre.drop hi _)
      intro h5 tk5 D5 ys5 c5 k5 o5 hs5
      obtain ⟨F5, N5, E5⟩ := back _ _ k5 o5
      have oI5 : @Ne Nat D5 I := E5 _ (.head _) (I, io) (by k_mem)
      have oL5 : @Ne Nat D5 lw := E5 _ (.head _) (lw, _) (by k_mem)
      have oC5 : @Ne Nat D5 (L1 + 1) := E5 _ (.head _) (L1 + 1, _) (by k_mem)
      have N6 : News g1 L1 h5 [(D5, listOf (List.toArray ys5) c5), (I, io), (lw, listOf (List.toArray ys) c), (L1 + 1, _)] := fun p hp => N5 p ((by dsimp only [List.cons_append, List.nil_append]; walk_at "m_subs" : ∀ p ∈ [(D5, listOf (List.toArray ys5) c5), (I, io), (lw, listOf (List.toArray ys) c), (L1 + 1, _)], p ∈ _) p hp)
      clear kN kF N5
      (repeat' (first | (k_unfold; (try dsimp only)) | ((try dsimp only); walk1) | walk1))
      show LCg.CompSrc _ _ _ _ _ _ _ _ _ _ _ _ _ _
      have hl5 : ys5.length = (rc (swapAt o i)).length := by rw [strsAre_length hs5, List.length_map]
      refine LCg.CompSrc.ledger rfl (by with_reducible assumption) (by with_reducible assumption) (by k_dflt k_mem) ?sz (fun g9 => ?_)
      case sz => show (List.toArray ys5).size ≤ 2 ^ 24; rw [List.size_toArray]; omega
      refine comp_inv (fun j zs => StrsAre zs ((((rc (swapAt o i)).map (· ++ sgnOf i)).take j).map S)) (.inr ⟨_, .head _, rfl, _, rfl⟩) .nil ?el ?fin
      case el =>
        intro j v zs I' oI C oC D m₂ h9 tk9 E' hv hinv hNs hx9 F9 N9 off9 ne9
        have hj : j < (rc (swapAt o i)).length := by
          rw [← hl5]
          rcases Nat.lt_or_ge j ys5.length with h | h
          · exact h
          · rw [List.getElem?_eq_none h] at hv; cases hv
        obtain ⟨tj, ej⟩ := StrsAre.get hs5 j (by rw [List.length_map]; exact hj)
        rw [hv, getD_mapS] at ej
        obtain rfl := Option.some.inj ej
        have hlen := hc4 _ (getD_mem (d := []) hj)
        (repeat' (first | (k_unfold; (try dsimp only)) | ((try dsimp only); walk1) | walk1))
        show TurnEnd _ _ _ _ _ _ _ _ _ _ _ _ _ _
        refine TurnEnd.intro (by with_reducible assumption) (by with_reducible assumption) (fun p hp => hp) ?_
        rw [take_succ_S (by rw [List.length_map]; exact hj), getD_map' (· ++ sgnOf i) _ j [] [] hj]
        exact StrsAre.append hinv (by rw [← sgn_char i hi4]; exact StrsAre.one _ _)
      case fin =>
        intro zs hzs D h9 tk9 F9 N9 off9
        rw [hl5, ← List.length_map (f := (· ++ sgnOf i)), List.take_length] at hzs
        (repeat' (first | (k_unfold; (try dsimp only)) | ((try dsimp only); walk1) | walk1))
        show wpAny _ _ _ _ _ _
        rename News _ _ _ _ => kN
        have hz1 : zs.length = (rc (swapAt o i)).length := by rw [strsAre_length hzs, List.length_map, List.length_map]
        have hz2 : ys.length = (wordsAt rc o i).length := by rw [strsAre_length hstrs, List.length_map]
        have hz3 := wordsAt_len (r := rc) (o := o) (B := 256) (fun k hk hd => (hrec k hk hd).2.1) i (by omega)
        obtain ⟨oD5, oD3, oD1, oD2, _⟩ := off9
        dsimp only at oD5 oD3 oD1 oD2
        k_dflt (refine' extend_L (xs := ys) (ys := zs) (n := c) ?kF kN ?kb ?ke ?kU ?kz ?_; (case kF => k_asm); (case kb => k_mem); (case kU => k_upd))
        case ke => intro e; rw [e] at hz1; exact hc3 (List.eq_nil_of_length_eq_zero hz1.symm)
        case kz => (have : i * 256 ≤ 1024 := by omega); omega
        intro h10 F10 N10
        clear kN F9
        (repeat' (first | (k_unfold; (try dsimp only)) | ((try dsimp only); walk1) | walk1))
        show TEndT g1 L1 _ _ _ _ _ _
        rename News _ _ _ _ => kN
        refine TEndT.next (by with_reducible assumption) kN [(lw, listOf (List.toArray (ys ++ zs)) (c + 1)), (L1 + 1, _)] (by k_mem) (by walk_at "m_subs") (List.forall_mem_cons.mpr ⟨oI1, List.forall_mem_cons.mpr ⟨oI2, List.forall_mem_nil _⟩⟩) ⟨lw, ys ++ zs, c + 1, _, _, rfl, by assumption, by walk_at "m_get", by walk_at "m_get", hlt, ?_⟩
        rw [wordsAt, if_pos hd, List.map_append]; exact StrsAre.append hstrs hzs
    · (repeat' (first | (k_unfold; (try dsimp only)) | ((try dsimp only); walk1) | walk1))
      show TEndT g1 L1 _ _ _ _ _ _
      rename News _ _ _ _ => kN
      refine TEndT.next (by with_reducible assumption) kN [(lw, listOf (List.toArray ys) c), (L1 + 1, _)] (by k_mem) (by walk_at "m_subs") (List.forall_mem_cons.mpr ⟨oI1, List.forall_mem_cons.mpr ⟨oI2, List.forall_mem_nil _⟩⟩) ⟨lw, ys, c, _, _, rfl, by assumption, mOrder, mWords, hlt, ?_⟩
      rw [wordsAt, if_neg hd, List.append_nil]; exact hstrs
  case done =>
    clear kR kN kF
    rintro m₁ news₁ h3 tk3 ⟨lw, ys, c, oc, v0, A⟩ F3 N3
    have mWords := A.words
    have hstrs := A.syms
    obtain rfl := A.news
    replace F3 : Fr g1 L1 h3 m₁ := F3
    replace N3 : News g1 L1 h3 _ := N3
    have hempty : wordsAt rc o 4 = [] ∨ wordsAt rc o 4 ≠ [] := Decidable.em _
    cases ys with
    | nil =>
      have e0 : wordsAt rc o 4 = [] := by
        have := strsAre_length hstrs
        rw [List.length_map] at this
        exact List.eq_nil_of_length_eq_zero this.symm
      (repeat' (first | (k_unfold; (try dsimp only)) | ((try dsimp only); walk1) | walk1))
      rename News _ _ _ _ => kN
      rename Fr _ _ _ _ => kF
      refine ret _ _ _ [.str (Str.ofString "") _] 0 (stays_of kF hg) ((Owns.of kN hg).sub (by walk_at "m_subs")) ?_
      rw [e0]; exact StrsAre.one (S []) _
    | cons y ys =>
      have hz : (y :: ys).length = (wordsAt rc o 4).length := by rw [strsAre_length hstrs, List.length_map]
      have e0 : wordsAt rc o 4 ≠ [] := fun e => by rw [e] at hz; simp at hz
      have hz3 := wordsAt_len (r := rc) (o := o) (B := 256) (fun k hk hd => (hrec k hk hd).2.1) 4 (by omega)
      have hz4 : ys.length ≤ 5000 := by rw [List.length_cons] at hz; omega
      (repeat' (first | (k_unfold; (try dsimp only)) | ((try dsimp only); walk1) | walk1))
      rename News _ _ _ _ => kN
      rename Fr _ _ _ _ => kF
      refine ret _ _ _ (y :: ys) c (stays_of kF hg) ((Owns.of kN hg).sub (by walk_at "m_subs")) ?_
      rw [orOne, if_neg e0]; exact hstrs
/-- _law_words, for an order of five numbers -/
theorem words_walk {w : World} : ∀ (n : Nat) (o : List Int), o.length = 5 → n ≤ 5 → fuelOk n o = true → WordsC w (wordsOf n o) o (n + 1)
  | 0, o, hol, hn, hf => by
    have h := words_step (w := w) (rc := fun _ => [[]]) (d := 0) hol (fun k hk hd => absurd hd (fuelOk_zero hf hk))
    rw [wordsOf_zero hf] at h
    exact h
  | n + 1, o, hol, hn, hf => by
    have hp : 4 ^ n ≤ 256 := Nat.pow_le_pow_right (by decide) (show n ≤ 4 by omega)
    exact words_step (w := w) (rc := wordsOf n) (d := n + 1) hol fun k hk hd =>
      ⟨words_walk n _ (swapAt_len hol hk) (by omega) (fuelOk_succ hf hk hd), Nat.le_trans (wordsOf_len n _) hp, wordsOf_ne _ _, fun x hx => by have := wordsOf_each n _ x hx; omega⟩
end Mine
end
section
open PySem PySem.W PyProof.Rows PySem.Calls PySem.Spec
set_option maxRecDepth 100000
namespace Mine
abbrev Fl := List (List T)
def nxt (sh : List Nat) (k : Nat) : List Nat := sh.take k ++ [sh.getD k 0 - 1] ++ sh.drop (k + 1)
def grow (k n : Nat) (rows : List T) : List T := rows.take k ++ [rows.getD k [] ++ digs n] ++ rows.drop (k + 1)
/-- the fillings behind i turns of the loop -/
def fillAt (rec' : List Nat → Fl) (sh : List Nat) : Nat → Fl
  | 0 => []
  | i + 1 => fillAt rec' sh i ++ (if sh.getD i 0 > sh.getD (i + 1) 0 then (rec' (nxt sh i)).map (grow i sh.sum) else [])
def fillOf : Nat → List Nat → Fl
  | 0, sh => [List.replicate sh.length []]
  | n + 1, sh => fillAt (fillOf n) sh sh.length
theorem nxt_len {sh : List Nat} {k : Nat} (h : k < sh.length) : (nxt sh k).length = sh.length := by
  simp only [nxt, List.length_append, List.length_take, List.length_cons, List.length_nil, List.length_drop]; omega
theorem sum_split : ∀ (sh : List Nat) (k : Nat), k < sh.length → sh.sum = (sh.take k).sum + sh.getD k 0 + (sh.drop (k + 1)).sum
  | [], _, h => absurd h (Nat.not_lt_zero _)
  | a :: sh, 0, _ => by simp
  | a :: sh, k + 1, h => by
    have := sum_split sh k (Nat.lt_of_succ_lt_succ h)
    simp only [List.sum_cons, List.take_succ_cons, List.drop_succ_cons, List.getD_cons_succ]
    omega
theorem nxt_sum {sh : List Nat} {k : Nat} (h : k < sh.length) (hd : sh.getD k 0 > sh.getD (k + 1) 0) : (nxt sh k).sum + 1 = sh.sum := by
  rw [sum_split sh k h]
  simp only [nxt, List.sum_append, List.sum_cons, List.sum_nil]
  omega
theorem fillAt_len {r : List Nat → Fl} {sh : List Nat} {B : Nat} (h : ∀ k < sh.length, sh.getD k 0 > sh.getD (k + 1) 0 → (r (nxt sh k)).length ≤ B) : ∀ i ≤ sh.length, (fillAt r sh i).length ≤ i * B := by
  intro i
  induction i with
  | zero => intro _; simp [fillAt]
  | succ i ih =>
    intro hi
    have h1 := ih (by omega)
    simp only [fillAt, List.length_append, Nat.add_mul, Nat.one_mul]
    split
    · have := h i (by omega) (by assumption)
      simp only [List.length_map]; omega
    · simp only [List.length_nil]; omega
theorem fillOf_len : ∀ (n : Nat) (sh : List Nat), sh.length ≤ 5 → (fillOf n sh).length ≤ 5 ^ n
  | 0, _, _ => by simp [fillOf]
  | n + 1, sh, h => by
    have h1 := fillAt_len (r := fillOf n) (sh := sh) (B := 5 ^ n) (fun k hk _ => fillOf_len n _ (by rw [nxt_len hk]; exact h)) sh.length (Nat.le_refl _)
    have h2 : sh.length * 5 ^ n ≤ 5 * 5 ^ n := Nat.mul_le_mul_right _ h
    rw [Nat.pow_succ]
    simp only [fillOf]; omega
def EachOk (len B : Nat) (f : Fl) : Prop := ∀ rows ∈ f, rows.length = len ∧ ∀ x ∈ rows, x.length ≤ B
theorem fillAt_each {r : List Nat → Fl} {sh : List Nat} {B : Nat} (hs : sh.sum ≤ 300) (h : ∀ k < sh.length, sh.getD k 0 > sh.getD (k + 1) 0 → EachOk sh.length B (r (nxt sh k))) : ∀ i ≤ sh.length, EachOk sh.length (B + 30) (fillAt r sh i) := by
  intro i
  induction i with
  | zero => intro _ x hx; cases hx
  | succ i ih =>
    intro hi rows hrows
    rcases List.mem_append.mp hrows with hx | hx
    · exact ih (by omega) rows hx
    · split at hx
      · obtain ⟨y, hy, rfl⟩ := List.mem_map.mp hx
        obtain ⟨h1, h2⟩ := h i (by omega) (by assumption) y hy
        refine ⟨by simp only [grow, List.length_append, List.length_take, List.length_cons, List.length_nil, List.length_drop]; omega, fun x hx => ?_⟩
        have hdg := digs_le (n := sh.sum) (by omega)
        rcases List.mem_append.mp hx with hx | hx
        · rcases List.mem_append.mp hx with hx | hx
          · have := h2 x (List.mem_of_mem_take hx); omega
          · rw [List.mem_singleton.mp hx, List.length_append]
            have := h2 _ (getD_mem (d := []) (show i < y.length by omega))
            omega
        · have := h2 x (List.mem_of_mem_drop hx); omega
      · cases hx
theorem fillOf_each : ∀ (n : Nat) (sh : List Nat), sh.sum = n → n ≤ 300 → EachOk sh.length (30 * n) (fillOf n sh)
  | 0, sh, _, _ => by
    intro rows hx
    simp only [fillOf, List.mem_singleton] at hx
    subst hx
    refine ⟨List.length_replicate, fun x hx => ?_⟩
    rw [List.eq_of_mem_replicate hx]; exact Nat.zero_le _
  | n + 1, sh, hs, hn => by
    have h := fillAt_each (r := fillOf n) (sh := sh) (B := 30 * n) (by omega) (fun k hk hd => by
      have := fillOf_each n (nxt sh k) (by have := nxt_sum hk hd; omega) (by omega)
      rw [nxt_len hk] at this; exact this) sh.length (Nat.le_refl _)
    intro rows hx
    have := h rows hx
    exact ⟨this.1, fun x hx => by have := this.2 x hx; omega⟩
theorem RowsAre.snoc {rs : List RowE} {rows : List (List T)} (h : RowsAre rs rows) {a n : Nat} {vs : List Value} {row : List T} (hv : StrsAre vs (row.map S)) : RowsAre (rs ++ [(a, vs, n)]) (rows ++ [row]) := by
  refine ⟨by simp [h.len], fun i r hr => ?_⟩
  rcases Nat.lt_trichotomy i rs.length with hi | hi | hi
  · rw [List.getElem?_append_left hi] at hr
    have := h.row i r hr
    rw [List.getD_eq_getElem?_getD, List.getElem?_append_left (by rw [← h.len]; exact hi), ← List.getD_eq_getElem?_getD]
    exact this
  · subst hi
    rw [List.getElem?_append_right (Nat.le_refl _)] at hr
    simp only [Nat.sub_self, List.getElem?_cons_zero, Option.some.injEq] at hr
    subst hr
    rw [List.getD_eq_getElem?_getD, List.getElem?_append_right (by rw [h.len]; exact Nat.le_refl _), h.len]
    simp only [Nat.sub_self, List.getElem?_cons_zero]
    exact hv
  · rw [List.getElem?_eq_none (by simp; omega)] at hr
    cases hr
theorem strs_replicate (x : Str) (t : Tok) : ∀ n : Nat, StrsAre (List.replicate n (.str x t)) (List.replicate n x)
  | 0 => .nil
  | n + 1 => .cons _ _ (strs_replicate x t n)
/-- the sum of the ints -/
def SumIs (vs : List Value) (c : Nat) : Prop := ∃ ns, IntsAre vs ns ∧ ns.sum = (c : Int)
theorem sum_cast (sh : List Nat) : (sh.map fun n : Nat => (n : Int)).sum = (sh.sum : Int) := by
  induction sh with
  | nil => rfl
  | cons a sh ih => simp [ih]
theorem pick_two (l : List Value) {x y : Int} (h0 : 0 ≤ x) (h1 : 0 ≤ y) (h : x ≤ l.length) : kms_pick l (some x) (some y) = (l.drop x.toNat).take (y.toNat - x.toNat) := by
  obtain ⟨a, rfl⟩ := Int.eq_ofNat_of_zero_le h0
  obtain ⟨b, rfl⟩ := Int.eq_ofNat_of_zero_le h1
  simp only [kms_pick, kms_lo, kms_hi]
  rw [if_neg (by omega), if_neg (by omega), show min (Int.toNat (a : Int)) l.length = a by omega]
  simp only [Int.toNat_natCast]
  by_cases hb : b ≤ l.length
  · rw [show min b l.length = b by omega]
  · rw [show min b l.length = l.length by omega, List.take_of_length_le (by rw [List.length_drop]; omega), List.take_of_length_le (by rw [List.length_drop]; omega)]
theorem sum_next {vs : List Value} {sh : List Nat} (h : IntsAre vs (sh.map fun n : Nat => (n : Int))) (i : Nat) : SumIs ((vs.drop ((i : Int) + 1).toNat).take (((i : Int) + 2).toNat - ((i : Int) + 1).toNat)) (sh.getD (i + 1) 0) := by
  rw [show ((i : Int) + 1).toNat = i + 1 by omega, show ((i : Int) + 2).toNat - (i + 1) = 1 by omega]
  refine ⟨_, IntsAre.take (IntsAre.drop h (i + 1)) 1, ?_⟩
  rw [← List.map_drop, ← List.map_take, sum_cast, List.getD_eq_getElem?_getD]
  rcases Nat.lt_or_ge (i + 1) sh.length with hlt | hge
  · have e : sh.drop (i + 1) = sh[i + 1] :: sh.drop (i + 1 + 1) := (List.getElem_cons_drop (h := hlt)).symm
    rw [List.getElem?_eq_getElem hlt, e, List.take_succ_cons, List.take_zero, List.sum_cons, List.sum_nil, Nat.add_zero]; rfl
  · rw [List.drop_eq_nil_of_le hge, List.getElem?_eq_none hge]; rfl
theorem nats_get {vs : List Value} {sh : List Nat} (h : IntsAre vs (sh.map fun n : Nat => (n : Int))) {i : Nat} (hi : i < sh.length) : ∃ t, vs[i]? = some (.int ((sh.getD i 0 : Nat) : Int) t) := by
  obtain ⟨t, e⟩ := ints_get h (i := i) (by rw [List.length_map]; exact hi)
  exact ⟨t, by rw [e]; simp [List.getD_eq_getElem?_getD, List.getElem?_eq_getElem hi]⟩
theorem nxt_ints {vs : List Value} {sh : List Nat} (h : IntsAre vs (sh.map fun n : Nat => (n : Int))) {i : Nat} (hd : sh.getD i 0 > sh.getD (i + 1) 0) {t : Tok} :
    IntsAre (vs.take i ++ [.int (((sh.getD i 0 : Nat) : Int) - 1) t] ++ vs.drop ((i : Int) + 1).toNat) ((nxt sh i).map fun n : Nat => (n : Int)) := by
  rw [show ((i : Int) + 1).toNat = i + 1 by omega]
  simp only [nxt, List.map_append, List.map_take, List.map_drop, List.map_cons, List.map_nil]
  refine IntsAre.append (IntsAre.append (IntsAre.take h _) ?_) (IntsAre.drop h _)
  rw [show (((sh.getD i 0 : Nat) : Int) - 1) = ((sh.getD i 0 - 1 : Nat) : Int) by omega]
  exact IntsAre.cons _ _ IntsAre.nil
theorem mul_items (v : Value) : ∀ n : Nat, (List.foldl (fun x1 x2 => x1 ++ x2) (#[] : Array Value) (List.replicate n #[v])) = (List.replicate n v).toArray := by
  have key : ∀ (n : Nat) (acc : Array Value), List.foldl (fun x1 x2 => x1 ++ x2) acc (List.replicate n #[v]) = acc ++ (List.replicate n v).toArray := by
    intro n
    induction n with
    | zero => intro acc; simp
    | succ n ih =>
      intro acc
      rw [List.replicate_succ, List.foldl_cons, ih, List.replicate_succ]
      apply Array.toList_inj.mp
      simp
  intro n
  rw [key]; simp
section
variable {prog : Program} {w : World} {A : Around} {E : Value → Shared → Prop} {s : Shared} {h₀ : Heap} {L l : Addr} {m : Str → Option Value} {news : List (Addr × Obj)} {Q : Value → Shared → Prop}
theorem mul_L {v : Value} {n k : Nat} {u : Tok} (F : Fr h₀ L s.heap m) (N : News h₀ L s.heap news) (hm : (l, listOf #[v] k) ∈ news) (hz : n ≤ 1000)
    (h : ∀ D h', Fr h₀ L h' m → News h₀ L h' ((D, listOf (List.toArray (List.replicate n v)) 0) :: news) → (∀ p ∈ news, p.1 < D) → Q (.ref D) { s with heap := h' }) :
    wpAny (model prog w) A (binaryOp .Mult (.ref l) (.int (n : Int) u)) Q E s := by
  refine mul_list (items := #[v]) (k := k) F N (N _ hm).1 (by omega) (by omega) (by simp; omega) fun h' F' N' => h _ h' F' ?_ fun p hp => Heap.lt_size (N p hp).1
  have e : (if (#[v] : Array Value).isEmpty = true then 0 else (n : Int).toNat) = n := by simp
  rw [e, mul_items] at N'
  exact N'
theorem sum_L {vs : List Value} {c : Nat} (hh : A.handled = none) (F : Fr h₀ L s.heap m) (N : News h₀ L s.heap news) (hl : s.heap.IsList l vs.toArray) (hs : SumIs vs c)
    (h : ∀ h' tk t', Fr h₀ L h' m → News h₀ L h' news → Q (.int (c : Int) t') { s with heap := h', toks := tk }) : wpAny (model prog w) A (call (.builtin "sum") [.ref l]) Q E s := by
  obtain ⟨ns, hi, e⟩ := hs
  refine sumK hh F N hl hi fun h' tk t' F' N' => ?_
  rw [e]; exact h _ _ _ F' N'
theorem fill_push {D lf I I2 D5 c c5 : Nat} {io io2 : Obj} {rs rs5 : List RowE} {items : List Value} (F : Fr h₀ L s.heap m)
    (N : News h₀ L s.heap ((D, listOf (List.toArray items) 0) :: (I2, io2) :: (D5, listOf (List.toArray (refsOf rs5)) c5) :: (I, io) :: (lf, listOf (List.toArray (refsOf rs)) c) :: (rowL rs5 ++ rowL rs)))
    (h1 : @LT.lt Nat _ lf D) (h2 : @LT.lt Nat _ I2 D) (h3 : @LT.lt Nat _ I D) (o1 : @Ne Nat I2 lf) (o2 : @Ne Nat D5 lf) (o3 : @Ne Nat I lf) (far : ∀ p ∈ rowL rs5 ++ rowL rs, @Ne Nat p.1 lf)
    (hoff : ∀ r ∈ rs, @Ne Nat r.1 lf ∧ @Ne Nat r.1 I ∧ @Ne Nat r.1 I2) (hz : (refsOf rs).length ≤ 5000)
    (k : ∀ h', Fr h₀ L h' m → News h₀ L h' ((I2, io2) :: (D5, listOf (List.toArray (refsOf rs5)) c5) :: (I, io) :: (lf, listOf (List.toArray (refsOf (rs ++ [(D, items, 0)]))) (c + 1)) :: (rowL rs5 ++ rowL (rs ++ [(D, items, 0)]))) →
      (∀ r ∈ rs ++ [(D, items, 0)], @Ne Nat r.1 lf ∧ @Ne Nat r.1 I ∧ @Ne Nat r.1 I2) → Q .none { s with heap := h' }) :
    wpAny (model prog w) A (call (.builtin "list.append") [.ref lf, .ref D]) Q E s := by
  refine append_L F N (.tail (Nat.ne_of_gt h1) (.tail o1 (.tail o2 (.tail o3 (.head far))))) hz fun h' F' N' => k h' F' (fun p hp => N' p ?_) fun r hr => ?_
  · rw [refsOf_append, rowL_append] at hp
    rcases List.mem_cons.mp hp with rfl | hp
    · exact .tail _ (.head _)
    rcases List.mem_cons.mp hp with rfl | hp
    · exact .tail _ (.tail _ (.head _))
    rcases List.mem_cons.mp hp with rfl | hp
    · exact .tail _ (.tail _ (.tail _ (.head _)))
    rcases List.mem_cons.mp hp with rfl | hp
    · exact .tail _ (.tail _ (.tail _ (.tail _ (.head _))))
    rcases List.mem_append.mp hp with hp | hp
    · exact .tail _ (.tail _ (.tail _ (.tail _ (.tail _ (List.mem_append_left _ hp)))))
    rcases List.mem_append.mp hp with hp | hp
    · exact .tail _ (.tail _ (.tail _ (.tail _ (.tail _ (List.mem_append_right _ hp)))))
    · rw [List.mem_singleton.mp hp]; exact .head _
  · rcases List.mem_append.mp hr with hr | hr
    · exact hoff r hr
    · rw [List.mem_singleton.mp hr]; exact ⟨Nat.ne_of_gt h1, Nat.ne_of_gt h3, Nat.ne_of_gt h2⟩
end
end Mine
end
section
open PySem PySem.W PyProof.Rows PySem.Calls PySem.Spec
set_option maxRecDepth 100000
namespace Mine
theorem lnFill1 : True := by
  k_with_none
  k_with "own_room" => ((show _ < 1000; (try simp only [depth_under_make, depth_under_kw, depth_in1, depth_deeper]); omega))
  k_with "eval Name" => ((k_here; k_dflt (refine' nameX_F ?N ?c ?m ?d ?_ ?a ?b; (case a => rfl); (case b => rfl); (case N => k_asm); (case c => rfl); (case m => k_mem); (case d => k_asm); k_whole)))
  k_with "ite" => (first | (refine ite_pos (by decide +kernel) ?_) | (refine ite_neg (by decide +kernel) ?_))
  k_with "inplaceOp Add str str" => ((refine iadd_empty (by first | assumption | (simp only [S_length]; omega)) ?_; intro tq' tkq'))
  k_with "m_get" => (first | rfl | (with_reducible assumption) | exact if_pos rfl | (refine (if_neg (by decide +kernel)).trans ?_; walk_at "m_get"))
  k_with "m_subs" => (first | exact List.forall_mem_nil _ | (refine List.forall_mem_cons.mpr ⟨by k_dflt k_mem, ?_⟩; walk_at "m_subs"))
  k_with "m_dis" => (first | exact List.forall_mem_nil _ | (refine List.forall_mem_cons.mpr ⟨by k_all, ?_⟩; walk_at "m_dis"))
  k_with "m_list" => (first | (with_reducible assumption) | exact stays_list (Fr.keep (by with_reducible assumption)) (by with_reducible assumption) | exact News.isList (by with_reducible assumption) (by k_mem))
  k_with "m_size" => (first | omega | (simp only [List.size_toArray, List.length_map, List.length_cons, List.length_append, List.length_nil, strsAre_length (by assumption)]; omega))
  k_with "truthy ref" => (((with_reducible show wpAny _ _ (truthy (Value.ref _)) _ _ _); k_dflt (first | (refine truthy_nil (by walk_at "m_list") ?_; intro tkq') | (refine truthy_cons (by walk_at "m_list") (by walk_at "m_size") ?_; intro tkq'))))
  k_with "call type:list" => (((with_reducible show wpAny _ _ (call (Value.type _) [Value.str _ _]) _ _ _); refine list_str_K rfl (by k_asm) (by k_asm) (by assumption) ?_; intro Dq' ysq' nq' hq' tkq' Fq' Nq' hSq' l1q; k_lt l1q; (try k_sweep)))
  k_with "call builtin:list.pop" => (((with_reducible show wpAny _ _ (call (Value.builtin _) [Value.ref _, Value.int 0 _]) _ _ _); k_dflt (refine' pop0_K ?F ?N ?U ?z ?_; (case F => k_asm); (case N => k_asm); (case U => k_upd); (case z => walk_at "m_size"); intro hq' Fq' Nq'; (try dsimp only [List.nil_append, List.cons_append] at Nq'); (try k_sweep))))
  k_with "pyIter ref" => ((refine stop_of ?_))
  k_with "call ref" => (((with_reducible show wpAny _ _ (call (Value.ref _) _) _ _ _); refine stop_of ?_))
  k_with "eval ListComp" => ((refine stop_of ?_))
  k_with "CompSrc" => ((refine stop_of ?_))
  k_with "TurnEnd" => ((refine stop_of ?_))
  k_with "eval Name" => ((k_here; (with_reducible show wpAny _ _ (eval (Expr.Name _ _) (compEnvC _ _ _ _)) _ _ _); k_dflt (first | refine LCgL.ld_own (by k_asm) (by k_mem) (by with_reducible assumption) (by with_reducible assumption) ?_ | refine LCgL.ld_global (by k_asm) (by k_asm) (by k_asm) (by k_is) ?_ | refine LCgL.ld_built (by k_asm) (by k_asm) (by k_asm) (by k_is) (by boot_by_name) (by decide) ?_)))
  k_with "m_far" => (first | exact tail_ne (by with_reducible assumption) (by with_reducible assumption) (by omega) | exact List.forall_mem_nil _ | ((with_reducible refine List.forall_mem_cons.mpr ⟨?_, ?_⟩); (show @Ne Nat _ _; (try dsimp only); omega); walk_at "m_far"))
  k_with "own_upd" => (first | ((with_reducible refine Upd.head ?_); walk_at "m_far") | ((with_reducible refine Upd.tail ?_ ?_); (show @Ne Nat _ _; (try dsimp only); omega); k_upd))
  k_with "m_get" => (first | (with_reducible assumption) | (with_reducible exact if_pos rfl) | ((with_reducible refine (if_neg (by decide +kernel)).trans ?_); walk_at "m_get"))
  k_with "own_all" => (exact tail_ne (by with_reducible assumption) (by with_reducible assumption) (by omega))
  k_with "call builtin:len" => (((with_reducible show wpAny _ _ (call (Value.builtin "len") [Value.ref _]) _ _ _); k_dflt (refine len_L (by walk_at "m_list") (by walk_at "m_size") ?_); intro tq' tkq'))
  k_with "call builtin:list.append" => (((with_reducible show wpAny _ _ (call (Value.builtin _) [Value.ref _, _]) _ _ _); k_dflt (refine' append_L ?F ?N ?U ?z ?_; (case F => k_asm); (case N => k_asm); (case U => k_upd); (case z => walk_at "m_size"); intro hq' Fq' Nq'; (try k_sweep))))
  k_with "m_cond" => (first | decide +kernel | (simp only [beq_iff_eq, decide_eq_true_eq]; omega) | (simp only [beq_iff_eq, bne_iff_ne, ne_eq, decide_eq_true_eq]; omega))
  k_with "ite" => (first | (refine ite_pos (by walk_at "m_cond") ?_) | (refine ite_neg (by walk_at "m_cond") ?_))
  k_with "m_pick" => (first | (with_reducible exact pick_to _ _ (by omega)) | (with_reducible exact pick_from _ _ (by omega)) | exact pick_toI _ (by omega) (by omega) | exact pick_fromI _ (by omega) (by omega))
  k_with "m_len" => (first | omega | ((simp only [List.size_toArray, sizeLine_eq, List.length_append, List.length_take, List.length_drop, List.length_cons, List.length_nil, List.length_map, List.length_set]); omega))
  k_with "subscriptTail Name Slice ref ref" => (((with_reducible show wpAny _ _ (subscriptTail _ (PySem.Expr.Slice _ _ none _) (Value.ref _) (Value.ref _)) _ _ _); k_dflt (refine' slice_N ?kF ?kN ?kl ?kp ?kq ?ke ?kz ?_ ?ks ?kt; (case kF => k_asm); (case kN => k_asm); (case kl => walk_at "m_list"); (case kp => kmk_part); (case kq => kmk_part); (case ke => walk_at "m_pick"); (case ks => with_unfolding_all rfl); (case kt => kmk_pure); (case kz => walk_at "m_len")); intro Dq' hq' Fq' Nq' l1q; (try k_lt l1q); (try k_sweep)))
  k_with "binaryOp Add ref ref" => (((with_reducible show wpAny _ _ (binaryOp _ (Value.ref _) (Value.ref _)) _ _ _); k_dflt (refine' add_L ?kF ?kN ?ka ?kb ?kz ?_; (case kF => k_asm); (case kN => k_asm); (case ka => walk_at "m_list"); (case kb => walk_at "m_list"); (case kz => walk_at "m_len")); intro Dq' hq' Fq' Nq' l1q; (try k_lt l1q); (try k_sweep)))
  k_with "m_far" => (first | (with_reducible assumption) | exact List.forall_mem_nil _ | ((with_reducible refine List.forall_mem_cons.mpr ⟨?_, ?_⟩); (show @Ne Nat _ _; (try dsimp only); omega); walk_at "m_far"))
  k_with "m_pick" => (first | (with_reducible exact pick_to _ _ (by omega)) | (with_reducible exact pick_from _ _ (by omega)) | exact pick_toI _ (by omega) (by omega) | exact pick_fromI _ (by omega) (by omega) | exact pick_two _ (by omega) (by omega) (by omega))
  k_with "eval Name" => (((with_reducible show wpAny _ _ (eval (Expr.Name _ _) (envX _ _ _ _ _ _)) _ _ _); k_dflt (refine nameX_L (by k_asm) (by walk_at "m_get") ?_)))
  k_with "subscriptTail Name Name ref int" => (((with_reducible show wpAny _ _ (subscriptTail _ _ (Value.ref _) (Value.int _ _)) _ _ _); k_dflt (refine item_L (by walk_at "m_list") (by with_reducible assumption) (by omega) ?_)))
  k_with "call builtin:sum" => (((with_reducible show wpAny _ _ (call (Value.builtin "sum") [Value.ref _]) _ _ _); k_dflt (refine sum_L rfl (by k_asm) (by k_asm) (by walk_at "m_list") (by with_reducible assumption) ?_); intro hq' tkq' tq' Fq' Nq'; (try k_sweep)))
  k_with "call builtin:list.append" => ((refine stop_of ?_))
  k_with "binaryOp Mult ref int" => ((refine stop_of ?_))
  k_with "binaryOp Add str str" => ((k_dflt (refine add_S (by omega) (by omega) ?_); intro tq' tkq'))
  k_with "call type:str" => (((with_reducible show wpAny _ _ (call (Value.type "str") [Value.int _ _]) _ _ _); k_dflt (refine str_nat rfl (by omega) ?_); intro tq' tkq'))
  k_with "call type:range" => ((k_dflt (refine range1_rows (by k_asm) (by k_asm) ?_); intro hq' tkq' tq' uq' vq' Rq' Fq' Nq' kq'; (try k_sweep)))
  k_with "TEnd" => ((refine stop_of ?_))
  trivial
/-- what _law_fillings does of one shape -/
def FillC (w : World) (sh : List Nat) (res : Fl) (d : Nat) : Prop :=
  ∀ (prog : Program) (s : Shared) (g : Heap) (dp un : Nat) (gd : Option (List Code)) (frs : List Env) (R : Result → Shared → Prop) (l : Addr) (vs : List Value),
    Site w dp un gd frs g → g.StaysIn s.heap → g.IsList l vs.toArray → IntsAre vs (sh.map fun n : Nat => (n : Int)) → dp + d < 850 → un + 3 * d < 8500 →
    (∀ h' tk' D rs c, g.StaysIn h' → Owns g h' ((D, listOf (List.toArray (refsOf rs)) c) :: rowL rs) → RowsAre rs res → R (.ok (.ret (.ref D))) { s with heap := h', toks := tk' }) →
    codeAny (model prog w) (top dp un gd frs) (.call (.ref 261) ⟨[.ref l], []⟩) R s
set_option maxHeartbeats 4000000 in
theorem fill_zero {w : World} {sh : List Nat} (hz : sh.sum = 0) (hsl : sh.length ≤ 5) : FillC w sh [List.replicate sh.length []] 1 := by
  intro prog s g dp un gd frs R l vs Si K hl hi hdp hun ret
  have hvl : vs.length = sh.length := by rw [hi.length, List.length_map]
  have hs1 : SumIs vs sh.sum := ⟨_, hi, sum_cast sh⟩
  refine' enterX (cl := []) (binds := [("shape", .ref l)]) ?Si ?S ?O (K_at (Frag.In.keeps (Site.X ?Si) ?S) ?k6) ?hd (codeRec_of (Frag.In.keeps (Site.X ?Si) ?S) ?k7) ?k8 ?k9 ?kB ?_ ?c5 ?c2 ?c3 ?c4
  (case Si => assumption)
  (case S => assumption)
  (case O => first | assumption | exact Owns.nil)
  (case k6 => k_is)
  (case hd => exact rfl)
  (case k7 => k_is)
  (case k8 => first | decide | (show _ < 1000; omega))
  (case k9 => first | exact BindsTo.of_eq rfl | exact binds_peek (Frag.In.keeps (Site.X (by assumption)) (by assumption)) (fun _ => by kernel_rfl))
  (case c5 => decide)
  (case kB => exact locs rfl)
  (case c2 => exact rfl)
  (case c3 => exact rfl)
  (case c4 => exact rfl)
  k_whole
  intro g1 L1 h1 hg F1 N1 l1 Si1
  (try k_lt l1)
  (have X1 := Site.X Si1)
  obtain ⟨p1, loose1, mean1, mg1, mb1, T1⟩ := Site.T Si1
  (try dsimp only)
  (try k_fold)
  have hl3 := stays_list hg hl
  (repeat' (first | (k_unfold; (try dsimp only)) | ((try dsimp only); walk1) | walk1))
  show wpAny _ _ _ _ _ _
  rename News _ _ _ _ => kN
  k_dflt (refine' mul_L ?kF kN (.head _) ?kz ?_; (case kF => k_asm); (case kz => omega))
  intro D2 h2 F2 N2 l2
  k_lt l2
  (repeat' (first | (k_unfold; (try dsimp only)) | ((try dsimp only); walk1) | walk1))
  rename News _ _ _ _ => kN2
  rename Fr _ _ _ _ => kF2
  refine ret _ _ _ [(D2, List.replicate vs.length (.str (Str.ofString "") _), 0)] 0 (stays_of kF2 hg) ((Owns.of kN2 hg).sub (by walk_at "m_subs")) ?_
  refine RowsAre.snoc (rs := []) (rows := []) RowsAre.nil ?_
  rw [hvl, List.map_replicate]
  exact strs_replicate _ _ _
structure FillAt (rc : List Nat → Fl) (sh : List Nat) (l i : Nat) (m : Str → Option Value) (news : List (Addr × Obj)) (lf : Nat) (rs : List RowE) (c : Nat) : Prop where
  news : news = (lf, listOf (List.toArray (refsOf rs)) c) :: rowL rs
  shape : m "shape" = some (.ref l)
  fills : m "fillings" = some (.ref lf)
  off : ∀ r ∈ rs, @Ne Nat r.1 lf
  rows : RowsAre rs (fillAt rc sh i)
structure FillIn (rc : List Nat → Fl) (sh : List Nat) (l i : Nat) (ti : Tok) (D5 : Nat) (rs5 : List RowE) (c5 : Nat) (I : Nat) (io : Obj) (lf : Nat) (j : Nat) (m : Str → Option Value) (news : List (Addr × Obj)) (rs : List RowE) (c : Nat) : Prop where
  news : news = (D5, listOf (List.toArray (refsOf rs5)) c5) :: (I, io) :: (lf, listOf (List.toArray (refsOf rs)) c) :: (rowL rs5 ++ rowL rs)
  shape : m "shape" = some (.ref l)
  fills : m "fillings" = some (.ref lf)
  mKey : m "k" = some (.int (i : Int) ti)
  off : ∀ r ∈ rs, @Ne Nat r.1 lf ∧ @Ne Nat r.1 I
  rows : RowsAre rs (fillAt rc sh i ++ ((rc (nxt sh i)).take j).map (grow i sh.sum))
set_option maxHeartbeats 4000000 in
theorem fill_step {w : World} {rc : List Nat → Fl} {sh : List Nat} {d : Nat} (hz : sh.sum ≠ 0) (hsl : sh.length ≤ 5) (hsm : sh.sum ≤ 10)
    (hrec : ∀ k < sh.length, sh.getD k 0 > sh.getD (k + 1) 0 → FillC w (nxt sh k) (rc (nxt sh k)) d ∧ (rc (nxt sh k)).length ≤ 700 ∧ EachOk sh.length 1000 (rc (nxt sh k))) :
    FillC w sh (fillAt rc sh sh.length) (d + 1) := by
  intro prog s g dp un gd frs R l vs Si K hl hi hdp hun ret
  have hvl : vs.length = sh.length := by rw [hi.length, List.length_map]
  have hs1 : SumIs vs sh.sum := ⟨_, hi, sum_cast sh⟩
  refine' enterX (cl := []) (binds := [("shape", .ref l)]) ?Si ?S ?O (K_at (Frag.In.keeps (Site.X ?Si) ?S) ?k6) ?hd (codeRec_of (Frag.In.keeps (Site.X ?Si) ?S) ?k7) ?k8 ?k9 ?kB ?_ ?c5 ?c2 ?c3 ?c4
  (case Si => assumption)
  (case S => assumption)
  (case O => first | assumption | exact Owns.nil)
  (case k6 => k_is)
  (case hd => exact rfl)
  (case k7 => k_is)
  (case k8 => first | decide | (show _ < 1000; omega))
  (case k9 => first | exact BindsTo.of_eq rfl | exact binds_peek (Frag.In.keeps (Site.X (by assumption)) (by assumption)) (fun _ => by kernel_rfl))
  (case c5 => decide)
  (case kB => exact locs rfl)
  (case c2 => exact rfl)
  (case c3 => exact rfl)
  (case c4 => exact rfl)
  k_whole
  intro g1 L1 h1 hg F1 N1 l1 Si1
  (try k_lt l1)
  (have X1 := Site.X Si1)
  obtain ⟨p1, loose1, mean1, mg1, mb1, T1⟩ := Site.T Si1
  (try dsimp only)
  (try k_fold)
  have hl3 := stays_list hg hl
  (repeat' (first | (k_unfold; (try dsimp only)) | ((try dsimp only); walk1) | walk1))
  show wpAny _ _ _ _ _ _
  rename IsRange _ _ _ _ _ _ _ _ => kR
  rename News _ _ _ _ => kN
  rename Fr _ _ _ _ => kF
  refine range_J (fun i m news => ∃ lf rs c, FillAt rc sh l i m news lf rs c) rfl kR (n := vs.length) rfl (by omega) kF kN ?start ?turn ?done
  case start => exact ⟨_, [], 0, rfl, by walk_at "m_get", by walk_at "m_get", (fun r hr => nomatch hr), .nil⟩
  case turn =>
    clear kR kN kF
    rintro i t m₁ news₁ I io h3 tk3 hin hI ⟨lf, rs, c, A⟩ off F3 N3
    have mShape := A.shape
    have mFills := A.fills
    have hoff := A.off
    have hrows := A.rows
    obtain rfl := A.news
    clear A
    replace F3 : Fr g1 L1 h3 _ := F3
    replace N3 : News g1 L1 h3 _ := N3
    have oI1 : @Ne Nat lf I := off _ (.head _)
    have oI2 : ∀ r ∈ rs, @Ne Nat r.1 I := fun r hr => off (r.1, listOf (List.toArray r.2.1) r.2.2) (.tail _ (List.mem_map.mpr ⟨r, hr, rfl⟩))
    have his : i < sh.length := by omega
    obtain ⟨ta, hxa⟩ := nats_get hi his
    have hs2 := sum_next hi i
    by_cases hd : sh.getD i 0 > sh.getD (i + 1) 0
    · obtain ⟨hc1, hc2, hc3⟩ := hrec i his hd
      (repeat' (first | (k_unfold; (try dsimp only)) | ((try dsimp only); walk1) | walk1))
      show wpAny _ _ _ _ _ _
      rename News _ _ _ _ => kN
      rename Fr _ _ _ _ => kF
      refine call_at (own := []) (rest := (I, io) :: (lf, listOf (List.toArray (refsOf rs)) c) :: rowL rs) Si1 kF kN (fun p hp => nomatch hp) (fun p hp => .tail _ (.tail _ (.tail _ (.tail _ (.tail _ (.tail _ hp)))))) (fun p hp q hq => nomatch hq) rfl rfl ?_
      intro g4 S4 K4 O4 G4 P4 back
      refine hc1 _ _ _ _ _ _ _ _ _ _ S4 K4 ⟨_, P4 _ _ (kN _ (.head _)).1 (fun q hq => nomatch hq), rfl, _, rfl⟩ (nxt_ints hi hd) (by omega) (by omega) ?_
      intro h5 tk5 D5 rs5 c5 k5 o5 hr5
      obtain ⟨F5, N5, E5⟩ := back _ _ k5 o5
      have oI5 : @Ne Nat D5 I := E5 _ (.head _) (I, io) (.head _)
      have oL5 : @Ne Nat D5 lf := E5 _ (.head _) (lf, _) (.tail _ (.head _))
      have r5I : ∀ r ∈ rs5, @Ne Nat r.1 I := fun r hr => E5 _ (.tail _ (List.mem_map.mpr ⟨r, hr, rfl⟩)) (I, io) (.head _)
      have r5L : ∀ r ∈ rs5, @Ne Nat r.1 lf := fun r hr => E5 _ (.tail _ (List.mem_map.mpr ⟨r, hr, rfl⟩)) (lf, _) (.tail _ (.head _))
      have N6 : News g1 L1 h5 ((D5, listOf (List.toArray (refsOf rs5)) c5) :: (I, io) :: (lf, listOf (List.toArray (refsOf rs)) c) :: (rowL rs5 ++ rowL rs)) := fun p hp => N5 p (by
        rcases List.mem_cons.mp hp with rfl | hp
        · exact .head _
        rcases List.mem_cons.mp hp with rfl | hp
        · exact List.mem_append_right _ (.head _)
        rcases List.mem_cons.mp hp with rfl | hp
        · exact List.mem_append_right _ (.tail _ (.head _))
        rcases List.mem_append.mp hp with hp | hp
        · exact List.mem_append_left _ (.tail _ hp)
        · exact List.mem_append_right _ (.tail _ (.tail _ hp)))
      have hl5 : (refsOf rs5).length = (rc (nxt sh i)).length := by unfold refsOf; rw [List.length_map, hr5.len]
      have hrl : rs.length ≤ i * 700 := by rw [hrows.len]; exact fillAt_len (fun k hk hd => (hrec k hk hd).2.1) i (by omega)
      clear kN kF N5
      (repeat' (first | (k_unfold; (try dsimp only)) | ((try dsimp only); walk1) | walk1))
      show wpAny _ _ _ _ _ _
      rename News _ _ _ _ => kN
      rename Fr _ _ _ _ => kF
      refine list_J (fun j m news => ∃ rs' c', FillIn rc sh l i t D5 rs5 c5 I io lf j m news rs' c') rfl kF kN (.head _) rfl rfl ?start2 (fun j m n ⟨rs', c', A⟩ => A.news ▸ .head _) ?turn2 ?done2
      case start2 => exact ⟨rs, c, rfl, by walk_at "m_get", by walk_at "m_get", by walk_at "m_get", fun r hr => ⟨hoff r hr, oI2 r hr⟩, by rw [List.take_zero, List.map_nil, List.append_nil]; exact hrows⟩
      case turn2 =>
        clear kN kF
        rintro j v m₂ news₂ I2 io2 h6 tk6 hv hI2 ⟨rs', c', A⟩ off2 F6 N6
        obtain ⟨⟨ra1, row1, rn1⟩, hrj, rfl⟩ := refs_get hv
        have mShape := A.shape
        have mFills := A.fills
        have mKey := A.mKey
        have hoff' := A.off
        have hrows' := A.rows
        obtain rfl := A.news
        clear A
        replace F6 : Fr g1 L1 h6 _ := F6
        replace N6 : News g1 L1 h6 _ := N6
        have hj : j < (rc (nxt sh i)).length := by
          rw [← hl5]
          rcases Nat.lt_or_ge j (refsOf rs5).length with h | h
          · exact h
          · rw [List.getElem?_eq_none h] at hv; cases hv
        have hrow1 := hr5.row j _ hrj
        dsimp only at hrow1
        obtain ⟨hlen, heach⟩ := hc3 _ (getD_mem (d := []) hj)
        have hrl1 : row1.length = sh.length := by rw [strsAre_length hrow1, List.length_map, hlen]
        obtain ⟨tp, hxp⟩ := StrsAre.get hrow1 i (by rw [List.length_map, hlen]; exact his)
        rw [getD_mapS] at hxp
        have hxl := heach _ (getD_mem (d := []) (show i < ((rc (nxt sh i)).getD j []).length by omega))
        have hdg := digs_le (n := sh.sum) (by omega)
        have hmem := row_mem hrj
        dsimp only at hmem
        have p1 : @Ne Nat D5 I2 := off2 _ (.head _)
        have p2 : @Ne Nat I I2 := off2 _ (.tail _ (.head _))
        have p3 : @Ne Nat lf I2 := off2 _ (.tail _ (.tail _ (.head _)))
        have p4 : @Ne Nat ra1 lf := r5L _ (List.mem_of_getElem? hrj)
        have hfar : ∀ p ∈ rowL rs5 ++ rowL rs', @Ne Nat p.1 lf := fun p hp => by
          rcases List.mem_append.mp hp with hp | hp
          · obtain ⟨r, hr, rfl⟩ := List.mem_map.mp hp; exact r5L r hr
          · obtain ⟨r, hr, rfl⟩ := List.mem_map.mp hp; exact (hoff' r hr).1
        have hrl' : (refsOf rs').length ≤ 5000 := by
          unfold refsOf
          rw [List.length_map, hrows'.len, List.length_append, List.length_map, List.length_take, ← hrows.len]
          have : i * 700 ≤ 2800 := by omega
          omega
        have N7 : News g1 L1 h6 ((ra1, listOf (List.toArray row1) rn1) :: (I2, io2) :: (D5, listOf (List.toArray (refsOf rs5)) c5) :: (I, io) :: (lf, listOf (List.toArray (refsOf rs')) c') :: (rowL rs5 ++ rowL rs')) := fun p hp => N6 p (by
          rcases List.mem_cons.mp hp with rfl | hp
          · exact .tail _ (.tail _ (.tail _ (.tail _ (List.mem_append_left _ hmem))))
          · exact hp)
        clear N6
        (repeat' (first | (k_unfold; (try dsimp only)) | ((try dsimp only); walk1) | walk1))
        show wpAny _ _ _ _ _ _
        rename News _ _ _ _ => kN
        refine fill_push (by with_reducible assumption) (N := fun p hp => kN p (by
          rcases List.mem_cons.mp hp with h | hp
          · exact h ▸ .head _
          · exact .tail _ (.tail _ (.tail _ (.tail _ (.tail _ (.tail _ hp))))))) (by omega) (by omega) (by omega) p3.symm oL5 oI1.symm hfar
          (fun r hr => ⟨(hoff' r hr).1, (hoff' r hr).2, off2 (r.1, listOf (List.toArray r.2.1) r.2.2) (.tail _ (.tail _ (.tail _ (List.mem_append_right _ (List.mem_map.mpr ⟨r, hr, rfl⟩)))))⟩) hrl' ?_
        intro h8 F8 N8 hoff8
        clear kN
        (repeat' (first | (k_unfold; (try dsimp only)) | ((try dsimp only); walk1) | walk1))
        show TEnd g1 L1 _ _ _ _ _ _ _
        rename News _ _ _ _ => kN
        refine TEnd.next (by with_reducible assumption) kN _ (.head _) (fun p hp => .tail _ hp) (fun p hp => ?off8) ⟨_, _, rfl, by walk_at "m_get", by walk_at "m_get", by walk_at "m_get", fun r hr => ⟨(hoff8 r hr).1, (hoff8 r hr).2.1⟩, ?_⟩
        case off8 =>
          rcases List.mem_cons.mp hp with rfl | hp
          · exact p1
          rcases List.mem_cons.mp hp with rfl | hp
          · exact p2
          rcases List.mem_cons.mp hp with rfl | hp
          · exact p3
          rcases List.mem_append.mp hp with hp | hp
          · exact off2 p (.tail _ (.tail _ (.tail _ (List.mem_append_left _ hp))))
          · obtain ⟨r, hr, rfl⟩ := List.mem_map.mp hp
            exact (hoff8 r hr).2.2
        have ej : ((rc (nxt sh i)).take (j + 1)).map (grow i sh.sum) = ((rc (nxt sh i)).take j).map (grow i sh.sum) ++ [grow i sh.sum ((rc (nxt sh i)).getD j [])] := by
          rw [List.take_add_one, List.getElem?_eq_getElem hj, List.map_append, List.getD_eq_getElem?_getD, List.getElem?_eq_getElem hj]; rfl
        rw [ej, ← List.append_assoc]
        refine RowsAre.snoc hrows' ?_
        rw [show ((i : Int) + 1).toNat = i + 1 by omega]
        simp only [grow, List.map_append, List.map_take, List.map_drop, List.map_cons, List.map_nil]
        exact StrsAre.append (StrsAre.append (StrsAre.take hrow1 _) (StrsAre.one _ _)) (StrsAre.drop hrow1 _)
      case done2 =>
        clear kN kF
        rintro m₂ news₂ h6 tk6 ⟨rs', c', A⟩ F6 N6
        have hrows' := A.rows
        obtain rfl := A.news
        replace F6 : Fr g1 L1 h6 _ := F6
        replace N6 : News g1 L1 h6 _ := N6
        (repeat' (first | (k_unfold; (try dsimp only)) | ((try dsimp only); walk1) | walk1))
        show TEnd g1 L1 _ _ _ _ _ _ _
        rename News _ _ _ _ => kN
        refine TEnd.next (by with_reducible assumption) kN ((lf, listOf (List.toArray (refsOf rs')) c') :: rowL rs') (by k_mem) (fun p hp => ?_) (fun p hp => ?_) ⟨lf, rs', c', rfl, A.shape, A.fills, fun r hr => (A.off r hr).1, ?_⟩
        · rcases List.mem_cons.mp hp with rfl | hp
          · exact .tail _ (.tail _ (.head _))
          · exact .tail _ (.tail _ (.tail _ (List.mem_append_right _ hp)))
        · rcases List.mem_cons.mp hp with rfl | hp
          · exact oI1
          · obtain ⟨r, hr, rfl⟩ := List.mem_map.mp hp
            exact (A.off r hr).2
        · rw [hl5, List.take_length] at hrows'
          rw [fillAt, if_pos hd]; exact hrows'
    · (repeat' (first | (k_unfold; (try dsimp only)) | ((try dsimp only); walk1) | walk1))
      show TEnd g1 L1 _ _ _ _ _ _ _
      rename News _ _ _ _ => kN
      refine TEnd.next (by with_reducible assumption) kN ((lf, listOf (List.toArray (refsOf rs)) c) :: rowL rs) (by k_mem) (fun p hp => .tail _ (.tail _ hp)) off ⟨lf, rs, c, rfl, by walk_at "m_get", by walk_at "m_get", hoff, ?_⟩
      rw [fillAt, if_neg hd, List.append_nil]; exact hrows
  case done =>
    clear kR kN kF
    rintro m₁ news₁ h3 tk3 ⟨lf, rs, c, A⟩ F3 N3
    have mFills := A.fills
    have hrows := A.rows
    obtain rfl := A.news
    replace F3 : Fr g1 L1 h3 m₁ := F3
    replace N3 : News g1 L1 h3 _ := N3
    (repeat' (first | (k_unfold; (try dsimp only)) | ((try dsimp only); walk1) | walk1))
    rename News _ _ _ _ => kN
    rename Fr _ _ _ _ => kF
    refine ret _ _ _ rs c (stays_of kF hg) (Owns.of kN hg) ?_
    rw [hvl] at hrows; exact hrows
/-- _law_fillings, for small shapes -/
theorem fill_walk {w : World} : ∀ (n : Nat) (sh : List Nat), sh.sum = n → sh.length ≤ 5 → n ≤ 5 → FillC w sh (fillOf n sh) (n + 1)
  | 0, sh, hs, hl, _ => fill_zero hs hl
  | n + 1, sh, hs, hl, hn => by
    have hp : 5 ^ n ≤ 700 := Nat.le_trans (Nat.pow_le_pow_right (by decide) (show n ≤ 4 by omega)) (by decide)
    refine fill_step (w := w) (rc := fillOf n) (d := n + 1) (by omega) hl (by omega) fun k hk hd => ?_
    have e := nxt_sum hk hd
    refine ⟨fill_walk n _ (by omega) (by rw [nxt_len hk]; exact hl) (by omega), Nat.le_trans (fillOf_len n _ (by rw [nxt_len hk]; exact hl)) hp, ?_⟩
    have h := fillOf_each n (nxt sh k) (by omega) (by omega)
    rw [nxt_len hk] at h
    exact fun rows hr => ⟨(h rows hr).1, fun x hx => by have := (h rows hr).2 x hx; omega⟩
end Mine
end
section
open PySem PySem.W PyProof.Rows PySem.Calls PySem.Spec
set_option maxRecDepth 100000
namespace Mine
theorem slot_re_search : Slot "re.Pattern" "search" "re.Pattern.search" :=
  .of (owner := "re.Pattern") (n := "search") (by rw [typeLookup_type, builtinLookup_eq_fast]; kernel_rfl) (by decide +kernel) (by decide +kernel) (by decide +kernel)
    (by first | exact .inl (by decide +kernel) | exact .inr (by decide +kernel)) (by rw [isSubtype_type]; kernel_rfl)
theorem type_re_search : typeOf (.builtin "re.Pattern.search") = pure (.type "method_descriptor") := by show builtinType _ = _; rw [builtinType_eq_fast]; kernel_rfl
theorem entry_re_search : entryFor table "re.Pattern.search" = some Builtin.«re.Pattern.search» := entryFor_of_fast (by kernel_rfl)
theorem plainAttrs_re : PlainAttrs "re.Pattern" :=
  ⟨⟨"object.__getattribute__", by rw [typeLookup_type, builtinLookup_eq_fast]; kernel_rfl, by decide +kernel⟩, by rw [typeLookup_type, builtinLookup_eq_fast]; kernel_rfl⟩
theorem args_re_search (a b : Value) : argsOk "re.Pattern.search" ⟨[a, b], []⟩ := by unfold argsOk; kernel_rfl

/-- signs that no header may refuse -/
def Plain (x : T) : Prop := ∀ c ∈ x, 32 ≤ c ∧ c < 127
def codeN : Array Nat := #[14, 10, 4, 1, 1, 22, 0, 31, 16, 127, 0, 13, 7, 22, 0, 31, 16, 127, 0, 1]
theorem admitted_none {m : Sre.M} {seen : Sre.Seen} (h : ∀ i < m.lim, ∀ seen, ∃ seen', Sre.inSet m.code (m.text.getD i 0) m.code.size 5 true seen = .ok (false, seen')) : ∀ (fuel s : Nat) (seen : Sre.Seen), ∃ seen', m.admitted fuel s seen = .ok (none, seen')
  | 0, s, seen => ⟨seen, rfl⟩
  | fuel + 1, s, seen => by
    unfold Sre.M.admitted
    by_cases hs : s ≥ m.lim
    · rw [if_pos hs]; exact ⟨seen, rfl⟩
    · rw [if_neg hs]
      obtain ⟨seen', e⟩ := h s (by omega) seen
      rw [e]
      exact admitted_none (seen := seen) h fuel (s + 1) seen'
section
variable {code : Array Nat} {c fuel i : Nat} {yes : Bool} {seen : Sre.Seen}
theorem inSet_range (hop : Sre.ops[code.getD i 0]? = some .RANGE) (h : ¬ (code.getD (i + 1) 0 ≤ c ∧ c ≤ code.getD (i + 2) 0)) : Sre.inSet code c (fuel + 1) i yes seen = Sre.inSet code c fuel (i + 3) yes (seen.add (code.getD i 0)) := by
  rw [Sre.inSet]
  simp only [Nat.add_zero, hop]
  rw [if_neg (by simpa using h)]
theorem inSet_lit (hop : Sre.ops[code.getD i 0]? = some .LITERAL) (h : ¬ c = code.getD (i + 1) 0) : Sre.inSet code c (fuel + 1) i yes seen = Sre.inSet code c fuel (i + 2) yes (seen.add (code.getD i 0)) := by
  rw [Sre.inSet]
  simp only [Nat.add_zero, hop]
  rw [if_neg (by simpa using h)]
theorem inSet_fail (hop : Sre.ops[code.getD i 0]? = some .FAILURE) : Sre.inSet code c (fuel + 1) i yes seen = .ok (!yes, seen.add (code.getD i 0)) := by
  rw [Sre.inSet]
  simp only [Nat.add_zero, hop]
theorem inSet_chars (hop : Sre.ops[code.getD i 0]? = some .CHARSET) (h : (code.getD (i + (1 + c / 32)) 0).testBit (c % 32) = false) : Sre.inSet code c (fuel + 1) i yes seen = Sre.inSet code c fuel (i + 9) yes (seen.add (code.getD i 0)) := by
  rw [Sre.inSet]
  simp only [Nat.add_zero, hop]
  rw [if_neg (by rw [h]; simp)]
end
theorem nameSet (c : Nat) (h : 32 ≤ c ∧ c < 127) (seen : Sre.Seen) : ∃ seen', Sre.inSet codeN c codeN.size 5 true seen = .ok (false, seen') :=
  ⟨_, (inSet_range (code := codeN) (fuel := 19) (i := 5) rfl (by rw [show codeN.getD (5 + 1) 0 = 0 from rfl, show codeN.getD (5 + 2) 0 = 31 from rfl]; omega)).trans
    ((inSet_lit (code := codeN) (fuel := 18) (i := 8) rfl (by rw [show codeN.getD (8 + 1) 0 = 127 from rfl]; omega)).trans (inSet_fail (code := codeN) (fuel := 17) (i := 10) rfl))⟩
def codeV : Array Nat := #[14, 14, 4, 1, 1, 9, 4294966783, 0, 0, 2147483648, 0, 0, 0, 0, 0, 13, 11, 9, 4294966783, 0, 0, 2147483648, 0, 0, 0, 0, 0, 1]
theorem valBits : ∀ c < 127, 32 ≤ c → (codeV.getD (5 + (1 + c / 32)) 0).testBit (c % 32) = false := by decide +kernel
theorem valSet (c : Nat) (h : 32 ≤ c ∧ c < 127) (seen : Sre.Seen) : ∃ seen', Sre.inSet codeV c codeV.size 5 true seen = .ok (false, seen') :=
  ⟨_, (inSet_chars (code := codeV) (fuel := 27) (i := 5) rfl (valBits c h.2 h.1)).trans (inSet_fail (code := codeV) (fuel := 26) (i := 14) rfl)⟩
/-- the machine stands still at once -/
theorem search_fails {code : Array Nat} {x : T} (h4 : code.getD 2 0 = 4) (h0 : Sre.ops[code.getD 0 0]? = some .INFO) (hset : ∀ c, 32 ≤ c ∧ c < 127 → ∀ seen, ∃ seen', Sre.inSet code c code.size 5 true seen = .ok (false, seen')) (hx : Plain x) :
    ∃ m : Sre.M, Sre.forSearch code (S x).cps 0 0 (S x).cps.size false = m ∧ m.answer = some false ∧ m.frames = [] ∧ m.outcome = none := by
  refine ⟨_, rfl, ?_⟩
  unfold Sre.forSearch
  dsimp only
  split
  · exact ⟨rfl, rfl, rfl⟩
  · have key : ∀ m : Sre.M, m.code = code → m.text = (S x).cps → m.lim = (S x).cps.size → m.frames = [] → m.outcome = none → (m.attemptFrom 0 true).answer = some false ∧ (m.attemptFrom 0 true).frames = [] ∧ (m.attemptFrom 0 true).outcome = none := by
      intro m e1 e2 e3 e4 e5
      unfold Sre.M.attemptFrom
      have hf : m.hasFirstSet = true := by
        unfold Sre.M.hasFirstSet
        rw [e1, h0, h4]; rfl
      obtain ⟨seen', e⟩ := admitted_none (m := m) (seen := m.seen) (fun i hi seen => by
        rw [e1, e2]
        refine hset _ ?_ seen
        rw [e3] at hi
        have : (S x).cps.getD i 0 ∈ x := by
          have hi' : i < x.length := hi
          show (List.toArray x).getD i 0 ∈ x
          rw [show (List.toArray x).getD i 0 = x[i] by simp [Array.getD, hi']]
          exact List.getElem_mem hi'
        exact hx _ this) (m.lim + 1 - 0) 0 m.seen
      rw [hf, e]
      exact ⟨rfl, e4, e5⟩
    exact key _ rfl rfl rfl rfl rfl
theorem runs_out {m : Sre.M} (h1 : m.answer = some false) (h2 : m.frames = []) (h3 : m.outcome = none) : ∃ m', m.runFor 4 = m' ∧ m'.outcome = some .failed := by
  have e1 : m.step = { m with outcome := some .failed } := by
    unfold Sre.M.step
    rw [h1, h2, h3]; rfl
  refine ⟨_, rfl, ?_⟩
  show (if m.outcome.isSome then m else m.step.runFor 3).outcome = _
  rw [h3, e1]; rfl
section
variable {prog : Program} {w : World} {A : Around} {E : Value → Shared → Prop} {s : Shared}
theorem run_none {m : Sre.M} {Q : Option Sre.M → Shared → Prop} (h1 : m.answer = some false) (h2 : m.frames = []) (h3 : m.outcome = none) (h : Q none s) : wpAny (model prog w) A (Builtin.Re.reRunToEnd m) Q E s := by
  obtain ⟨m', e, ho⟩ := runs_out h1 h2 h3
  unfold Builtin.Re.reRunToEnd
  refine wpAny_bind ?_
  have ed : Builtin.Re.reDrive (2 ^ 64) m = pure m' := by
    show Builtin.Re.reDrive (18446744073709551615 + 1) m = _
    unfold Builtin.Re.reDrive
    rw [show Builtin.Re.reTurnSteps = 4 from rfl, e]
    dsimp only
    rw [ho]; rfl
  rw [ed]
  refine wpAny_pure ?_
  refine wpAny_bind (wpAny_forIn_list _ (fun _ _ s' => s' = s) _ (fun i rest b s' e => ?_) (fun b s' e => ?_) _ _ rfl)
  · subst e
    split
    · exact wpAny_bind (wpAny_rule (wpAny_pure rfl))
    · exact wpAny_pure rfl
  · subst e
    rw [ho]
    exact wpAny_pure h
theorem re_search {p c : Addr} {code : List Value} {items : Array Nat} {f0 f1 : Value} {x : T} {t : Tok} {Q : Value → Shared → Prop} {o oc : Obj} {k : Nat}
    (hp : s.heap.get? p = some o) (hcls : o.cls = .type "re.Pattern") (hd : o.data = .fields #[f0, f1, .int 0 0, .none, .none, .ref c, .int 0 0]) (hc : s.heap.get? c = some oc) (hcd : oc.data = .seq code.toArray k)
    (hcode : (code.toArray.map Builtin.Re.reRawOf).map (·.toNat) = items) (h4 : items.getD 2 0 = 4) (h0 : Sre.ops[items.getD 0 0]? = some .INFO) (hset : ∀ c, 32 ≤ c ∧ c < 127 → ∀ seen, ∃ seen', Sre.inSet items c items.size 5 true seen = .ok (false, seen'))
    (hx : Plain x) (hsz : x.length ≤ 100000) (h : Q .none s) : wpAny (model prog w) A (call (.builtin "re.Pattern.search") [.ref p, .str (S x) t]) Q E s := by
  have hT : s.TypeIs (.ref p) "re.Pattern" := ⟨o, hp, hcls⟩
  refine wpAny_call_entry slot_re_search hT entry_re_search ?_ (args_re_search _ _)
  unfold Builtin.«re.Pattern.search»
  refine wpAny_bind (m := Builtin.Re.reTarget _ _ _) ?_
  unfold Builtin.Re.reTarget
  dsimp only
  refine wpAny_bind (wpAny_of_eq (a := [some (.str (S x) t), none, none]) (by first | rfl | kernel_rfl!) ?_)
  dsimp only
  refine wpAny_bind (wpAny_pure ?_)
  refine wpAny_bind (wpAny_pure ?_)
  refine wpAny_bind (wpAny_fieldsOf hp hd ?_)
  refine wpAny_bind (wpAny_of_eq (a := ((S x).cps, 0)) rfl ?_)
  dsimp only
  have e1 : (Builtin.Re.reRawNat ((#[f0, f1, Value.int 0 0, Value.none, Value.none, Value.ref c, Value.int 0 0] : Array Value).getD 6 Value.none) == 0 && (0 : Nat) == 1) = false := rfl
  have e2 : (Builtin.Re.reRawNat ((#[f0, f1, Value.int 0 0, Value.none, Value.none, Value.ref c, Value.int 0 0] : Array Value).getD 6 Value.none) == 1 && (0 : Nat) == 0) = false := rfl
  rw [e1, if_neg Bool.false_ne_true, e2, if_neg Bool.false_ne_true]
  refine wpAny_bind (m := Builtin.Re.reNoCollectionInside _ _) ?_
  unfold Builtin.Re.reNoCollectionInside
  rw [if_neg (show ¬ (((0 : Nat) == 1) = true) from Bool.false_ne_true)]
  refine wpAny_pure ?_
  refine wpAny_bind (m := Builtin.Re.reRawItems _) ?_
  unfold Builtin.Re.reRawItems
  refine wpAny_bind (wpAny_seqItems (a := c) hc hcd ?_)
  refine wpAny_pure ?_
  refine wpAny_pure ?_
  dsimp only [Option.getD_some]
  rw [hcode]
  have hsz' : min ((2 ^ 63 - 1 : Int)).toNat (S x).cps.size = (S x).cps.size := by
    have : (S x).cps.size = x.length := by simp [S]
    rw [this]; omega
  obtain ⟨m, em, a1, a2, a3⟩ := search_fails h4 h0 hset hx
  unfold Builtin.Re.reAnswer
  dsimp only
  rw [hsz', show min (Int.toNat 0) (S x).cps.size = 0 from Nat.zero_min _, show Builtin.Re.reRawNat ((#[f0, f1, Value.int 0 0, Value.none, Value.none, Value.ref c, Value.int 0 0] : Array Value).getD 2 Value.none) = 0 from rfl, em]
  exact wpAny_bind (run_none a1 a2 a3 (wpAny_pure ⟨_, rfl, h⟩))
theorem search_name {x : T} {t : Tok} {Q : Value → Shared → Prop} {K : Frag} (X : K.In s.heap) (hx : Plain x) (hsz : x.length ≤ 100000) {f0 f1 : Value}
    (h99 : K.lookup 99 = some { cls := .type "re.Pattern", data := .fields #[f0, f1, .int 0 0, .none, .none, .ref 98, .int 0 0] })
    (h98 : K.lookup 98 = some { cls := .type "tuple", data := .seq #[.int 14 0, .int 10 0, .int 4 0, .int 1 0, .int 1 0, .int 22 0, .int 0 0, .int 31 0, .int 16 0, .int 127 0, .int 0 0, .int 13 0, .int 7 0, .int 22 0, .int 0 0, .int 31 0, .int 16 0, .int 127 0, .int 0 0, .int 1 0] })
    (h : Q .none s) : wpAny (model prog w) A (call (.builtin "re.Pattern.search") [.ref 99, .str (S x) t]) Q E s :=
  re_search (code := [.int 14 0, .int 10 0, .int 4 0, .int 1 0, .int 1 0, .int 22 0, .int 0 0, .int 31 0, .int 16 0, .int 127 0, .int 0 0, .int 13 0, .int 7 0, .int 22 0, .int 0 0, .int 31 0, .int 16 0, .int 127 0, .int 0 0, .int 1 0]) (items := codeN)
    (X _ _ h99) rfl rfl (X _ _ h98) rfl (by decide +kernel) rfl rfl nameSet hx hsz h
theorem search_val {x : T} {t : Tok} {Q : Value → Shared → Prop} {K : Frag} (X : K.In s.heap) (hx : Plain x) (hsz : x.length ≤ 100000) {f0 f1 : Value}
    (h104 : K.lookup 104 = some { cls := .type "re.Pattern", data := .fields #[f0, f1, .int 0 0, .none, .none, .ref 103, .int 0 0] })
    (h103 : K.lookup 103 = some { cls := .type "tuple", data := .seq #[.int 14 0, .int 14 0, .int 4 0, .int 1 0, .int 1 0, .int 9 0, .int 4294966783 0, .int 0 0, .int 0 0, .int 2147483648 0, .int 0 0, .int 0 0, .int 0 0, .int 0 0, .int 0 0, .int 13 0, .int 11 0, .int 9 0, .int 4294966783 0, .int 0 0, .int 0 0, .int 2147483648 0, .int 0 0, .int 0 0, .int 0 0, .int 0 0, .int 0 0, .int 1 0] })
    (h : Q .none s) : wpAny (model prog w) A (call (.builtin "re.Pattern.search") [.ref 104, .str (S x) t]) Q E s :=
  re_search (code := [.int 14 0, .int 14 0, .int 4 0, .int 1 0, .int 1 0, .int 9 0, .int 4294966783 0, .int 0 0, .int 0 0, .int 2147483648 0, .int 0 0, .int 0 0, .int 0 0, .int 0 0, .int 0 0, .int 13 0, .int 11 0, .int 9 0, .int 4294966783 0, .int 0 0, .int 0 0, .int 2147483648 0, .int 0 0, .int 0 0, .int 0 0, .int 0 0, .int 0 0, .int 1 0]) (items := codeV)
    (X _ _ h104) rfl rfl (X _ _ h103) rfl (by decide +kernel) rfl rfl valSet hx hsz h
end
end Mine
end
section
open PySem PySem.W PyProof.Rows PySem.Calls PySem.Spec
set_option maxRecDepth 100000
namespace Mine
def digitAt (num : Int) (i : Nat) : Nat := ((num.fdiv ((5 ^ i : Nat) : Int)).fmod 5).toNat
def swapS (o : List Int) (k : Nat) : List Int := (o.set k (o.getD (k + 1) 0)).set (k + 1) (o.getD k 0)
def stepO (o : List Int) (k : Nat) : List Int := if k < 4 ∧ o.getD k 0 < o.getD (k + 1) 0 then swapS o k else o
def orderAt (num : Int) : Nat → List Int
  | 0 => [0, 1, 2, 3, 4]
  | i + 1 => stepO (orderAt num i) (digitAt num i)
theorem stepO_len {o : List Int} {k : Nat} (h : o.length = 5) : (stepO o k).length = 5 := by
  unfold stepO swapS; split
  · simp only [List.length_set, h]
  · exact h
theorem orderAt_len (num : Int) : ∀ i, (orderAt num i).length = 5
  | 0 => rfl
  | i + 1 => stepO_len (orderAt_len num i)
theorem digitAt_lt (num : Int) (i : Nat) : digitAt num i < 5 := by
  have h1 := Int.fmod_nonneg_of_pos (num.fdiv ((5 ^ i : Nat) : Int)) (b := 5) (by decide)
  have h2 := Int.fmod_lt_of_pos (num.fdiv ((5 ^ i : Nat) : Int)) (b := 5) (by decide)
  unfold digitAt; omega
/-- the orders that i changes can make -/
def ins (x : List Int) (l : List (List Int)) : List (List Int) := if x ∈ l then l else x :: l
def dd : List (List Int) → List (List Int)
  | [] => []
  | x :: l => ins x (dd l)
def ordL : Nat → List (List Int)
  | 0 => [[0, 1, 2, 3, 4]]
  | i + 1 => dd ((ordL i).flatMap fun o => (List.range 5).map (stepO o))
theorem mem_ins {x y : List Int} {l : List (List Int)} (h : x = y ∨ x ∈ l) : x ∈ ins y l := by
  unfold ins
  split
  · rcases h with rfl | h <;> assumption
  · rcases h with rfl | h
    · exact .head _
    · exact .tail _ h
theorem mem_dd {x : List Int} : ∀ {l : List (List Int)}, x ∈ l → x ∈ dd l
  | y :: l, h => mem_ins (by
    rcases List.mem_cons.mp h with h | h
    · exact .inl h
    · exact .inr (mem_dd h))
theorem orderAt_mem (num : Int) : ∀ i, orderAt num i ∈ ordL i
  | 0 => .head _
  | i + 1 => mem_dd (List.mem_flatMap.mpr ⟨_, orderAt_mem num i, List.mem_map.mpr ⟨digitAt num i, List.mem_range.mpr (digitAt_lt num i), rfl⟩⟩)
theorem fuels : (ordL 5).all (fuelOk 5) = true := by decide +kernel
theorem fuel_all (num : Int) : fuelOk 5 (orderAt num 5) = true := List.all_eq_true.mp fuels _ (orderAt_mem num 5)
theorem IntsAre.set {a : List Value} {x : List Int} (h : IntsAre a x) (i : Nat) (y : Int) (t : Tok) : IntsAre (a.set i (.int y t)) (x.set i y) := by
  induction h generalizing i with
  | nil => exact .nil
  | cons s t' h ih => cases i with
    | zero => exact .cons _ _ h
    | succ i => exact .cons _ _ (ih i)
section
variable {prog : Program} {w : World} {A : Around} {E : Value → Shared → Prop} {s : Shared}
theorem pow5 {i : Nat} {t u : Tok} {Q : Value → Shared → Prop} (hi : i < 5) (h : ∀ t' tk, Q (.int ((5 ^ i : Nat) : Int) t') { s with toks := tk }) : wpAny (model prog w) A (binaryOp .Pow (.int 5 t) (.int (i : Int) u)) Q E s := by
  refine pow_int_small (by omega) (by omega) (by decide) ?_
  have e : (5 : Int) ^ ((i : Int).toNat) = ((5 ^ i : Nat) : Int) := by rw [Int.toNat_natCast]; simp
  rw [e]; exact h _ _
theorem div5 {num : Int} {i : Nat} {t u : Tok} {Q : Value → Shared → Prop} (hi : i < 5) (h : ∀ t' tk, Q (.int (num.fdiv ((5 ^ i : Nat) : Int)) t') { s with toks := tk }) : wpAny (model prog w) A (binaryOp .FloorDiv (.int num t) (.int ((5 ^ i : Nat) : Int) u)) Q E s := by
  have hp : 5 ^ i ≤ 5 ^ 4 := Nat.pow_le_pow_right (by decide) (by omega)
  have hp0 : 0 < 5 ^ i := Nat.pow_pos (by decide)
  exact floordiv_int (by omega) (h _ _) (Or.inl (PyProof.noPylong_small (by omega)))
theorem mod5 {num : Int} {i : Nat} {t u : Tok} {Q : Value → Shared → Prop} (h : ∀ t' tk, Q (.int ((digitAt num i : Nat) : Int) t') { s with toks := tk }) : wpAny (model prog w) A (binaryOp .Mod (.int (num.fdiv ((5 ^ i : Nat) : Int)) t) (.int 5 u)) Q E s := by
  refine mod_int' (by decide) ?_
  have e : (num.fdiv ((5 ^ i : Nat) : Int)).fmod 5 = ((digitAt num i : Nat) : Int) := by
    have h1 := Int.fmod_nonneg_of_pos (num.fdiv ((5 ^ i : Nat) : Int)) (b := 5) (by decide)
    unfold digitAt; omega
  rw [e]; exact h _ _
end
section
variable {prog : Program} {w : World} {A : Around} {s : Shared} {h₀ : Heap} {L : Addr} {m : Str → Option Value} {env : Env} {elt : PySem.Expr} {x : Str} {scope : Scope} {cl : List (Str × Addr)} {Fin : List Value → List (Addr × Obj) → Prop} {news : List (Addr × Obj)}
theorem comp_range {n : Nat} (inv : Nat → List Value → Prop) (h0 : inv 0 [])
    (turn : ∀ i t ys I oI C oC D m₂ h tk (E' : Value → Shared → Prop), i < n → inv i ys → LCg.NsObj oC m₂ → m₂ x = some (.int (i : Int) t) → Fr h₀ L h m → News h₀ L h ((I, oI) :: (C, oC) :: (D, LCg.lst ys) :: news) → LCg.Off3 I C D news → ((@Ne Nat I C) ∧ (@Ne Nat I D) ∧ (@Ne Nat C D)) →
      wpAny (model prog w) A (eval elt (compEnvC scope cl C env)) (TurnEnd h₀ L m { s with heap := h, toks := tk } I oI C oC D (LCg.lst ys) news (fun y => inv (i + 1) (ys ++ [y]))) E' { s with heap := h, toks := tk })
    (fin : ∀ ys, inv n ys → Fin ys news) : LCg.CompRest prog w A h₀ L m env elt x scope cl s (fun _ => True) (fun i v => ∃ t, v = .int (0 + (i : Int)) t) Fin n 0 [] news := by
  have key : ∀ (j i : Nat) (ys : List Value), i + j = n → inv i ys → LCg.CompRest prog w A h₀ L m env elt x scope cl s (fun _ => True) (fun i v => ∃ t, v = .int (0 + (i : Int)) t) Fin j i ys news := by
    intro j
    induction j with
    | zero =>
      intro i ys hi hy
      exact LCg.CompRest.zero (fin ys (by rw [show n = i by omega]; exact hy))
    | succ j ih =>
      intro i ys hi hy
      refine LCg.CompRest.succ ?_
      rintro v I oI C oC D m₂ h tk E' ⟨t, rfl⟩ hC hx F N off ne
      rw [Int.zero_add] at hx
      refine wpAny_mono (turn i t ys I oI C oC D m₂ h tk E' (by omega) hy hC hx F N off ne) (fun y s₂ hq => ?_) fun _ _ e => e
      obtain ⟨h', tk', rfl, F', N', hy'⟩ := hq
      exact ⟨h', tk', news, rfl, F', N', off, trivial, ih (i + 1) _ (by omega) hy'⟩
  exact key n 0 [] (by omega) h0
end
end Mine
end
section
open PySem PySem.W PyProof.Rows PySem.Calls PySem.Spec
set_option maxRecDepth 100000
namespace Mine
section
variable {prog : Program} {w : World} {A : Around} {E : Value → Shared → Prop} {s : Shared} {h₀ : Heap} {L : Addr} {m : Str → Option Value} {env : Env}
/-- the signs of a text -/
abbrev Sgn (x : T) (i : Nat) (v : Value) : Prop := SignAt (S x) i v
def StrSrc (prog : Program) (w : World) (A : Around) (h₀ : Heap) (L : Addr) (m : Str → Option Value) (env : Env) (elt : PySem.Expr) (x : Str) (scope : Scope) (cl : List (Str × Addr)) (Fin : Shared → List Value → List (Addr × Obj) → Prop) (xv : Value) (s₁ : Shared) : Prop :=
  ∃ (y : T) (t : Tok) (news : List (Addr × Obj)), xv = .str (S y) t ∧ A.handled = none ∧ Fr h₀ L s₁.heap m ∧ News h₀ L s₁.heap news ∧ (∀ c ∈ y, c < 128) ∧ y.length ≤ 10000 ∧
    ∀ s₂ : Shared, (∃ h, s₂ = { s₁ with heap := h }) → LCg.CompRest prog w A h₀ L m env elt x scope cl s₂ (fun _ => True) (Sgn y) (Fin s₂) y.length 0 [] news
theorem ascii_all {y : T} (h : ∀ c ∈ y, c < 128) : (S y).cps.all (· < 128) = true := by
  show (List.toArray y).all (· < 128) = true
  simp only [List.all_toArray, List.all_eq_true, decide_eq_true_eq]
  exact h
theorem ListComp_S {elt iter : PySem.Expr} {x : Str} {px : Pos} {scope : Scope} {cl : List (Str × Addr)} {pos : Pos} {Q : Value → Shared → Prop} (F₀ : Fr h₀ L s.heap m)
    (hclos : closureFor scope env = pure cl) (hcell : ∀ y ∈ scope.names, y.2 ≠ .cell) (hkind : scope.kind = .function)
    (hnames : ∀ y ∈ scope.names, y.2 = .local → scope.names.lookup y.1 = some .local) (hx : scope.names.lookup x = some .local)
    (h : wpAny (model prog w) A (eval iter env) (StrSrc prog w A h₀ L m env elt x scope cl (fun s₂ => LCg.FinE h₀ L m s₂ Q)) E s)
    (hs : ∀ x, foldedSetIterable iter env x = pure x := by intro _; rfl) :
    wpAny (model prog w) A (eval (.ListComp elt [⟨.Name x px, iter, [], 0⟩] scope pos) env) Q E s := by
  rw [eval_ListComp]
  refine wpAny_comprehension_free (use := none) rfl hs hclos hkind hnames (wpAny_mono h (fun xv s₁ h₁ => ?_) fun _ _ e => e)
  obtain ⟨y, t, news, rfl, hh, F, N, ha, hz, R⟩ := h₁
  refine wpAny_pyIter_ascii (ascii_all ha) ?_
  have up : ∀ b o, s₁.heap.get? b = some o → (s₁.heap.push { cls := .type "str_ascii_iterator", data := .fields #[.str (S y) t, .int 0 0] }).get? b = some o := fun b o e => Heap.get?_push_of_some _ e
  have hn : (S y).cps.size = y.length := rfl
  have W := Walks.strAscii (prog := prog) (w := w) hh s₁.heap.objs.size (S y) t
  rw [hn] at W
  refine LCg.block_U (S := fun _ => True) W (by rw [sizeLine_eq]; omega) (fun i h st => by obtain ⟨o, e, _⟩ := st; exact ⟨o, e⟩)
    (fun i h h' o nw st e e' _ _ _ => by obtain ⟨o', q, r⟩ := st; rw [e] at q; cases q; exact ⟨o, e', r⟩) hcell hkind hx ⟨_, Heap.get?_push_size _ rfl, rfl, rfl⟩ (fun b hb => ?_)
    (F.keeps up) (N.grown up) (Nat.ne_of_lt F.ns.lt) (next_is_new F) (fun p hp => Nat.ne_of_lt (Heap.lt_size (N p hp).1)) trivial (R _ ⟨_, rfl⟩) ?_
  · show b < (s₁.heap.push _).objs.size
    rw [Heap.size_push, List.mem_singleton.mp hb]; exact Nat.lt_succ_self _
  · intro D C h tk m' ys news' F' N' o1 hn hC₀ hD₀ hCL hDL hCD offC fin
    refine ⟨m', hn, fun h'' hs'' => fin D h'' tk (F'.change hs'' hCL hC₀) (fun p hp => ?_) o1⟩
    refine ⟨hs''.extBut _ _ ?_ (N' p hp).1, (N' p hp).2⟩
    rcases List.mem_cons.mp hp with rfl | hp
    · exact Ne.symm hCD
    · exact offC p hp
end
section
variable {prog : Program} {w : World} {A : Around} {s : Shared} {h₀ : Heap} {L : Addr} {m : Str → Option Value} {env : Env} {elt : PySem.Expr} {x : Str} {scope : Scope} {cl : List (Str × Addr)} {Fin : List Value → List (Addr × Obj) → Prop} {news : List (Addr × Obj)}
theorem comp_str {y : T} (inv : Nat → List Value → Prop) (h0 : inv 0 [])
    (turn : ∀ i t ys I oI C oC D m₂ h tk (E' : Value → Shared → Prop), i < y.length → inv i ys → LCg.NsObj oC m₂ → m₂ x = some (.str (S [y.getD i 0]) t) → Fr h₀ L h m → News h₀ L h ((I, oI) :: (C, oC) :: (D, LCg.lst ys) :: news) → LCg.Off3 I C D news → ((@Ne Nat I C) ∧ (@Ne Nat I D) ∧ (@Ne Nat C D)) →
      wpAny (model prog w) A (eval elt (compEnvC scope cl C env)) (TurnEnd h₀ L m { s with heap := h, toks := tk } I oI C oC D (LCg.lst ys) news (fun y => inv (i + 1) (ys ++ [y]))) E' { s with heap := h, toks := tk })
    (fin : ∀ ys, inv y.length ys → Fin ys news) : LCg.CompRest prog w A h₀ L m env elt x scope cl s (fun _ => True) (Sgn y) Fin y.length 0 [] news := by
  have key : ∀ (j i : Nat) (ys : List Value), i + j = y.length → inv i ys → LCg.CompRest prog w A h₀ L m env elt x scope cl s (fun _ => True) (Sgn y) Fin j i ys news := by
    intro j
    induction j with
    | zero =>
      intro i ys hi hy
      exact LCg.CompRest.zero (fin ys (by rw [show y.length = i by omega]; exact hy))
    | succ j ih =>
      intro i ys hi hy
      refine LCg.CompRest.succ ?_
      rintro v I oI C oC D m₂ h tk E' ⟨c, u, hc, rfl⟩ hC hx F N off ne
      have ec : c = y.getD i 0 := by
        have hc' : (List.toArray y)[i]? = some c := hc
        rw [List.getElem?_toArray] at hc'
        rw [List.getD_eq_getElem?_getD, hc']; rfl
      subst ec
      refine wpAny_mono (turn i u ys I oI C oC D m₂ h tk E' (by omega) hy hC hx F N off ne) (fun y s₂ hq => ?_) fun _ _ e => e
      obtain ⟨h', tk', rfl, F', N', hy'⟩ := hq
      exact ⟨h', tk', news, rfl, F', N', off, trivial, ih (i + 1) _ (by omega) hy'⟩
  exact key y.length 0 [] (by omega) h0
end
theorem re_method {M : Model} {A : Around} {E : Value → Shared → Prop} {s : Shared} {h₀ : Heap} {L p : Addr} {m : Str → Option Value} {K : Frag} {o : Obj} {pl : Sem Bool} {Q : Value × List Value → Shared → Prop} (X : K.In h₀) (F : Fr h₀ L s.heap m) (e : K.lookup p = some o) (hc : o.cls = .type "re.Pattern") (hd : o.dict = none)
    (h : Q (.builtin "re.Pattern.search", [.ref p]) s) : wpAny M A (getMethod (.ref p) "search" pl) Q E s :=
  getMethod_builtin (T := "re.Pattern") ⟨o, F.keep _ _ (X _ _ e), hc⟩ plainAttrs_re slot_re_search type_re_search (fun a ha => ⟨o, by cases ha; exact F.keep _ _ (X _ _ e), hd⟩) h
theorem bs_is : Str.ofString "\\" = S [92] := by decide +kernel
theorem nl_is : Str.ofString "\n" = S [10] := by decide +kernel
section
variable {prog : Program} {w : World} {A : Around} {E : Value → Shared → Prop} {s : Shared} {env : Env} {k : Nat} {pos : Pos} {Q : Value → Shared → Prop}
theorem bs_const (h : ∀ t tk, Q (.str (S [92]) t) { s with toks := tk }) : wpAny (model prog w) A (eval (.Constant (.str (Str.ofString "\\")) k pos) env) Q E s := Calls.Constant_str (by rw [bs_is]; exact h _ _)
theorem nl_const (h : ∀ t tk, Q (.str (S [10]) t) { s with toks := tk }) : wpAny (model prog w) A (eval (.Constant (.str (Str.ofString "\n")) k pos) env) Q E s := Calls.Constant_str (by rw [nl_is]; exact h _ _)
end
/-- a word's signs, each on a line with a backslash ahead -/
def lined (word : T) : T := joinT [] (word.map fun c => [92, c, 10])
theorem joinT_nil : ∀ xs : List T, joinT [] xs = xs.flatten
  | [] => rfl
  | [x] => by simp [joinT]
  | x :: y :: r => by rw [joinT, joinT_nil (y :: r)]; simp
theorem lined_cons (c : Nat) (r : T) : lined (c :: r) = 92 :: c :: 10 :: lined r := by
  simp only [lined, joinT_nil, List.map_cons, List.flatten_cons]; rfl
theorem lined_len : ∀ word : T, (lined word).length = 3 * word.length
  | [] => rfl
  | c :: r => by rw [lined_cons]; simp only [List.length_cons, lined_len r]; omega
theorem text_of : ∀ (word : T) {ys : List Value}, StrsAre ys (((lined word).map fun c => [c]).map S) → TextIs ys (word.map fun c => [c])
  | [], ys, h => by
    have : ys = [] := by
      have := strsAre_length h
      exact List.eq_nil_of_length_eq_zero this
    subst this; exact .nil
  | c :: r, ys, h => by
    rw [lined_cons] at h
    simp only [List.map_cons] at h
    cases h with
    | cons _ t1 h => cases h with
      | cons _ t2 h => cases h with
        | cons _ t3 h =>
          rw [← bs_is, ← nl_is]
          exact TextIs.cons t1 t2 t3 [c] (by simp) (by simp) (text_of r h)
theorem take_succ_T {word : T} {j : Nat} (h : j < word.length) (f : Nat → T) : ((word.take (j + 1)).map f).map S = ((word.take j).map f).map S ++ [S (f (word.getD j 0))] := by
  rw [List.take_add_one, List.getElem?_eq_getElem h, List.map_append, List.map_append, List.getD_eq_getElem?_getD, List.getElem?_eq_getElem h]; rfl
def nameOf (σ : TS) : T := joinT [47] (σ.rows.map (joinT []))
def valOf (σ : TS) : T := joinT [47] σ.times
def headOf (word : T) : Option (T × T) := (tablesOf (word.map fun c => [c])).map fun σ => (nameOf σ, valOf σ)
def headT (word : T) : T × T := (headOf word).getD ([], [])
def plainB (x : T) : Bool := x.all fun c => decide (32 ≤ c) && decide (c < 127)
theorem plain_of {x : T} (h : plainB x = true) : Plain x := fun c hc => by
  have := List.all_eq_true.mp h c hc
  simpa using this
/-- a word that the law may take -/
def wordOk (word : T) : Bool := decide (word.length ≤ 5) && plainB word && match headOf word with
  | some (n, v) => plainB n && plainB v && decide (n.length ≤ 1000) && decide (v.length ≤ 1000)
  | none => false
theorem wordOk_of {word : T} (h : wordOk word = true) : word.length ≤ 5 ∧ Plain word ∧ ∃ σ, tablesOf (word.map fun c => [c]) = some σ ∧ headT word = (nameOf σ, valOf σ) ∧ Plain (nameOf σ) ∧ Plain (valOf σ) ∧ (nameOf σ).length ≤ 1000 ∧ (valOf σ).length ≤ 1000 := by
  unfold wordOk at h
  cases e : tablesOf (word.map fun c => [c]) with
  | none => simp [headOf, e] at h
  | some σ =>
    simp only [headOf, e, Option.map_some, Bool.and_eq_true, decide_eq_true_eq] at h
    exact ⟨h.1.1, plain_of h.1.2, σ, rfl, by simp [headT, headOf, e], plain_of h.2.1.1.1, plain_of h.2.1.1.2, h.2.1.2, h.2.2⟩
def TabOk (tb : List (Addr × Obj)) : Prop := tb = [(239, tabObj #[])] ∨ ∃ cc, TabIs tb cc
theorem code_of {tb : List (Addr × Obj)} {cc : Addr} {h : Heap} (T : TabIs tb cc) (hk : ∀ p ∈ tb, h.get? p.1 = some p.2) : h.CodeRec (.ref cc) nextQual := by
  obtain ⟨oc, vs, tk, rfl, h1, h2, _⟩ := T
  exact ⟨cc, oc, vs, tk, rfl, hk (cc, oc) (.tail _ (.head _)), h1, h2⟩
theorem sub6 {x1 x2 x3 x4 x5 x6 : Addr × Obj} {a b : List (Addr × Obj)} : ∀ p ∈ x1 :: x2 :: x3 :: x4 :: x5 :: x6 :: b, p ∈ x1 :: x2 :: x3 :: x4 :: x5 :: x6 :: (a ++ b) := fun _ hp =>
  ((((((( List.sublist_append_right a b).cons₂ x6).cons₂ x5).cons₂ x4).cons₂ x3).cons₂ x2).cons₂ x1).subset hp
theorem lexer_any {prog : Program} {w : World} {s : Shared} {g : Heap} {dp un : Nat} {gd : Option (List Code)} {frs : List Env} {R : Result → Shared → Prop} {t : T} {tx : Tok} {tb0 : List (Addr × Obj)} (Si : Site w dp un gd frs g) (K : g.StaysIn s.heap) (O : Owns g s.heap tb0) (ok : TabOk tb0) (C : CodeHd g 243 239) (hdp : dp < 900) (hun : un < 9000)
    (hsz : t.length ≤ 1000)
    (ret : ∀ h' tk' z tb tl ys n, g.StaysIn h' → Owns g h' (lexObjs w z 1 tl ys n [] 0 ++ tb) → TabIs tb z.cc → LexOk w z → (∀ p ∈ tb, ∀ q ∈ lexObjs w z 1 tl ys n [] 0, @Ne Nat p.1 q.1) → StrsAre ys ((t.map fun c => [c]).map S) → R (.ok (.ret (.ref z.lx))) { s with heap := h', toks := tk' }) :
    codeAny (model prog w) (top dp un gd frs) (.call (.ref 244) ⟨[.str (S t) tx], []⟩) R s := by
  rcases ok with rfl | ⟨cc, hT⟩
  · exact lexer_walk Si K O C hdp hun hsz ret
  · exact lexer_walk2 Si K O hT C hdp hun hsz ret
section
variable {prog : Program} {w : World} {A : Around} {E : Value → Shared → Prop} {s : Shared} {h₀ : Heap} {L : Addr} {m : Str → Option Value} {K : Frag}
theorem search_nameF {x : T} {t : Tok} {Q : Value → Shared → Prop} (F : Fr h₀ L s.heap m) (X : K.In h₀) (hx : Plain x) (hsz : x.length ≤ 100000) {f0 f1 : Value}
    (h99 : K.lookup 99 = some { cls := .type "re.Pattern", data := .fields #[f0, f1, .int 0 0, .none, .none, .ref 98, .int 0 0] })
    (h98 : K.lookup 98 = some { cls := .type "tuple", data := .seq #[.int 14 0, .int 10 0, .int 4 0, .int 1 0, .int 1 0, .int 22 0, .int 0 0, .int 31 0, .int 16 0, .int 127 0, .int 0 0, .int 13 0, .int 7 0, .int 22 0, .int 0 0, .int 31 0, .int 16 0, .int 127 0, .int 0 0, .int 1 0] })
    (h : Q .none s) : wpAny (model prog w) A (call (.builtin "re.Pattern.search") [.ref 99, .str (S x) t]) Q E s := search_name (X.keeps F.keep) hx hsz h99 h98 h
theorem search_valF {x : T} {t : Tok} {Q : Value → Shared → Prop} (F : Fr h₀ L s.heap m) (X : K.In h₀) (hx : Plain x) (hsz : x.length ≤ 100000) {f0 f1 : Value}
    (h104 : K.lookup 104 = some { cls := .type "re.Pattern", data := .fields #[f0, f1, .int 0 0, .none, .none, .ref 103, .int 0 0] })
    (h103 : K.lookup 103 = some { cls := .type "tuple", data := .seq #[.int 14 0, .int 14 0, .int 4 0, .int 1 0, .int 1 0, .int 9 0, .int 4294966783 0, .int 0 0, .int 0 0, .int 2147483648 0, .int 0 0, .int 0 0, .int 0 0, .int 0 0, .int 0 0, .int 13 0, .int 11 0, .int 9 0, .int 4294966783 0, .int 0 0, .int 0 0, .int 2147483648 0, .int 0 0, .int 0 0, .int 0 0, .int 0 0, .int 0 0, .int 1 0] })
    (h : Q .none s) : wpAny (model prog w) A (call (.builtin "re.Pattern.search") [.ref 104, .str (S x) t]) Q E s := search_val (X.keeps F.keep) hx hsz h104 h103 h
end
theorem allLt_far {d : Nat} : ∀ {l : List (Addr × Obj)}, AllLt d l → ∀ p ∈ l, @Ne Nat p.1 d := by
  intro l
  induction l with
  | nil => intro _ p hp; cases hp
  | cons q l ih =>
    intro h p hp
    rcases List.mem_cons.mp hp with rfl | hp
    · exact Nat.ne_of_lt h.1
    · exact ih h.2 p hp
abbrev HE := Nat × (T × Tok) × (T × Tok)
abbrev tupO (e : HE) : Obj := { cls := .type "tuple", data := .seq #[.str (S e.2.1.1) e.2.1.2, .str (S e.2.2.1) e.2.2.2] }
def tupL (es : List HE) : List (Addr × Obj) := es.map fun e => (e.1, tupO e)
def heRefs (es : List HE) : List Value := es.map fun e => .ref e.1
theorem heRefs_append (es : List HE) (e : HE) : heRefs (es ++ [e]) = heRefs es ++ [.ref e.1] := by simp [heRefs]
theorem tupL_append (es : List HE) (e : HE) : tupL (es ++ [e]) = tupL es ++ [(e.1, tupO e)] := by simp [tupL]
section
variable {prog : Program} {w : World} {A : Around} {E : Value → Shared → Prop} {s : Shared} {h₀ : Heap} {L : Addr} {m : Str → Option Value} {Q : Value → Shared → Prop}
theorem hdr_push {D hl I c : Nat} {io : Obj} {es : List HE} {x1 x2 : T × Tok} {R : List (Addr × Obj)} (F : Fr h₀ L s.heap m)
    (N : News h₀ L s.heap ((D, tupO (D, x1, x2)) :: (I, io) :: (hl, listOf (List.toArray (heRefs es)) c) :: R)) (h1 : @LT.lt Nat _ hl D) (o1 : @Ne Nat I hl) (far : ∀ p ∈ R, @Ne Nat p.1 hl) (hz : (heRefs es).length ≤ 5000)
    (k : ∀ h', Fr h₀ L h' m → News h₀ L h' ((D, tupO (D, x1, x2)) :: (I, io) :: (hl, listOf (List.toArray (heRefs (es ++ [(D, x1, x2)]))) (c + 1)) :: R) → Q .none { s with heap := h' }) :
    wpAny (model prog w) A (call (.builtin "list.append") [.ref hl, .ref D]) Q E s := by
  refine append_L F N (.tail (Nat.ne_of_gt h1) (.tail o1 (.head far))) hz fun h' F' N' => k h' F' ?_
  rw [heRefs_append]; exact N'
end
theorem hdr_end {g h : Heap} {L D hl I c : Nat} {io : Obj} {es : List HE} {x1 x2 : T × Tok} {X1 X2 X3 X4 : Addr × Obj} {tb : List (Addr × Obj)}
    (N : News g L h ((D, tupO (D, x1, x2)) :: (I, io) :: (hl, listOf (List.toArray (heRefs (es ++ [(D, x1, x2)]))) c) :: X1 :: X2 :: X3 :: X4 :: (tb ++ tupL es))) :
    News g L h ((I, io) :: (hl, listOf (List.toArray (heRefs (es ++ [(D, x1, x2)]))) c) :: X1 :: X2 :: X3 :: X4 :: (tb ++ tupL (es ++ [(D, x1, x2)]))) := fun p hp => N p (by
  rw [tupL_append] at hp
  rcases List.mem_cons.mp hp with rfl | hp
  · exact .tail _ (.head _)
  rcases List.mem_cons.mp hp with rfl | hp
  · exact .tail _ (.tail _ (.head _))
  rcases List.mem_cons.mp hp with rfl | hp
  · exact .tail _ (.tail _ (.tail _ (.head _)))
  rcases List.mem_cons.mp hp with rfl | hp
  · exact .tail _ (.tail _ (.tail _ (.tail _ (.head _))))
  rcases List.mem_cons.mp hp with rfl | hp
  · exact .tail _ (.tail _ (.tail _ (.tail _ (.tail _ (.head _)))))
  rcases List.mem_cons.mp hp with rfl | hp
  · exact .tail _ (.tail _ (.tail _ (.tail _ (.tail _ (.tail _ (.head _))))))
  rcases List.mem_append.mp hp with hp | hp
  · exact .tail _ (.tail _ (.tail _ (.tail _ (.tail _ (.tail _ (.tail _ (List.mem_append_left _ hp)))))))
  rcases List.mem_append.mp hp with hp | hp
  · exact .tail _ (.tail _ (.tail _ (.tail _ (.tail _ (.tail _ (.tail _ (List.mem_append_right _ hp)))))))
  · rw [List.mem_singleton.mp hp]; exact .head _)
/-- what lies off an address, with one more -/
theorem off_more {D a : Nat} {es : List HE} {x1 x2 : T × Tok} {tb : List (Addr × Obj)} (h : ∀ p ∈ tb ++ tupL es, @Ne Nat p.1 a) (hD : @Ne Nat D a) : ∀ p ∈ tb ++ tupL (es ++ [(D, x1, x2)]), @Ne Nat p.1 a := fun p hp => by
  rw [tupL_append] at hp
  rcases List.mem_append.mp hp with hp | hp
  · exact h p (List.mem_append_left _ hp)
  rcases List.mem_append.mp hp with hp | hp
  · exact h p (List.mem_append_right _ hp)
  · rw [List.mem_singleton.mp hp]; exact hD
theorem sep_more {D : Nat} {es : List HE} {x1 x2 : T × Tok} {tb : List (Addr × Obj)} (hlt : AllLt D (tb ++ tupL es)) {q : Addr × Obj} (hq : q ∈ tb) (h : ∀ e ∈ es, @Ne Nat e.1 q.1) : ∀ e ∈ es ++ [(D, x1, x2)], @Ne Nat e.1 q.1 := fun e he => by
  rcases List.mem_append.mp he with he | he
  · exact h e he
  · rw [List.mem_singleton.mp he]
    exact (allLt_far hlt q (List.mem_append_left _ hq)).symm
structure HdrAt (w : World) (words : List T) (lw : Nat) (ys : List Value) (c L : Nat) (cell : Obj) (i : Nat) (m : Str → Option Value) (news : List (Addr × Obj)) (hl hx dh : Nat) (es : List HE) (c2 n2 : Nat) (t1 : Tok) (tb : List (Addr × Obj)) : Prop where
  news : news = (hl, listOf (List.toArray (heRefs es)) c2) :: (lw, listOf (List.toArray ys) c) :: (hx, instObj 233 dh) ::
    (dh, dictOf [{ hash := PyData.keyHash w.params (Str.ofString "_headers"), key := Value.str (Str.ofString "_headers") t1, val := Value.ref hl }] n2) :: (L + 1, cell) :: (tb ++ tupL es)
  table : m "table" = some (.ref hx)
  mwords : m "words" = some (.ref lw)
  tbOk : TabOk tb
  far : ∀ p ∈ tb ++ tupL es, @Ne Nat p.1 hl
  n1 : @Ne Nat lw hl
  n2 : @Ne Nat hx hl
  n3 : @Ne Nat dh hl
  n4 : @Ne Nat (L + 1) hl
  sep : ∀ q ∈ tb, @Ne Nat q.1 lw ∧ @Ne Nat q.1 hx ∧ @Ne Nat q.1 dh ∧ @Ne Nat q.1 (L + 1) ∧ ∀ e ∈ es, @Ne Nat e.1 q.1
  heads : es.map (fun e => (e.2.1.1, e.2.2.1)) = (words.take i).map headT
end Mine
end
section
open PySem PySem.W PyProof.Rows PySem.Calls PySem.Spec
set_option maxRecDepth 100000
namespace Mine
theorem lnLawB1 : True := by
  k_with_none
  k_with "own_room" => ((show _ < 1000; (try simp only [depth_under_make, depth_under_kw, depth_in1, depth_deeper]); omega))
  k_with "eval Name" => ((k_here; k_dflt (refine' nameX_F ?N ?c ?m ?d ?_ ?a ?b; (case a => rfl); (case b => rfl); (case N => k_asm); (case c => rfl); (case m => k_mem); (case d => k_asm); k_whole)))
  k_with "ite" => (first | (refine ite_pos (by decide +kernel) ?_) | (refine ite_neg (by decide +kernel) ?_))
  k_with "inplaceOp Add str str" => ((refine iadd_empty (by first | assumption | (simp only [S_length]; omega)) ?_; intro tq' tkq'))
  k_with "m_get" => (first | rfl | (with_reducible assumption) | exact if_pos rfl | (refine (if_neg (by decide +kernel)).trans ?_; walk_at "m_get"))
  k_with "m_subs" => (first | exact List.forall_mem_nil _ | (refine List.forall_mem_cons.mpr ⟨by k_dflt k_mem, ?_⟩; walk_at "m_subs"))
  k_with "m_dis" => (first | exact List.forall_mem_nil _ | (refine List.forall_mem_cons.mpr ⟨by k_all, ?_⟩; walk_at "m_dis"))
  k_with "m_list" => (first | (with_reducible assumption) | exact stays_list (Fr.keep (by with_reducible assumption)) (by with_reducible assumption) | exact News.isList (by with_reducible assumption) (by k_mem))
  k_with "m_size" => (first | omega | (simp only [List.size_toArray, List.length_map, List.length_cons, List.length_append, List.length_nil, strsAre_length (by assumption)]; omega))
  k_with "truthy ref" => (((with_reducible show wpAny _ _ (truthy (Value.ref _)) _ _ _); k_dflt (first | (refine truthy_nil (by walk_at "m_list") ?_; intro tkq') | (refine truthy_cons (by walk_at "m_list") (by walk_at "m_size") ?_; intro tkq'))))
  k_with "call type:list" => (((with_reducible show wpAny _ _ (call (Value.type _) [Value.str _ _]) _ _ _); refine list_str_K rfl (by k_asm) (by k_asm) (by assumption) ?_; intro Dq' ysq' nq' hq' tkq' Fq' Nq' hSq' l1q; k_lt l1q; (try k_sweep)))
  k_with "call builtin:list.pop" => (((with_reducible show wpAny _ _ (call (Value.builtin _) [Value.ref _, Value.int 0 _]) _ _ _); k_dflt (refine' pop0_K ?F ?N ?U ?z ?_; (case F => k_asm); (case N => k_asm); (case U => k_upd); (case z => walk_at "m_size"); intro hq' Fq' Nq'; (try dsimp only [List.nil_append, List.cons_append] at Nq'); (try k_sweep))))
  k_with "pyIter ref" => (((with_reducible show wpAny _ _ (pyIter (Value.ref _)) (fun it s₂ => LoopAtV _ _ _ _ _ (Str.ofString "word") _ _ _ it s₂) _ _); refine stop_of ?_))
  k_with "call ref" => (((with_reducible show wpAny _ _ (call (Value.ref 244) _) _ _ _); refine stop_of ?_))
  k_with "call ref" => (((with_reducible show wpAny _ _ (call (Value.ref 254) _) _ _ _); refine stop_of ?_))
  k_with "eval ListComp" => ((refine stop_of ?_))
  k_with "CompSrc" => ((refine stop_of ?_))
  k_with "TurnEnd" => ((refine stop_of ?_))
  k_with "eval Name" => ((k_here; (with_reducible show wpAny _ _ (eval (Expr.Name _ _) (compEnvC _ _ _ _)) _ _ _); k_dflt (first | refine LCgL.ld_own (by k_asm) (by k_mem) (by with_reducible assumption) (by with_reducible assumption) ?_ | refine LCgL.ld_global (by k_asm) (by k_asm) (by k_asm) (by k_is) ?_ | refine LCgL.ld_built (by k_asm) (by k_asm) (by k_asm) (by k_is) (by boot_by_name) (by decide) ?_)))
  k_with "m_far" => (first | exact tail_ne (by with_reducible assumption) (by with_reducible assumption) (by omega) | exact List.forall_mem_nil _ | ((with_reducible refine List.forall_mem_cons.mpr ⟨?_, ?_⟩); (show @Ne Nat _ _; (try dsimp only); omega); walk_at "m_far"))
  k_with "own_upd" => (first | ((with_reducible refine Upd.head ?_); walk_at "m_far") | ((with_reducible refine Upd.tail ?_ ?_); (show @Ne Nat _ _; (try dsimp only); omega); k_upd))
  k_with "m_get" => (first | (with_reducible assumption) | (with_reducible exact if_pos rfl) | ((with_reducible refine (if_neg (by decide +kernel)).trans ?_); walk_at "m_get"))
  k_with "own_all" => (exact tail_ne (by with_reducible assumption) (by with_reducible assumption) (by omega))
  k_with "call builtin:len" => (((with_reducible show wpAny _ _ (call (Value.builtin "len") [Value.ref _]) _ _ _); k_dflt (refine len_L (by walk_at "m_list") (by walk_at "m_size") ?_); intro tq' tkq'))
  k_with "call builtin:list.append" => (((with_reducible show wpAny _ _ (call (Value.builtin _) [Value.ref _, _]) _ _ _); k_dflt (refine' append_L ?F ?N ?U ?z ?_; (case F => k_asm); (case N => k_asm); (case U => k_upd); (case z => walk_at "m_size"); intro hq' Fq' Nq'; (try k_sweep))))
  k_with "m_cond" => (first | decide +kernel | (simp only [beq_iff_eq, decide_eq_true_eq]; omega) | (simp only [beq_iff_eq, bne_iff_ne, ne_eq, decide_eq_true_eq]; omega))
  k_with "ite" => (first | (refine ite_pos (by walk_at "m_cond") ?_) | (refine ite_neg (by walk_at "m_cond") ?_))
  k_with "m_pick" => (first | (with_reducible exact pick_to _ _ (by omega)) | (with_reducible exact pick_from _ _ (by omega)) | exact pick_toI _ (by omega) (by omega) | exact pick_fromI _ (by omega) (by omega))
  k_with "m_len" => (first | omega | ((simp only [List.size_toArray, sizeLine_eq, List.length_append, List.length_take, List.length_drop, List.length_cons, List.length_nil, List.length_map, List.length_set]); omega))
  k_with "subscriptTail Name Slice ref ref" => (((with_reducible show wpAny _ _ (subscriptTail _ (PySem.Expr.Slice _ _ none _) (Value.ref _) (Value.ref _)) _ _ _); k_dflt (refine' slice_N ?kF ?kN ?kl ?kp ?kq ?ke ?kz ?_ ?ks ?kt; (case kF => k_asm); (case kN => k_asm); (case kl => walk_at "m_list"); (case kp => kmk_part); (case kq => kmk_part); (case ke => walk_at "m_pick"); (case ks => with_unfolding_all rfl); (case kt => kmk_pure); (case kz => walk_at "m_len")); intro Dq' hq' Fq' Nq' l1q; (try k_lt l1q); (try k_sweep)))
  k_with "binaryOp Add ref ref" => (((with_reducible show wpAny _ _ (binaryOp _ (Value.ref _) (Value.ref _)) _ _ _); k_dflt (refine' add_L ?kF ?kN ?ka ?kb ?kz ?_; (case kF => k_asm); (case kN => k_asm); (case ka => walk_at "m_list"); (case kb => walk_at "m_list"); (case kz => walk_at "m_len")); intro Dq' hq' Fq' Nq' l1q; (try k_lt l1q); (try k_sweep)))
  k_with "m_lt" => (first | exact allLt_far (by with_reducible assumption) | exact allLt_far (And.right (by with_reducible assumption)) | exact allLt_far (And.right (And.right (by with_reducible assumption))) | exact allLt_far (And.right (And.right (And.right (by with_reducible assumption)))) | exact allLt_far (And.right (And.right (And.right (And.right (by with_reducible assumption))))) | exact allLt_far (And.right (And.right (And.right (And.right (And.right (by with_reducible assumption)))))) | exact allLt_far (And.right (And.right (And.right (And.right (And.right (And.right (by with_reducible assumption))))))) | exact allLt_far (And.right (And.right (And.right (And.right (And.right (And.right (And.right (by with_reducible assumption)))))))) | exact allLt_far (And.right (And.right (And.right (And.right (And.right (And.right (And.right (And.right (by with_reducible assumption))))))))) | exact allLt_far (And.right (And.right (And.right (And.right (And.right (And.right (And.right (And.right (And.right (by with_reducible assumption)))))))))) | exact allLt_far (And.right (And.right (And.right (And.right (And.right (And.right (And.right (And.right (And.right (And.right (by with_reducible assumption))))))))))) | exact allLt_far (And.right (And.right (And.right (And.right (And.right (And.right (And.right (And.right (And.right (And.right (And.right (by with_reducible assumption)))))))))))) | exact allLt_far (And.right (And.right (And.right (And.right (And.right (And.right (And.right (And.right (And.right (And.right (And.right (And.right (by with_reducible assumption))))))))))))) | exact allLt_far (And.right (And.right (And.right (And.right (And.right (And.right (And.right (And.right (And.right (And.right (And.right (And.right (And.right (by with_reducible assumption)))))))))))))) | exact allLt_far (And.right (And.right (And.right (And.right (And.right (And.right (And.right (And.right (And.right (And.right (And.right (And.right (And.right (And.right (by with_reducible assumption))))))))))))))) | exact allLt_far (And.right (And.right (And.right (And.right (And.right (And.right (And.right (And.right (And.right (And.right (And.right (And.right (And.right (And.right (And.right (by with_reducible assumption)))))))))))))))) | exact allLt_far (And.right (And.right (And.right (And.right (And.right (And.right (And.right (And.right (And.right (And.right (And.right (And.right (And.right (And.right (And.right (And.right (by with_reducible assumption))))))))))))))))) | exact allLt_far (And.right (And.right (And.right (And.right (And.right (And.right (And.right (And.right (And.right (And.right (And.right (And.right (And.right (And.right (And.right (And.right (And.right (by with_reducible assumption)))))))))))))))))))
  k_with "m_ltx" => (first | exact id (by with_reducible assumption) | exact id (And.right (by with_reducible assumption)) | exact id (And.right (And.right (by with_reducible assumption))) | exact id (And.right (And.right (And.right (by with_reducible assumption)))) | exact id (And.right (And.right (And.right (And.right (by with_reducible assumption))))) | exact id (And.right (And.right (And.right (And.right (And.right (by with_reducible assumption)))))) | exact id (And.right (And.right (And.right (And.right (And.right (And.right (by with_reducible assumption))))))) | exact id (And.right (And.right (And.right (And.right (And.right (And.right (And.right (by with_reducible assumption)))))))) | exact id (And.right (And.right (And.right (And.right (And.right (And.right (And.right (And.right (by with_reducible assumption))))))))) | exact id (And.right (And.right (And.right (And.right (And.right (And.right (And.right (And.right (And.right (by with_reducible assumption)))))))))) | exact id (And.right (And.right (And.right (And.right (And.right (And.right (And.right (And.right (And.right (And.right (by with_reducible assumption))))))))))) | exact id (And.right (And.right (And.right (And.right (And.right (And.right (And.right (And.right (And.right (And.right (And.right (by with_reducible assumption)))))))))))) | exact id (And.right (And.right (And.right (And.right (And.right (And.right (And.right (And.right (And.right (And.right (And.right (And.right (by with_reducible assumption))))))))))))) | exact id (And.right (And.right (And.right (And.right (And.right (And.right (And.right (And.right (And.right (And.right (And.right (And.right (And.right (by with_reducible assumption)))))))))))))) | exact id (And.right (And.right (And.right (And.right (And.right (And.right (And.right (And.right (And.right (And.right (And.right (And.right (And.right (And.right (by with_reducible assumption))))))))))))))) | exact id (And.right (And.right (And.right (And.right (And.right (And.right (And.right (And.right (And.right (And.right (And.right (And.right (And.right (And.right (And.right (by with_reducible assumption)))))))))))))))) | exact id (And.right (And.right (And.right (And.right (And.right (And.right (And.right (And.right (And.right (And.right (And.right (And.right (And.right (And.right (And.right (And.right (by with_reducible assumption))))))))))))))))) | exact id (And.right (And.right (And.right (And.right (And.right (And.right (And.right (And.right (And.right (And.right (And.right (And.right (And.right (And.right (And.right (And.right (And.right (by with_reducible assumption)))))))))))))))))))
  k_with "m_far" => (first | (with_reducible assumption) | exact List.forall_mem_nil _ | ((with_reducible refine List.forall_mem_cons.mpr ⟨?_, ?_⟩); (show @Ne Nat _ _; (try dsimp only); omega); walk_at "m_far") | walk_at "m_lt")
  k_with "execs cons" => (((with_reducible show wpAny _ _ (execs (Stmt.For (Expr.Name (Str.ofString "name") _) _ _ _ _ :: _) _) _ _ _); refine stop_of ?_))
  k_with "eval Name" => (((with_reducible show wpAny _ _ (eval (Expr.Name _ _) (envOfC _ _ _ _ _)) _ _ _); k_dflt (first | refine nameX_L (by k_asm) (by walk_at "m_get") ?_ | refine nameX_C (by k_asm) (by rfl) (by k_mem) (by with_reducible assumption) ?_)))
  k_with "getMethod ref" => (((with_reducible show wpAny _ _ (getMethod (Value.ref _) (Str.ofString "search") _) _ _ _); k_dflt (refine' re_method ?X ?F ?e ?c ?d ?_; (case X => k_asm); (case F => k_asm); (case e => k_is); (case c => rfl); (case d => rfl))))
  k_with "call builtin:re.Pattern.search" => ((k_dflt (first | (refine' search_nameF ?F ?X ?x ?z ?a ?b ?_; (case F => k_asm); (case X => k_asm); (case x => with_reducible assumption); (case z => omega); (case a => k_is); (case b => k_is)) | (refine' search_valF ?F ?X ?x ?z ?a ?b ?_; (case F => k_asm); (case X => k_asm); (case x => with_reducible assumption); (case z => omega); (case a => k_is); (case b => k_is)))))
  k_with "exec For Name Name cons nil" => (((rename Fr _ _ _ _ => lF'); k_dflt (refine' For_invVF lF' ?k1 ?k2 ?_; (case k1 => exact rfl); (case k2 => exact rfl))))
  k_with "call builtin:str.join" => ((refine stop_of ?_))
  k_with "eval Constant str" => (first | ((with_reducible refine bs_const ?_); intro tq' tkq') | ((with_reducible refine nl_const ?_); intro tq' tkq'))
  k_with "binaryOp Add str str" => ((k_dflt (refine add_S (by first | omega | (simp only [List.length_cons, List.length_nil, List.length_append]; omega)) (by first | omega | (simp only [List.length_cons, List.length_nil]; omega)) ?_); intro tq' tkq'))
  k_with "call builtin:list.append" => (((with_reducible show wpAny _ _ (call (Value.builtin _) [Value.ref _, Value.ref _]) _ _ _); refine stop_of ?_))
  k_with "TEnd" => ((refine stop_of ?_))
  trivial
set_option maxHeartbeats 4000000 in
theorem law_second {prog : Program} {w : World} {s : Shared} {g : Heap} {dp un : Nat} {gd : Option (List Code)} {frs : List Env} {L fa : Addr} {cd oc0 : Value} {od0 : Option Addr} {nm q : Str} {ps : Arguments} {sc : Scope} {s1 s2 s3 s4 s5 s6 : Stmt} {rest : List Stmt} {dV kV doc pm cd0 ct : Value} {an : Option Addr} {sl : Array (Option Value)} {Q : Flow → Shared → Prop} {E : Value → Shared → Prop}
    {words : List T} {lw : Addr} {ys : List Value} {c : Nat} {cell : Obj} {m : Str → Option Value}
    (e : (Mine.hdK w.params).lookup 271 = some ⟨oc0, od0, .func (fnOf nm q ps (s1 :: s2 :: s3 :: s4 :: s5 :: s6 :: rest) sc dV kV doc pm an cd0 ct), sl⟩)
    (Si : Site w dp un gd frs g) (C : CodeHd g 243 239) (F : Fr g L s.heap m) (N : News g L s.heap [(lw, listOf (List.toArray ys) c), (L + 1, cell), (239, tabObj #[])]) (l0 : @LT.lt Nat _ 239 L) (hw1 : @Ne Nat lw (L + 1)) (hw2 : @Ne Nat lw 239)
    (hm : m "words" = some (.ref lw)) (hys : StrsAre ys (words.map S)) (hwd : ∀ x ∈ words, wordOk x = true) (hwl : words.length ≤ 1000) (hdp : dp < 400) (hun : un < 4000) (hE : PassesOwn (model prog w) (top (dp + 1) (un + 3) gd (envOfC nm sc L fa cd :: frs)) (envOfC nm sc L fa cd) E)
    (next : ∀ h' tk' m' news hl hx dh es c2 n2 t1 tb, HdrAt w words lw ys c L cell words.length m' news hl hx dh es c2 n2 t1 tb → Fr g L h' m' → News g L h' news → wpAny (model prog w) (top (dp + 1) (un + 3) gd (envOfC nm sc L fa cd :: frs)) (execs rest (envOfC nm sc L fa cd)) Q E { s with heap := h', toks := tk' })
    : wpAny (model prog w) (top (dp + 1) (un + 3) gd (envOfC nm sc L fa cd :: frs)) (execs (s5 :: s6 :: rest) (envOfC nm sc L fa cd)) Q E s := by
  cases lookup_is (a := 271) (by k_is) e
  clear e
  have X1 := Site.X Si
  obtain ⟨p1, loose1, mean1, mg1, mb1, T1⟩ := Site.T Si
  obtain ⟨base1, B1⟩ := Site.B Si
  (repeat' (first | (k_unfold; (try dsimp only)) | ((try dsimp only); walk1) | walk1))
  show wpAny _ _ _ _ _ _
  rename News _ _ _ _ => kN
  rename Fr _ _ _ _ => kF
  have hyl : ys.length = words.length := by rw [strsAre_length hys, List.length_map]
  have kN2 : News g L _ ((_, listOf (List.toArray (heRefs [])) 0) :: (lw, listOf (List.toArray ys) c) :: (_, instObj 233 _) :: (_, dictOf [{ hash := PyData.keyHash w.params (Str.ofString "_headers"), key := Value.str (Str.ofString "_headers") _, val := Value.ref _ }] 1) :: (L + 1, cell) :: ([(239, tabObj #[])] ++ tupL [])) :=
    fun p hp => kN p ((by walk_at "m_subs" : ∀ p ∈ ((_, listOf (List.toArray (heRefs [])) 0) :: (lw, listOf (List.toArray ys) c) :: (_, instObj 233 _) :: (_, dictOf [{ hash := PyData.keyHash w.params (Str.ofString "_headers"), key := Value.str (Str.ofString "_headers") _, val := Value.ref _ }] 1) :: (L + 1, cell) :: ([(239, tabObj #[])] ++ tupL [])), p ∈ _) p hp)
  clear kN
  refine list_J (lo := listOf (List.toArray ys) c) (vs := ys) (c := c) (fun i m news => ∃ hl hx dh es c2 n2 t1 tb, HdrAt w words lw ys c L cell i m news hl hx dh es c2 n2 t1 tb) rfl kF kN2 (.tail _ (.head _)) rfl rfl ?start
    (fun i m n ⟨hl, hx, dh, es, c2, n2, t1, tb, A⟩ => A.news ▸ .tail _ (.head _)) ?turn ?done
  case start =>
    refine ⟨_, _, _, [], _, _, _, _, rfl, by walk_at "m_get", by walk_at "m_get", .inl rfl, ?_, by omega, by omega, by omega, by omega, ?_, rfl⟩
    · intro p hp
      rw [List.mem_singleton.mp (show p ∈ [(239, tabObj #[])] from hp)]
      show @Ne Nat _ _
      omega
    · intro q hq
      rw [List.mem_singleton.mp hq]
      exact ⟨by show @Ne Nat _ _; omega, by show @Ne Nat _ _; omega, by show @Ne Nat _ _; omega, by show @Ne Nat _ _; omega, fun e he => nomatch he⟩
  case turn =>
    clear kF kN2
    rintro i v m₁ news₁ I io h3 tk3 hv hI ⟨hl, hx, dh, es, c2, n2, t1, tb, A⟩ off F3 N3
    have mTable := A.table
    have mWords := A.mwords
    have htb := A.tbOk
    have far := A.far
    have a1 := A.n1
    have a2 := A.n2
    have a3 := A.n3
    have a4 := A.n4
    have sep := A.sep
    have heads := A.heads
    obtain rfl := A.news
    clear A hI
    replace F3 : Fr g L h3 _ := F3
    replace N3 : News g L h3 _ := N3
    have p1 : @Ne Nat hl I := off _ (.head _)
    have p2 : @Ne Nat lw I := off _ (.tail _ (.head _))
    have p3 : @Ne Nat hx I := off _ (.tail _ (.tail _ (.head _)))
    have p4 : @Ne Nat dh I := off _ (.tail _ (.tail _ (.tail _ (.head _))))
    have p5 : @Ne Nat (L + 1) I := off _ (.tail _ (.tail _ (.tail _ (.tail _ (.head _)))))
    have p6 : ∀ q ∈ tb ++ tupL es, @Ne Nat q.1 I := fun q hq => off _ (.tail _ (.tail _ (.tail _ (.tail _ (.tail _ hq)))))
    have hi : i < words.length := by
      rw [← hyl]
      rcases Nat.lt_or_ge i ys.length with h | h
      · exact h
      · rw [List.getElem?_eq_none h] at hv; cases hv
    obtain ⟨tw, ew⟩ := StrsAre.get hys i (by rw [List.length_map]; exact hi)
    rw [hv, getD_mapS] at ew
    obtain rfl := Option.some.inj ew
    obtain ⟨hw5, hwp, σ, hσ, hT, hpn, hpv, hln, hlv⟩ := wordOk_of (hwd _ (getD_mem (d := []) hi))
    have htake : (words.take (i + 1)).map headT = (words.take i).map headT ++ [headT (words.getD i [])] := by
      rw [List.take_add_one, List.getElem?_eq_getElem hi, List.map_append, List.getD_eq_getElem?_getD, List.getElem?_eq_getElem hi]; rfl
    generalize words.getD i [] = word at *
    (repeat' (first | (k_unfold; (try dsimp only)) | ((try dsimp only); walk1) | walk1))
    show wpAny _ _ _ _ _ _
    k_dflt (refine ListComp_S (F₀ := by k_asm) (by rfl) (by decide) (by rfl) (by decide) (by rfl) ?_)
    (repeat' (first | (k_unfold; (try dsimp only)) | ((try dsimp only); walk1) | walk1))
    refine ⟨word, _, _, rfl, rfl, by with_reducible assumption, by with_reducible assumption, fun c hc => by have := hwp c hc; omega, by omega, ?_⟩
    rintro s9 ⟨g9, rfl⟩
    refine comp_str (fun j zs => StrsAre zs (((word.take j).map fun c => [92, c, 10]).map S)) .nil ?el ?fin
    case el =>
      intro j tj zs I' oI C' oC D m₂ h9 tk9 E' hj hinv hNs hx9 F9 N9 off9 ne9
      (repeat' (first | (k_unfold; (try dsimp only)) | ((try dsimp only); walk1) | walk1))
      show TurnEnd _ _ _ _ _ _ _ _ _ _ _ _ _ _
      refine TurnEnd.intro (by with_reducible assumption) (by with_reducible assumption) (fun p hp => hp) ?_
      rw [take_succ_T hj]
      exact StrsAre.append hinv (StrsAre.one _ _)
    case fin =>
      intro zs hzs D h9 tk9 F9 N9 off9
      rw [List.take_length] at hzs
      (repeat' (first | (k_unfold; (try dsimp only)) | ((try dsimp only); walk1) | walk1))
      show wpAny _ _ _ _ _ _
      refine join_L (sep := []) 3 (News.isList N9 (.head _)) hzs ?jb ?js ?_
      case jb =>
        intro x hx
        obtain ⟨c, hc, rfl⟩ := List.mem_map.mp hx
        exact Nat.le_refl _
      case js => rw [List.length_map]; simp only [List.length_nil]; omega
      intro t9 tk9'
      rw [show joinT [] (word.map fun c => [92, c, 10]) = lined word from rfl]
      (repeat' (first | (k_unfold; (try dsimp only)) | ((try dsimp only); walk1) | walk1))
      show wpAny _ _ _ _ _ _
      rename News _ _ _ _ => kN
      rename Fr _ _ _ _ => kF
      refine call_at (own := tb) (rest := (I, io) :: (hl, listOf (List.toArray (heRefs es)) c2) :: (lw, listOf (List.toArray ys) c) :: (hx, instObj 233 dh) :: (dh, dictOf [{ hash := PyData.keyHash w.params (Str.ofString "_headers"), key := Value.str (Str.ofString "_headers") t1, val := Value.ref hl }] n2) :: (L + 1, cell) :: tupL es) Si kF kN
        (fun p hp => .tail _ (.tail _ (.tail _ (.tail _ (.tail _ (.tail _ (.tail _ (List.mem_append_left _ hp)))))))) (fun p hp => .tail _ (sub6 p hp)) ?hd rfl rfl ?_
      case hd =>
        intro p hp q hq
        obtain ⟨s1, s2, s3, s4, s5⟩ := sep q hq
        rcases List.mem_cons.mp hp with rfl | hp
        · exact (p6 q (List.mem_append_left _ hq)).symm
        rcases List.mem_cons.mp hp with rfl | hp
        · exact (far q (List.mem_append_left _ hq)).symm
        rcases List.mem_cons.mp hp with rfl | hp
        · exact s1.symm
        rcases List.mem_cons.mp hp with rfl | hp
        · exact s2.symm
        rcases List.mem_cons.mp hp with rfl | hp
        · exact s3.symm
        rcases List.mem_cons.mp hp with rfl | hp
        · exact s4.symm
        · obtain ⟨e, he, rfl⟩ := List.mem_map.mp hp
          exact s5 e he
      intro g4 S4 K4 O4 G4 P4 back
      refine lexer_any S4 K4 O4 htb (C.keeps G4) (by omega) (by omega) (by rw [lined_len]; omega) ?_
      intro h5 tk5 z tb5 tl5 ys5 n5 k5 o5 T5 ok5 sp5 st5
      obtain ⟨F5, N5, E5⟩ := back _ _ k5 o5
      clear kN kF
      (repeat' (first | (k_unfold; (try dsimp only)) | ((try dsimp only); walk1) | walk1))
      show wpAny _ _ _ _ _ _
      rename News _ _ _ _ => kN
      rename Fr _ _ _ _ => kF
      have ht5 := text_of word st5
      have hy5 : ys5.length = 3 * word.length := by rw [strsAre_length st5, List.length_map, List.length_map, lined_len]
      refine call_at (own := lexObjs w z 1 tl5 ys5 n5 [] 0) (rest := tb5 ++ ((I, io) :: (hl, listOf (List.toArray (heRefs es)) c2) :: (lw, listOf (List.toArray ys) c) :: (hx, instObj 233 dh) :: (dh, dictOf [{ hash := PyData.keyHash w.params (Str.ofString "_headers"), key := Value.str (Str.ofString "_headers") t1, val := Value.ref hl }] n2) :: (L + 1, cell) :: tupL es)) Si kF kN
        (fun p hp => List.mem_append_left _ (List.mem_append_left _ hp)) ?hr2 ?hd2 rfl rfl ?_
      case hr2 =>
        intro p hp
        rcases List.mem_append.mp hp with hp | hp
        · exact List.mem_append_left _ (List.mem_append_right _ hp)
        · exact List.mem_append_right _ hp
      case hd2 =>
        intro p hp q hq
        rcases List.mem_append.mp hp with hp | hp
        · exact sp5 p hp q hq
        · exact (E5 q (List.mem_append_left _ hq) p hp).symm
      intro g6 S6 K6 O6 G6 P6 back6
      refine tables_walk ok5 S6 K6 O6 (code_of T5 (fun p hp => P6 _ _ (kN p (List.mem_append_left _ (List.mem_append_right _ hp))).1 (fun q hq => sp5 p hp q hq))) (by omega) (by omega) ht5 (by omega) hσ ?_
      intro h7 tk7 D7 t71 t72 k7 o7
      obtain ⟨F7, N7, E7⟩ := back6 _ _ k7 o7
      have u1 : @Ne Nat D7 hl := E7 _ (.head _) _ (List.mem_append_right _ (.tail _ (.head _)))
      have u2 : @Ne Nat D7 I := E7 _ (.head _) _ (List.mem_append_right _ (.head _))
      have far5 : ∀ p ∈ tb5 ++ tupL es, @Ne Nat p.1 hl := fun p hp => by
        rcases List.mem_append.mp hp with hp | hp
        · exact E5 p (List.mem_append_right _ hp) _ (.tail _ (.head _))
        · exact far p (List.mem_append_right _ hp)
      have N8 : News g L h7 ((D7, { cls := .type "tuple", data := .seq #[.str (S (nameOf σ)) t71, .str (S (valOf σ)) t72] }) :: (I, io) :: (hl, listOf (List.toArray (heRefs es)) c2) :: (lw, listOf (List.toArray ys) c) :: (hx, instObj 233 dh) :: (dh, dictOf [{ hash := PyData.keyHash w.params (Str.ofString "_headers"), key := Value.str (Str.ofString "_headers") t1, val := Value.ref hl }] n2) :: (L + 1, cell) :: (tb5 ++ tupL es)) := fun p hp => N7 p (by
        rcases List.mem_cons.mp hp with rfl | hp
        · exact .head _
        refine List.mem_append_right [_] ?_
        rcases List.mem_cons.mp hp with rfl | hp
        · exact List.mem_append_right _ (.head _)
        rcases List.mem_cons.mp hp with rfl | hp
        · exact List.mem_append_right _ (.tail _ (.head _))
        rcases List.mem_cons.mp hp with rfl | hp
        · exact List.mem_append_right _ (.tail _ (.tail _ (.head _)))
        rcases List.mem_cons.mp hp with rfl | hp
        · exact List.mem_append_right _ (.tail _ (.tail _ (.tail _ (.head _))))
        rcases List.mem_cons.mp hp with rfl | hp
        · exact List.mem_append_right _ (.tail _ (.tail _ (.tail _ (.tail _ (.head _)))))
        rcases List.mem_cons.mp hp with rfl | hp
        · exact List.mem_append_right _ (.tail _ (.tail _ (.tail _ (.tail _ (.tail _ (.head _))))))
        rcases List.mem_append.mp hp with hp | hp
        · exact List.mem_append_left _ hp
        · exact List.mem_append_right _ (.tail _ (.tail _ (.tail _ (.tail _ (.tail _ (.tail _ hp)))))))
      have isD : ∀ q ∈ tb5, @Ne Nat q.1 lw ∧ @Ne Nat q.1 hx ∧ @Ne Nat q.1 dh ∧ @Ne Nat q.1 (L + 1) ∧ ∀ e ∈ es, @Ne Nat e.1 q.1 := fun q hq =>
        ⟨E5 q (List.mem_append_right _ hq) _ (.tail _ (.tail _ (.head _))), E5 q (List.mem_append_right _ hq) _ (.tail _ (.tail _ (.tail _ (.head _)))), E5 q (List.mem_append_right _ hq) _ (.tail _ (.tail _ (.tail _ (.tail _ (.head _))))),
          E5 q (List.mem_append_right _ hq) _ (.tail _ (.tail _ (.tail _ (.tail _ (.tail _ (.head _)))))), fun e he => (E5 q (List.mem_append_right _ hq) (e.1, tupO e) (.tail _ (.tail _ (.tail _ (.tail _ (.tail _ (.tail _ (List.mem_map.mpr ⟨e, he, rfl⟩)))))))).symm⟩
      have offI : ∀ q ∈ tb5, @Ne Nat q.1 I := fun q hq => E5 q (List.mem_append_right _ hq) _ (.head _)
      have tabOk5 : TabOk tb5 := .inr ⟨_, T5⟩
      clear kN kF N7
      (repeat' (first | (k_unfold; (try dsimp only)) | ((try dsimp only); walk1) | walk1))
      show wpAny _ _ _ _ _ _
      rename News _ _ _ _ => kN
      k_dflt (refine join_L (sep := [59, 32]) (xs := [valOf σ]) 1000 (News.isList kN (by k_mem)) (StrsAre.one _ _) ?jb2 ?js2 ?_)
      case jb2 => intro x hx; rw [List.mem_singleton.mp hx]; omega
      case js2 => simp only [List.length_cons, List.length_nil]; omega
      intro t10 tk10
      rw [show joinT [59, 32] [valOf σ] = valOf σ from rfl]
      (repeat' (first | (k_unfold; (try dsimp only)) | ((try dsimp only); walk1) | walk1))
      show wpAny _ _ _ _ _ _
      rename News _ _ _ _ => kN
      rename Fr _ _ _ _ => kF
      have hel : (heRefs es).length ≤ 5000 := by
        have := congrArg List.length heads
        simp only [List.length_map, List.length_take] at this
        unfold heRefs; rw [List.length_map]; omega
      have far6 : ∀ p ∈ (lw, listOf (List.toArray ys) c) :: (hx, instObj 233 dh) :: (dh, dictOf [{ hash := PyData.keyHash w.params (Str.ofString "_headers"), key := Value.str (Str.ofString "_headers") t1, val := Value.ref hl }] n2) :: (L + 1, cell) :: (tb5 ++ tupL es), @Ne Nat p.1 hl :=
        List.forall_mem_cons.mpr ⟨a1, List.forall_mem_cons.mpr ⟨a2, List.forall_mem_cons.mpr ⟨a3, List.forall_mem_cons.mpr ⟨a4, far5⟩⟩⟩⟩
      refine hdr_push (x1 := (_, _)) (x2 := (_, _)) kF (fun p hp => kN p (by
        rcases List.mem_cons.mp hp with h | hp
        · exact h ▸ .head _
        · exact .tail _ (.tail _ (.tail _ (.tail _ (.tail _ hp)))))) (by omega) p1.symm far6 hel ?_
      intro h11 F11 N11
      clear kN kF
      (repeat' (first | (k_unfold; (try dsimp only)) | ((try dsimp only); walk1) | walk1))
      show TEnd g L _ _ _ _ _ _ _
      rename News _ _ _ _ => kN
      refine TEnd.next (by with_reducible assumption) (hdr_end kN) _ (.head _) (fun p hp => .tail _ hp) ?off12 ⟨hl, hx, dh, es ++ [_], _, _, _, tb5, ⟨rfl, by walk_at "m_get", by walk_at "m_get", tabOk5, off_more far5 (by omega), a1, a2, a3, a4, fun q hq => ⟨(isD q hq).1, (isD q hq).2.1, (isD q hq).2.2.1, (isD q hq).2.2.2.1, sep_more (by walk_at "m_ltx") hq (isD q hq).2.2.2.2⟩, ?_⟩⟩
      case off12 =>
        exact List.forall_mem_cons.mpr ⟨p1, List.forall_mem_cons.mpr ⟨p2, List.forall_mem_cons.mpr ⟨p3, List.forall_mem_cons.mpr ⟨p4, List.forall_mem_cons.mpr ⟨p5, off_more (fun p hp => by
          rcases List.mem_append.mp hp with hp | hp
          · exact offI p hp
          · exact p6 p (List.mem_append_right _ hp)) (by omega)⟩⟩⟩⟩⟩
      rw [List.map_append, heads, htake, hT]; rfl
  case done =>
    clear kF kN2
    rintro m₁ news₁ h3 tk3 ⟨hl, hx, dh, es, c2, n2, t1, tb, A⟩ F3 N3
    replace F3 : Fr g L h3 m₁ := F3
    replace N3 : News g L h3 _ := N3
    have mTable := A.table
    have mWords := A.mwords
    (repeat' (first | (k_unfold; (try dsimp only)) | ((try dsimp only); walk1) | walk1))
    rw [hyl] at A
    exact next _ _ _ _ hl hx dh es c2 n2 t1 tb A (by with_reducible assumption) N3
end Mine
end
section
open PySem PySem.W PyProof.Rows PySem.Calls PySem.Spec
set_option maxRecDepth 100000
namespace Mine
theorem orStandIn_led (t : SetTable) (n : Nat) : (t.orStandIn n).led = t.led := by
  unfold SetTable.orStandIn
  split <;> rfl
theorem layNew_led (t : SetTable) (es : Array (Int × Value)) (h : Int) (x : Value) : (layNew t es h x).2.1.led = t.led := by
  unfold layNew
  split
  · dsimp only
    rw [orStandIn_led]; rfl
  · rfl
theorem relaid_led {t t' : SetTable} {hs : Array Int} {n : Nat} {o : Array Nat} (h : t.relaid hs n = some (t', o)) : t'.led = t.led := by
  unfold SetTable.relaid SetTable.laid at h
  cases e : SetTable.layClean (SetTable.sizeAbove n - 1) hs with
  | none => rw [e] at h; cases h
  | some a =>
    rw [e] at h
    have := congrArg (fun x => x.map fun y => y.1.led) h
    simpa using this.symm
theorem relayAll_led (t : SetTable) (es : Array (Int × Value)) (n : Nat) : (relayAll t es n).2.1.led = t.led := by
  unfold relayAll
  split
  · rename_i t' o e
    dsimp only
    split
    · exact relaid_led e
    · rfl
  · rfl
theorem relayAll_plain {t : SetTable} {es : Array (Int × Value)} {n : Nat} (h : t.plain = false) : (relayAll t es n).2.1.plain = false := by
  unfold relayAll
  split
  · rename_i t' o e
    dsimp only
    split
    · unfold SetTable.relaid SetTable.laid at e
      cases e2 : SetTable.layClean (SetTable.sizeAbove n - 1) (es.map (·.1)) with
      | none => rw [e2] at e; cases e
      | some a =>
        rw [e2] at e
        have := congrArg (fun x => x.map fun y => y.1.plain) e
        have h2 : t.plain = t'.plain := by simpa using this
        show t'.plain = false
        rw [← h2]; exact h
    · rfl
  · rfl
section
variable {prog : Program} {w : World} {A : Around} {E : Value → Shared → Prop} {s : Shared}
/-- a set of texts; who made its table is kept -/
def SetL (prog : Program) (w : World) (h : Heap) (a : Addr) (Sm : Str → Bool) (n : Nat) (led : Bool) : Prop :=
  ∃ o es ep t, h.get? a = some o ∧ o.ExactSet ∧ o.data = .set es ep t ∧ ElemsOf (PySem.strKind prog w) es.toList ∧ (∀ k, Sm k = true ↔ ∃ e ∈ es.toList, (PySem.strKind prog w).is k e.2 = true) ∧ es.size < scanBound ∧ t.fits es.size = true ∧ es.size = n ∧ t.led = led ∧ (0 < n → t.plain = false)
theorem setL_store {h : Heap} {a : Addr} {o : Obj} {es es' : Array (Int × Value)} {ep : Nat} {t t' : SetTable} {Sm : Str → Bool} {led : Bool} (ho : h.get? a = some o) (hex : o.ExactSet) (hd : o.data = .set es ep t)
    (hel : ElemsOf (PySem.strKind prog w) es'.toList) (hmem : ∀ k, Sm k = true ↔ ∃ e ∈ es'.toList, (PySem.strKind prog w).is k e.2 = true) (hb : es'.size < scanBound) (hf : t'.fits es'.size = true) (hled : t'.led = led) (hpl : t'.plain = false) :
    (h.update a (Obj.putSet es' t')).get? a = some { o with data := .set es' (ep + 1) t' } ∧ SetL prog w (h.update a (Obj.putSet es' t')) a Sm es'.size led := by
  obtain ⟨hg, _⟩ := SetOf_store (knd := PySem.strKind prog w) ho hex hd hel hmem hb hf
  exact ⟨hg, _, es', ep + 1, t', hg, hex, rfl, hel, hmem, hb, hf, rfl, hled, fun _ => hpl⟩
theorem setAdd_L {a : Addr} {Sm : Str → Bool} {n : Nat} {led : Bool} {x : Str} {tx : Tok} {Q : Bool → Shared → Prop} (hS : SetL prog w s.heap a Sm n led) (hroom : n + 1 < scanBound)
    (h : ∀ b h', Heap.SameBut a s.heap h' → SetL prog w h' a (fun k => Sm k || decide (k = x)) (if Sm x then n else n + 1) led → Q b { s with heap := h', toks := s.toks + 1 }) :
    wpAny (model prog w) A (setAdd a (.str x tx)) Q E s := by
  unfold setAdd
  refine wpAny_holding (wpAny_bind ((PySem.strKind prog w).pyHash (k := x) (PySem.strKind_is _ _ _ _) ?_))
  obtain ⟨o, es, ep, t, ho, hex, hd, hel, hmem, hb, hf, hn, hled, hpl⟩ := hS
  unfold setAddHashed setAddHashedIn
  refine wpAny_holding (wpAny_bind (wpAny_setState_of (s := { s with toks := s.toks + 1 }) ho hd hf ?_))
  dsimp only
  rw [byScan_of rfl hb hel, if_pos rfl]
  refine wpAny_bind ?_
  unfold setAddByScan
  refine wpAny_bind (wpAny_rule ?_)
  refine wpAny_bind (wpAny_setScan_of (s := { s with toks := s.toks + 1 }) (PySem.strKind_is _ _ _ _) ho hd hf hel ?_)
  cases hr : List.findIdx? (fun e => (PySem.strKind prog w).is x e.2) es.toList with
  | some j =>
    dsimp only
    obtain ⟨hj, hpj, _⟩ := List.findIdx?_eq_some_iff_getElem.mp hr
    have hx : Sm x = true := (hmem x).mpr ⟨_, List.getElem_mem hj, hpj⟩
    refine wpAny_pure (wpAny_pure ?_)
    refine h _ s.heap (Heap.SameBut.refl a s.heap) ?_
    rw [hx, if_pos rfl]
    refine ⟨o, es, ep, t, ho, hex, hd, hel, fun k => ?_, hb, hf, hn, hled, hpl⟩
    rw [← hmem k, Bool.or_eq_true, decide_eq_true_eq]
    exact ⟨fun q => q.elim id fun e => e ▸ hx, .inl⟩
  | none =>
    dsimp only
    have hx : Sm x = false := by
      cases q : Sm x with
      | false => rfl
      | true =>
        obtain ⟨e, he, hp⟩ := (hmem x).mp q
        rw [List.findIdx?_eq_none_iff.mp hr e he] at hp; cases hp
    have hperm := layNew_perm t es ((PySem.strKind prog w).hash x) (.str x tx)
    have hfit := layNew_fits t es ((PySem.strKind prog w).hash x) (.str x tx)
    have hl := layNew_led t es ((PySem.strKind prog w).hash x) (.str x tx)
    generalize layNew t es ((PySem.strKind prog w).hash x) (.str x tx) = nw at hperm hfit hl ⊢
    obtain ⟨es1, t1, dm, gv⟩ := nw
    dsimp only at hperm hfit hl ⊢
    rw [Array.toList_push] at hperm
    have hel1 : ElemsOf (PySem.strKind prog w) es1.toList := (hel.push (PySem.strKind_is _ _ _ _) rfl).perm hperm
    have hmem1 := mem_push_iff (knd := PySem.strKind prog w) (PySem.strKind_is _ _ x tx) hmem hperm
    have hsz : es1.size = n + 1 := by rw [← Array.length_toList, hperm.length_eq, List.length_append, Array.length_toList, hn]; rfl
    have hb1 : es1.size < scanBound := by rw [hsz]; exact hroom
    have pass : ∀ (b : Bool) {s₁ : Shared} {Q' : Unit → Shared → Prop}, Q' () s₁ → wpAny (model prog w) A (match b with | true => rule "set.scan.the-table-gave-way" | false => pure ()) Q' E s₁ := fun b s₁ Q' q => by
      cases b
      · exact wpAny_pure q
      · exact wpAny_rule q
    refine wpAny_bind (pass _ ?_)
    have fin : ∀ b h', Heap.SameBut a s.heap h' → SetL prog w h' a (fun k => Sm k || decide (k = x)) es1.size led → Q b { s with heap := h', toks := s.toks + 1 } := fun b h' sb q => h b h' sb (by rw [hx, if_neg Bool.false_ne_true, ← hsz]; exact q)
    have tail : ∀ t2 : SetTable, t2.fits es1.size = true → t2.led = led → t2.plain = false → wpAny (model prog w) A (do
        storeSet a es1 t2
        if (!dm && t2.tooFull) = true then do
            (match (relayAll t2 es1 (SetTable.grown es1.size)).2.2 with | true => rule "set.scan.the-table-gave-way" | false => pure ())
            storeSet a (relayAll t2 es1 (SetTable.grown es1.size)).1 (relayAll t2 es1 (SetTable.grown es1.size)).2.1
            pure (some true)
          else pure (some true)) (fun r s' => ∃ h', r = some true ∧ s' = { s with heap := h', toks := s.toks + 1 } ∧ Heap.SameBut a s.heap h' ∧ SetL prog w h' a (fun k => Sm k || decide (k = x)) es1.size led) E { s with toks := s.toks + 1 } := by
      intro t2 hf2 hl2 hp2
      refine wpAny_bind (wpAny_storeSet_of (s := { s with toks := s.toks + 1 }) ho hd ?_ (fits_of_scanBound hb1))
      obtain ⟨ho1, hS1⟩ := setL_store (prog := prog) (w := w) ho hex hd hel1 hmem1 hb1 hf2 hl2 hp2
      have sb1 := Heap.SameBut.update s.heap a (Obj.putSet es1 t2)
      split
      · have hp := relayAll_perm t2 es1 (SetTable.grown es1.size)
        have hfr := relayAll_fits t2 es1 (SetTable.grown es1.size)
        have hlr := relayAll_led t2 es1 (SetTable.grown es1.size)
        have hpr := relayAll_plain (es := es1) (n := SetTable.grown es1.size) hp2
        generalize relayAll t2 es1 (SetTable.grown es1.size) = rl at hp hfr hlr hpr ⊢
        obtain ⟨es2, t3, gv2⟩ := rl
        dsimp only at hp hfr hlr hpr ⊢
        have hsz2 : es2.size = es1.size := by rw [← Array.length_toList, hp.length_eq, Array.length_toList]
        refine wpAny_bind (pass _ ?_)
        refine wpAny_bind (wpAny_storeSet_of ho1 rfl ?_ (fits_of_scanBound (by rw [hsz2]; exact hb1)))
        obtain ⟨_, hS2⟩ := setL_store (prog := prog) (w := w) ho1 hex rfl (hel1.perm hp) (fun k => (hmem1 k).trans ⟨fun ⟨e, he, q⟩ => ⟨e, hp.mem_iff.mpr he, q⟩, fun ⟨e, he, q⟩ => ⟨e, hp.mem_iff.mp he, q⟩⟩) (by rw [hsz2]; exact hb1) hfr (hlr.trans hl2) hpr
        rw [hsz2] at hS2
        exact wpAny_pure ⟨_, rfl, rfl, sb1.trans (Heap.SameBut.update _ a _), hS2⟩
      · exact wpAny_pure ⟨_, rfl, rfl, sb1, hS1⟩
    split
    · refine wpAny_bind ?_
      rw [hashByValue_scannable 8 rfl]
      refine wpAny_pure ?_
      refine wpAny_mono (tail _ ?_ ?_ rfl) (fun r s' q => ?_) fun _ _ e => e
      · split
        · exact hfit
        · exact SetTable.fits_plain_off hfit
      · split
        · exact hl.trans hled
        · exact hl.trans hled
      · obtain ⟨h', rfl, rfl, sb, q⟩ := q
        exact wpAny_pure (fin _ h' sb q)
    · rename_i hpn
      refine wpAny_bind (wpAny_pure ?_)
      simp only [if_true]
      refine wpAny_mono (tail _ hfit (hl.trans hled) (by simpa using hpn)) (fun r s' q => ?_) fun _ _ e => e
      obtain ⟨h', rfl, rfl, sb, q⟩ := q
      exact wpAny_pure (fin _ h' sb q)
end
def met (x : T) : Nat → T
  | 0 => []
  | i + 1 => if x.getD i 0 ∈ met x i then met x i else met x i ++ [x.getD i 0]
theorem met_len (x : T) : ∀ i, (met x i).length ≤ i
  | 0 => Nat.le_refl _
  | i + 1 => by
    have := met_len x i
    unfold met
    split
    · omega
    · simp only [List.length_append, List.length_cons, List.length_nil]; omega
def metS (x : T) (i : Nat) (k : Str) : Bool := (met x i).any fun c => S [c] == k
theorem S_one_inj {a b : Nat} (h : S [a] = S [b]) : a = b := by
  have := S_inj h
  simpa using this
theorem metS_mem {x : T} {i : Nat} {c : Nat} : metS x i (S [c]) = true ↔ c ∈ met x i := by
  unfold metS
  rw [List.any_eq_true]
  constructor
  · rintro ⟨d, hd, e⟩
    rw [← S_one_inj (eq_of_beq e)]; exact hd
  · intro h
    exact ⟨c, h, beq_self_eq_true _⟩
theorem metS_succ (x : T) (i : Nat) (k : Str) : metS x (i + 1) k = (metS x i k || decide (k = S [x.getD i 0])) := by
  rw [Bool.eq_iff_iff]
  unfold metS
  rw [met]
  split
  · rename_i h
    rw [Bool.or_eq_true, decide_eq_true_eq]
    refine ⟨.inl, fun q => q.elim id fun e => ?_⟩
    rw [e]; exact List.any_eq_true.mpr ⟨_, h, beq_self_eq_true _⟩
  · rw [List.any_append, Bool.or_eq_true, Bool.or_eq_true, decide_eq_true_eq]
    simp only [List.any_cons, List.any_nil, Bool.or_false, beq_iff_eq]
    exact ⟨fun q => q.elim .inl fun e => .inr e.symm, fun q => q.elim .inl fun e => .inr e.symm⟩
theorem met_count (x : T) (i : Nat) : (met x (i + 1)).length = if metS x i (S [x.getD i 0]) then (met x i).length else (met x i).length + 1 := by
  by_cases h : x.getD i 0 ∈ met x i
  · rw [met, if_pos h, if_pos (metS_mem.mpr h)]
  · rw [met, if_neg h, if_neg (fun q => h (metS_mem.mp q))]; simp
section
variable {prog : Program} {w : World} {A : Around} {R : Result → Shared → Prop} {I : Addr} {fp wr : List Addr} {St : Nat → Heap → Prop}
theorem SetL.congr {h : Heap} {a : Addr} {S1 S2 : Str → Bool} {n1 n2 : Nat} {led : Bool} (x : SetL prog w h a S1 n1 led) (e : ∀ k, S1 k = S2 k) (en : n1 = n2) : SetL prog w h a S2 n2 led := by
  obtain rfl := funext e
  subst en; exact x
theorem SetL.at {h h' : Heap} {a : Addr} {S1 : Str → Bool} {n1 : Nat} {led : Bool} (x : SetL prog w h a S1 n1 led) (e : ∀ o, h.get? a = some o → h'.get? a = some o) : SetL prog w h' a S1 n1 led := by
  obtain ⟨o, es, ep, t, ho, r⟩ := x
  exact ⟨o, es, ep, t, e _ ho, r⟩
theorem set_loop {y : T} (W : Walks prog w A.in1 I fp wr y.length (SignAt (S y)) St) (D : Addr) (hD : D ∉ fp) (led : Bool) (hb : y.length + 1 < scanBound) :
    ∀ (k i : Nat) (s : Shared), i + k = y.length → St i s.heap → SetL prog w s.heap D (metS y i) (met y i).length led →
      (∀ h' tk, (∀ b o, b ∉ D :: wr → s.heap.get? b = some o → h'.get? b = some o) → SetL prog w h' D (metS y y.length) (met y y.length).length led → R (.ok (.ret .none)) { s with heap := h', toks := tk }) →
      codeAny (model prog w) A (.builtin "set.update.loop" ⟨[.ref D, .ref I], []⟩) R s := by
  have hDw : D ∉ wr := fun h => hD (W.sub _ h)
  intro k
  induction k with
  | zero =>
    intro i s hi hst hS hR
    obtain rfl : i = y.length := by omega
    refine codeAny_builtin F.entry_set_update_loop ?_
    rw [Around.under_plainId F.plain_set_update_loop _]
    show wpAny _ A.in1 (pyNext (.ref I) >>= _) _ _ s
    refine wpAny_bind (W.done s _ _ hst fun h' tk hk => ?_)
    show wpAny _ A.in1 (ret Value.none) _ _ _
    exact wpAny_pure (hR h' tk (fun b o hb e => hk b o (fun q => hb (.tail _ q)) e) (hS.at fun o e => hk D o hDw e))
  | succ k ih =>
    intro i s hi hst hS hR
    refine codeAny_builtin F.entry_set_update_loop ?_
    rw [Around.under_plainId F.plain_set_update_loop _]
    show wpAny _ A.in1 (pyNext (.ref I) >>= _) _ _ s
    refine wpAny_bind (W.item i s _ _ (by omega) hst fun v h₁ tk₁ hP hst₁ hk₁ => ?_)
    obtain ⟨c, u, hc, rfl⟩ := hP
    have ec : c = y.getD i 0 := by
      have hc' : (List.toArray y)[i]? = some c := hc
      rw [List.getElem?_toArray] at hc'
      rw [List.getD_eq_getElem?_getD, hc']; rfl
    subst ec
    have hS1 : SetL prog w h₁ D (metS y i) (met y i).length led := hS.at fun o e => hk₁ D o hDw e
    show wpAny _ A.in1 (holding [Value.str (S [y.getD i 0]) u] (setAdd D (.str (S [y.getD i 0]) u)) >>= _) _ _ _
    refine wpAny_bind (wpAny_holding (setAdd_L hS1 (by have := met_len y i; omega) fun b h₂ sb hS2 => ?_))
    have hS3 : SetL prog w h₂ D (metS y (i + 1)) (met y (i + 1)).length led := hS2.congr (fun k => (metS_succ y i k).symm) (met_count y i).symm
    refine wpAny_pure ⟨plainId_quiet F.plain_set_update_loop _, ih (i + 1) _ (by omega) (W.frame _ _ _ hst₁ fun b hb o e => (sb.2 b (fun q => hD (q ▸ hb))).trans e) hS3 fun h' tk hk hS' => hR h' tk (fun b o hb e => hk b o hb ((sb.2 b (fun q => hb (q ▸ .head _))).trans (hk₁ b o (fun q => hb (.tail _ q)) e))) hS'⟩
end
end Mine
end
section
open PySem PySem.W PyProof.Rows PySem.Calls PySem.Spec
set_option maxRecDepth 100000
namespace Mine
section
variable {prog : Program} {w : World} {A : Around} {E : Value → Shared → Prop} {s : Shared}
abbrev freshSet (led : Bool) : Obj := { cls := .type "set", dict := none, data := .set #[] 0 (.fresh 0 0 led) }
abbrev byText (w : World) : Bool := w.params.followText "set-order"
theorem set_made (a : Value) {Q₁ : Value → Shared → Prop} (h : Q₁ (.ref s.heap.objs.size) { s with heap := s.heap.push (freshSet (!byText w)) }) :
    codeAny (model prog w) A (.call (.builtin "set.__new__") ⟨[.type "set", a], []⟩) (wants Q₁ E) s := by
  refine codeAny_of_tree ?_
  show wpAny _ A.in1 (do checkBuiltinCall "set.__new__" ⟨[.type "set", a], []⟩; again (.builtin "set.__new__" ⟨[.type "set", a], []⟩)) _ _ s
  refine wpAny_bind (wpAny_of_eq (PySem.F.newCall_set_1 a) (wpAny_pure ⟨plainId_quiet F.plain_set_new _, codeAny_builtin F.entry_set_new ?_⟩))
  rw [Around.under_plainId F.plain_set_new _]
  unfold Builtin.«set.__new__» Builtin.Frozenset.newClass
  have hsub := sub_set_self
  obtain ⟨hp, g, d, tk, os⟩ := s
  dsimp only
  wp_walk
  refine wpAny_askSetting (wpAny_pure ?_)
  dsimp only
  simp only [newObj]
  refine wpAny_bind (wpAny_alloc (wpAny_pure ?_))
  exact wpAny_pure h
set_option maxHeartbeats 3200000 in
theorem call_set_str {y : T} {tx : Tok} {Q : Value → Shared → Prop} (hh : A.handled = none) (ha : ∀ c ∈ y, c < 128) (hb : y.length ≤ 1000)
    (h : ∀ (h' : Heap) (tk : Nat), SetL prog w h' s.heap.objs.size (metS y y.length) (met y y.length).length (!byText w) → (∀ b o, b < s.heap.objs.size → s.heap.get? b = some o → h'.get? b = some o) → Q (.ref s.heap.objs.size) { s with heap := h', toks := tk }) :
    wpAny (model prog w) A (call (.type "set") [.str (S y) tx]) Q E s := by
  obtain ⟨c, tl, hmro⟩ := F.called_set.mro
  have hmade := F.called_set.made
  have hsub := F.called_set.sub
  refine wpAny_call (codeAny_of_tree ?_)
  show wpAny _ _ (callAny (.type "set") _) _ _ _
  refine wpAny_pure ⟨Code.quiet_builtin _ (by decide +kernel), codeAny_builtin F.entry_type_call ?_⟩
  rw [Around.under_plain (weight_type_call_type "set" [.str (S y) tx] []) rfl]
  have h1 := F.called_set.notType
  have h2 := F.called_set.canCreate
  have hct := PySem.F.typeCall_set_1 (.str (S y) tx)
  repeat (any_goals (first | assumption | wp_step))
  refine codeAny_mono (set_made (.str (S y) tx) (E := E) (Q₁ := fun obj s₁ => obj = .ref s.heap.objs.size ∧ s₁ = { s with heap := s.heap.push (freshSet (!byText w)) }) ⟨rfl, rfl⟩) fun r s₁ hr => ?_
  cases r with
  | error e => exact hr
  | ok fl =>
    cases fl with
    | ret obj =>
      obtain ⟨rfl, rfl⟩ := hr
      have hS : (s.heap.push (freshSet (!byText w))).get? s.heap.objs.size = some (freshSet (!byText w)) := Heap.get?_push_size _ rfl
      have hT : Shared.TypeIs { s with heap := s.heap.push (freshSet (!byText w)) } (.ref s.heap.objs.size) "set" := ⟨_, hS, rfl⟩
      have hli := F.called_set.init.lookup
      have hbi := F.called_set.init.bind (.ref s.heap.objs.size)
      repeat (any_goals (first | assumption | wp_step))
      refine codeAny_mono (codeAny_call_builtin (R := wants (fun r s₂ => r = .none ∧ ∃ h' tk, s₂ = { s with heap := h', toks := tk } ∧ SetL prog w h' s.heap.objs.size (metS y y.length) (met y y.length).length (!byText w) ∧
          (∀ b o, b < s.heap.objs.size → s.heap.get? b = some o → h'.get? b = some o)) E) F.called_set.init.plain F.entry_set_init (check_set_init_1 hT ?_)) fun r₂ s₂ hr₂ => ?_
      · have hsls := F.sub_str_set
        have hslf := F.sub_str_frozenset
        have hne : (Value.type "str" == Value.type "dict") = false := by decide
        unfold Builtin.«set.__init__» noKeywords Builtin.Frozenset.updateFrom
        generalize hPI : pyIter = PI
        wp_walk
        subst hPI
        refine wpAny_pyIter_ascii (ascii_all ha) ?_
        refine wpAny_bind (wpAny_runValue ?_)
        have hh3 : A.in1.in1.in1.handled = none := by simp [hh]
        have hn : (S y).cps.size = y.length := rfl
        have W := Walks.strAscii (prog := prog) (w := w) hh3 (s.heap.push (freshSet (!byText w))).objs.size (S y) tx
        rw [hn] at W
        refine set_loop W s.heap.objs.size (by rw [Heap.size_push, List.mem_singleton]; exact Nat.ne_of_lt (Nat.lt_succ_self _)) (!byText w) (by unfold scanBound; omega) y.length 0 _ (Nat.zero_add _) ⟨_, Heap.get?_push_size _ rfl, rfl, rfl⟩
          ⟨_, #[], 0, _, Heap.get?_push_of_some _ hS, ⟨rfl, rfl, rfl⟩, rfl, fun e he => by simp at he, fun k => by simp [metS, Mine.met], by unfold scanBound; decide, rfl, rfl, rfl, fun h => absurd h (Nat.lt_irrefl _)⟩ fun h' tk hk hS' => ?_
        show wpAny _ _ _ _ _ _
        refine wpAny_pure ?_
        show wpAny _ _ (ret Value.none) _ _ _
        refine wpAny_pure ⟨rfl, h', tk, rfl, hS', fun b o hb e => ?_⟩
        refine hk b o (fun q => ?_) (Heap.get?_push_of_some _ (Heap.get?_push_of_some _ e))
        rcases List.mem_cons.mp q with q | q
        · exact absurd hb (by rw [q]; exact Nat.lt_irrefl _)
        · rw [List.mem_singleton.mp q, Heap.size_push] at hb
          exact absurd hb (by omega)
      · cases r₂ with
        | error e => exact hr₂
        | ok fl₂ =>
          cases fl₂ with
          | ret r =>
            obtain ⟨rfl, h', tk, rfl, hS', hk'⟩ := hr₂
            repeat (any_goals (first | assumption | wp_step))
            exact h _ _ hS' hk'
          | _ => exact hr₂.elim
    | _ => exact hr.elim
end
end Mine
end
section
open PySem PySem.W PyProof.Rows PySem.Calls PySem.Spec
set_option maxRecDepth 100000
namespace Mine
theorem out_perm {α : Type} : ∀ {l : List α} {i : Nat} (h : i < l.length), (l[i] :: l.eraseIdx i).Perm l
  | a :: l, 0, _ => .refl _
  | a :: l, i + 1, h => by
    have hi : i < l.length := Nat.lt_of_succ_lt_succ h
    show (l[i] :: a :: l.eraseIdx i).Perm (a :: l)
    exact (List.Perm.swap a l[i] _).trans ((out_perm hi).cons a)
section
variable {M : Model} {A : Around} {E : Value → Shared → Prop}
theorem choose_any {s : Shared} {src : Source} {n : Nat} {Q : Nat → Shared → Prop} (hn : n ≠ 0) (h : ∀ i d, i < n → Q i { s with drawn := d }) : wpAny M A (choose src n) Q E s := fun Γ p _ => by
  show Sem.wp M Γ (.choose src n .pure) _ _ p s
  rw [Sem.wp_choose]
  exact ⟨hn, h _ _ (Nat.mod_lt _ (Nat.pos_of_ne_zero hn))⟩
theorem draw_any {α : Type} : ∀ (n : Nat) (xs : List α) (s : Shared) {Q : List α → Shared → Prop}, n = xs.length → (∀ ys d, ys.Perm xs → Q ys { s with drawn := d }) → wpAny M A (drawOrder n xs) Q E s
  | 0, xs, s, Q, hn, h => by
    obtain rfl : xs = [] := List.eq_nil_of_length_eq_zero hn.symm
    unfold drawOrder
    exact wpAny_pure (h [] s.drawn (.refl _))
  | n + 1, [], s, Q, hn, h => by cases hn
  | n + 1, x :: xs, s, Q, hn, h => by
    unfold drawOrder
    refine wpAny_bind (choose_any (by simp) fun i d hi => ?_)
    rw [List.getElem?_eq_getElem hi]
    dsimp only
    refine wpAny_bind (draw_any n _ _ (by rw [List.length_eraseIdx, if_pos hi]; simp only [List.length_cons] at hn ⊢; omega) fun ys d' hp => wpAny_pure ?_)
    exact h _ d' ((hp.cons _).trans (out_perm hi))
end
theorem pick_go {α : Type} (next : Nat → Nat) : ∀ (fuel k : Nat) (left : List α) (out : Array α), fuel = left.length → (pickOrder.go next fuel k left out).toList.Perm (out.toList ++ left)
  | 0, k, left, out, hn => by
    obtain rfl : left = [] := List.eq_nil_of_length_eq_zero hn.symm
    unfold pickOrder.go
    simp
  | fuel + 1, k, left, out, hn => by
    have hlt : next k % left.length < left.length := Nat.mod_lt _ (by omega)
    unfold pickOrder.go
    rw [List.getElem?_eq_getElem hlt]
    dsimp only
    refine (pick_go next fuel (k + 1) _ _ (by rw [List.length_eraseIdx, if_pos hlt]; omega)).trans ?_
    rw [Array.toList_push, List.append_assoc]
    exact List.Perm.append_left _ (out_perm hlt)
theorem pick_perm {α : Type} (next : Nat → Nat) (xs : Array α) : (pickOrder next xs).toList.Perm xs.toList := by
  have := pick_go next xs.size 0 xs.toList #[] (by simp)
  simpa [pickOrder] using this
end Mine
end
section
open PySem PySem.W PyProof.Rows PySem.Calls PySem.Spec
set_option maxRecDepth 100000
namespace Mine
theorem slot_set_iter : Slot "set" "__iter__" "set.__iter__" :=
  .of (owner := "set") (n := "__iter__") (by rw [typeLookup_type, builtinLookup_eq_fast]; kernel_rfl) (by decide +kernel) (by decide +kernel) (by decide +kernel)
    (by first | exact .inl (by decide +kernel) | exact .inr (by decide +kernel)) (by rw [isSubtype_type]; kernel_rfl)
theorem entry_set_iter : entryFor table "set.__iter__" = some Builtin.«frozenset.__iter__» :=
  entryFor_alias (id' := "frozenset.__iter__") (by kernel_rfl) rfl (by decide +kernel) (by kernel_rfl)
theorem slot_seti_next : Slot "set_iterator" "__next__" "set_iterator.__next__" :=
  .of (owner := "set_iterator") (n := "__next__") (by rw [typeLookup_type, builtinLookup_eq_fast]; kernel_rfl) (by decide +kernel) (by decide +kernel) (by decide +kernel)
    (by first | exact .inl (by decide +kernel) | exact .inr (by decide +kernel)) (by rw [isSubtype_type]; kernel_rfl)
theorem entry_seti_next : entryFor table "set_iterator.__next__" = some Builtin.«set_iterator.__next__» := entryFor_of_fast (by kernel_rfl)
theorem args_set_iter (a : Value) : argsOk "set.__iter__" ⟨[a], []⟩ := by unfold argsOk; kernel_rfl
theorem args_seti_next (a : Value) : argsOk "set_iterator.__next__" ⟨[a], []⟩ := by unfold argsOk; kernel_rfl
end Mine
end
section
open PySem PySem.W PyProof.Rows PySem.Calls PySem.Spec
set_option maxRecDepth 100000
namespace Mine
abbrev siObj (D : Addr) (first : Value) (i n ep : Nat) : Obj := { cls := .type "set_iterator", data := .fields #[first, .int i 0, .ref D, .int n 0, .int ep 0] }
def ItAt (h : Heap) (I D : Addr) (first : Value) (i n ep : Nat) : Prop := h.get? I = some (siObj D first i n ep)
section
variable {prog : Program} {w : World} {A : Around} {E : Value → Shared → Prop} {s : Shared} {I D T : Addr} {first : Value} {i n ep : Nat} {oD oT : Obj} {es : Array (Int × Value)} {t : SetTable} {Q : Option Value → Shared → Prop}
theorem next_drawn {places : Array Value} {k j : Nat} {hv : Int} {v : Value} {tk0 : Tok} (hit : ItAt s.heap I D (.ref T) i n ep) (hD : s.heap.get? D = some oD) (hd : oD.data = .set es ep t) (hf : t.fits es.size = true) (hn : es.size = n)
    (hT : s.heap.get? T = some oT) (hTd : oT.data = .seq places k) (hp : places[i]? = some (.int (j : Int) tk0)) (hj : es[j]? = some (hv, v))
    (hQ : ∀ h', ItAt h' I D (.ref T) (i + 1) n ep → Heap.SameBut I s.heap h' → Q (some v) { s with heap := h' }) : wpAny (model prog w) A (pyNext (.ref I)) Q E s := by
  have ho : s.heap.get? I = some (siObj D (.ref T) i n ep) := hit
  have hTI : s.TypeIs (.ref I) "set_iterator" := ⟨_, ho, rfl⟩
  unfold pyNext
  refine wpAny_bind (wpAny_attempt (wpAny_callSpecial?_slot (name := Str.ofString "__next__") hTI slot_seti_next
    (wpAny_call_entry slot_seti_next hTI entry_seti_next ?_ (args_seti_next _))))
  show wpAny _ _ (fieldsOf (.ref I) >>= _) _ _ s
  refine wpAny_bind (wpAny_fieldsOf ho rfl ?_)
  dsimp only
  refine wpAny_bind (m := setEntries D) ?_
  unfold setEntries
  refine wpAny_bind (wpAny_setState_of hD hd hf ?_)
  refine wpAny_pure ?_
  dsimp only
  rw [hn, if_neg (show ¬ (((n : Int) != (n : Int)) = true) by simp)]
  refine wpAny_bind (wpAny_seqItems hT hTd ?_)
  dsimp only
  rw [Int.toNat_natCast, hp]
  dsimp only
  refine wpAny_bind (m := setNextDrawn _ _ _) ?_
  unfold setNextDrawn
  refine wpAny_bind (wpAny_setState_of hD hd hf ?_)
  dsimp only
  rw [if_neg (show ¬ ((ep != ((ep : Int)).toNat) = true) by simp), Int.toNat_natCast, hj]
  refine wpAny_pure ?_
  refine wpAny_bind (wpAny_setField_rec (cls := .type "set_iterator") (vs := #[.ref T, .int i 0, .ref D, .int n 0, .int ep 0]) ho (by simp) fun g1 k1 b1 => wpAny_pure ⟨_, rfl, wpAny_pure (hQ _ ?_ b1)⟩)
  exact k1
theorem stop_tail {s : Shared} {Q : Option Value → Shared → Prop} (hh : A.handled = none) (hQ : ∀ h', (∀ b o, s.heap.get? b = some o → h'.get? b = some o) → Q none { s with heap := h' }) :
    wpAny (model prog w) A.in1 (do let e ← newExc (.type "StopIteration") []; (raiseNew e : Sem Fin)) (fun fin s' => ∃ v, fin = .done (.ret v) ∧ wpAny (model prog w) A (pure (some v)) Q E s')
      (fun e s' => wpAny (model prog w) A (do let b ← isInstance e (.type "StopIteration"); if b = true then pure none else throw e) Q E s') s := by
  refine wpAny_bind ?_
  simp only [newExc, newTuple]
  refine wpAny_bind (wpAny_newObj_type ?_ (by size_fits))
  refine wpAny_bind (m := firstArgMember _ _) (wpAny_of_eq (a := Value.none) (by first | rfl | (simp only [firstArgMember]; rfl)) ?_)
  refine wpAny_newObj_type ?_ (by size_fits)
  simp only [raiseNew]
  refine wpAny_bind (wpAny_handled ?_)
  rw [show A.in1.handled = none from hh]
  refine wpAny_bind (wpAny_pure (wpAny_throw ?_))
  refine wpAny_bind (wpAny_isInstance (T := "StopIteration") (b := true) ⟨_, Heap.get?_push_size _ rfl, rfl⟩ isSubtype_stop ?_)
  rw [if_pos rfl]
  exact wpAny_pure (hQ _ fun b o e => Heap.get?_push_of_some _ (Heap.get?_push_of_some _ e))
theorem next_drawn_end {places : Array Value} {k : Nat} (hh : A.handled = none) (hit : ItAt s.heap I D (.ref T) i n ep) (hD : s.heap.get? D = some oD) (hd : oD.data = .set es ep t) (hf : t.fits es.size = true) (hn : es.size = n)
    (hT : s.heap.get? T = some oT) (hTd : oT.data = .seq places k) (hp : places[i]? = none)
    (hQ : ∀ h', Heap.ExtBut I s.heap h' → Q none { s with heap := h' }) : wpAny (model prog w) A (pyNext (.ref I)) Q E s := by
  have ho : s.heap.get? I = some (siObj D (.ref T) i n ep) := hit
  have hTI : s.TypeIs (.ref I) "set_iterator" := ⟨_, ho, rfl⟩
  unfold pyNext
  refine wpAny_bind (wpAny_attempt (wpAny_callSpecial?_slot (name := Str.ofString "__next__") hTI slot_seti_next
    (wpAny_call_entry slot_seti_next hTI entry_seti_next ?_ (args_seti_next _))))
  show wpAny _ _ (fieldsOf (.ref I) >>= _) _ _ s
  refine wpAny_bind (wpAny_fieldsOf ho rfl ?_)
  dsimp only
  refine wpAny_bind (m := setEntries D) ?_
  unfold setEntries
  refine wpAny_bind (wpAny_setState_of hD hd hf ?_)
  refine wpAny_pure ?_
  dsimp only
  rw [hn, if_neg (show ¬ (((n : Int) != (n : Int)) = true) by simp)]
  refine wpAny_bind (wpAny_seqItems hT hTd ?_)
  dsimp only
  rw [Int.toNat_natCast, hp]
  dsimp only
  refine wpAny_bind (wpAny_setField_rec (cls := .type "set_iterator") (vs := #[.ref T, .int i 0, .ref D, .int n 0, .int ep 0]) ho (by simp) fun g1 k1 b1 => ?_)
  refine wpAny_bind (wpAny_setField_rec k1 (by simp) fun g2 k2 b2 => ?_)
  exact stop_tail (s := { s with heap := g2 }) hh fun h' hk => hQ h' fun b o hb e => hk b o ((b1.trans b2).extBut b o hb e)
theorem text_walk {s : Shared} {Q : Option (Value × Nat) → Shared → Prop} {slot : Nat} (hw : byText w = true) (hD : s.heap.get? D = some oD) (hd : oD.data = .set es ep t) (hf : t.fits es.size = true)
    (hQ : Q (((pickOrder (w.params.setOrder D ep) es)[i]?).map fun e => (e.2, slot)) s) : wpAny (model prog w) A (setNext D slot i ep) Q E s := by
  unfold setNext
  refine wpAny_bind (wpAny_setState_of hD hd hf ?_)
  dsimp only
  refine wpAny_bind (m := setsByText) ?_
  unfold setsByText
  refine wpAny_bind (wpAny_askSetting (wpAny_pure ?_))
  rw [if_pos (show ((model prog w).w.params.followText "set-order") = true from hw)]
  rw [if_neg (show ¬ ((ep != ep) = true) by simp)]
  refine wpAny_bind (m := setWalk D) ?_
  unfold setWalk setsByText
  refine wpAny_bind (wpAny_setState_of hD hd hf ?_)
  dsimp only
  refine wpAny_bind (wpAny_bind (wpAny_askSetting (wpAny_pure ?_)))
  rw [if_pos (show ((model prog w).w.params.followText "set-order") = true from hw)]
  refine wpAny_bind (wpAny_askSetting (wpAny_pure ?_))
  exact wpAny_pure hQ
theorem next_text {hv : Int} {v : Value} (hw : byText w = true) (hit : ItAt s.heap I D (.int 0 0) i n ep) (hD : s.heap.get? D = some oD) (hd : oD.data = .set es ep t) (hf : t.fits es.size = true) (hn : es.size = n)
    (hj : (pickOrder (w.params.setOrder D ep) es)[i]? = some (hv, v))
    (hQ : ∀ h', ItAt h' I D (.int 0 0) (i + 1) n ep → Heap.SameBut I s.heap h' → Q (some v) { s with heap := h' }) : wpAny (model prog w) A (pyNext (.ref I)) Q E s := by
  have ho : s.heap.get? I = some (siObj D (.int 0 0) i n ep) := hit
  have hTI : s.TypeIs (.ref I) "set_iterator" := ⟨_, ho, rfl⟩
  unfold pyNext
  refine wpAny_bind (wpAny_attempt (wpAny_callSpecial?_slot (name := Str.ofString "__next__") hTI slot_seti_next
    (wpAny_call_entry slot_seti_next hTI entry_seti_next ?_ (args_seti_next _))))
  show wpAny _ _ (fieldsOf (.ref I) >>= _) _ _ s
  refine wpAny_bind (wpAny_fieldsOf ho rfl ?_)
  dsimp only
  refine wpAny_bind (m := setEntries D) ?_
  unfold setEntries
  refine wpAny_bind (wpAny_setState_of hD hd hf ?_)
  refine wpAny_pure ?_
  dsimp only
  rw [hn, if_neg (show ¬ (((n : Int) != (n : Int)) = true) by simp)]
  refine wpAny_bind (m := setNext _ _ _ _) ?_
  simp only [Int.toNat_natCast]
  refine text_walk hw hD hd hf ?_
  rw [hj]
  dsimp only [Option.map_some]
  refine wpAny_bind (wpAny_setField_rec (cls := .type "set_iterator") (vs := #[.int 0 0, .int i 0, .ref D, .int n 0, .int ep 0]) ho (by simp) fun g1 k1 b1 => ?_)
  refine wpAny_bind (wpAny_setField_rec k1 (by simp) fun g2 k2 b2 => wpAny_pure ⟨_, rfl, wpAny_pure (hQ _ ?_ (b1.trans b2))⟩)
  exact k2
theorem next_text_end (hh : A.handled = none) (hw : byText w = true) (hit : ItAt s.heap I D (.int 0 0) i n ep) (hD : s.heap.get? D = some oD) (hd : oD.data = .set es ep t) (hf : t.fits es.size = true) (hn : es.size = n)
    (hj : (pickOrder (w.params.setOrder D ep) es)[i]? = none)
    (hQ : ∀ h', Heap.ExtBut I s.heap h' → Q none { s with heap := h' }) : wpAny (model prog w) A (pyNext (.ref I)) Q E s := by
  have ho : s.heap.get? I = some (siObj D (.int 0 0) i n ep) := hit
  have hTI : s.TypeIs (.ref I) "set_iterator" := ⟨_, ho, rfl⟩
  unfold pyNext
  refine wpAny_bind (wpAny_attempt (wpAny_callSpecial?_slot (name := Str.ofString "__next__") hTI slot_seti_next
    (wpAny_call_entry slot_seti_next hTI entry_seti_next ?_ (args_seti_next _))))
  show wpAny _ _ (fieldsOf (.ref I) >>= _) _ _ s
  refine wpAny_bind (wpAny_fieldsOf ho rfl ?_)
  dsimp only
  refine wpAny_bind (m := setEntries D) ?_
  unfold setEntries
  refine wpAny_bind (wpAny_setState_of hD hd hf ?_)
  refine wpAny_pure ?_
  dsimp only
  rw [hn, if_neg (show ¬ (((n : Int) != (n : Int)) = true) by simp)]
  refine wpAny_bind (m := setNext _ _ _ _) ?_
  simp only [Int.toNat_natCast]
  refine text_walk hw hD hd hf ?_
  rw [hj]
  dsimp only [Option.map_none]
  refine wpAny_bind (wpAny_setField_rec (cls := .type "set_iterator") (vs := #[.int 0 0, .int i 0, .ref D, .int n 0, .int ep 0]) ho (by simp) fun g1 k1 b1 => ?_)
  exact stop_tail (s := { s with heap := g1 }) hh fun h' hk => hQ h' fun b o hb e => hk b o (b1.extBut b o hb e)
end
end Mine
end
section
open PySem PySem.W PyProof.Rows PySem.Calls PySem.Spec
set_option maxRecDepth 100000
namespace Mine
theorem below_first (p : Nat) : SetTable.below #[p] 0 = 0 := by simp [SetTable.below, SetTable.below.go]
theorem below_past (p : Nat) : SetTable.below #[p] (p + 1) = 1 := by simp [SetTable.below, SetTable.below.go]
theorem below_none (j : Nat) : SetTable.below #[] j = 0 := by simp [SetTable.below, SetTable.below.go]
theorem place_size {t : SetTable} {n : Nat} (h : t.fits n = true) : t.place.size = n := by
  simp only [SetTable.fits, Bool.and_eq_true, beq_iff_eq, decide_eq_true_eq] at h
  exact h.1
section
variable {prog : Program} {w : World} {A : Around} {E : Value → Shared → Prop} {s : Shared} {I D T : Addr} {first : Value} {i n ep : Nat} {oD oT : Obj} {es : Array (Int × Value)} {t : SetTable} {Q : Option Value → Shared → Prop}
theorem place_walk {s : Shared} {Q : Option (Value × Nat) → Shared → Prop} {slot : Nat} (hw : byText w = false) (hD : s.heap.get? D = some oD) (hd : oD.data = .set es ep t) (hf : t.fits es.size = true) (hl : t.led = true) (h1 : es.size ≤ 1)
    (hQ : Q (match es[SetTable.below t.place slot]?, t.place[SetTable.below t.place slot]? with | some (_, x), some j => some (x, j + 1) | _, _ => none) s) : wpAny (model prog w) A (setNext D slot i ep) Q E s := by
  unfold setNext
  refine wpAny_bind (wpAny_setState_of hD hd hf ?_)
  dsimp only
  refine wpAny_bind (m := setsByText) ?_
  unfold setsByText
  refine wpAny_bind (wpAny_askSetting (wpAny_pure ?_))
  rw [if_neg (show ¬ ((model prog w).w.params.followText "set-order") = true from fun h => Bool.false_ne_true (hw.symm.trans h))]
  refine wpAny_ite_split (fun h => absurd (show (!t.plain && decide (es.size > 1)) = true from h) (by simp; omega)) (fun _ => ?_)
  refine wpAny_bind ?_
  wp_delta
  refine wpAny_ite_split (fun h => absurd h (by rw [hl]; simp)) (fun _ => wpAny_pure ?_)
  exact wpAny_pure hQ
theorem next_place {hv : Int} {v : Value} {slot j : Nat} (hw : byText w = false) (hit : ItAt s.heap I D (.int (slot : Nat) 0) i n ep) (hD : s.heap.get? D = some oD) (hd : oD.data = .set es ep t) (hf : t.fits es.size = true) (hn : es.size = n) (hl : t.led = true) (h1 : es.size ≤ 1)
    (hj : es[SetTable.below t.place slot]? = some (hv, v)) (hp : t.place[SetTable.below t.place slot]? = some j)
    (hQ : ∀ h', ItAt h' I D (.int (j + 1 : Nat) 0) (i + 1) n ep → Heap.SameBut I s.heap h' → Q (some v) { s with heap := h' }) : wpAny (model prog w) A (pyNext (.ref I)) Q E s := by
  have ho : s.heap.get? I = some (siObj D (.int (slot : Nat) 0) i n ep) := hit
  have hTI : s.TypeIs (.ref I) "set_iterator" := ⟨_, ho, rfl⟩
  unfold pyNext
  refine wpAny_bind (wpAny_attempt (wpAny_callSpecial?_slot (name := Str.ofString "__next__") hTI slot_seti_next
    (wpAny_call_entry slot_seti_next hTI entry_seti_next ?_ (args_seti_next _))))
  show wpAny _ _ (fieldsOf (.ref I) >>= _) _ _ s
  refine wpAny_bind (wpAny_fieldsOf ho rfl ?_)
  dsimp only
  refine wpAny_bind (m := setEntries D) ?_
  unfold setEntries
  refine wpAny_bind (wpAny_setState_of hD hd hf ?_)
  refine wpAny_pure ?_
  dsimp only
  rw [hn, if_neg (show ¬ (((n : Int) != (n : Int)) = true) by simp)]
  refine wpAny_bind (m := setNext _ _ _ _) ?_
  simp only [Int.toNat_natCast]
  refine place_walk hw hD hd hf hl h1 ?_
  rw [hj, hp]
  dsimp only
  refine wpAny_bind (wpAny_setField_rec (cls := .type "set_iterator") (vs := #[.int (slot : Nat) 0, .int i 0, .ref D, .int n 0, .int ep 0]) ho (by simp) fun g1 k1 b1 => ?_)
  refine wpAny_bind (wpAny_setField_rec k1 (by simp) fun g2 k2 b2 => wpAny_pure ⟨_, rfl, wpAny_pure (hQ _ ?_ (b1.trans b2))⟩)
  exact k2
theorem next_place_end {slot : Nat} (hh : A.handled = none) (hw : byText w = false) (hit : ItAt s.heap I D (.int (slot : Nat) 0) i n ep) (hD : s.heap.get? D = some oD) (hd : oD.data = .set es ep t) (hf : t.fits es.size = true) (hn : es.size = n) (hl : t.led = true) (h1 : es.size ≤ 1)
    (hj : es[SetTable.below t.place slot]? = none)
    (hQ : ∀ h', Heap.ExtBut I s.heap h' → Q none { s with heap := h' }) : wpAny (model prog w) A (pyNext (.ref I)) Q E s := by
  have ho : s.heap.get? I = some (siObj D (.int (slot : Nat) 0) i n ep) := hit
  have hTI : s.TypeIs (.ref I) "set_iterator" := ⟨_, ho, rfl⟩
  unfold pyNext
  refine wpAny_bind (wpAny_attempt (wpAny_callSpecial?_slot (name := Str.ofString "__next__") hTI slot_seti_next
    (wpAny_call_entry slot_seti_next hTI entry_seti_next ?_ (args_seti_next _))))
  show wpAny _ _ (fieldsOf (.ref I) >>= _) _ _ s
  refine wpAny_bind (wpAny_fieldsOf ho rfl ?_)
  dsimp only
  refine wpAny_bind (m := setEntries D) ?_
  unfold setEntries
  refine wpAny_bind (wpAny_setState_of hD hd hf ?_)
  refine wpAny_pure ?_
  dsimp only
  rw [hn, if_neg (show ¬ (((n : Int) != (n : Int)) = true) by simp)]
  refine wpAny_bind (m := setNext _ _ _ _) ?_
  simp only [Int.toNat_natCast]
  refine place_walk hw hD hd hf hl h1 ?_
  rw [hj]
  dsimp only
  refine wpAny_bind (wpAny_setField_rec (cls := .type "set_iterator") (vs := #[.int (slot : Nat) 0, .int i 0, .ref D, .int n 0, .int ep 0]) ho (by simp) fun g1 k1 b1 => ?_)
  exact stop_tail (s := { s with heap := g1 }) hh fun h' hk => hQ h' fun b o hb e => hk b o (b1.extBut b o hb e)
end
end Mine
end
section
open PySem PySem.W PyProof.Rows PySem.Calls PySem.Spec
set_option maxRecDepth 100000
namespace Mine
theorem slot_seti_iter : Slot "set_iterator" "__iter__" "set_iterator.__iter__" :=
  .of (owner := "set_iterator") (n := "__iter__") (by rw [typeLookup_type, builtinLookup_eq_fast]; kernel_rfl) (by decide +kernel) (by decide +kernel) (by decide +kernel)
    (by first | exact .inl (by decide +kernel) | exact .inr (by decide +kernel)) (by rw [isSubtype_type]; kernel_rfl)
theorem entry_seti_iter : entryFor table "set_iterator.__iter__" = some Builtin.«dict_keyiterator.__iter__» :=
  entryFor_alias (id' := "dict_keyiterator.__iter__") (by kernel_rfl) rfl (by decide +kernel) (by kernel_rfl)
theorem args_seti_iter (a : Value) : argsOk "set_iterator.__iter__" ⟨[a], []⟩ := by unfold argsOk; kernel_rfl
theorem moved_but {I : Addr} {s : Shared} {h' : Heap} (hk : Heap.ExtBut I s.heap h') : Moved [I] (fun a b => b = a) s { s with heap := h' } :=
  ⟨fun b o hb e => hk b o (fun q => hb (q ▸ List.mem_cons_self)) e, rfl, rfl, rfl, Nat.le_refl _⟩
section
variable {prog : Program} {w : World} {A : Around} {E : Value → Shared → Prop} {s : Shared} {I D T : Addr} {i n ep : Nat} {oD oT : Obj} {es : Array (Int × Value)} {t : SetTable}
theorem iter_self {Q : Value → Shared → Prop} {first : Value} (hit : ItAt s.heap I D first i n ep) (h : Q (.ref I) s) : wpAny (model prog w) A (pyIter (.ref I)) Q E s := by
  have hTI : s.TypeIs (.ref I) "set_iterator" := ⟨_, hit, rfl⟩
  refine wpAny_pyIter_slot hTI slot_seti_iter (wpAny_call_entry slot_seti_iter hTI entry_seti_iter ?_ (args_seti_iter _))
  show wpAny _ _ (ret (.ref I)) _ _ s
  exact wpAny_pure ⟨_, rfl, "set_iterator", _, hTI, slot_seti_next.lookup, h⟩
def drawnVals (es : Array (Int × Value)) (ys : List Nat) : List Value := ys.map fun j => ((es[j]?).map (·.2)).getD .none
theorem walks_drawn {ys : List Nat} {k : Nat} (hh : A.handled = none) (hID : D ≠ I) (hIT : T ≠ I) (hd : oD.data = .set es ep t) (hf : t.fits es.size = true) (hn : es.size = n) (hp : ys.Perm (List.range n))
    (hTd : oT.data = .seq (ys.map fun (i : Nat) => rawInt i).toArray k) :
    WalksS prog w A I [I, D, T] [I] (fun a b => b = a) n (fun i v => (drawnVals es ys)[i]? = some v) (fun i s => ItAt s.heap I D (.ref T) i n ep ∧ s.heap.get? D = some oD ∧ s.heap.get? T = some oT) where
  sub := fun b hb => by rw [List.mem_singleton.mp hb]; exact List.mem_cons_self
  grefl := fun _ => rfl
  gtrans := fun _ _ _ h1 h2 => h2.trans h1
  frame := fun i s h' tk st _ hk => ⟨hk I (by simp) _ st.1, hk D (by simp) _ st.2.1, hk T (by simp) _ st.2.2⟩
  item := fun i s Q E hi st hQ => by
    have hl : ys.length = n := by rw [hp.length_eq, List.length_range]
    have hiy : i < ys.length := by omega
    have hj : ys[i] < n := List.mem_range.mp (hp.mem_iff.mp (List.getElem_mem hiy))
    have hje : ys[i] < es.size := by omega
    refine next_drawn (j := ys[i]) (hv := es[ys[i]].1) (v := es[ys[i]].2) (tk0 := 0) st.1 st.2.1 hd hf hn st.2.2 hTd (by simp [hiy, rawInt]) (by simp [hje]) fun h' hit hb => ?_
    exact hQ _ _ (by simp [drawnVals, hiy, hje]) ⟨hit, hb.extBut D _ hID st.2.1, hb.extBut T _ hIT st.2.2⟩ (moved_but hb.extBut)
  done := fun s Q E st hQ => by
    have hl : ys.length = n := by rw [hp.length_eq, List.length_range]
    exact next_drawn_end hh st.1 st.2.1 hd hf hn st.2.2 hTd (by simp [hl]) fun h' hk => hQ _ (moved_but hk)
  self := fun i s Q E st hQ => iter_self st.1 hQ
theorem walks_text (hh : A.handled = none) (hw : byText w = true) (hID : D ≠ I) (hd : oD.data = .set es ep t) (hf : t.fits es.size = true) (hn : es.size = n) :
    WalksS prog w A I [I, D] [I] (fun a b => b = a) n (fun i v => ((pickOrder (w.params.setOrder D ep) es).toList.map (·.2))[i]? = some v) (fun i s => ItAt s.heap I D (.int 0 0) i n ep ∧ s.heap.get? D = some oD) where
  sub := fun b hb => by rw [List.mem_singleton.mp hb]; exact List.mem_cons_self
  grefl := fun _ => rfl
  gtrans := fun _ _ _ h1 h2 => h2.trans h1
  frame := fun i s h' tk st _ hk => ⟨hk I (by simp) _ st.1, hk D (by simp) _ st.2⟩
  item := fun i s Q E hi st hQ => by
    have hl : (pickOrder (w.params.setOrder D ep) es).size = n := by
      rw [← Array.length_toList, (pick_perm _ _).length_eq, Array.length_toList, hn]
    have hiy : i < (pickOrder (w.params.setOrder D ep) es).size := by omega
    refine next_text (hv := (pickOrder (w.params.setOrder D ep) es)[i].1) (v := (pickOrder (w.params.setOrder D ep) es)[i].2) hw st.1 st.2 hd hf hn (by simp [hiy]) fun h' hit hb => ?_
    exact hQ _ _ (by simp [hiy]) ⟨hit, hb.extBut D _ hID st.2⟩ (moved_but hb.extBut)
  done := fun s Q E st hQ => by
    have hl : (pickOrder (w.params.setOrder D ep) es).size = n := by
      rw [← Array.length_toList, (pick_perm _ _).length_eq, Array.length_toList, hn]
    exact next_text_end hh hw st.1 st.2 hd hf hn (by simp [hl]) fun h' hk => hQ _ (moved_but hk)
  self := fun i s Q E st hQ => iter_self st.1 hQ
def slotOf (t : SetTable) : Nat → Nat
  | 0 => 0
  | i + 1 => (t.place[i]?).getD 0 + 1
theorem walks_place (hh : A.handled = none) (hw : byText w = false) (hID : D ≠ I) (hd : oD.data = .set es ep t) (hf : t.fits es.size = true) (hn : es.size = n) (hl : t.led = true) (h1 : es.size ≤ 1) :
    WalksS prog w A I [I, D] [I] (fun a b => b = a) n (fun i v => (es.toList.map (·.2))[i]? = some v) (fun i s => ItAt s.heap I D (.int (slotOf t i : Nat) 0) i n ep ∧ s.heap.get? D = some oD) where
  sub := fun b hb => by rw [List.mem_singleton.mp hb]; exact List.mem_cons_self
  grefl := fun _ => rfl
  gtrans := fun _ _ _ h1 h2 => h2.trans h1
  frame := fun i s h' tk st _ hk => ⟨hk I (by simp) _ st.1, hk D (by simp) _ st.2⟩
  item := fun i s Q E hi st hQ => by
    have hz : es.size = 1 := by omega
    obtain rfl : i = 0 := by omega
    have hps := place_size hf
    rw [hz] at hps
    obtain ⟨p, hp⟩ := Array.size_eq_one_iff.mp hps
    have hb0 : SetTable.below t.place (slotOf t 0) = 0 := by rw [hp]; exact below_first p
    refine next_place (hv := es[0].1) (v := es[0].2) (j := p) hw st.1 st.2 hd hf hn hl h1 (by rw [hb0]; simp [hz]) (by rw [hb0, hp]; rfl) fun h' hit hb => ?_
    refine hQ _ _ (by simp [hz]) ⟨?_, hb.extBut D _ hID st.2⟩ (moved_but hb.extBut)
    have e1 : slotOf t (0 + 1) = p + 1 := by simp [slotOf, hp]
    rw [e1]; exact hit
  done := fun s Q E st hQ => by
    have hps := place_size hf
    refine next_place_end hh hw st.1 st.2 hd hf hn hl h1 ?_ fun h' hk => hQ _ (moved_but hk)
    rcases Nat.lt_or_ge 0 n with h0 | h0
    · have hz : es.size = 1 := by omega
      obtain rfl : n = 1 := by omega
      rw [hz] at hps
      obtain ⟨p, hp⟩ := Array.size_eq_one_iff.mp hps
      have e1 : slotOf t 1 = p + 1 := by simp [slotOf, hp]
      rw [e1, hp, below_past]; simp [hz]
    · have hz : es.size = 0 := by omega
      have : es = #[] := Array.eq_empty_of_size_eq_zero hz
      rw [this]; rfl
  self := fun i s Q E st hQ => iter_self st.1 hQ
end
end Mine
end
section
open PySem PySem.W PyProof.Rows PySem.Calls PySem.Spec
set_option maxRecDepth 100000
namespace Mine
/-- what iterating a set of texts may hand out -/
structure SetVals (n : Nat) (Sm : Str → Bool) (vs : List Value) : Prop where
  are : StrsAre vs (vs.map strOf)
  len : vs.length = n
  mem : ∀ k, Sm k = true → k ∈ vs.map strOf
theorem setVals_of {prog : Program} {w : World} {es : Array (Int × Value)} {Sm : Str → Bool} {n : Nat} {vs : List Value} (hel : ElemsOf (PySem.strKind prog w) es.toList) (hmem : ∀ k, Sm k = true ↔ ∃ e ∈ es.toList, (PySem.strKind prog w).is k e.2 = true)
    (hn : es.size = n) (hp : vs.Perm (es.toList.map (·.2))) : SetVals n Sm vs where
  are := strsAre_map vs fun v hv => by
    obtain ⟨e, he, rfl⟩ := List.mem_map.mp (hp.mem_iff.mp hv)
    obtain ⟨⟨k, hk, _⟩, _⟩ := hel e he
    obtain ⟨t, ht⟩ := Value.isStrOf_shape hk
    exact ⟨k, t, ht⟩
  len := by rw [hp.length_eq, List.length_map, Array.length_toList, hn]
  mem := fun k hk => by
    obtain ⟨e, he, hi⟩ := (hmem k).mp hk
    obtain ⟨t, ht⟩ := Value.isStrOf_shape hi
    exact List.mem_map.mpr ⟨e.2, hp.mem_iff.mpr (List.mem_map.mpr ⟨e, he, rfl⟩), by rw [ht]; rfl⟩
theorem range_vals (es : Array (Int × Value)) : drawnVals es (List.range es.size) = es.toList.map (·.2) := by
  apply List.ext_getElem?
  intro i
  by_cases h : i < es.size
  · simp [drawnVals, h, List.getElem?_range]
  · simp [drawnVals, h]
section
variable {prog : Program} {w : World} {A : Around} {E : Value → Shared → Prop} {s : Shared} {D : Addr} {n : Nat} {Sm : Str → Bool}
theorem iter_set {Q : Value → Shared → Prop} (hh : A.handled = none) (hS : SetL prog w s.heap D Sm n (!byText w))
    (h : ∀ I fp vs St h' d, WalksS prog w A I fp [I] (fun a b => b = a) n (fun i v => vs[i]? = some v) St → St 0 { s with heap := h', drawn := d } → (∀ b o, s.heap.get? b = some o → h'.get? b = some o) → s.heap.objs.size ≤ I → I < h'.objs.size →
      (∀ b ∈ fp, b = D ∨ s.heap.objs.size ≤ b) → SetVals n Sm vs → Q (.ref I) { s with heap := h', drawn := d }) : wpAny (model prog w) A (pyIter (.ref D)) Q E s := by
  obtain ⟨o, es, ep, t, ho, hex, hd, hel, hmem, hb, hf, hn, hled, hpl⟩ := hS
  have hT : s.TypeIs (.ref D) "set" := ⟨_, ho, hex.1⟩
  have hDl := Heap.lt_size ho
  refine wpAny_pyIter_slot hT slot_set_iter (wpAny_call_entry slot_set_iter hT entry_set_iter ?_ (args_set_iter _))
  show wpAny _ _ (Builtin.Frozenset.sizeOf D >>= _) _ _ s
  unfold Builtin.Frozenset.sizeOf setEntries
  refine wpAny_bind (wpAny_bind (wpAny_bind (wpAny_setState_of ho hd hf (wpAny_pure (wpAny_pure ?_)))))
  dsimp only
  refine wpAny_bind (m := setDrawn D) ?_
  unfold setDrawn setsByText
  refine wpAny_bind (wpAny_setState_of ho hd hf ?_)
  dsimp only
  refine wpAny_bind (wpAny_bind (wpAny_askSetting (wpAny_pure (wpAny_pure ?_))))
  have fin : ∀ (first : Value) (d : Drawn) (h' : Heap), s.heap.objs.size ≤ h'.objs.size → (∀ b o, s.heap.get? b = some o → h'.get? b = some o) →
      (∃ fp vs St, WalksS prog w A h'.objs.size fp [h'.objs.size] (fun a b => b = a) n (fun i v => vs[i]? = some v) St ∧ (∀ hp d, ItAt hp h'.objs.size D first 0 n ep → (∀ b o, h'.get? b = some o → hp.get? b = some o) → St 0 { s with heap := hp, drawn := d }) ∧
        (∀ b ∈ fp, b = D ∨ s.heap.objs.size ≤ b) ∧ SetVals n Sm vs) →
      wpAny (model prog w) A.in1 (do let a ← setEpoch D; let it ← newFields "set_iterator" [first, rawInt 0, .ref D, rawInt (es.size : Nat), rawInt (a : Nat)]; (ret it : Sem Fin)) (fun fin s' => ∃ v, fin = Fin.done (Flow.ret v) ∧ ∃ T' r, s'.TypeIs v T' ∧ typeLookup (Value.type T') (Str.ofString "__next__") = pure (some r) ∧ Q v s') E { s with heap := h', drawn := d } := by
    intro first d h' hle hk hW
    obtain ⟨fp, vs, St, W, st, hfp, hV⟩ := hW
    refine wpAny_bind (wpAny_setEpoch_of (hk _ _ ho) hd hf ?_)
    refine wpAny_bind (m := newFields _ _) ?_
    unfold newFields
    refine wpAny_newObj_type ?_ (by size_fits)
    rw [hn]
    have hnew : ItAt (h'.push (siObj D first 0 n ep)) h'.objs.size D first 0 n ep := Heap.get?_push_size _ rfl
    refine wpAny_pure ⟨_, rfl, "set_iterator", _, ⟨_, hnew, rfl⟩, slot_seti_next.lookup, ?_⟩
    exact h _ fp vs St _ _ W (st _ _ hnew fun b o e => Heap.get?_push_of_some _ e) (fun b o e => Heap.get?_push_of_some _ (hk b o e)) hle (Nat.lt_of_lt_of_eq (Nat.lt_succ_self _) (size_push' _ _).symm) hfp hV
  refine wpAny_ite_split (fun hab => ?_) (fun hab => ?_)
  · replace hab : (!byText w && (!t.plain && decide (es.size > 1))) = true := hab
    refine wpAny_bind (draw_any _ _ _ (by simp) fun ys d hys => ?_)
    refine wpAny_bind (wpAny_newTuple ?_ (by rw [List.length_map, hys.length_eq, List.length_range, sizeLine_eq]; exact Nat.le_trans (Nat.le_of_lt hb) (by decide)))
    refine fin _ d _ (Nat.le_of_lt (Nat.lt_of_lt_of_eq (Nat.lt_succ_self _) (size_push' _ _).symm)) (fun b o e => Heap.get?_push_of_some _ e) ?_
    refine ⟨_, _, _, walks_drawn (D := D) (T := s.heap.objs.size) (oT := { cls := .type "tuple", data := .seq (ys.map fun (i : Nat) => rawInt i).toArray }) hh ?_ ?_ hd hf hn (hn ▸ hys) rfl, ?_, ?_, ?_⟩
    · rw [size_push']; exact Nat.ne_of_lt (Nat.lt_succ_of_lt hDl)
    · rw [size_push']; exact Nat.ne_of_lt (Nat.lt_succ_self _)
    · exact fun hp d hit hk => ⟨hit, hk _ _ (Heap.get?_push_of_some _ ho), hk _ _ (Heap.get?_push_size _ rfl)⟩
    · intro b hb
      simp only [List.mem_cons, List.not_mem_nil, or_false, size_push'] at hb
      rcases hb with rfl | rfl | rfl
      · exact .inr (Nat.le_succ _)
      · exact .inl rfl
      · exact .inr (Nat.le_refl _)
    · refine setVals_of hel hmem hn ?_
      rw [← range_vals]
      exact hys.map _
  · replace hab : ¬ (!byText w && (!t.plain && decide (es.size > 1))) = true := hab
    refine wpAny_bind (wpAny_pure ?_)
    refine fin _ s.drawn s.heap (Nat.le_refl _) (fun b o e => e) ?_
    cases hw : byText w with
    | true =>
      refine ⟨_, _, _, walks_text (D := D) hh hw (Nat.ne_of_lt hDl) hd hf hn, fun hp d hit hk => ⟨hit, hk _ _ ho⟩, ?_, setVals_of hel hmem hn ((pick_perm _ _).map _)⟩
      intro b hb
      simp only [List.mem_cons, List.not_mem_nil, or_false] at hb
      rcases hb with rfl | rfl
      · exact .inr (Nat.le_refl _)
      · exact .inl rfl
    | false =>
      have h1 : es.size ≤ 1 := by
        rcases Nat.lt_or_ge 1 es.size with q | q
        · have := hpl (by omega)
          rw [hw, this] at hab
          exact absurd (by simp; omega) hab
        · exact q
      refine ⟨_, _, _, walks_place (D := D) hh hw (Nat.ne_of_lt hDl) hd hf hn (by rw [hled, hw]; rfl) h1, fun hp d hit hk => ⟨hit, hk _ _ ho⟩, ?_, setVals_of hel hmem hn (.refl _)⟩
      intro b hb
      simp only [List.mem_cons, List.not_mem_nil, or_false] at hb
      rcases hb with rfl | rfl
      · exact .inr (Nat.le_refl _)
      · exact .inl rfl
end
end Mine
end
section
open PySem PySem.W PyProof.Rows PySem.Calls PySem.Spec
set_option maxRecDepth 100000
namespace Mine
theorem SetL.keep {prog : Program} {w : World} {h h' : Heap} {D : Addr} {Sm : Str → Bool} {n : Nat} {led : Bool} (x : SetL prog w h D Sm n led) (hk : ∀ o, h.get? D = some o → h'.get? D = some o) : SetL prog w h' D Sm n led := by
  obtain ⟨o, es, ep, t, ho, r⟩ := x
  exact ⟨o, es, ep, t, hk o ho, r⟩
section
variable {prog : Program} {w : World} {A : Around} {E : Value → Shared → Prop} {s : Shared} {D : Addr} {n : Nat} {Sm : Str → Bool}
theorem hint_set {r : Addr} {Q : Bool → Shared → Prop} (hT : s.TypeIs (.ref r) "set") (h : Q false s) : wpAny (model prog w) A (Builtin.List.listLengthHint (.ref r)) Q E s := by
  unfold Builtin.List.listLengthHint
  refine wpAny_bind (wpAny_specialOf hT PySem.F.slot_set_len.lookup ?_)
  generalize hid : ("set.__len__" : String) = id0
  wp_delta
  rw [show splitId id0 = some ("set", "__len__") from by subst hid; decide +kernel]
  subst hid
  refine wpAny_bind (wpAny_isInstance (T := "set") (b := true) hT (by rw [isSubtype_type]; kernel_rfl) ?_)
  refine wpAny_ite_split (fun hab => absurd hab (by decide)) (fun _ => ?_)
  refine wpAny_ite_split (fun _ => ?_) (fun hab => absurd (by decide +kernel) hab)
  refine wpAny_bind (wpAny_typeOf hT ?_)
  exact wpAny_pure h
theorem collect_set {Q : List Value → Shared → Prop} (hh : A.handled = none) (hS : SetL prog w s.heap D Sm n (!byText w)) (hn : n ≤ sizeLine)
    (h : ∀ h' tk d vs, (∀ b o, s.heap.get? b = some o → h'.get? b = some o) → s.heap.objs.size ≤ h'.objs.size → SetVals n Sm vs → Q vs { s with heap := h', toks := tk, drawn := d }) : wpAny (model prog w) A (collect (.ref D)) Q E s := by
  have hDl : D < s.heap.objs.size := by obtain ⟨o, es, ep, t, ho, r⟩ := hS; exact Heap.lt_size ho
  have hSI : s.heap.objs.size ≠ D := Nat.ne_of_gt hDl
  unfold collect
  refine wpAny_bind (wpAny_runValue (codeAny_builtin PySem.F.entry_proto_collect ?_))
  rw [Around.under_plainId PySem.F.plain_proto_collect _]
  show wpAny _ A.in1 (newList [] >>= fun l => again (.builtin "list.__iadd__" ⟨[l, .ref D], []⟩)) _ _ s
  refine wpAny_bind (wpAny_newObj_type ?_)
  refine wpAny_pure ⟨plainId_quiet PySem.F.plain_list_iadd _, codeAny_builtin PySem.F.entry_list_iadd ?_⟩
  rw [Around.under_plainId PySem.F.plain_list_iadd _]
  have hS₁ : SetL prog w (s.heap.push { cls := .type "list", data := .seq ([] : List Value).toArray }) D Sm n (!byText w) := hS.keep fun o e => Heap.get?_push_of_some _ e
  have hT₁ : Shared.TypeIs { s with heap := s.heap.push { cls := .type "list", data := .seq ([] : List Value).toArray } } (.ref D) "set" := by obtain ⟨o, es, ep, t, ho, hex, r⟩ := hS₁; exact ⟨o, ho, hex.1⟩
  show wpAny _ A.in1 (Builtin.List.listExtendWith (.ref s.heap.objs.size) (.ref D) (.ref s.heap.objs.size)) _ _ _
  unfold Builtin.List.listExtendWith
  refine wpAny_bind (wpAny_typeOf hT₁ ?_)
  have h1 : Builtin.List.listSameRef (.ref s.heap.objs.size) (.ref D) = false := by simp [Builtin.List.listSameRef, hSI]
  have h2 : (Value.type "set" == Value.type "list") = false := by decide
  have h3 : (Value.type "set" == Value.type "tuple") = false := by decide
  simp only [h1, h2, h3, Bool.or_false, Bool.false_eq_true, if_false]
  have hz1 : (s.heap.push { cls := .type "list", data := .seq ([] : List Value).toArray }).objs.size = s.heap.objs.size + 1 := size_push' _ _
  refine wpAny_bind (iter_set (A := A.in1) hh hS₁ fun I fp vs St hp d W st hk hI hIl hfp hV => ?_)
  have hSf : s.heap.objs.size ∉ fp := fun hm => by
    rcases hfp _ hm with q | q
    · exact hSI q
    · have q : s.heap.objs.size + 1 ≤ s.heap.objs.size := hz1 ▸ q
      exact absurd q (Nat.not_succ_le_self _)
  have hT₂ : Shared.TypeIs { s with heap := hp, drawn := d } (.ref D) "set" := by obtain ⟨o, ho, hc⟩ := hT₁; exact ⟨o, hk _ _ ho, hc⟩
  refine wpAny_bind (wpAny_holding (hint_set hT₂ ?_))
  refine wpAny_ite_split (fun _ => ?_) (fun hab => absurd (by decide +kernel) hab)
  refine wpAny_bind (wpAny_rule ?_)
  have hL₁ : hp.get? s.heap.objs.size = some { cls := .type "list", data := .seq ([] : List Value).toArray } := hk _ _ (Heap.get?_push_size _ rfl)
  refine wpAny_bind ?_
  show wpAny _ A.in1 (updateSeq s.heap.objs.size (·.push .none) >>= fun _ => updateSeq s.heap.objs.size (·.pop)) _ _ _
  refine wpAny_bind (wpAny_updateSeq hL₁ rfl ?_)
  have hL₂ := Heap.get?_update_self (Obj.mapSeq (·.push Value.none)) hL₁ rfl
  refine wpAny_updateSeq hL₂ rfl ?_
  have hL₃ := Heap.get?_update_self (Obj.mapSeq (·.pop)) hL₂ rfl
  have oth : ∀ b o, b ≠ s.heap.objs.size → hp.get? b = some o → ((hp.update s.heap.objs.size (Obj.mapSeq (·.push Value.none))).update s.heap.objs.size (Obj.mapSeq (·.pop))).get? b = some o :=
    fun b o hb e => (Heap.get?_update_other _ _ (Ne.symm hb)).trans ((Heap.get?_update_other _ _ (Ne.symm hb)).trans e)
  refine wpAny_pure ⟨plainId_quiet PySem.F.plain_extend_loop _, codeAny_extend_loopS W hn _ hSf _ n 0 _ _ _ rfl (Nat.zero_le _)
    (W.frame 0 ({ s with heap := hp, drawn := d } : Shared) _ s.toks st (Nat.le_refl _) fun b hb o e => oth b o (fun q => hSf (q ▸ hb)) e) hL₃ (ItemsOf.nil _) fun s' acc' c' hm hS' hacc => ?_⟩
  show wpAny _ A (load s.heap.objs.size >>= _) _ _ s'
  refine wpAny_bind (wpAny_load hS' ?_)
  refine wpAny_pure ?_
  have hv : acc'.toList = vs := by
    have hl : acc'.toList.length = vs.length := by rw [Array.length_toList, hacc.1, hV.len]
    apply List.ext_getElem? 
    intro i
    by_cases hi : i < acc'.toList.length
    · have hi' : i < acc'.size := by simpa using hi
      have := hacc.2 i acc'[i] (by simp [hi'])
      rw [this]; simp [hi']
    · rw [List.getElem?_eq_none (by omega), List.getElem?_eq_none (by omega)]
  rw [Moved.eq_with hm]
  show Q acc'.toList _
  rw [hv]
  refine h s'.heap s'.toks d vs (fun b o e => ?_) ?_ hV
  · have hb : b < s.heap.objs.size := Heap.lt_size e
    refine hm.heap b o (fun q => ?_) (oth b o (Nat.ne_of_lt hb) (hk b o (Heap.get?_push_of_some _ e)))
    simp only [List.mem_cons, List.not_mem_nil, or_false] at q
    rcases q with q | q
    · exact absurd q (Nat.ne_of_lt hb)
    · rw [q] at hb
      exact absurd (Nat.lt_of_lt_of_le hb (Nat.le_trans (Nat.le_of_lt (Nat.lt_of_lt_of_eq (Nat.lt_succ_self _) hz1.symm)) hI)) (Nat.lt_irrefl _)
  · exact Nat.le_of_lt (Heap.lt_size hS')
theorem sorted_set {Q : Value → Shared → Prop} (hh : A.handled = none) (hS : SetL prog w s.heap D Sm n (!byText w)) (hn : n < 64)
    (h : ∀ h' tk d P vs ss e, (∀ b o, s.heap.get? b = some o → h'.get? b = some o) → s.heap.objs.size ≤ P → h'.get? P = some (seqObj "list" vs.toArray e) → StrsAre vs ss → ss.length = n → (∀ k, Sm k = true → k ∈ ss) → sortedS ss = true →
      Q (.ref P) { s with heap := h', toks := tk, drawn := d }) : wpAny (model prog w) A (call (.builtin "sorted") [.ref D]) Q E s := by
  refine Calls.call_function_entry kind_sorted plain_sorted entry_sorted (args_sorted1 _) ?_
  unfold Builtin.«sorted»
  refine wpAny_bind (m := checkCount "sorted" 1 1 _) (wpAny_pure ?_)
  have hle : n ≤ sizeLine := by rw [sizeLine_eq]; omega
  refine wpAny_bind (collect_set (A := A.in1) hh hS hle fun h' tk d vs hk hsz hV => ?_)
  have hvl : vs.length < 64 := by rw [hV.len]; exact hn
  refine wpAny_bind (wpAny_newList ?_ (by rw [hV.len]; exact hle))
  have hoL : (h'.push (seqObj "list" vs.toArray 0)).get? h'.objs.size = some (seqObj "list" vs.toArray 0) := Heap.get?_push_size _ rfl
  refine wpAny_bind (wpAny_holding (wpAny_call_entry slot_list_sort ⟨_, hoL, rfl⟩ entry_list_sort (list_sort_treeK strKind_oneLt hoL hV.are.keysOf (fun v₁ v₂ rest e => keyKind_strs (by rw [← e]; exact hV.are)) hvl fun st' a1 a2 => ⟨_, rfl, ?_⟩) (args_list_sort _)))
  obtain ⟨ss', b1, b2, b3⟩ := sorted_out_str hV.are a1 a2
  obtain ⟨e, he⟩ := sortedHeap_at (out := (arrOf st').map (·.2)) hoL
  refine wpAny_pure ⟨_, rfl, h _ tk d h'.objs.size ((arrOf st').map (·.2)).toList ss' e (fun b o q => ?_) hsz (by rw [Array.toArray_toList]; exact he) b1 (by rw [b2.length_eq, List.length_map, hV.len]) (fun k hk => b2.mem_iff.mpr (hV.mem k hk)) b3⟩
  have hb : b < h'.objs.size := Nat.lt_of_lt_of_le (Heap.lt_size q) hsz
  rw [sortedHeap_old (Nat.ne_of_lt hb) (by rw [size_push']; exact Nat.lt_succ_of_lt hb)]
  exact Heap.get?_push_of_some _ (hk b o q)
end
end Mine
end
section
open PySem PySem.W PyProof.Rows PySem.Calls PySem.Spec
set_option maxRecDepth 100000
namespace Mine
section
variable {prog : Program} {w : World} {A : Around} {E : Value → Shared → Prop} {s : Shared} {z TI TO i1 i2 : Addr} {n1 n2 i : Nat} {P1 P2 : Nat → Value → Prop} {S1 S2 : Nat → Heap → Prop}
structure ZApart (z TI TO i1 i2 : Addr) : Prop where
  a : TI ≠ z
  b : TO ≠ z
  c : i1 ≠ z
  d : i2 ≠ z
  e : TI ≠ TO
  f : TI ≠ i1
  g : TI ≠ i2
  h : TO ≠ i1
  i : TO ≠ i2
  j : i1 ≠ i2
def ZAt (z TI TO i1 i2 : Addr) (S1 S2 : Nat → Heap → Prop) (i j : Nat) (f0 : Value) (h : Heap) : Prop :=
  IsZip h z TI TO f0 ∧ IsPair h TI (.ref i1) (.ref i2) ∧ (∃ a b, IsPair h TO a b) ∧ S1 i h ∧ S2 j h
/-- one turn of a zip of two drawn things -/
theorem zipS_next {Q : Value → Shared → Prop} (D : ZApart z TI TO i1 i2) (D1 : Draws prog w A i1 [i1] n1 P1 S1) (D2 : Draws prog w A i2 [i2] n2 P2 S2) (h1 : i < n1) (h2 : i < n2) (hst : ZAt z TI TO i1 i2 S1 S2 i i .none s.heap)
    (hQ : ∀ h' tk x y, P1 i x → P2 i y → ZAt z TI TO i1 i2 S1 S2 (i + 1) (i + 1) (rawInt s.heap.objs.size) h' → IsPair h' s.heap.objs.size x y →
      (∀ c o, c ≠ z → c ≠ TO → c ≠ i1 → c ≠ i2 → s.heap.get? c = some o → h'.get? c = some o) → Q (.ref s.heap.objs.size) { s with heap := h', toks := tk }) :
    wpAny (model prog w) A (Builtin.«zip.__next__» ⟨[.ref z], []⟩) (fun fin s' => ∃ v, fin = .done (.ret v) ∧ Q v s') E s := by
  obtain ⟨hz, hI, ⟨a, b, hO⟩, x1, x2⟩ := hst
  show wpAny _ _ (field (.ref z) 2 >>= _) _ _ _
  refine wpAny_bind (wpAny_field hz rfl (x := .bool false) rfl ?_)
  show wpAny _ _ (field (.ref z) 3 >>= _) _ _ _
  refine wpAny_bind (wpAny_field hz rfl (x := .ref TI) rfl ?_)
  refine wpAny_bind (wpAny_seqItems hI rfl ?_)
  show wpAny _ _ (Builtin.SmallTypes.ownedTupleIsFree (.ref z) >>= _) _ _ _
  refine wpAny_bind ?_
  unfold Builtin.SmallTypes.ownedTupleIsFree
  refine wpAny_bind (wpAny_field hz rfl (x := .none) rfl (wpAny_pure ?_))
  simp only [if_true]
  refine wpAny_bind (wpAny_rule ?_)
  refine wpAny_bind (wpAny_field hz rfl (x := .ref TO) rfl ?_)
  refine wpAny_bind (wpAny_setField_rec hz (by simp) fun g1 z1 k1 => ?_)
  replace z1 : IsZip g1 z TI TO .ellipsis := z1
  refine wpAny_bind ?_
  simp only [List.zipIdx_cons, List.zipIdx_nil, List.forIn_cons, List.forIn_nil]
  refine wpAny_bind (wpAny_bind (wpAny_onRaise ?_))
  show wpAny _ _ (Builtin.SmallTypes.nextOf (.ref i1) >>= _) _ _ _
  have y1 : S1 i g1 := D1.frame _ _ _ x1 fun c hc o e => k1.extBut c o (fun q => D.c ((List.mem_singleton.mp hc).symm.trans q)) e
  refine wpAny_bind (D1.item i _ _ _ h1 y1 fun x g2 t2 px u1 k2 => wpAny_pure ?_)
  have O2 : IsPair g2 TO a b := k2.extBut _ _ D.h (k1.extBut _ _ D.b hO)
  refine wpAny_bind (wpAny_seqItems O2 rfl ?_)
  refine wpAny_bind (wpAny_updateSeq_pair O2 fun g3 O3 k3 => ?_)
  replace O3 : IsPair g3 TO x b := O3
  refine wpAny_bind (wpAny_letGo (wpAny_pure ?_))
  refine wpAny_bind (wpAny_bind (wpAny_onRaise ?_))
  show wpAny _ _ (Builtin.SmallTypes.nextOf (.ref i2) >>= _) _ _ _
  have y2 : S2 i g3 := D2.frame _ _ _ x2 fun c hc o e => by
    obtain rfl := List.mem_singleton.mp hc
    exact k3.extBut _ _ (Ne.symm D.i) (k2.extBut _ _ (Ne.symm D.j) (k1.extBut _ _ D.d e))
  refine wpAny_bind (D2.item i _ _ _ h2 y2 fun y g4 t4 py u2 k4 => wpAny_pure ?_)
  have O4 : IsPair g4 TO x b := k4.extBut _ _ D.i O3
  refine wpAny_bind (wpAny_seqItems O4 rfl ?_)
  refine wpAny_bind (wpAny_updateSeq_pair O4 fun g5 O5 k5 => ?_)
  replace O5 : IsPair g5 TO x y := O5
  refine wpAny_bind (wpAny_letGo (wpAny_pure (wpAny_pure ?_)))
  refine wpAny_bind (wpAny_seqItems O5 rfl ?_)
  refine wpAny_bind (wpAny_newTuple ?_)
  have hsz : g5.objs.size = s.heap.objs.size := by rw [k5.1, k4.1, k3.1, k2.1, k1.1]
  have z5 : IsZip g5 z TI TO .ellipsis := k5.extBut _ _ (Ne.symm D.b) (k4.extBut _ _ (Ne.symm D.d) (k3.extBut _ _ (Ne.symm D.b) (k2.extBut _ _ (Ne.symm D.c) z1)))
  have kp : ∀ c o, c ≠ z → c ≠ TO → c ≠ i1 → c ≠ i2 → s.heap.get? c = some o → g5.get? c = some o := fun c o c1 c2 c3 c4 e =>
    k5.extBut _ _ c2 (k4.extBut _ _ c4 (k3.extBut _ _ c2 (k2.extBut _ _ c3 (k1.extBut _ _ c1 e))))
  have v1 : S1 (i + 1) g5 := D1.frame _ _ _ u1 fun c hc o e => by
    obtain rfl := List.mem_singleton.mp hc
    exact k5.extBut _ _ (Ne.symm D.h) (k4.extBut _ _ D.j (k3.extBut _ _ (Ne.symm D.h) e))
  have v2 : S2 (i + 1) g5 := D2.frame _ _ _ u2 fun c hc o e => by
    obtain rfl := List.mem_singleton.mp hc
    exact k5.extBut _ _ (Ne.symm D.i) e
  have zlt : z < g5.objs.size := Heap.lt_size z5
  show wpAny _ _ (Builtin.SmallTypes.ownedTupleHandOut (.ref z) (.ref g5.objs.size) >>= _) _ _ _
  refine wpAny_bind ?_
  unfold Builtin.SmallTypes.ownedTupleHandOut
  have z6 : IsZip (g5.push { cls := .type "tuple", data := .seq #[x, y] }) z TI TO .ellipsis := Heap.get?_push_of_some _ z5
  refine wpAny_bind (wpAny_setField_rec z6 (by simp) fun g7 z7 k7 => ?_)
  replace z7 : IsZip g7 z TI TO (rawInt g5.objs.size) := z7
  refine wpAny_setField_rec z7 (by simp) fun g8 z8 k8 => ?_
  replace z8 : IsZip g8 z TI TO (rawInt g5.objs.size) := z8
  have up : ∀ c o, c ≠ z → g5.get? c = some o → g8.get? c = some o := fun c o c1 e => k8.extBut _ _ c1 (k7.extBut _ _ c1 (Heap.get?_push_of_some _ e))
  have T8 : IsPair g8 g5.objs.size x y := k8.extBut _ _ (Nat.ne_of_gt zlt) (k7.extBut _ _ (Nat.ne_of_gt zlt) (Heap.get?_push_size _ rfl))
  rw [hsz] at z8 T8
  refine wpAny_pure ⟨_, rfl, ?_⟩
  show Q (.ref g5.objs.size) _
  rw [hsz]
  have up1 : ∀ c ∈ [i1], ∀ o, g5.get? c = some o → g8.get? c = some o := fun c hc o e => up c o (fun q => D.c ((List.mem_singleton.mp hc).symm.trans q)) e
  have up2 : ∀ c ∈ [i2], ∀ o, g5.get? c = some o → g8.get? c = some o := fun c hc o e => up c o (fun q => D.d ((List.mem_singleton.mp hc).symm.trans q)) e
  exact hQ g8 t4 x y px py ⟨z8, up _ _ D.a (kp _ _ D.a D.e D.f D.g hI), ⟨_, _, up _ _ D.b O5⟩, D1.frame _ _ _ v1 up1, D2.frame _ _ _ v2 up2⟩ T8 fun c o c1 c2 c3 c4 e => up c o c1 (kp c o c1 c2 c3 c4 e)
theorem zipS_stop {Q : Fin → Shared → Prop} (D : ZApart z TI TO i1 i2) (D1 : Draws prog w A i1 [i1] n1 P1 S1) (D2 : Draws prog w A i2 [i2] n2 P2 S2) (hst : ZAt z TI TO i1 i2 S1 S2 (min n1 n2) (min n1 n2) .none s.heap)
    (hE : ∀ h' tk e, (∀ c o, c ≠ z → c ≠ TO → c ≠ i1 → c ≠ i2 → s.heap.get? c = some o → h'.get? c = some o) → (∃ o, h'.get? e = some o ∧ o.cls = .type "StopIteration") → E (.ref e) { s with heap := h', toks := tk }) :
    wpAny (model prog w) A (Builtin.«zip.__next__» ⟨[.ref z], []⟩) Q E s := by
  obtain ⟨hz, hI, ⟨a, b, hO⟩, x1, x2⟩ := hst
  show wpAny _ _ (field (.ref z) 2 >>= _) _ _ _
  refine wpAny_bind (wpAny_field hz rfl (x := .bool false) rfl ?_)
  show wpAny _ _ (field (.ref z) 3 >>= _) _ _ _
  refine wpAny_bind (wpAny_field hz rfl (x := .ref TI) rfl ?_)
  refine wpAny_bind (wpAny_seqItems hI rfl ?_)
  show wpAny _ _ (Builtin.SmallTypes.ownedTupleIsFree (.ref z) >>= _) _ _ _
  refine wpAny_bind ?_
  unfold Builtin.SmallTypes.ownedTupleIsFree
  refine wpAny_bind (wpAny_field hz rfl (x := .none) rfl (wpAny_pure ?_))
  simp only [if_true]
  refine wpAny_bind (wpAny_rule ?_)
  refine wpAny_bind (wpAny_field hz rfl (x := .ref TO) rfl ?_)
  refine wpAny_bind (wpAny_setField_rec hz (by simp) fun g1 z1 k1 => ?_)
  replace z1 : IsZip g1 z TI TO .ellipsis := z1
  refine wpAny_bind ?_
  simp only [List.zipIdx_cons, List.zipIdx_nil, List.forIn_cons, List.forIn_nil]
  refine wpAny_bind (wpAny_bind (wpAny_onRaise ?_))
  show wpAny _ _ (Builtin.SmallTypes.nextOf (.ref i1) >>= _) _ _ _
  have y1 : ∀ k, S1 k s.heap → S1 k g1 := fun k x1 => D1.frame _ _ _ x1 fun c hc o e => k1.extBut c o (fun q => D.c ((List.mem_singleton.mp hc).symm.trans q)) e
  rcases Nat.le_total n1 n2 with hle | hle
  · rw [Nat.min_eq_left hle] at x1 x2
    refine wpAny_bind (D1.done _ _ _ (y1 _ x1) fun g2 e k2 he => ?_)
    obtain ⟨oe, e1, e2⟩ := he
    have z2 : IsZip g2 z TI TO .ellipsis := k2 _ _ (Ne.symm D.c) z1
    have hez : e ≠ z := fun q => by subst q; rw [z2] at e1; cases e1; simp at e2
    refine wpAny_setField_rec z2 (by simp) fun g3 _ k3 => hE g3 _ e (fun c o c1 _ c3 _ x => k3.extBut _ _ c1 (k2 _ _ c3 (k1.extBut _ _ c1 x))) ⟨oe, k3.extBut _ _ hez e1, e2⟩
  · rcases Nat.eq_or_lt_of_le hle with heq | hlt
    · subst heq
      rw [Nat.min_self] at x1 x2
      refine wpAny_bind (D1.done _ _ _ (y1 _ x1) fun g2 e k2 he => ?_)
      obtain ⟨oe, e1, e2⟩ := he
      have z2 : IsZip g2 z TI TO .ellipsis := k2 _ _ (Ne.symm D.c) z1
      have hez : e ≠ z := fun q => by subst q; rw [z2] at e1; cases e1; simp at e2
      refine wpAny_setField_rec z2 (by simp) fun g3 _ k3 => hE g3 _ e (fun c o c1 _ c3 _ x => k3.extBut _ _ c1 (k2 _ _ c3 (k1.extBut _ _ c1 x))) ⟨oe, k3.extBut _ _ hez e1, e2⟩
    · rw [Nat.min_eq_right hle] at x1 x2
      refine wpAny_bind (D1.item _ _ _ _ hlt (y1 _ x1) fun x g2 t2 px u1 k2 => wpAny_pure ?_)
      have O2 : IsPair g2 TO a b := k2.extBut _ _ D.h (k1.extBut _ _ D.b hO)
      refine wpAny_bind (wpAny_seqItems O2 rfl ?_)
      refine wpAny_bind (wpAny_updateSeq_pair O2 fun g3 O3 k3 => ?_)
      refine wpAny_bind (wpAny_letGo (wpAny_pure ?_))
      refine wpAny_bind (wpAny_bind (wpAny_onRaise ?_))
      show wpAny _ _ (Builtin.SmallTypes.nextOf (.ref i2) >>= _) _ _ _
      have y2 : S2 n2 g3 := D2.frame _ _ _ x2 fun c hc o e => by
        obtain rfl := List.mem_singleton.mp hc
        exact k3.extBut _ _ (Ne.symm D.i) (k2.extBut _ _ (Ne.symm D.j) (k1.extBut _ _ D.d e))
      refine wpAny_bind (D2.done _ _ _ y2 fun g4 e k4 he => ?_)
      obtain ⟨oe, e1, e2⟩ := he
      have z4 : IsZip g4 z TI TO .ellipsis := k4 _ _ (Ne.symm D.d) (k3.extBut _ _ (Ne.symm D.b) (k2.extBut _ _ (Ne.symm D.c) z1))
      have hez : e ≠ z := fun q => by subst q; rw [z4] at e1; cases e1; simp at e2
      refine wpAny_setField_rec z4 (by simp) fun g5 _ k5 => hE g5 _ e (fun c o c1 c2 c3 c4 x => k5.extBut _ _ c1 (k4 _ _ c4 (k3.extBut _ _ c2 (k2.extBut _ _ c3 (k1.extBut _ _ c1 x))))) ⟨oe, k5.extBut _ _ hez e1, e2⟩
theorem walks_zipS (D : ZApart z TI TO i1 i2) (D1 : Draws prog w A.in1 i1 [i1] n1 P1 S1) (D2 : Draws prog w A.in1 i2 [i2] n2 P2 S2) :
    WalksT prog w A z [z, TI, TO, i1, i2] [z, TO, i1, i2] (min n1 n2) (fun i vals => ∃ x y, P1 i x ∧ P2 i y ∧ vals = #[x, y])
      (fun i h => ZAt z TI TO i1 i2 S1 S2 i i .none h) (fun i T h => ZAt z TI TO i1 i2 S1 S2 (i + 1) (i + 1) (rawInt T) h ∧ T ≠ z ∧ T ≠ TO ∧ T ≠ i1 ∧ T ≠ i2) where
  sub := fun c hc => by simp at hc ⊢; rcases hc with rfl | rfl | rfl | rfl <;> simp
  frame := fun i h h' ⟨hz, hI, ⟨a, b, hO⟩, x1, x2⟩ hk => ⟨hk z (by simp) _ hz, hk TI (by simp) _ hI, ⟨a, b, hk TO (by simp) _ hO⟩,
    D1.frame _ _ _ x1 fun c hc o e => hk c (by rw [List.mem_singleton.mp hc]; simp) o e, D2.frame _ _ _ x2 fun c hc o e => hk c (by rw [List.mem_singleton.mp hc]; simp) o e⟩
  item := fun i s Q E hi hst hQ => by
    have hT : s.TypeIs (.ref z) "zip" := ⟨_, hst.1, rfl⟩
    have lt : ∀ {c o}, s.heap.get? c = some o → s.heap.objs.size ≠ c := fun e => Nat.ne_of_gt (Heap.lt_size e)
    obtain ⟨o1, l1⟩ := D1.live _ _ hst.2.2.2.1
    obtain ⟨o2, l2⟩ := D2.live _ _ hst.2.2.2.2
    obtain ⟨a, b, l3⟩ := hst.2.2.1
    unfold pyNext
    refine wpAny_bind (wpAny_attempt (wpAny_callSpecial?_slot (name := Str.ofString "__next__") hT F.slot_zip_next
      (wpAny_call_entry F.slot_zip_next hT F.entry_zip_next
        (zipS_next D D1 D2 (Nat.lt_of_lt_of_le hi (Nat.min_le_left ..)) (Nat.lt_of_lt_of_le hi (Nat.min_le_right ..)) hst fun h' tk x y px py a1 a2 hk => wpAny_pure ?_) (F.args_zip_next_1 _))))
    exact hQ s.heap.objs.size #[x, y] h' tk ⟨_, _, px, py, rfl⟩ (Nat.le_refl _) ⟨_, a2, rfl, _, rfl⟩ ⟨a1, lt hst.1, lt l3, lt l1, lt l2⟩
      fun c o hc e => hk c o (fun x => hc (by simp [x])) (fun x => hc (by simp [x])) (fun x => hc (by simp [x])) (fun x => hc (by simp [x])) e
  go := fun elts k pos i T s Q E hm hQ => by
    obtain ⟨⟨hz, hI, ⟨a, b, hO⟩, x1, x2⟩, _⟩ := hm
    exact wpAny_letOwnedTupleGo_zip hz fun h' hz' hs' => hQ h' ⟨hz', hs'.extBut _ _ D.a hI, ⟨a, b, hs'.extBut _ _ D.b hO⟩,
      D1.frame _ _ _ x1 fun c hc o e => hs'.extBut _ _ (fun q => D.c ((List.mem_singleton.mp hc).symm.trans q)) e, D2.frame _ _ _ x2 fun c hc o e => hs'.extBut _ _ (fun q => D.d ((List.mem_singleton.mp hc).symm.trans q)) e⟩
      fun c o hc e => hs'.extBut _ _ (fun x => hc (by simp [x])) e
  apart := fun i T h hm hT => by
    obtain ⟨_, t1, t2, t3, t4⟩ := hm
    simp at hT
    rcases hT with rfl | rfl | rfl | rfl
    · exact t1 rfl
    · exact t2 rfl
    · exact t3 rfl
    · exact t4 rfl
  done := fun s Q E hst hQ => by
    have hT : s.TypeIs (.ref z) "zip" := ⟨_, hst.1, rfl⟩
    unfold pyNext
    refine wpAny_bind (wpAny_attempt (wpAny_callSpecial?_slot (name := Str.ofString "__next__") hT F.slot_zip_next
      (wpAny_call_entry F.slot_zip_next hT F.entry_zip_next (zipS_stop D D1 D2 hst fun h' tk e hk he => ?_) (F.args_zip_next_1 _))))
    obtain ⟨o, ho, hc⟩ := he
    refine wpAny_bind (wpAny_isInstance (T := "StopIteration") (b := true) ⟨o, ho, hc⟩ isSubtype_stop ?_)
    exact wpAny_pure (hQ _ _ fun c o hc e => hk c o (fun x => hc (by simp [x])) (fun x => hc (by simp [x])) (fun x => hc (by simp [x])) (fun x => hc (by simp [x])) e)
  self := fun i s Q E hst hQ => wpAny_pyIter_zip hst.1 hQ
end
abbrev sIt (x : T) (t : Tok) : Obj := { cls := .type "str_ascii_iterator", data := .fields #[.str (S x) t, .int 0 0] }
abbrev zsHeap (h : Heap) (x y : T) (t u : Tok) : Heap :=
  ((((h.push (sIt x t)).push (sIt y u)).push { cls := .type "tuple", data := .seq #[.ref h.objs.size, .ref (h.push (sIt x t)).objs.size] }).push { cls := .type "tuple", data := .seq #[.none, .none] }).push
    { cls := .type "zip", data := .fields #[.none, .bool false, .bool false, .ref ((h.push (sIt x t)).push (sIt y u)).objs.size, .ref (((h.push (sIt x t)).push (sIt y u)).push { cls := .type "tuple", data := .seq #[.ref h.objs.size, .ref (h.push (sIt x t)).objs.size] }).objs.size] }
theorem meets_zipS {x y : T} {t u : Tok} (hx : ∀ c ∈ x, c < 128) (hy : ∀ c ∈ y, c < 128) :
    Meets (Builtin.«zip.__new__» ⟨[.type "zip", .str (S x) t, .str (S y) u], []⟩) (fun _ R s => R (.ok (.ret (.ref (s.heap.objs.size + 4)))) { s with heap := zsHeap s.heap x y t u }) :=
  .of_wp fun prog w A R s h => by
    have hsub := sub_zip
    iterate 10 wp_step
    refine wpAny_pure ?_
    show wpAny _ A.in1 (Builtin.SmallTypes.iterAll [.str (S x) t, .str (S y) u] >>= _) _ _ s
    refine wpAny_bind ?_
    unfold Builtin.SmallTypes.iterAll
    refine wpAny_bind ?_
    simp only [List.forIn_cons, List.forIn_nil]
    refine wpAny_bind (wpAny_bind (wpAny_holding (wpAny_pyIter_ascii (ascii_all hx) ?_)))
    refine wpAny_pure ?_
    refine wpAny_bind (wpAny_bind (wpAny_holding (wpAny_pyIter_ascii (ascii_all hy) ?_)))
    refine wpAny_pure (wpAny_pure (wpAny_pure ?_))
    show wpAny _ A.in1 (newTuple [.ref s.heap.objs.size, .ref (s.heap.push (sIt x t)).objs.size] >>= fun a => newTuple [.none, .none] >>= fun b => Builtin.SmallTypes.newRecord (.type "zip") [.none, .bool false, .bool false, a, b] >>= ret) _ _ { s with heap := (s.heap.push (sIt x t)).push (sIt y u) }
    refine wpAny_bind (wpAny_newTuple ?_ (by show 2 ≤ sizeLine; rw [sizeLine_eq]; decide))
    refine wpAny_bind (wpAny_newTuple ?_ (by show 2 ≤ sizeLine; rw [sizeLine_eq]; decide))
    refine wpAny_bind ?_
    show wpAny _ A.in1 (newObj (.type "zip") (.fields #[.none, .bool false, .bool false, .ref ((s.heap.push (sIt x t)).push (sIt y u)).objs.size, .ref (((s.heap.push (sIt x t)).push (sIt y u)).push { cls := .type "tuple", data := .seq #[.ref s.heap.objs.size, .ref (s.heap.push (sIt x t)).objs.size] }).objs.size])) _ _ _
    refine wpAny_newObj_type ?_
    refine wpAny_pure ⟨_, rfl, ?_⟩
    have e : (zsHeap s.heap x y t u).objs.size = s.heap.objs.size + 5 := by simp only [Heap.size_push]
    show R (.ok (.ret (.ref (((((s.heap.push (sIt x t)).push (sIt y u)).push _).push _).objs.size)))) _
    rw [show ((((s.heap.push (sIt x t)).push (sIt y u)).push { cls := .type "tuple", data := .seq #[.ref s.heap.objs.size, .ref (s.heap.push (sIt x t)).objs.size] }).push { cls := .type "tuple", data := .seq #[.none, .none] }).objs.size = s.heap.objs.size + 4 by simp only [Heap.size_push]]
    exact h
theorem zapart_new (n : Nat) : ZApart (n + 4) (n + 2) (n + 3) n (n + 1) where
  a := Nat.ne_of_lt (Nat.add_lt_add_left (by decide) n)
  b := Nat.ne_of_lt (Nat.add_lt_add_left (by decide) n)
  c := Nat.ne_of_lt (Nat.lt_add_of_pos_right (by decide))
  d := Nat.ne_of_lt (Nat.add_lt_add_left (by decide) n)
  e := Nat.ne_of_lt (Nat.add_lt_add_left (by decide) n)
  f := Nat.ne_of_gt (Nat.lt_add_of_pos_right (by decide))
  g := Nat.ne_of_gt (Nat.add_lt_add_left (by decide) n)
  h := Nat.ne_of_gt (Nat.lt_add_of_pos_right (by decide))
  i := Nat.ne_of_gt (Nat.add_lt_add_left (by decide) n)
  j := Nat.ne_of_lt (Nat.lt_add_of_pos_right (by decide))
/-- zip of two texts -/
theorem call_zipS {prog : Program} {w : World} {A : Around} {E : Value → Shared → Prop} {s : Shared} {x y : T} {t u : Tok} {Q : Value → Shared → Prop} (hx : ∀ c ∈ x, c < 128) (hy : ∀ c ∈ y, c < 128)
    (h : ∀ h', ZAt (s.heap.objs.size + 4) (s.heap.objs.size + 2) (s.heap.objs.size + 3) s.heap.objs.size (s.heap.objs.size + 1) (fun i h => h.IsStrIter s.heap.objs.size "str_ascii_iterator" (S x) t i) (fun i h => h.IsStrIter (s.heap.objs.size + 1) "str_ascii_iterator" (S y) u i) 0 0 .none h' →
      (∀ c o, s.heap.get? c = some o → h'.get? c = some o) → Q (.ref (s.heap.objs.size + 4)) { s with heap := h' }) :
    wpAny (model prog w) A (call (.type "zip") [.str (S x) t, .str (S y) u]) Q E s := by
  refine callType_new F.called_zip (by decide) (F.typeCall_zip_2 _ _) (F.newCall_zip_2 _ _) (fun obj => F.args_object_init_3 obj _ _) F.entry_zip_new (meets_zipS hx hy) ?_
  have up : ∀ (h : Heap) (o : Obj) (b : Addr) (p : Obj), h.get? b = some p → (h.push o).get? b = some p := fun h o b p e => Heap.get?_push_of_some _ e
  have n1 : (s.heap.push (sIt x t)).objs.size = s.heap.objs.size + 1 := Heap.size_push ..
  have n2 : ((s.heap.push (sIt x t)).push (sIt y u)).objs.size = s.heap.objs.size + 2 := by rw [Heap.size_push, n1]
  have n3 : ∀ o, (((s.heap.push (sIt x t)).push (sIt y u)).push o).objs.size = s.heap.objs.size + 3 := fun o => by rw [Heap.size_push, n2]
  have n4 : ∀ o p, ((((s.heap.push (sIt x t)).push (sIt y u)).push o).push p).objs.size = s.heap.objs.size + 4 := fun o p => by rw [Heap.size_push, n3]
  have g1 : (zsHeap s.heap x y t u).get? s.heap.objs.size = some (sIt x t) := up _ _ _ _ (up _ _ _ _ (up _ _ _ _ (up _ _ _ _ (Heap.get?_push_size _ rfl))))
  have g2 : (zsHeap s.heap x y t u).get? (s.heap.push (sIt x t)).objs.size = some (sIt y u) := up _ _ _ _ (up _ _ _ _ (up _ _ _ _ (Heap.get?_push_size _ rfl)))
  have g3 : (zsHeap s.heap x y t u).get? ((s.heap.push (sIt x t)).push (sIt y u)).objs.size = some _ := up _ _ _ _ (up _ _ _ _ (Heap.get?_push_size _ rfl))
  have g4 : (zsHeap s.heap x y t u).get? (((s.heap.push (sIt x t)).push (sIt y u)).push _).objs.size = some _ := up _ _ _ _ (Heap.get?_push_size _ rfl)
  have g5 : (zsHeap s.heap x y t u).get? ((((s.heap.push (sIt x t)).push (sIt y u)).push _).push _).objs.size = some _ := Heap.get?_push_size _ rfl
  rw [n1] at g2
  rw [n1, n2] at g3
  rw [n3] at g4
  rw [n4, n2, n3] at g5
  exact ⟨⟨_, g5, rfl⟩, h _ ⟨g5, g3, ⟨_, _, g4⟩, ⟨_, g1, rfl, rfl⟩, ⟨_, g2, rfl, rfl⟩⟩ fun c o e => up _ _ _ _ (up _ _ _ _ (up _ _ _ _ (up _ _ _ _ (up _ _ _ _ e))))⟩
end Mine
end
section
open PySem PySem.W PyProof.Rows PySem.Calls PySem.Spec
set_option maxRecDepth 100000
namespace Mine
section
variable {prog : Program} {w : World} {A : Around} {E : Value → Shared → Prop} {s : Shared} {h₀ : Heap} {L : Addr} {m : Str → Option Value} {env : Env}
/-- the pairs of a comprehension, no one of which passes the test -/
def SrcNo (prog : Program) (w : World) (A : Around) (h₀ : Heap) (L : Addr) (m : Str → Option Value) (env : Env) (c : PySem.Expr) (a b : Str) (scope : Scope) (cl : List (Str × Addr)) (Q : Value → Shared → Prop) (xv : Value) (s₁ : Shared) : Prop :=
  ∃ (z : Addr) (fp wr : List Addr) (n : Nat) (Pt : Nat → Array Value → Prop) (St : Nat → Heap → Prop) (Mid : Nat → Addr → Heap → Prop) (news : List (Addr × Obj)),
    xv = .ref z ∧ A.handled = none ∧ WalksT prog w A z fp wr n Pt St Mid ∧ St 0 s₁.heap ∧ (∀ b ∈ fp, b < s₁.heap.objs.size) ∧ (∀ b ∈ wr, h₀.get? b = none) ∧ L ∉ wr ∧ (∀ p ∈ news, p.1 ∉ wr) ∧ Fr h₀ L s₁.heap m ∧ News h₀ L s₁.heap news ∧
    (∀ i vals, Pt i vals → ∃ v0 v1, vals = #[v0, v1]) ∧
    (∀ i v0 v1 C oC m₂ h tk (E' : Value → Shared → Prop), Pt i #[v0, v1] → LCg.NsObj oC m₂ → m₂ a = some v0 → m₂ b = some v1 → Fr h₀ L h m → News h₀ L h ((C, oC) :: news) →
      wpAny (model prog w) A (isTrue c (compEnvC scope cl C env) (eval c (compEnvC scope cl C env))) (fun ok s₃ => ok = false ∧ ∃ tk', s₃ = { s₁ with heap := h, toks := tk' }) E' { s₁ with heap := h, toks := tk }) ∧
    (∀ D h tk, Fr h₀ L h m → News h₀ L h ((D, LCg.lst []) :: news) → Q (.ref D) { s₁ with heap := h, toks := tk })
theorem ListComp_no {elt iter c : PySem.Expr} {a b : Str} {pa pb tp : Pos} {kk : Nat} {scope : Scope} {cl : List (Str × Addr)} {pos : Pos} {Q : Value → Shared → Prop}
    (F₀ : Fr h₀ L s.heap m) (hclos : closureFor scope env = pure cl) (hcell : ∀ y ∈ scope.names, y.2 ≠ .cell) (hkind : scope.kind = .function)
    (hnames : ∀ y ∈ scope.names, y.2 = .local → scope.names.lookup y.1 = some .local) (hxa : scope.names.lookup a = some .local) (hxb : scope.names.lookup b = some .local) (hab : ¬ a = b)
    (h : wpAny (model prog w) A (eval iter env) (SrcNo prog w A h₀ L m env c a b scope cl Q) E s)
    (hs : ∀ x, foldedSetIterable iter env x = pure x := by intro _; rfl) :
    wpAny (model prog w) A (eval (.ListComp elt [⟨.Tuple [.Name a pa, .Name b pb] kk tp, iter, [c], 0⟩] scope pos) env) Q E s := by
  rw [eval_ListComp]
  refine wpAny_comprehension_free (use := none) rfl hs hclos hkind hnames (wpAny_mono h (fun xv s₂ h₁ => ?_) fun _ _ e => e)
  obtain ⟨z, fp, wr, n, Pt, St, Mid, news, rfl, hh, W, hst, hfp, hwr, hLw, hnw, F, N, hP, test, fin⟩ := h₁
  refine W.self 0 _ _ _ hst ?_
  refine wpAny_newObj_type (wpAny_newFunctionEnv hcell (by intro y hy; simp at hy) (fun h₁ hns₁ hsb₁ => ?_) hkind)
  dsimp only at hns₁ hsb₁ ⊢
  generalize hH2 : s₂.heap.push { cls := .type "list", dict := none, data := .seq ([] : List Value).toArray } = H2 at hns₁ hsb₁ ⊢
  have hC : H2.objs.size = s₂.heap.objs.size + 1 := by rw [← hH2, Heap.size_push]
  have hDC : s₂.heap.objs.size ≠ H2.objs.size := by rw [hC]; exact Nat.ne_of_lt (Nat.lt_succ_self _)
  have below : ∀ b, b < s₂.heap.objs.size → b ≠ H2.objs.size ∧ b ≠ s₂.heap.objs.size := fun b hb => ⟨by rw [hC]; exact Nat.ne_of_lt (Nat.lt_succ_of_lt hb), Nat.ne_of_lt hb⟩
  have hDf : s₂.heap.objs.size ∉ fp := fun hm => Nat.lt_irrefl _ (hfp _ hm)
  have hCf : H2.objs.size ∉ fp := fun hm => (below _ (hfp _ hm)).1 rfl
  have old : ∀ b o, s₂.heap.get? b = some o → h₁.get? b = some o := fun b o e => hsb₁.extBut b o (below b (Heap.lt_size e)).1 (Heap.get?_push_of_some _ (hH2 ▸ Heap.get?_push_of_some _ e))
  have hacc : h₁.get? s₂.heap.objs.size = some (LCg.lst []) := hsb₁.extBut _ _ hDC (Heap.get?_push_of_some _ (hH2 ▸ Heap.get?_push_size _ rfl))
  have hst₁ : St 0 h₁ := W.frame _ _ _ hst fun b _ o e => old b o e
  have fresh₀ : ∀ a, s₂.heap.objs.size ≤ a → h₀.get? a = none := fun a ha => by
    cases e : h₀.get? a with
    | none => rfl
    | some o' => exact absurd (Heap.lt_size (F.keep a o' e)) (Nat.not_lt.mpr ha)
  have hD₀ : h₀.get? s₂.heap.objs.size = none := fresh₀ _ (Nat.le_refl _)
  have hC₀ : h₀.get? H2.objs.size = none := fresh₀ _ (by rw [hC]; exact Nat.le_succ _)
  have hLlt : L < s₂.heap.objs.size := F.ns.lt
  have hDL : s₂.heap.objs.size ≠ L := Ne.symm (below L hLlt).2
  have hCL : H2.objs.size ≠ L := Ne.symm (below L hLlt).1
  have wrlt : ∀ b ∈ wr, b < s₂.heap.objs.size := fun b hb => hfp _ (W.sub _ hb)
  have hDw : s₂.heap.objs.size ∉ wr := fun hm => Nat.lt_irrefl _ (wrlt _ hm)
  have hCw : H2.objs.size ∉ wr := fun hm => (below _ (wrlt _ hm)).1 rfl
  have loop : ∀ s₃ : Shared, s₃ = { s₂ with heap := h₁, toks := s₂.toks + ([] : List (Str × Value)).length } →
      codeAny (model prog w) A (.compLoop (.ListComp elt [⟨.Tuple [.Name a pa, .Name b pb] kk tp, iter, [c], 0⟩] scope pos) 0 (.ref z) (.ref s₂.heap.objs.size) (compEnvC scope cl H2.objs.size env))
        (compPost (model prog w) A E none Q (.ref s₂.heap.objs.size) H2.objs.size) s₃ := by
    rintro s₃ rfl
    refine kct_loop
      (fun k s' => ∃ h' tk i m', s' = { s₂ with heap := h', toks := tk } ∧ i ≤ n ∧ k = n + 1 - i ∧ St i h' ∧ Fr h₀ L h' m ∧ h'.Ns H2.objs.size m' ∧ News h₀ L h' ((s₂.heap.objs.size, LCg.lst []) :: news)) ?_ (n + 1)
      ⟨h₁, _, 0, _, rfl, Nat.zero_le _, rfl, hst₁, F.keeps old, hns₁, fun p hp => ?_⟩
    · rintro k s' ⟨h', tk, i, m', rfl, hi, rfl, hst', F', hn', N'⟩
      by_cases hlt : i < n
      · refine W.item i _ _ _ hlt hst' fun T vals h₂ tk₂ hPt _ hT hMid hk₂ => ?_
        obtain ⟨v0, v1, rfl⟩ := hP i vals hPt
        refine W.go _ kk tp i T _ _ _ hMid fun h₃ hst₃ hk₃ => ?_
        have ht₃ : h₃.IsTuple T #[v0, v1] := hT.at fun o e => hk₃ T o (W.apart i T h₂ hMid) e
        have up₃ : ∀ c o, c ∉ wr → h'.get? c = some o → h₃.get? c = some o := fun c o hc e => hk₃ c o hc (hk₂ c o hc e)
        refine kcp_assign (env := compEnvC scope cl H2.objs.size env) hh ht₃ (lookup_relabel_local hxa) (lookup_relabel_local hxb) (by simp [compEnvC, relabel, hkind]) (hn'.at' fun o e => up₃ _ o hCw e) fun h₄ tk₄ hn₄ hs₄ => ?_
        have up : ∀ c o, c ∉ wr → c ≠ H2.objs.size → h'.get? c = some o → h₄.get? c = some o := fun c o h1 h2 e => hs₄ c o h2 (up₃ c o h1 e)
        have hst₄ : St (i + 1) h₄ := W.frame _ _ _ hst₃ fun b hb o e => hs₄ b o (fun q => hCf (by have q' : b = H2.objs.size := q; rw [← q']; exact hb)) e
        obtain ⟨oC, heC, hoC⟩ := LCg.ns_obj hn₄
        have F₄ : Fr h₀ L h₄ m := ⟨F'.ns.at' fun o e => up _ o hLw (Ne.symm hCL) e, fun c o e => up c o (fun q => by rw [hwr c q] at e; cases e) (fun q => by rw [q, hC₀] at e; cases e) (F'.keep c o e), F'.above⟩
        have N₄ : News h₀ L h₄ ((s₂.heap.objs.size, LCg.lst []) :: news) := fun q hq => by
          have zq := N' q hq
          refine ⟨up _ _ ?_ ?_ zq.1, zq.2⟩
          · rcases List.mem_cons.mp hq with rfl | hq
            · exact hDw
            · exact hnw q hq
          · rcases List.mem_cons.mp hq with rfl | hq
            · exact hDC
            · exact (below _ (Heap.lt_size (N q hq).1)).1
        refine wpAny_mono (test i v0 v1 H2.objs.size oC _ h₄ _ _ hPt hoC (by simp [hab]) (by simp) F₄ (fun q hq => ?_)) (fun ok s₃ h₃ => ?_) fun _ _ e => e
        · rcases List.mem_cons.mp hq with rfl | hq
          · exact ⟨heC, hCL, hC₀⟩
          · exact N₄ q (.tail _ hq)
        · obtain ⟨rfl, tk', rfl⟩ := h₃
          exact ⟨n + 1 - (i + 1), by omega, h₄, tk', i + 1, _, rfl, hlt, rfl, hst₄, F₄, hn₄, N₄⟩
      · obtain rfl : i = n := Nat.le_antisymm hi (Nat.not_lt.mp hlt)
        refine W.done _ _ _ hst' fun h₂ tk₂ hk₂ => ?_
        have F₂ : Fr h₀ L h₂ m := ⟨F'.ns.at' fun o e => hk₂ _ o hLw e, fun c o e => hk₂ c o (fun q => by rw [hwr c q] at e; cases e) (F'.keep c o e), F'.above⟩
        refine ⟨_, hn'.at' fun o e => hk₂ _ o hCw e, fun h'' hs'' => fin _ h'' tk₂ (F₂.change hs'' hCL hC₀) fun p hp => ?_⟩
        have zp := N' p hp
        refine ⟨hs''.extBut _ _ ?_ (hk₂ _ _ ?_ zp.1), zp.2⟩
        · rcases List.mem_cons.mp hp with rfl | hp
          · exact hDC
          · exact (below _ (Heap.lt_size (N p hp).1)).1
        · rcases List.mem_cons.mp hp with rfl | hp
          · exact hDw
          · exact hnw p hp
    · rcases List.mem_cons.mp hp with rfl | hp
      · exact ⟨hacc, hDL, hD₀⟩
      · exact ⟨old _ _ (N p hp).1, (N p hp).2⟩
  exact codeAny_compStart_list (loop _ rfl) (W.self 0 _ _ _ hst₁ (loop _ rfl))
/-- over a zip of two texts -/
theorem SrcNo.texts {c : PySem.Expr} {a b : Str} {scope : Scope} {cl : List (Str × Addr)} {Q : Value → Shared → Prop} {x y : T} {t u : Tok} {news : List (Addr × Obj)} (hh : A.handled = none) (hx : ∀ c ∈ x, c < 128) (hy : ∀ c ∈ y, c < 128)
    (F : Fr h₀ L s.heap m) (N : News h₀ L s.heap news)
    (test : ∀ i t' u' C oC m₂ (s₁ : Shared) h tk (E' : Value → Shared → Prop), i < x.length → i < y.length → LCg.NsObj oC m₂ → m₂ a = some (.str (S [x.getD i 0]) t') → m₂ b = some (.str (S [y.getD i 0]) u') → Fr h₀ L h m → News h₀ L h ((C, oC) :: news) →
      wpAny (model prog w) A (isTrue c (compEnvC scope cl C env) (eval c (compEnvC scope cl C env))) (fun ok s₃ => ok = false ∧ ∃ tk', s₃ = { s₁ with heap := h, toks := tk' }) E' { s₁ with heap := h, toks := tk })
    (fin : ∀ D h tk, Fr h₀ L h m → News h₀ L h ((D, LCg.lst []) :: news) → Q (.ref D) { s with heap := h, toks := tk }) :
    wpAny (model prog w) A (call (.type "zip") [.str (S x) t, .str (S y) u]) (SrcNo prog w A h₀ L m env c a b scope cl Q) E s := by
  refine call_zipS hx hy fun h' hz hk => ?_
  have nw : ∀ k, h₀.get? (s.heap.objs.size + k) = none := fun k => Heap.get?_none_of_le (Nat.le_trans F.above (Nat.le_trans (Nat.le_of_lt F.ns.lt) (Nat.le_add_right _ k)))
  have dn : ∀ (b : Nat) k, b < s.heap.objs.size → b ≠ s.heap.objs.size + k := fun b k hb => Nat.ne_of_lt (Nat.lt_of_lt_of_le hb (Nat.le_add_right _ k))
  have W := walks_zipS (prog := prog) (w := w) (A := A) (zapart_new s.heap.objs.size) (Draws.strAscii (A := A.in1) hh s.heap.objs.size (S x) t) (Draws.strAscii (A := A.in1) hh (s.heap.objs.size + 1) (S y) u)
  obtain ⟨hz1, hz2, ⟨za, zb, hz3⟩, ⟨o1, hz4, hr4⟩, ⟨o2, hz5, hr5⟩⟩ := id hz
  have notw : ∀ b : Nat, b < s.heap.objs.size → b ∉ [s.heap.objs.size + 4, s.heap.objs.size + 3, s.heap.objs.size, s.heap.objs.size + 1] := fun b hb hm => by
    simp only [List.mem_cons, List.not_mem_nil, or_false] at hm
    rcases hm with q | q | q | q
    · exact dn b 4 hb q
    · exact dn b 3 hb q
    · exact dn b 0 hb q
    · exact dn b 1 hb q
  refine ⟨_, _, _, _, _, _, _, news, rfl, hh, W, hz, ?_, ?_, notw L F.ns.lt, fun p hp => notw p.1 (Heap.lt_size (N p hp).1), F.keeps hk, N.grown hk, ?_, ?_, ?_⟩
  · intro b hb
    simp only [List.mem_cons, List.not_mem_nil, or_false] at hb
    rcases hb with rfl | rfl | rfl | rfl | rfl
    · exact Heap.lt_size hz1
    · exact Heap.lt_size hz2
    · exact Heap.lt_size hz3
    · exact Heap.lt_size hz4
    · exact Heap.lt_size hz5
  · intro b hb
    simp only [List.mem_cons, List.not_mem_nil, or_false] at hb
    rcases hb with rfl | rfl | rfl | rfl
    · exact nw 4
    · exact nw 3
    · exact nw 0
    · exact nw 1
  · rintro i vals ⟨v0, v1, _, _, e⟩
    exact ⟨v0, v1, e⟩
  · rintro i v0 v1 C oC m₂ h tk E' ⟨p, q, ⟨c1, u1, g1, e1⟩, ⟨c2, u2, g2, e2⟩, e⟩ hC ha hb F' N'
    obtain ⟨rfl, rfl⟩ : v0 = p ∧ v1 = q := by simpa using congrArg Array.toList e
    subst e1 e2
    have g1' : x[i]? = some c1 := by
      have : (List.toArray x)[i]? = some c1 := g1
      rwa [List.getElem?_toArray] at this
    have g2' : y[i]? = some c2 := by
      have : (List.toArray y)[i]? = some c2 := g2
      rwa [List.getElem?_toArray] at this
    have l1 : i < x.length := by
      rcases Nat.lt_or_ge i x.length with h | h
      · exact h
      · rw [List.getElem?_eq_none h] at g1'; cases g1'
    have l2 : i < y.length := by
      rcases Nat.lt_or_ge i y.length with h | h
      · exact h
      · rw [List.getElem?_eq_none h] at g2'; cases g2'
    have d1 : x.getD i 0 = c1 := by rw [List.getD_eq_getElem?_getD, g1']; rfl
    have d2 : y.getD i 0 = c2 := by rw [List.getD_eq_getElem?_getD, g2']; rfl
    refine wpAny_mono (test i u1 u2 C oC m₂ _ h tk E' l1 l2 hC (by rw [d1]; exact ha) (by rw [d2]; exact hb) F' N') (fun _ _ z => z) fun _ _ e => e
  · exact fun D h tk F' N' => fin D h tk F' N'
end
end Mine
end
section
open PySem PySem.W PyProof.Rows PySem.Calls PySem.Spec
set_option maxRecDepth 100000
namespace Mine
/-- the end of a turn that may have drawn -/
def TEndD (h₀ : Heap) (L : Addr) (I : Addr) (io : Obj) (J : (Str → Option Value) → List (Addr × Obj) → Prop) (s₁ : Shared) (Q : Flow → Shared → Prop) (f : Flow) (s₂ : Shared) : Prop :=
  match f with
  | .ret v => Q (.ret v) s₂
  | .brk => Q .next s₂
  | _ => ∃ h' tk d m' nw, s₂ = { s₁ with heap := h', toks := tk, drawn := d } ∧ Fr h₀ L h' m' ∧ News h₀ L h' ((I, io) :: nw) ∧ (∀ p ∈ nw, p.1 ≠ I) ∧ J m' nw
section
variable {h₀ : Heap} {L I : Addr} {io : Obj} {J : (Str → Option Value) → List (Addr × Obj) → Prop} {s₁ s₂ : Shared} {Q : Flow → Shared → Prop}
theorem TEndD.next {h' : Heap} {tk : Nat} {d : Drawn} {m' : Str → Option Value} {all : List (Addr × Obj)} (F : Fr h₀ L h' m') (N : News h₀ L h' all) (nw : List (Addr × Obj))
    (hI : (I, io) ∈ all) (sub : ∀ p ∈ nw, p ∈ all) (off : ∀ p ∈ nw, p.1 ≠ I) (r : J m' nw) (e : s₂ = { s₁ with heap := h', toks := tk, drawn := d }) : TEndD h₀ L I io J s₁ Q .next s₂ :=
  ⟨h', tk, d, m', nw, e, F, fun p hp => by
    rcases List.mem_cons.mp hp with rfl | hp
    · exact N _ hI
    · exact N _ (sub p hp), off, r⟩
theorem TEndD.ret {v : Value} (h : Q (.ret v) s₂) : TEndD h₀ L I io J s₁ Q (.ret v) s₂ := h
end
section
variable {prog : Program} {w : World} {A : Around} {E : Value → Shared → Prop} {s : Shared} {env : Env} {h₀ : Heap} {x : Str} {body : List Stmt} {Q : Flow → Shared → Prop}
/-- a loop over a list, whose turns may draw -/
def ForAtD (prog : Program) (w : World) (A : Around) (h₀ : Heap) (env : Env) (x : Str) (body : List Stmt) (Q : Flow → Shared → Prop) (E : Value → Shared → Prop) (xv : Value) (s₁ : Shared) : Prop :=
  ∃ (l : Addr) (vs : List Value) (J : Nat → (Str → Option Value) → List (Addr × Obj) → Prop) (m₀ : Str → Option Value) (news : List (Addr × Obj)),
    xv = .ref l ∧ A.handled = none ∧ Fr h₀ env.locals s₁.heap m₀ ∧ News h₀ env.locals s₁.heap news ∧ J 0 m₀ news ∧
    (∀ i m nw h, J i m nw → Fr h₀ env.locals h m → News h₀ env.locals h nw → h.IsList l vs.toArray) ∧
    (∀ i v m₁ news₁ I io h tk d, vs[i]? = some v → (∀ p ∈ news, p.1 < I) → J i m₁ news₁ → (∀ p ∈ news₁, p.1 ≠ I) → Fr h₀ env.locals h (fun y => if y = x then some v else m₁ y) → News h₀ env.locals h ((I, io) :: news₁) →
      wpAny (model prog w) A (execs body env) (TEndD h₀ env.locals I io (J (i + 1)) { s₁ with heap := h, toks := tk, drawn := d } Q) E { s₁ with heap := h, toks := tk, drawn := d }) ∧
    (∀ m₁ news₁ h tk d, J vs.length m₁ news₁ → Fr h₀ env.locals h m₁ → News h₀ env.locals h news₁ → Q .next { s₁ with heap := h, toks := tk, drawn := d })
theorem for_D {px pos : Pos} {iter : PySem.Expr} (h₀ : Heap) (hx : env.kindOf x = some .local) (hp : (env.scope.kind == .class || (env.scope.kind == .module && env.locals != env.globals)) = false)
    (h : wpAny (model prog w) A (eval iter env) (ForAtD prog w A h₀ env x body Q E) E s)
    (hs : ∀ x, foldedSetIterable iter env x = pure x := by intro _; rfl) (hE : PassesOwn (model prog w) A env E := by passes_own) :
    wpAny (model prog w) A (exec (.For (.Name x px) iter body [] pos) env) Q E s := by
  refine wpAny_For (wpAny_mono h (fun xv s₁ h₁ => ?_) fun _ _ e => e) hs
  obtain ⟨l, vs, J, m₀, news, rfl, hh, F, N, hj, hin, turn, done⟩ := h₁
  have hl := hin _ _ _ _ hj F N
  have hlt : l < s₁.heap.objs.size := by obtain ⟨o, e, _⟩ := hl; exact Heap.lt_size e
  refine wpAny_pyIter_list hl ?_
  have W := Walks.list (prog := prog) (w := w) hh s₁.heap.objs.size l (Nat.ne_of_lt hlt) vs.toArray
  have hlen : vs.toArray.size = vs.length := by simp
  rw [hlen] at W
  have hnew := next_is_new F
  have hIL : env.locals ≠ s₁.heap.objs.size := Nat.ne_of_lt F.ns.lt
  have hI0 : ∀ p ∈ news, p.1 < s₁.heap.objs.size := fun p hp => Heap.lt_size (N p hp).1
  refine codeAny_forLoop (R := fun r s' => match r with | .ok f => Q f s' | .error e => cameBackBy (model prog w) A env E e s')
    (fun k s' => ∃ h' tk d m' nw i, s' = { s₁ with heap := h', toks := tk, drawn := d } ∧ h'.IsListIter s₁.heap.objs.size l i ∧ Fr h₀ env.locals h' m' ∧ News h₀ env.locals h' nw ∧ (∀ p ∈ nw, p.1 ≠ s₁.heap.objs.size) ∧ J i m' nw ∧ i ≤ vs.length ∧ k = vs.length + 1 - i)
    ?_ (vs.length + 1) ⟨_, _, _, m₀, news, 0, rfl, ⟨_, Heap.get?_push_size _ rfl, rfl, rfl⟩, F.push _, fun p hp => ⟨Heap.get?_push_of_some _ (N p hp).1, (N p hp).2⟩, fun p hp => Nat.ne_of_lt (hI0 p hp), hj, Nat.zero_le _, rfl⟩
  rintro k s' ⟨h', tk, d, m', nw, i, rfl, hit, F', N', ho, hJ, hi, rfl⟩
  have hl' := hin _ _ _ _ hJ F' N'
  have nxt : ∀ h₁ : Heap, (∀ b o, b ∉ [s₁.heap.objs.size] → h'.get? b = some o → h₁.get? b = some o) → Fr h₀ env.locals h₁ m' ∧ News h₀ env.locals h₁ nw := fun h₁ hk =>
    ⟨⟨F'.ns.at' fun o e => hk _ o (fun q => hIL (List.mem_singleton.mp q)) e, fun b o e => hk b o (fun q => by rw [List.mem_singleton.mp q, hnew] at e; cases e) (F'.keep b o e), F'.above⟩,
      fun p hp => ⟨hk _ _ (fun q => ho p hp (List.mem_singleton.mp q)) (N' p hp).1, (N' p hp).2⟩⟩
  by_cases hlt' : i < vs.length
  · refine W.item i _ _ _ hlt' ⟨hit, hl'⟩ fun v h₁ tk₁ hP hst₁ hk₁ => ?_
    obtain ⟨F₁, N₁⟩ := nxt h₁ hk₁
    refine wpAny_assign_Name (wpAny_storeName_local hx F₁.ns (fun h₂ hn₂ hs₂ => ?_) hp)
    have F₂ := F₁.set hn₂ hs₂
    have N₂ := N₁.set hs₂
    obtain ⟨io, e1, e2, e3⟩ := hst₁.1
    have e1' : h₂.get? s₁.heap.objs.size = some io := hs₂.extBut _ _ (Ne.symm hIL) e1
    have N₃ : News h₀ env.locals h₂ ((s₁.heap.objs.size, io) :: nw) := fun p hp => by
      rcases List.mem_cons.mp hp with rfl | hp
      · exact ⟨e1', Ne.symm hIL, hnew⟩
      · exact N₂ p hp
    refine wpAny_passesOwn hE (wpAny_mono (turn i v m' nw s₁.heap.objs.size io h₂ _ d (by simpa using hP) hI0 hJ ho F₂ N₃) (fun f s₃ h₃ => ?_) fun _ _ e => e)
    have go : (∃ h' tk d m' nw, s₃ = { s₁ with heap := h', toks := tk, drawn := d } ∧ Fr h₀ env.locals h' m' ∧ News h₀ env.locals h' ((s₁.heap.objs.size, io) :: nw) ∧ (∀ p ∈ nw, p.1 ≠ s₁.heap.objs.size) ∧ J (i + 1) m' nw) →
        ∃ m, m < vs.length + 1 - i ∧ ∃ h' tk d m' nw i, s₃ = { s₁ with heap := h', toks := tk, drawn := d } ∧ h'.IsListIter s₁.heap.objs.size l i ∧ Fr h₀ env.locals h' m' ∧ News h₀ env.locals h' nw ∧ (∀ p ∈ nw, p.1 ≠ s₁.heap.objs.size) ∧ J i m' nw ∧ i ≤ vs.length ∧ m = vs.length + 1 - i := by
      rintro ⟨h', tk, d, m', nw, rfl, F, N, o, j⟩
      exact ⟨vs.length + 1 - (i + 1), by omega, h', tk, d, m', nw, i + 1, rfl, ⟨io, (N _ (.head _)).1, e2, e3⟩, F, fun p hp => N p (.tail _ hp), o, j, hlt', rfl⟩
    cases f with
    | ret v => exact h₃
    | brk => exact h₃
    | next => exact go h₃
    | cont => exact go h₃
  · obtain rfl : i = vs.length := by omega
    refine W.done _ _ _ ⟨hit, hl'⟩ fun h₁ tk₁ hk₁ => wpAny_execs_nil ?_
    obtain ⟨F₁, N₁⟩ := nxt h₁ hk₁
    exact done m' nw h₁ tk₁ d hJ F₁ N₁
end
end Mine
end
section
open PySem PySem.W PyProof.Rows PySem.Calls PySem.Spec
set_option maxRecDepth 100000
namespace Mine
theorem not_ltCps {a b : List Nat} (h : ltCps a b = false) : b ≤ a := by
  rw [ltCps_eq, decide_eq_false_iff_not] at h
  exact List.not_lt.mp h
theorem rising_pw : ∀ (l : List Str) (p : Str), risingS p l = true → (p :: l).Pairwise fun a b => a.cps.toList ≤ b.cps.toList
  | [], p, _ => List.pairwise_singleton _ _
  | x :: r, p, h => by
    simp only [risingS, Bool.and_eq_true, Bool.not_eq_true'] at h
    have ih := rising_pw r x h.2
    refine List.pairwise_cons.mpr ⟨fun y hy => ?_, ih⟩
    rcases List.mem_cons.mp hy with rfl | hy
    · exact not_ltCps h.1
    · exact List.le_trans (not_ltCps h.1) (List.rel_of_pairwise_cons ih hy)
theorem sorted_pw {l : List Str} (h : sortedS l = true) : l.Pairwise fun a b => a.cps.toList ≤ b.cps.toList := by
  cases l with
  | nil => exact List.Pairwise.nil
  | cons x r => exact rising_pw r x h
theorem sorted_unique {p q : List Str} (h : p.Perm q) (hp : sortedS p = true) (hq : q.Pairwise fun a b => a.cps.toList ≤ b.cps.toList) : p = q := by
  refine List.Perm.eq_of_pairwise (le := fun a b : Str => a.cps.toList ≤ b.cps.toList) (fun a b _ _ h1 h2 => ?_) (sorted_pw hp) hq h
  exact Str.ext' (Array.toList_inj.mp (List.le_antisymm h1 h2))
theorem perm_of_sub {α : Type} [BEq α] [LawfulBEq α] : ∀ (ys ss : List α), ys.Nodup → (∀ y ∈ ys, y ∈ ss) → ss.length = ys.length → ss.Perm ys
  | [], ss, _, _, h => by rw [List.eq_nil_of_length_eq_zero h]
  | y :: ys, ss, hn, hs, h => by
    have hy := hs y (.head _)
    refine (List.perm_cons_erase hy).trans (List.Perm.cons y (perm_of_sub ys _ (List.nodup_cons.mp hn).2 (fun z hz => ?_) ?_))
    · exact (List.mem_erase_of_ne fun (e : z = y) => (List.nodup_cons.mp hn).1 (e ▸ hz)).mpr (hs z (.tail _ hz))
    · rw [List.length_erase_of_mem hy, h]; rfl
/-- strictly rising signs -/
def incr (x : T) : Bool := decide (x.Pairwise (· < ·))
theorem incr_pw {x : T} (h : incr x = true) : x.Pairwise (· < ·) := of_decide_eq_true h
theorem met_take {x : T} (h : x.Nodup) : ∀ i ≤ x.length, met x i = x.take i := by
  intro i
  induction i with
  | zero => intro _; rfl
  | succ i ih =>
    intro hi
    have e := ih (by omega)
    have hx : x.take (i + 1) = x.take i ++ [x.getD i 0] := by
      rw [List.take_add_one, List.getElem?_eq_getElem (by omega), List.getD_eq_getElem?_getD, List.getElem?_eq_getElem (by omega)]; rfl
    rw [met, e, if_neg ?_, hx]
    intro hm
    have hd : (x.take (i + 1)).Nodup := h.sublist (List.take_sublist _ _)
    rw [hx] at hd
    exact (List.nodup_append.mp hd).2.2 _ hm _ (List.mem_singleton.mpr rfl) rfl
theorem row_sorted {x : T} (h : incr x = true) {ss : List Str} (hl : ss.length = (met x x.length).length) (hm : ∀ k, metS x x.length k = true → k ∈ ss) (hs : sortedS ss = true) : ss = (x.map fun c => [c]).map S := by
  have hp := incr_pw h
  have hd : x.Nodup := hp.imp fun h => Nat.ne_of_lt h
  have e : met x x.length = x := by rw [met_take hd _ (Nat.le_refl _), List.take_length]
  rw [e] at hl
  have hsub : ∀ y ∈ (x.map fun c => [c]).map S, y ∈ ss := fun y hy => by
    obtain ⟨t, ht, rfl⟩ := List.mem_map.mp hy
    obtain ⟨c, hc, rfl⟩ := List.mem_map.mp ht
    exact hm _ (metS_mem.mpr (by rw [e]; exact hc))
  have hnd : ((x.map fun c => [c]).map S).Nodup := by
    rw [List.map_map]
    exact List.pairwise_map.mpr (hd.imp fun {a b} hab q => hab (S_one_inj q))
  refine sorted_unique (perm_of_sub _ _ hnd hsub (by rw [hl, List.length_map, List.length_map])) hs ?_
  rw [List.map_map]
  refine List.pairwise_map.mpr (hp.imp fun {a b} hab => ?_)
  show [a] ≤ [b]
  exact List.not_lt.mp fun q => by
    rw [List.cons_lt_cons_iff] at q
    rcases q with q | ⟨_, q⟩
    · omega
    · exact absurd q (List.not_lt_nil _)
theorem one_lt {a b : Nat} (h : a < b) : (S [a]).cps.toList < (S [b]).cps.toList := by
  show [a] < [b]
  exact List.cons_lt_cons_iff.mpr (.inl h)
theorem zip_mem_at {α : Type} {xs ys : List α} {i : Nat} {d e : α} (h1 : i < xs.length) (h2 : i < ys.length) : (xs.getD i d, ys.getD i e) ∈ xs.zip ys := by
  rw [List.getD_eq_getElem?_getD, List.getD_eq_getElem?_getD, List.getElem?_eq_getElem h1, List.getElem?_eq_getElem h2]
  refine List.mem_of_getElem? (i := i) ?_
  rw [List.getElem?_zip_eq_some]
  exact ⟨List.getElem?_eq_getElem h1, List.getElem?_eq_getElem h2⟩
theorem rise_pair {rows : List T} (ok : ∀ p ∈ rows.zip (rows.drop 1), decide (p.2.length ≤ p.1.length) = true ∧ ∀ q ∈ p.1.zip p.2, decide (q.1 < q.2) = true) {i : Nat} {a b : Str} (ha : (rows.map S)[i]? = some a) (hb : ((rows.map S).drop 1)[i]? = some b) :
    ∃ o ∈ rows, ∃ u ∈ rows, a = S o ∧ b = S u ∧ u.length ≤ o.length ∧ ∀ j, j < o.length → j < u.length → o.getD j 0 < u.getD j 0 := by
  rw [List.getElem?_drop] at hb
  have h2 : 1 + i < rows.length := by
    rcases Nat.lt_or_ge (1 + i) rows.length with h | h
    · exact h
    · rw [List.getElem?_eq_none (by rw [List.length_map]; exact h)] at hb; cases hb
  have h1 : i < rows.length := by omega
  rw [List.getElem?_map, List.getElem?_eq_getElem h1] at ha
  rw [List.getElem?_map, List.getElem?_eq_getElem h2] at hb
  have hz := zip_mem_at (d := []) (e := []) h1 (show i < (rows.drop 1).length by rw [List.length_drop]; omega)
  have e1 : rows.getD i [] = rows[i] := by rw [List.getD_eq_getElem?_getD, List.getElem?_eq_getElem h1]; rfl
  have e2 : (rows.drop 1).getD i [] = rows[1 + i] := by rw [List.getD_eq_getElem?_getD, List.getElem?_drop, List.getElem?_eq_getElem h2]; rfl
  rw [e1, e2] at hz
  have hk := ok _ hz
  refine ⟨rows[i], List.getElem_mem h1, rows[1 + i], List.getElem_mem h2, (Option.some.inj ha).symm, (Option.some.inj hb).symm, of_decide_eq_true hk.1, fun j j1 j2 => of_decide_eq_true (hk.2 _ (zip_mem_at j1 j2))⟩
section
variable {prog : Program} {w : World} {A : Around} {E : Value → Shared → Prop} {s : Shared} {h₀ : Heap} {L : Addr} {m : Str → Option Value} {news : List (Addr × Obj)}
theorem set_F {x : T} {tx : Tok} {Q : Value → Shared → Prop} (hh : A.handled = none) (F : Fr h₀ L s.heap m) (N : News h₀ L s.heap news) (ha : ∀ c ∈ x, c < 128) (hb : x.length ≤ 1000)
    (h : ∀ D h' tk, SetL prog w h' D (metS x x.length) (met x x.length).length (!byText w) → Fr h₀ L h' m → News h₀ L h' news → Q (.ref D) { s with heap := h', toks := tk }) :
    wpAny (model prog w) A (call (.type "set") [.str (S x) tx]) Q E s :=
  call_set_str hh ha hb fun h' tk hS hk => h _ h' tk hS (F.keeps fun b o e => hk b o (Heap.lt_size e) e) (N.grown fun b o e => hk b o (Heap.lt_size e) e)
theorem sorted_F {D : Addr} {n : Nat} {Sm : Str → Bool} {Q : Value → Shared → Prop} (hh : A.handled = none) (F : Fr h₀ L s.heap m) (N : News h₀ L s.heap news) (hS : SetL prog w s.heap D Sm n (!byText w)) (hn : n < 64)
    (h : ∀ h' tk d P vs ss e, Fr h₀ L h' m → News h₀ L h' ((P, listOf (List.toArray vs) e) :: news) → (∀ p ∈ news, @LT.lt Nat _ p.1 P) → StrsAre vs ss → ss.length = n → (∀ k, Sm k = true → k ∈ ss) → sortedS ss = true →
      Q (.ref P) { s with heap := h', toks := tk, drawn := d }) : wpAny (model prog w) A (call (.builtin "sorted") [.ref D]) Q E s :=
  sorted_set hh hS hn fun h' tk d P vs ss e hk hP hg h1 h2 h3 h4 => h h' tk d P vs ss e (F.keeps hk) (fun p hp => by
    rcases List.mem_cons.mp hp with rfl | hp
    · exact ⟨hg, Nat.ne_of_gt (Nat.lt_of_lt_of_le F.ns.lt hP), Heap.get?_none_of_le (Nat.le_trans F.above (Nat.le_trans (Nat.le_of_lt F.ns.lt) hP))⟩
    · exact N.grown hk p hp) (fun p hp => Nat.lt_of_lt_of_le (Heap.lt_size (N p hp).1) hP) h1 h2 h3 h4
theorem len_S {x : T} {t : Tok} {Q : Value → Shared → Prop} (hz : x.length ≤ 1000000) (h : ∀ t' tk, Q (.int (x.length : Int) t') { s with toks := tk }) : wpAny (model prog w) A (call (.builtin "len") [.str (S x) t]) Q E s :=
  len_str (by show ¬ ((S x).length : Int) ≥ 2 ^ 63; rw [S_length]; omega) (by rw [S_length]; exact h _ _)
theorem ne_same {a b : Addr} {xs ys : List Value} {p : List Str} {Q : Value → Shared → Prop} (ha : s.heap.IsList a xs.toArray) (hb : s.heap.IsList b ys.toArray) (hi : StrsAre xs p) (hj : StrsAre ys p) (hu : A.units < cLine) (h : Q (.bool false) s) :
    wpAny (model prog w) A (compareOp .NotEq (.ref a) (.ref b)) Q E s :=
  ne_strs ha hb hi hj hu (by rw [decide_eq_true rfl]; exact h)
end
end Mine
end
section
open PySem PySem.W PyProof.Rows PySem.Calls PySem.Spec
set_option maxRecDepth 100000
namespace Mine
theorem lnRise1 : True := by
  k_with_none
  k_with "own_room" => ((show _ < 1000; (try simp only [depth_under_make, depth_under_kw, depth_in1, depth_deeper]); omega))
  k_with "eval Name" => ((k_here; k_dflt (refine' nameX_F ?N ?c ?m ?d ?_ ?a ?b; (case a => rfl); (case b => rfl); (case N => k_asm); (case c => rfl); (case m => k_mem); (case d => k_asm); k_whole)))
  k_with "ite" => (first | (refine ite_pos (by decide +kernel) ?_) | (refine ite_neg (by decide +kernel) ?_))
  k_with "inplaceOp Add str str" => ((refine iadd_empty (by first | assumption | (simp only [S_length]; omega)) ?_; intro tq' tkq'))
  k_with "m_get" => (first | rfl | (with_reducible assumption) | exact if_pos rfl | (refine (if_neg (by decide +kernel)).trans ?_; walk_at "m_get"))
  k_with "m_subs" => (first | exact List.forall_mem_nil _ | (refine List.forall_mem_cons.mpr ⟨by k_dflt k_mem, ?_⟩; walk_at "m_subs"))
  k_with "m_dis" => (first | exact List.forall_mem_nil _ | (refine List.forall_mem_cons.mpr ⟨by k_all, ?_⟩; walk_at "m_dis"))
  k_with "m_list" => (first | (with_reducible assumption) | exact stays_list (Fr.keep (by with_reducible assumption)) (by with_reducible assumption) | exact News.isList (by with_reducible assumption) (by k_mem))
  k_with "m_size" => (first | omega | (simp only [List.size_toArray, List.length_map, List.length_cons, List.length_append, List.length_nil, strsAre_length (by assumption)]; omega))
  k_with "truthy ref" => (((with_reducible show wpAny _ _ (truthy (Value.ref _)) _ _ _); k_dflt (first | (refine truthy_nil (by walk_at "m_list") ?_; intro tkq') | (refine truthy_cons (by walk_at "m_list") (by walk_at "m_size") ?_; intro tkq'))))
  k_with "call type:list" => (((with_reducible show wpAny _ _ (call (Value.type _) [Value.str _ _]) _ _ _); refine list_str_K rfl (by k_asm) (by k_asm) (by assumption) ?_; intro Dq' ysq' nq' hq' tkq' Fq' Nq' hSq' l1q; k_lt l1q; (try k_sweep)))
  k_with "call builtin:list.pop" => (((with_reducible show wpAny _ _ (call (Value.builtin _) [Value.ref _, Value.int 0 _]) _ _ _); k_dflt (refine' pop0_K ?F ?N ?U ?z ?_; (case F => k_asm); (case N => k_asm); (case U => k_upd); (case z => walk_at "m_size"); intro hq' Fq' Nq'; (try dsimp only [List.nil_append, List.cons_append] at Nq'); (try k_sweep))))
  k_with "pyIter ref" => ((refine stop_of ?_))
  k_with "call ref" => (((with_reducible show wpAny _ _ (call (Value.ref _) _) _ _ _); refine stop_of ?_))
  k_with "eval ListComp" => ((refine stop_of ?_))
  k_with "CompSrc" => ((refine stop_of ?_))
  k_with "TurnEnd" => ((refine stop_of ?_))
  k_with "eval Name" => ((k_here; (with_reducible show wpAny _ _ (eval (Expr.Name _ _) (compEnvC _ _ _ _)) _ _ _); k_dflt (first | refine LCgL.ld_own (by k_asm) (by k_mem) (by with_reducible assumption) (by with_reducible assumption) ?_ | refine LCgL.ld_global (by k_asm) (by k_asm) (by k_asm) (by k_is) ?_ | refine LCgL.ld_built (by k_asm) (by k_asm) (by k_asm) (by k_is) (by boot_by_name) (by decide) ?_)))
  k_with "m_far" => (first | exact tail_ne (by with_reducible assumption) (by with_reducible assumption) (by omega) | exact List.forall_mem_nil _ | ((with_reducible refine List.forall_mem_cons.mpr ⟨?_, ?_⟩); (show @Ne Nat _ _; (try dsimp only); omega); walk_at "m_far"))
  k_with "own_upd" => (first | ((with_reducible refine Upd.head ?_); walk_at "m_far") | ((with_reducible refine Upd.tail ?_ ?_); (show @Ne Nat _ _; (try dsimp only); omega); k_upd))
  k_with "m_get" => (first | (with_reducible assumption) | (with_reducible exact if_pos rfl) | ((with_reducible refine (if_neg (by decide +kernel)).trans ?_); walk_at "m_get"))
  k_with "own_all" => (exact tail_ne (by with_reducible assumption) (by with_reducible assumption) (by omega))
  k_with "call builtin:len" => (((with_reducible show wpAny _ _ (call (Value.builtin "len") [Value.ref _]) _ _ _); k_dflt (refine len_L (by walk_at "m_list") (by walk_at "m_size") ?_); intro tq' tkq'))
  k_with "call builtin:list.append" => (((with_reducible show wpAny _ _ (call (Value.builtin _) [Value.ref _, _]) _ _ _); k_dflt (refine' append_L ?F ?N ?U ?z ?_; (case F => k_asm); (case N => k_asm); (case U => k_upd); (case z => walk_at "m_size"); intro hq' Fq' Nq'; (try k_sweep))))
  k_with "m_cond" => (first | decide +kernel | (simp only [beq_iff_eq, decide_eq_true_eq]; omega) | (simp only [beq_iff_eq, bne_iff_ne, ne_eq, decide_eq_true_eq]; omega))
  k_with "ite" => (first | (refine ite_pos (by walk_at "m_cond") ?_) | (refine ite_neg (by walk_at "m_cond") ?_))
  k_with "m_pick" => (first | (with_reducible exact pick_to _ _ (by omega)) | (with_reducible exact pick_from _ _ (by omega)) | exact pick_toI _ (by omega) (by omega) | exact pick_fromI _ (by omega) (by omega))
  k_with "m_len" => (first | omega | ((simp only [List.size_toArray, sizeLine_eq, List.length_append, List.length_take, List.length_drop, List.length_cons, List.length_nil, List.length_map, List.length_set]); omega))
  k_with "subscriptTail Name Slice ref ref" => (((with_reducible show wpAny _ _ (subscriptTail _ (PySem.Expr.Slice _ _ none _) (Value.ref _) (Value.ref _)) _ _ _); k_dflt (refine' slice_N ?kF ?kN ?kl ?kp ?kq ?ke ?kz ?_ ?ks ?kt; (case kF => k_asm); (case kN => k_asm); (case kl => walk_at "m_list"); (case kp => kmk_part); (case kq => kmk_part); (case ke => walk_at "m_pick"); (case ks => with_unfolding_all rfl); (case kt => kmk_pure); (case kz => walk_at "m_len")); intro Dq' hq' Fq' Nq' l1q; (try k_lt l1q); (try k_sweep)))
  k_with "binaryOp Add ref ref" => (((with_reducible show wpAny _ _ (binaryOp _ (Value.ref _) (Value.ref _)) _ _ _); k_dflt (refine' add_L ?kF ?kN ?ka ?kb ?kz ?_; (case kF => k_asm); (case kN => k_asm); (case ka => walk_at "m_list"); (case kb => walk_at "m_list"); (case kz => walk_at "m_len")); intro Dq' hq' Fq' Nq' l1q; (try k_lt l1q); (try k_sweep)))
  k_with "m_far" => (first | (with_reducible assumption) | exact List.forall_mem_nil _ | ((with_reducible refine List.forall_mem_cons.mpr ⟨?_, ?_⟩); (show @Ne Nat _ _; (try dsimp only); omega); walk_at "m_far"))
  k_with "eval Name" => (((with_reducible show wpAny _ _ (eval (Expr.Name _ _) (envX _ _ _ _ _ _)) _ _ _); k_dflt (refine nameX_L (by k_asm) (by walk_at "m_get") ?_)))
  k_with "exec For Name Name cons nil" => ((refine stop_of ?_))
  k_with "call type:set" => ((refine stop_of ?_))
  k_with "call builtin:sorted" => ((refine stop_of ?_))
  k_with "call type:zip" => ((refine stop_of ?_))
  k_with "compareOp NotEq ref ref" => ((refine stop_of ?_))
  k_with "call builtin:len" => (((with_reducible show wpAny _ _ (call (Value.builtin "len") [Value.str _ _]) _ _ _); k_dflt (refine len_S (by omega) ?_); intro tq' tkq'))
  k_with "TEndD" => ((refine stop_of ?_))
  trivial
/-- what _law_rising asks of the rows -/
def risesOk (rows : List T) : Bool := rows.all incr && (rows.zip (rows.drop 1)).all fun p => decide (p.2.length ≤ p.1.length) && (p.1.zip p.2).all fun q => decide (q.1 < q.2)
set_option maxHeartbeats 4000000 in
theorem rise_walk {prog : Program} {w : World} {s : Shared} {g : Heap} {dp un : Nat} {gd : Option (List Code)} {frs : List Env} {R : Result → Shared → Prop} {l : Addr} {vs : List Value} {rows : List T}
    (Si : Site w dp un gd frs g) (K : g.StaysIn s.heap) (hl : g.IsList l vs.toArray) (hi : StrsAre vs (rows.map S)) (hr : ∀ r ∈ rows, r.length ≤ 20 ∧ ∀ c ∈ r, c < 128) (hrl : rows.length ≤ 20) (ok : risesOk rows = true) (hdp : dp < 840) (hun : un < 8400)
    (ret : ∀ h' tk' d, g.StaysIn h' → R (.ok (.ret (.bool true))) { s with heap := h', toks := tk', drawn := d }) :
    codeAny (model prog w) (top dp un gd frs) (.call (.ref 266) ⟨[.ref l], []⟩) R s := by
  have hvl : vs.length = rows.length := by rw [strsAre_length hi, List.length_map]
  simp only [risesOk, Bool.and_eq_true, List.all_eq_true] at ok
  obtain ⟨ok1, ok2⟩ := ok
  refine' enterX (cl := []) (binds := [("rows", .ref l)]) ?Si ?S ?O (K_at (Frag.In.keeps (Site.X ?Si) ?S) ?k6) ?hd (codeRec_of (Frag.In.keeps (Site.X ?Si) ?S) ?k7) ?k8 ?k9 ?kB ?_ ?c5 ?c2 ?c3 ?c4
  (case Si => assumption)
  (case S => assumption)
  (case O => first | assumption | exact Owns.nil)
  (case k6 => k_is)
  (case hd => exact rfl)
  (case k7 => k_is)
  (case k8 => first | decide | (show _ < 1000; omega))
  (case k9 => first | exact BindsTo.of_eq rfl | exact binds_peek (Frag.In.keeps (Site.X (by assumption)) (by assumption)) (fun _ => by kernel_rfl))
  (case c5 => decide)
  (case kB => exact locs rfl)
  (case c2 => exact rfl)
  (case c3 => exact rfl)
  (case c4 => exact rfl)
  k_whole
  intro g1 L1 h1 hg F1 N1 l1 Si1
  (try k_lt l1)
  (have X1 := Site.X Si1)
  obtain ⟨p1, loose1, mean1, mg1, mb1, T1⟩ := Site.T Si1
  (try dsimp only)
  (try k_fold)
  have hl3 := stays_list hg hl
  (repeat' (first | (k_unfold; (try dsimp only)) | ((try dsimp only); walk1) | walk1))
  show wpAny _ _ _ _ _ _
  refine for_D g1 rfl rfl ?_
  k_dflt (refine nameX_L (by k_asm) (by walk_at "m_get") ?_)
  rename News _ _ _ _ => kN
  rename Fr _ _ _ _ => kF
  refine ⟨l, vs, fun i m nw => nw = [] ∧ m "rows" = some (.ref l), _, [], rfl, rfl, kF, kN, ⟨rfl, by walk_at "m_get"⟩, ?hin, ?turn, ?done⟩
  case hin => exact fun i m nw h _ F' _ => stays_list F'.keep hl3
  case turn =>
    clear kN kF
    rintro i v m₁ news₁ I io h3 tk3 d3 hv hI ⟨rfl, mRows⟩ off F3 N3
    replace F3 : Fr g1 L1 h3 _ := F3
    replace N3 : News g1 L1 h3 _ := N3
    have hi' : i < rows.length := by
      rw [← hvl]
      rcases Nat.lt_or_ge i vs.length with h | h
      · exact h
      · rw [List.getElem?_eq_none h] at hv; cases hv
    obtain ⟨tw, ew⟩ := StrsAre.get hi i (by rw [List.length_map]; exact hi')
    rw [hv, getD_mapS] at ew
    obtain rfl := Option.some.inj ew
    have hrm := getD_mem (d := []) hi'
    obtain ⟨hr1, hr2⟩ := hr _ hrm
    have hinc := ok1 _ hrm
    generalize rows.getD i [] = row at *
    have hr3 : row.length ≤ 1000 := by omega
    (repeat' (first | (k_unfold; (try dsimp only)) | ((try dsimp only); walk1) | walk1))
    show wpAny _ _ _ _ _ _
    rename News _ _ _ _ => kN
    rename Fr _ _ _ _ => kF
    rename StrsAre _ (List.map S (List.map _ row)) => hsA
    k_dflt (refine set_F rfl kF kN hr2 hr3 ?_)
    intro D4 h4 tk4 hS4 F4 N4
    clear kN kF
    (repeat' (first | (k_unfold; (try dsimp only)) | ((try dsimp only); walk1) | walk1))
    show wpAny _ _ _ _ _ _
    k_dflt (refine sorted_F rfl F4 N4 hS4 ?_ ?_)
    · have := met_len row row.length; omega
    intro h5 tk5 d5 P5 vs5 ss5 e5 F5 N5 l5 hs5 hs6 hs7 hs8
    clear N4 F4
    cases row_sorted hinc hs6 hs7 hs8
    (repeat' (first | (k_unfold; (try dsimp only)) | ((try dsimp only); walk1) | walk1))
    show wpAny _ _ _ _ _ _
    k_dflt (refine ne_same (News.isList N5 (.tail _ (.head _))) (News.isList N5 (.head _)) hsA hs5 (by show un + 3 < cLine; simp only [cLine]; omega) ?_)
    (repeat' (first | (k_unfold; (try dsimp only)) | ((try dsimp only); walk1) | walk1))
    show TEndD g1 L1 _ _ _ _ _ _ _
    refine TEndD.next (by with_reducible assumption) N5 [] (by k_mem) (fun p hp => nomatch hp) (fun p hp => nomatch hp) ⟨rfl, by walk_at "m_get"⟩ rfl
  case done =>
    clear kN kF
    rintro m₁ news₁ h3 tk3 d3 ⟨rfl, mRows⟩ F3 N3
    replace F3 : Fr g1 L1 h3 m₁ := F3
    replace N3 : News g1 L1 h3 _ := N3
    (repeat' (first | (k_unfold; (try dsimp only)) | ((try dsimp only); walk1) | walk1))
    show wpAny _ _ _ _ _ _
    rename News _ _ _ _ => kN
    rename Fr _ _ _ _ => kF
    have hl4 := stays_list kF.keep hl3
    have hsl := (kN _ (.head _)).2.1
    have hll : @LT.lt Nat _ l L1 := by obtain ⟨o, e, _⟩ := hl3; exact Nat.lt_of_lt_of_le (Heap.lt_size e) kF.above
    have hl5 := News.isList kN (.head _)
    rw [show slicePick vs.toArray (some 1) none none = (vs.drop 1).toArray from slicePick_from' vs.toArray 1] at hl5
    k_dflt (refine zip_rows kF hl4 hl5 ?_)
    intro h6 z TI TO i1 i2 D6 hz6 F6 hk6 q1 q2 q3 q4 q5
    clear kN kF N3
    refine zipSrc (news := []) rfl D6 hz6 (StrsAre.areOf hi) (StrsAre.areOf (StrsAre.drop hi 1)) ?lf ?wr (List.forall_mem_nil _) (fun b hb => List.forall_mem_nil _) F6 (List.forall_mem_nil _) _ _ _ _ (fun i m nw => nw = []) rfl ?step ?fin
    case lf =>
      intro hb
      simp only [List.mem_cons, List.not_mem_nil, or_false] at hb
      rcases hb with e | e | e | e | e | e | e
      · exact Nat.ne_of_lt q5.1 e
      · obtain ⟨oL, es, ep, hL, hd, _⟩ := F6.ns
        have hTI : h6.get? L1 = some { cls := .type "tuple", data := .seq #[.ref i1, .ref i2] } := by
          have q := hz6.2.1
          rw [← show L1 = TI from e] at q
          exact q
        rw [hL] at hTI
        cases hTI
        cases hd
      · exact Nat.ne_of_lt q5.2.1 e
      · exact Nat.ne_of_lt q5.2.2.1 e
      · exact Nat.ne_of_lt q5.2.2.2 e
      · exact Nat.ne_of_gt hll e
      · exact hsl e.symm
    case wr =>
      have nw : ∀ b : Nat, @LT.lt Nat _ L1 b → g1.get? b = none := fun b hb => Heap.get?_none_of_le (Nat.le_trans F6.above (Nat.le_of_lt hb))
      intro b hb
      simp only [List.mem_cons, List.not_mem_nil, or_false] at hb
      rcases hb with rfl | rfl | rfl | rfl
      · exact nw _ q5.1
      · exact nw _ q5.2.1
      · exact nw _ q5.2.2.1
      · exact nw _ q5.2.2.2
    case step =>
      rintro i a b va vb m₁ news₁ s₁ own ⟨h7, tk7, rfl⟩ ha hb ⟨ta, rfl⟩ ⟨tb, rfl⟩ rfl hmap hapart F7 N7
      replace F7 : Fr g1 L1 h7 _ := F7
      replace N7 : News g1 L1 h7 _ := N7
      clear F6 hz6 hk6 hl4 hl5
      obtain ⟨over, ho, under, hu, rfl, rfl, hle, hlt⟩ := rise_pair ok2 ha hb
      obtain ⟨ho1, ho2⟩ := hr _ ho
      obtain ⟨hu1, hu2⟩ := hr _ hu
      rw [List.append_nil] at N7
      (repeat' (first | (k_unfold; (try dsimp only)) | ((try dsimp only); walk1) | walk1))
      show wpAny _ _ _ _ _ _
      k_dflt (refine ListComp_no F7 (by rfl) (by decide) (by rfl) (by decide) (by rfl) (by rfl) (by decide) ?_)
      (repeat' (first | (k_unfold; (try dsimp only)) | ((try dsimp only); walk1) | walk1))
      show wpAny _ _ _ _ _ _
      k_dflt (refine SrcNo.texts rfl ho2 hu2 F7 N7 ?test ?fin2)
      case test =>
        intro j t' u' C oC m₂ s₁ h8 tk8 E' l1' l2' hC mOne mOther F8 N8
        have hjlt := hlt j l1' l2'
        (repeat' (first | (k_unfold; (try dsimp only)) | ((try dsimp only); walk1) | walk1))
        rw [decide_eq_true (one_lt hjlt)]; rfl
      case fin2 =>
        intro D h8 tk8 F8 N8
        (repeat' (first | (k_unfold; (try dsimp only)) | ((try dsimp only); walk1) | walk1))
        exact ⟨rfl, h8, _, _, [], rfl, F8, by rw [List.append_nil]; exact fun p hp => N8 p (.tail _ hp), rfl, rfl⟩
    case fin =>
      rintro h7 tk7 m7 news7 F7 N7 hmap rfl
      replace F7 : Fr g1 L1 h7 _ := F7
      replace N7 : News g1 L1 h7 _ := N7
      (repeat' (first | (k_unfold; (try dsimp only)) | ((try dsimp only); walk1) | walk1))
      exact ret _ _ _ (stays_of F7 hg)
end Mine
end
section
open PySem PySem.W PyProof.Rows PySem.Calls PySem.Spec
set_option maxRecDepth 100000
namespace Mine
section
variable {prog : Program} {w : World} {A : Around} {s : Shared} {h₀ : Heap} {L : Addr} {m : Str → Option Value} {env : Env} {ct elt : PySem.Expr} {x a b : Str} {scope : Scope} {cl : List (Str × Addr)} {St : List (Addr × Obj) → Prop} {Fin : List Value → List (Addr × Obj) → Prop} {news : List (Addr × Obj)}
/-- a comprehension over the headers, by pairs -/
theorem comp_pair {es : List HE} (inv : Nat → List Value → Prop) (hS : St news) (hmem : ∀ e ∈ es, (e.1, tupO e) ∈ news) (h0 : inv 0 [])
    (turn : ∀ i e ys I oI C oC D m₂ h tk (E' : Value → Shared → Prop), es[i]? = some e → inv i ys → LCg.NsObj oC m₂ → m₂ a = some (.str (S e.2.1.1) e.2.1.2) → m₂ b = some (.str (S e.2.2.1) e.2.2.2) → Fr h₀ L h m → News h₀ L h ((I, oI) :: (C, oC) :: (D, LCg.lst ys) :: news) → LCg.Off3 I C D news → ((@Ne Nat I C) ∧ (@Ne Nat I D) ∧ (@Ne Nat C D)) →
      wpAny (model prog w) A (eval elt (compEnvC scope cl C env)) (TurnEnd h₀ L m { s with heap := h, toks := tk } I oI C oC D (LCg.lst ys) news (fun y => inv (i + 1) (ys ++ [y]))) E' { s with heap := h, toks := tk })
    (fin : ∀ ys, inv es.length ys → Fin ys news) : LCp.CompRestP prog w A h₀ L m env elt a b scope cl s St (fun i v => (heRefs es).toArray[i]? = some v) Fin (heRefs es).toArray.size 0 [] news := by
  have key : ∀ (j i : Nat) (ys : List Value), i + j = es.length → inv i ys → LCp.CompRestP prog w A h₀ L m env elt a b scope cl s St (fun i v => (heRefs es).toArray[i]? = some v) Fin j i ys news := by
    intro j
    induction j with
    | zero =>
      intro i ys hi hy
      exact LCp.CompRestP.zero (fin ys (by rw [show es.length = i by omega]; exact hy))
    | succ j ih =>
      intro i ys hi hy
      refine LCp.CompRestP.succ fun v hv => ?_
      have hlt : i < es.length := by omega
      have he : es[i]? = some es[i] := List.getElem?_eq_getElem hlt
      have ev : v = .ref es[i].1 := by
        rw [List.getElem?_toArray, heRefs, List.getElem?_map, he] at hv
        exact (Option.some.inj hv).symm
      refine ⟨es[i].1, tupO es[i], _, _, _, ev, hmem _ (List.getElem_mem hlt), rfl, rfl, fun I oI C oC D m₂ h tk E' hC ha hb F N off ne => ?_⟩
      refine wpAny_mono (turn i es[i] ys I oI C oC D m₂ h tk E' he hy hC ha hb F N off ne) (fun y s₂ hq => ?_) fun _ _ e => e
      obtain ⟨h', tk', rfl, F', N', hy'⟩ := hq
      exact ⟨h', tk', news, rfl, F', N', off, hS, ih (i + 1) _ (by omega) hy'⟩
  have := key es.length 0 [] (by omega) h0
  have e : (heRefs es).toArray.size = es.length := by simp [heRefs]
  rw [e]
  exact this
/-- a comprehension with a test -/
theorem comp_test {vs : List Value} (inv : Nat → List Value → Prop) (hS : St news) (h0 : inv 0 [])
    (turn : ∀ i v ys I oI C oC D m₂ h tk (E' : Value → Shared → Prop), vs[i]? = some v → inv i ys → LCg.NsObj oC m₂ → m₂ x = some v → Fr h₀ L h m → News h₀ L h ((I, oI) :: (C, oC) :: (D, LCg.lst ys) :: news) → LCg.Off3 I C D news → ((@Ne Nat I C) ∧ (@Ne Nat I D) ∧ (@Ne Nat C D)) →
      wpAny (model prog w) A (isTrue ct (compEnvC scope cl C env) (eval ct (compEnvC scope cl C env))) (fun ok s' => if ok = true then
        wpAny (model prog w) A (eval elt (compEnvC scope cl C env)) (TurnEnd h₀ L m { s with heap := h, toks := tk } I oI C oC D (LCg.lst ys) news (fun y => inv (i + 1) (ys ++ [y]))) E' s'
        else TurnEnd h₀ L m { s with heap := h, toks := tk } I oI C oC D (LCg.lst ys) news (fun _ => inv (i + 1) ys) .none s') E' { s with heap := h, toks := tk })
    (fin : ∀ ys, inv vs.length ys → Fin ys news) : LCt.CompRestT prog w A h₀ L m env ct elt x scope cl s St (fun i v => vs.toArray[i]? = some v) Fin vs.toArray.size 0 [] news := by
  have key : ∀ (j i : Nat) (ys : List Value), i + j = vs.length → inv i ys → LCt.CompRestT prog w A h₀ L m env ct elt x scope cl s St (fun i v => vs.toArray[i]? = some v) Fin j i ys news := by
    intro j
    induction j with
    | zero =>
      intro i ys hi hy
      exact LCt.CompRestT.zero (fin ys (by rw [show vs.length = i by omega]; exact hy))
    | succ j ih =>
      intro i ys hi hy
      refine LCt.CompRestT.succ ?_
      intro v I oI C oC D m₂ h tk E' hv hC hx F N off ne
      refine wpAny_mono (turn i v ys I oI C oC D m₂ h tk E' (by simpa using hv) hy hC hx F N off ne) (fun ok s₂ hq => ?_) fun _ _ e => e
      cases ok with
      | true =>
        rw [if_pos rfl] at hq ⊢
        refine wpAny_mono hq (fun y s₃ hq => ?_) fun _ _ e => e
        obtain ⟨h', tk', rfl, F', N', hy'⟩ := hq
        exact ⟨h', tk', news, rfl, F', N', off, hS, ih (i + 1) _ (by omega) hy'⟩
      | false =>
        rw [if_neg (by decide)] at hq ⊢
        obtain ⟨h', tk', rfl, F', N', hy'⟩ := hq
        exact ⟨h', tk', news, rfl, F', N', off, hS, ih (i + 1) _ (by omega) hy'⟩
  have := key vs.length 0 [] (by omega) h0
  rw [List.size_toArray]
  exact this
end
def lowT (x : T) : T := x.map lo1
/-- the values of one name, of the first i headers -/
def gotAt (es : List HE) (nm : T) (i : Nat) : List Str := ((es.take i).filter fun e => lowT e.2.1.1 == lowT nm).map fun e => S e.2.2.1
theorem got_pos {es : List HE} {nm : T} {i : Nat} {e : HE} {ys : List Value} {t : Tok} (he : es[i]? = some e) (hq : lowT e.2.1.1 = lowT nm) (h : StrsAre ys (gotAt es nm i)) : StrsAre (ys ++ [.str (S e.2.2.1) t]) (gotAt es nm (i + 1)) := by
  unfold gotAt
  rw [List.take_add_one, he, Option.toList_some, List.filter_append, List.map_append]
  rw [show List.filter (fun e => lowT e.2.1.1 == lowT nm) [e] = [e] by simp [hq]]
  exact StrsAre.append h (StrsAre.one _ _)
theorem got_neg {es : List HE} {nm : T} {i : Nat} {e : HE} {ys : List Value} (he : es[i]? = some e) (hq : ¬ lowT e.2.1.1 = lowT nm) (h : StrsAre ys (gotAt es nm i)) : StrsAre ys (gotAt es nm (i + 1)) := by
  unfold gotAt
  rw [List.take_add_one, he, Option.toList_some, List.filter_append, List.map_append]
  rw [show List.filter (fun e => lowT e.2.1.1 == lowT nm) [e] = [] by simp [hq]]
  rw [List.map_nil, List.append_nil]; exact h
section
variable {prog : Program} {w : World} {A : Around} {E : Value → Shared → Prop} {s : Shared} {h₀ : Heap} {L : Addr} {m : Str → Option Value} {news : List (Addr × Obj)}
theorem lower_S {x : T} {t : Tok} {Q : Value → Shared → Prop} (ha : ∀ c ∈ x, c < 128) (hz : x.length ≤ 100000) (h : ∀ t' tk, Q (.str (S (lowT x)) t') { s with toks := tk }) : wpAny (model prog w) A (call (.builtin "str.lower") [.str (S x) t]) Q E s := by
  have e : Txt.lower (S x) = S (lowT x) := by
    rw [lower_ascii (by simpa [S] using ha)]
    apply Str.ext'
    simp [S, lowT]
  refine SCL.lower (by rw [S_length]; omega) (by rw [e]; exact fun _ => h _ _)
theorem eq_St {x y : T} {t u : Tok} {Q : Value → Shared → Prop} (e : x = y) (h : Q (.bool true) s) : wpAny (model prog w) A (compareOp .Eq (.str (S x) t) (.str (S y) u)) Q E s :=
  PyProof.Rows.eq_str (by subst e; rw [beq_self_eq_true]; exact h)
theorem eq_Sf {x y : T} {t u : Tok} {Q : Value → Shared → Prop} (e : ¬ x = y) (h : Q (.bool false) s) : wpAny (model prog w) A (compareOp .Eq (.str (S x) t) (.str (S y) u)) Q E s :=
  PyProof.Rows.eq_str (by rw [show (S x == S y) = false from beq_eq_false_iff_ne.mpr fun q => e (S_inj q)]; exact h)
theorem he_get {es : List HE} {i : Nat} {v : Value} (h : (heRefs es)[i]? = some v) : ∃ e, es[i]? = some e ∧ v = .ref e.1 := by
  rw [heRefs, List.getElem?_map] at h
  cases q : es[i]? with
  | none => rw [q] at h; cases h
  | some e => rw [q] at h; exact ⟨e, rfl, (Option.some.inj h).symm⟩
theorem item_T0 {value slice : PySem.Expr} {l : Addr} {e : HE} {u : Tok} {Q : Value → Shared → Prop} (hm : s.heap.get? l = some (tupO e)) (h : Q (.str (S e.2.1.1) e.2.1.2) s)
    (hs : subscripted slice false (.ref l) (.int (0 : Int) u) = operate [.ref l, .int 0 u] (getItem (.ref l) (.int 0 u)) := by with_unfolding_all rfl) :
    wpAny (model prog w) A (subscriptTail value slice (.ref l) (.int 0 u)) Q E s := by
  have ht : s.heap.IsTuple l #[.str (S e.2.1.1) e.2.1.2, .str (S e.2.2.1) e.2.2.2] := ⟨_, hm, rfl, _, rfl⟩
  exact tail_any ht.typeIs F.slot_tuple_getitem.lookup (getItem_tuple ht (j := 0) (by decide) (by decide) rfl (x := .str (S e.2.1.1) e.2.1.2) rfl h) hs
theorem item_T1 {value slice : PySem.Expr} {l : Addr} {e : HE} {u : Tok} {Q : Value → Shared → Prop} (hm : s.heap.get? l = some (tupO e)) (h : Q (.str (S e.2.2.1) e.2.2.2) s)
    (hs : subscripted slice false (.ref l) (.int (1 : Int) u) = operate [.ref l, .int 1 u] (getItem (.ref l) (.int 1 u)) := by with_unfolding_all rfl) :
    wpAny (model prog w) A (subscriptTail value slice (.ref l) (.int 1 u)) Q E s := by
  have ht : s.heap.IsTuple l #[.str (S e.2.1.1) e.2.1.2, .str (S e.2.2.1) e.2.2.2] := ⟨_, hm, rfl, _, rfl⟩
  exact tail_any ht.typeIs F.slot_tuple_getitem.lookup (getItem_tuple ht (j := 1) (by decide) (by decide) rfl (x := .str (S e.2.2.1) e.2.2.2) rfl h) hs
end
end Mine
end
section
open PySem PySem.W PyProof.Rows PySem.Calls PySem.Spec
set_option maxRecDepth 100000
namespace Mine
theorem lnKeys1 : True := by
  k_with_none
  k_with "own_room" => ((show _ < 1000; (try simp only [depth_under_make, depth_under_kw, depth_in1, depth_deeper]); omega))
  k_with "eval Name" => ((k_here; k_dflt (refine' nameX_F ?N ?c ?m ?d ?_ ?a ?b; (case a => rfl); (case b => rfl); (case N => k_asm); (case c => rfl); (case m => k_mem); (case d => k_asm); k_whole)))
  k_with "ite" => (first | (refine ite_pos (by decide +kernel) ?_) | (refine ite_neg (by decide +kernel) ?_))
  k_with "inplaceOp Add str str" => ((refine iadd_empty (by first | assumption | (simp only [S_length]; omega)) ?_; intro tq' tkq'))
  k_with "m_get" => (first | rfl | (with_reducible assumption) | exact if_pos rfl | (refine (if_neg (by decide +kernel)).trans ?_; walk_at "m_get"))
  k_with "m_subs" => (first | exact List.forall_mem_nil _ | (refine List.forall_mem_cons.mpr ⟨by k_dflt k_mem, ?_⟩; walk_at "m_subs"))
  k_with "m_dis" => (first | exact List.forall_mem_nil _ | (refine List.forall_mem_cons.mpr ⟨by k_all, ?_⟩; walk_at "m_dis"))
  k_with "m_list" => (first | (with_reducible assumption) | exact stays_list (Fr.keep (by with_reducible assumption)) (by with_reducible assumption) | exact News.isList (by with_reducible assumption) (by k_mem))
  k_with "m_size" => (first | omega | (simp only [List.size_toArray, List.length_map, List.length_cons, List.length_append, List.length_nil, strsAre_length (by assumption)]; omega))
  k_with "truthy ref" => (((with_reducible show wpAny _ _ (truthy (Value.ref _)) _ _ _); k_dflt (first | (refine truthy_nil (by walk_at "m_list") ?_; intro tkq') | (refine truthy_cons (by walk_at "m_list") (by walk_at "m_size") ?_; intro tkq'))))
  k_with "call type:list" => (((with_reducible show wpAny _ _ (call (Value.type _) [Value.str _ _]) _ _ _); refine list_str_K rfl (by k_asm) (by k_asm) (by assumption) ?_; intro Dq' ysq' nq' hq' tkq' Fq' Nq' hSq' l1q; k_lt l1q; (try k_sweep)))
  k_with "call builtin:list.pop" => (((with_reducible show wpAny _ _ (call (Value.builtin _) [Value.ref _, Value.int 0 _]) _ _ _); k_dflt (refine' pop0_K ?F ?N ?U ?z ?_; (case F => k_asm); (case N => k_asm); (case U => k_upd); (case z => walk_at "m_size"); intro hq' Fq' Nq'; (try dsimp only [List.nil_append, List.cons_append] at Nq'); (try k_sweep))))
  k_with "pyIter ref" => ((refine stop_of ?_))
  k_with "eval ListComp" => ((refine stop_of ?_))
  k_with "CompSrc" => ((refine stop_of ?_))
  k_with "TurnEnd" => ((refine stop_of ?_))
  k_with "eval Name" => ((k_here; (with_reducible show wpAny _ _ (eval (Expr.Name _ _) (compEnvC _ _ _ _)) _ _ _); k_dflt (first | refine LCgL.ld_own (by k_asm) (by k_mem) (by with_reducible assumption) (by with_reducible assumption) ?_ | refine LCgL.ld_global (by k_asm) (by k_asm) (by k_asm) (by k_is) ?_ | refine LCgL.ld_built (by k_asm) (by k_asm) (by k_asm) (by k_is) (by boot_by_name) (by decide) ?_)))
  k_with "m_far" => (first | exact tail_ne (by with_reducible assumption) (by with_reducible assumption) (by omega) | exact List.forall_mem_nil _ | ((with_reducible refine List.forall_mem_cons.mpr ⟨?_, ?_⟩); (show @Ne Nat _ _; (try dsimp only); omega); walk_at "m_far"))
  k_with "own_upd" => (first | ((with_reducible refine Upd.head ?_); walk_at "m_far") | ((with_reducible refine Upd.tail ?_ ?_); (show @Ne Nat _ _; (try dsimp only); omega); k_upd))
  k_with "m_get" => (first | (with_reducible assumption) | (with_reducible exact if_pos rfl) | ((with_reducible refine (if_neg (by decide +kernel)).trans ?_); walk_at "m_get"))
  k_with "own_all" => (exact tail_ne (by with_reducible assumption) (by with_reducible assumption) (by omega))
  k_with "call builtin:len" => (((with_reducible show wpAny _ _ (call (Value.builtin "len") [Value.ref _]) _ _ _); k_dflt (refine len_L (by walk_at "m_list") (by walk_at "m_size") ?_); intro tq' tkq'))
  k_with "call builtin:list.append" => (((with_reducible show wpAny _ _ (call (Value.builtin _) [Value.ref _, _]) _ _ _); k_dflt (refine' append_L ?F ?N ?U ?z ?_; (case F => k_asm); (case N => k_asm); (case U => k_upd); (case z => walk_at "m_size"); intro hq' Fq' Nq'; (try k_sweep))))
  k_with "m_cond" => (first | decide +kernel | (simp only [beq_iff_eq, decide_eq_true_eq]; omega) | (simp only [beq_iff_eq, bne_iff_ne, ne_eq, decide_eq_true_eq]; omega))
  k_with "ite" => (first | (refine ite_pos (by walk_at "m_cond") ?_) | (refine ite_neg (by walk_at "m_cond") ?_))
  k_with "m_lt" => (first | exact allLt_far (by with_reducible assumption) | exact allLt_far (And.right (by with_reducible assumption)) | exact allLt_far (And.right (And.right (by with_reducible assumption))) | exact allLt_far (And.right (And.right (And.right (by with_reducible assumption)))) | exact allLt_far (And.right (And.right (And.right (And.right (by with_reducible assumption))))) | exact allLt_far (And.right (And.right (And.right (And.right (And.right (by with_reducible assumption)))))) | exact allLt_far (And.right (And.right (And.right (And.right (And.right (And.right (by with_reducible assumption))))))) | exact allLt_far (And.right (And.right (And.right (And.right (And.right (And.right (And.right (by with_reducible assumption)))))))) | exact allLt_far (And.right (And.right (And.right (And.right (And.right (And.right (And.right (And.right (by with_reducible assumption))))))))) | exact allLt_far (And.right (And.right (And.right (And.right (And.right (And.right (And.right (And.right (And.right (by with_reducible assumption)))))))))) | exact allLt_far (And.right (And.right (And.right (And.right (And.right (And.right (And.right (And.right (And.right (And.right (by with_reducible assumption))))))))))) | exact allLt_far (And.right (And.right (And.right (And.right (And.right (And.right (And.right (And.right (And.right (And.right (And.right (by with_reducible assumption)))))))))))) | exact allLt_far (And.right (And.right (And.right (And.right (And.right (And.right (And.right (And.right (And.right (And.right (And.right (And.right (by with_reducible assumption))))))))))))) | exact allLt_far (And.right (And.right (And.right (And.right (And.right (And.right (And.right (And.right (And.right (And.right (And.right (And.right (And.right (by with_reducible assumption)))))))))))))) | exact allLt_far (And.right (And.right (And.right (And.right (And.right (And.right (And.right (And.right (And.right (And.right (And.right (And.right (And.right (And.right (by with_reducible assumption))))))))))))))) | exact allLt_far (And.right (And.right (And.right (And.right (And.right (And.right (And.right (And.right (And.right (And.right (And.right (And.right (And.right (And.right (And.right (by with_reducible assumption)))))))))))))))) | exact allLt_far (And.right (And.right (And.right (And.right (And.right (And.right (And.right (And.right (And.right (And.right (And.right (And.right (And.right (And.right (And.right (And.right (by with_reducible assumption))))))))))))))))) | exact allLt_far (And.right (And.right (And.right (And.right (And.right (And.right (And.right (And.right (And.right (And.right (And.right (And.right (And.right (And.right (And.right (And.right (And.right (by with_reducible assumption)))))))))))))))))))
  k_with "m_ltx" => (first | exact id (by with_reducible assumption) | exact id (And.right (by with_reducible assumption)) | exact id (And.right (And.right (by with_reducible assumption))) | exact id (And.right (And.right (And.right (by with_reducible assumption)))) | exact id (And.right (And.right (And.right (And.right (by with_reducible assumption))))) | exact id (And.right (And.right (And.right (And.right (And.right (by with_reducible assumption)))))) | exact id (And.right (And.right (And.right (And.right (And.right (And.right (by with_reducible assumption))))))) | exact id (And.right (And.right (And.right (And.right (And.right (And.right (And.right (by with_reducible assumption)))))))) | exact id (And.right (And.right (And.right (And.right (And.right (And.right (And.right (And.right (by with_reducible assumption))))))))) | exact id (And.right (And.right (And.right (And.right (And.right (And.right (And.right (And.right (And.right (by with_reducible assumption)))))))))) | exact id (And.right (And.right (And.right (And.right (And.right (And.right (And.right (And.right (And.right (And.right (by with_reducible assumption))))))))))) | exact id (And.right (And.right (And.right (And.right (And.right (And.right (And.right (And.right (And.right (And.right (And.right (by with_reducible assumption)))))))))))) | exact id (And.right (And.right (And.right (And.right (And.right (And.right (And.right (And.right (And.right (And.right (And.right (And.right (by with_reducible assumption))))))))))))) | exact id (And.right (And.right (And.right (And.right (And.right (And.right (And.right (And.right (And.right (And.right (And.right (And.right (And.right (by with_reducible assumption)))))))))))))) | exact id (And.right (And.right (And.right (And.right (And.right (And.right (And.right (And.right (And.right (And.right (And.right (And.right (And.right (And.right (by with_reducible assumption))))))))))))))) | exact id (And.right (And.right (And.right (And.right (And.right (And.right (And.right (And.right (And.right (And.right (And.right (And.right (And.right (And.right (And.right (by with_reducible assumption)))))))))))))))) | exact id (And.right (And.right (And.right (And.right (And.right (And.right (And.right (And.right (And.right (And.right (And.right (And.right (And.right (And.right (And.right (And.right (by with_reducible assumption))))))))))))))))) | exact id (And.right (And.right (And.right (And.right (And.right (And.right (And.right (And.right (And.right (And.right (And.right (And.right (And.right (And.right (And.right (And.right (And.right (by with_reducible assumption)))))))))))))))))))
  k_with "m_far" => (first | (with_reducible assumption) | exact List.forall_mem_nil _ | ((with_reducible refine List.forall_mem_cons.mpr ⟨?_, ?_⟩); (show @Ne Nat _ _; (try dsimp only); omega); walk_at "m_far") | walk_at "m_lt")
  k_with "eval Name" => (((with_reducible show wpAny _ _ (eval (Expr.Name _ _) (envX _ _ _ _ _ _)) _ _ _); k_dflt (refine nameX_L (by k_asm) (by walk_at "m_get") ?_)))
  k_with "SrcLP" => ((refine stop_of ?_))
  trivial
/-- the objects of the headers -/
abbrev hdrL (w : World) (hl hx dh : Nat) (es : List HE) (c2 n2 : Nat) (t1 : Tok) : List (Addr × Obj) :=
  (hl, listOf (List.toArray (heRefs es)) c2) :: (hx, instObj 233 dh) :: (dh, dictOf [{ hash := PyData.keyHash w.params (Str.ofString "_headers"), key := Value.str (Str.ofString "_headers") t1, val := Value.ref hl }] n2) :: tupL es
theorem off1_mem {D : Addr} : ∀ {news : List (Addr × Obj)}, LCg.Off1 D news → ∀ p ∈ news, @Ne Nat p.1 D
  | [], _, p, hp => nomatch hp
  | q :: r, h, p, hp => by
    rcases List.mem_cons.mp hp with rfl | hp
    · exact h.1
    · exact off1_mem h.2 p hp
set_option maxHeartbeats 4000000 in
theorem keys_walk {prog : Program} {w : World} {s : Shared} {g : Heap} {dp un : Nat} {gd : Option (List Code)} {frs : List Env} {R : Result → Shared → Prop} {hl hx dh : Nat} {es : List HE} {c2 n2 : Nat} {t1 : Tok}
    (Si : Site w dp un gd frs g) (K : g.StaysIn s.heap) (O : Owns g s.heap (hdrL w hl hx dh es c2 n2 t1)) (hel : es.length ≤ 1000) (hdp : dp < 840) (hun : un < 8400)
    (ret : ∀ h' tk' D ys n, g.StaysIn h' → Owns g h' ((D, listOf (List.toArray ys) n) :: hdrL w hl hx dh es c2 n2 t1) → (∀ p ∈ hdrL w hl hx dh es c2 n2 t1, @Ne Nat p.1 D) → StrsAre ys (es.map fun e => S e.2.1.1) → R (.ok (.ret (.ref D))) { s with heap := h', toks := tk' }) :
    codeAny (model prog w) (top dp un gd frs) (.call (.ref 185) ⟨[.ref hx], []⟩) R s := by
  refine' enterX (cl := []) (binds := [("self", .ref hx)]) ?Si ?S ?O (K_at (Frag.In.keeps (Site.X ?Si) ?S) ?k6) ?hd (codeRec_of (Frag.In.keeps (Site.X ?Si) ?S) ?k7) ?k8 ?k9 ?kB ?_ ?c5 ?c2 ?c3 ?c4
  (case Si => assumption)
  (case S => assumption)
  (case O => assumption)
  (case k6 => k_is)
  (case hd => exact rfl)
  (case k7 => k_is)
  (case k8 => first | decide | (show _ < 1000; omega))
  (case k9 => first | exact BindsTo.of_eq rfl | exact binds_peek (Frag.In.keeps (Site.X (by assumption)) (by assumption)) (fun _ => by kernel_rfl))
  (case c5 => decide)
  (case kB => exact locs rfl)
  (case c2 => exact rfl)
  (case c3 => exact rfl)
  (case c4 => exact rfl)
  k_whole
  intro g1 L1 h1 hg F1 N1 l1 Si1
  (try k_lt l1)
  (have X1 := Site.X Si1)
  obtain ⟨p1, loose1, mean1, mg1, mb1, T1⟩ := Site.T Si1
  obtain ⟨base1, B1⟩ := Site.B Si1
  (try dsimp only)
  (try k_fold)
  (repeat' (first | (k_unfold; (try dsimp only)) | ((try dsimp only); walk1) | walk1))
  show wpAny _ _ _ _ _ _
  k_dflt (refine LCp.ListComp_P (F₀ := by k_asm) (by rfl) (by decide) (by rfl) (by decide) (by rfl) (by rfl) (by decide) ?_)
  (repeat' (first | (k_unfold; (try dsimp only)) | ((try dsimp only); walk1) | walk1))
  show LCp.SrcLP _ _ _ _ _ _ _ _ _ _ _ _ _ _ _
  rename News _ _ _ _ => kN
  rename Fr _ _ _ _ => kF
  refine LCp.SrcLP.ledger (its := (heRefs es).toArray) rfl kF kN (.head _) (by rw [sizeLine_eq]; simp [heRefs]; omega) fun g9 => ?_
  refine comp_pair (fun i ys => StrsAre ys ((es.take i).map fun e => S e.2.1.1)) (.inr ⟨_, .head _, rfl, _, rfl⟩) (fun e he => .tail _ (.tail _ (.tail _ (List.mem_map.mpr ⟨e, he, rfl⟩)))) .nil ?el ?fin
  case el =>
    intro i e ys I oI C oC D m₂ h tk E' he hinv hNs ha hb F N off ne
    (repeat' (first | (k_unfold; (try dsimp only)) | ((try dsimp only); walk1) | walk1))
    show TurnEnd _ _ _ _ _ _ _ _ _ _ _ _ _ _
    refine TurnEnd.intro F N (fun p hp => hp) ?_
    have hlt : i < es.length := by
      rcases Nat.lt_or_ge i es.length with h | h
      · exact h
      · rw [List.getElem?_eq_none h] at he; cases he
    rw [List.take_add_one, he, List.map_append]
    exact StrsAre.append hinv (StrsAre.one _ _)
  case fin =>
    intro ys hys D h tk F N off
    rw [List.take_length] at hys
    (repeat' (first | (k_unfold; (try dsimp only)) | ((try dsimp only); walk1) | walk1))
    exact ret _ _ D ys _ (stays_of F hg) (Owns.of N hg) (off1_mem off) hys
end Mine
end
section
open PySem PySem.W PyProof.Rows PySem.Calls PySem.Spec
set_option maxRecDepth 100000
namespace Mine
theorem lnGeta1 : True := by
  k_with_none
  k_with "own_room" => ((show _ < 1000; (try simp only [depth_under_make, depth_under_kw, depth_in1, depth_deeper]); omega))
  k_with "eval Name" => ((k_here; k_dflt (refine' nameX_F ?N ?c ?m ?d ?_ ?a ?b; (case a => rfl); (case b => rfl); (case N => k_asm); (case c => rfl); (case m => k_mem); (case d => k_asm); k_whole)))
  k_with "ite" => (first | (refine ite_pos (by decide +kernel) ?_) | (refine ite_neg (by decide +kernel) ?_))
  k_with "inplaceOp Add str str" => ((refine iadd_empty (by first | assumption | (simp only [S_length]; omega)) ?_; intro tq' tkq'))
  k_with "m_get" => (first | rfl | (with_reducible assumption) | exact if_pos rfl | (refine (if_neg (by decide +kernel)).trans ?_; walk_at "m_get"))
  k_with "m_subs" => (first | exact List.forall_mem_nil _ | (refine List.forall_mem_cons.mpr ⟨by k_dflt k_mem, ?_⟩; walk_at "m_subs"))
  k_with "m_dis" => (first | exact List.forall_mem_nil _ | (refine List.forall_mem_cons.mpr ⟨by k_all, ?_⟩; walk_at "m_dis"))
  k_with "m_list" => (first | (with_reducible assumption) | exact stays_list (Fr.keep (by with_reducible assumption)) (by with_reducible assumption) | exact News.isList (by with_reducible assumption) (by k_mem))
  k_with "m_size" => (first | omega | (simp only [List.size_toArray, List.length_map, List.length_cons, List.length_append, List.length_nil, strsAre_length (by assumption)]; omega))
  k_with "truthy ref" => (((with_reducible show wpAny _ _ (truthy (Value.ref _)) _ _ _); k_dflt (first | (refine truthy_nil (by walk_at "m_list") ?_; intro tkq') | (refine truthy_cons (by walk_at "m_list") (by walk_at "m_size") ?_; intro tkq'))))
  k_with "call type:list" => (((with_reducible show wpAny _ _ (call (Value.type _) [Value.str _ _]) _ _ _); refine list_str_K rfl (by k_asm) (by k_asm) (by assumption) ?_; intro Dq' ysq' nq' hq' tkq' Fq' Nq' hSq' l1q; k_lt l1q; (try k_sweep)))
  k_with "call builtin:list.pop" => (((with_reducible show wpAny _ _ (call (Value.builtin _) [Value.ref _, Value.int 0 _]) _ _ _); k_dflt (refine' pop0_K ?F ?N ?U ?z ?_; (case F => k_asm); (case N => k_asm); (case U => k_upd); (case z => walk_at "m_size"); intro hq' Fq' Nq'; (try dsimp only [List.nil_append, List.cons_append] at Nq'); (try k_sweep))))
  k_with "pyIter ref" => ((refine stop_of ?_))
  k_with "eval ListComp" => ((refine stop_of ?_))
  k_with "CompSrc" => ((refine stop_of ?_))
  k_with "TurnEnd" => ((refine stop_of ?_))
  k_with "eval Name" => ((k_here; (with_reducible show wpAny _ _ (eval (Expr.Name _ _) (compEnvC _ _ _ _)) _ _ _); k_dflt (first | refine LCgL.ld_own (by k_asm) (by k_mem) (by with_reducible assumption) (by with_reducible assumption) ?_ | refine LCgL.ld_global (by k_asm) (by k_asm) (by k_asm) (by k_is) ?_ | refine LCgL.ld_built (by k_asm) (by k_asm) (by k_asm) (by k_is) (by boot_by_name) (by decide) ?_)))
  k_with "m_far" => (first | exact tail_ne (by with_reducible assumption) (by with_reducible assumption) (by omega) | exact List.forall_mem_nil _ | ((with_reducible refine List.forall_mem_cons.mpr ⟨?_, ?_⟩); (show @Ne Nat _ _; (try dsimp only); omega); walk_at "m_far"))
  k_with "own_upd" => (first | ((with_reducible refine Upd.head ?_); walk_at "m_far") | ((with_reducible refine Upd.tail ?_ ?_); (show @Ne Nat _ _; (try dsimp only); omega); k_upd))
  k_with "m_get" => (first | (with_reducible assumption) | (with_reducible exact if_pos rfl) | ((with_reducible refine (if_neg (by decide +kernel)).trans ?_); walk_at "m_get"))
  k_with "own_all" => (exact tail_ne (by with_reducible assumption) (by with_reducible assumption) (by omega))
  k_with "call builtin:len" => (((with_reducible show wpAny _ _ (call (Value.builtin "len") [Value.ref _]) _ _ _); k_dflt (refine len_L (by walk_at "m_list") (by walk_at "m_size") ?_); intro tq' tkq'))
  k_with "call builtin:list.append" => (((with_reducible show wpAny _ _ (call (Value.builtin _) [Value.ref _, _]) _ _ _); k_dflt (refine' append_L ?F ?N ?U ?z ?_; (case F => k_asm); (case N => k_asm); (case U => k_upd); (case z => walk_at "m_size"); intro hq' Fq' Nq'; (try k_sweep))))
  k_with "m_cond" => (first | decide +kernel | (simp only [beq_iff_eq, decide_eq_true_eq]; omega) | (simp only [beq_iff_eq, bne_iff_ne, ne_eq, decide_eq_true_eq]; omega))
  k_with "ite" => (first | (refine ite_pos (by walk_at "m_cond") ?_) | (refine ite_neg (by walk_at "m_cond") ?_))
  k_with "m_lt" => (first | exact allLt_far (by with_reducible assumption) | exact allLt_far (And.right (by with_reducible assumption)) | exact allLt_far (And.right (And.right (by with_reducible assumption))) | exact allLt_far (And.right (And.right (And.right (by with_reducible assumption)))) | exact allLt_far (And.right (And.right (And.right (And.right (by with_reducible assumption))))) | exact allLt_far (And.right (And.right (And.right (And.right (And.right (by with_reducible assumption)))))) | exact allLt_far (And.right (And.right (And.right (And.right (And.right (And.right (by with_reducible assumption))))))) | exact allLt_far (And.right (And.right (And.right (And.right (And.right (And.right (And.right (by with_reducible assumption)))))))) | exact allLt_far (And.right (And.right (And.right (And.right (And.right (And.right (And.right (And.right (by with_reducible assumption))))))))) | exact allLt_far (And.right (And.right (And.right (And.right (And.right (And.right (And.right (And.right (And.right (by with_reducible assumption)))))))))) | exact allLt_far (And.right (And.right (And.right (And.right (And.right (And.right (And.right (And.right (And.right (And.right (by with_reducible assumption))))))))))) | exact allLt_far (And.right (And.right (And.right (And.right (And.right (And.right (And.right (And.right (And.right (And.right (And.right (by with_reducible assumption)))))))))))) | exact allLt_far (And.right (And.right (And.right (And.right (And.right (And.right (And.right (And.right (And.right (And.right (And.right (And.right (by with_reducible assumption))))))))))))) | exact allLt_far (And.right (And.right (And.right (And.right (And.right (And.right (And.right (And.right (And.right (And.right (And.right (And.right (And.right (by with_reducible assumption)))))))))))))) | exact allLt_far (And.right (And.right (And.right (And.right (And.right (And.right (And.right (And.right (And.right (And.right (And.right (And.right (And.right (And.right (by with_reducible assumption))))))))))))))) | exact allLt_far (And.right (And.right (And.right (And.right (And.right (And.right (And.right (And.right (And.right (And.right (And.right (And.right (And.right (And.right (And.right (by with_reducible assumption)))))))))))))))) | exact allLt_far (And.right (And.right (And.right (And.right (And.right (And.right (And.right (And.right (And.right (And.right (And.right (And.right (And.right (And.right (And.right (And.right (by with_reducible assumption))))))))))))))))) | exact allLt_far (And.right (And.right (And.right (And.right (And.right (And.right (And.right (And.right (And.right (And.right (And.right (And.right (And.right (And.right (And.right (And.right (And.right (by with_reducible assumption)))))))))))))))))))
  k_with "m_ltx" => (first | exact id (by with_reducible assumption) | exact id (And.right (by with_reducible assumption)) | exact id (And.right (And.right (by with_reducible assumption))) | exact id (And.right (And.right (And.right (by with_reducible assumption)))) | exact id (And.right (And.right (And.right (And.right (by with_reducible assumption))))) | exact id (And.right (And.right (And.right (And.right (And.right (by with_reducible assumption)))))) | exact id (And.right (And.right (And.right (And.right (And.right (And.right (by with_reducible assumption))))))) | exact id (And.right (And.right (And.right (And.right (And.right (And.right (And.right (by with_reducible assumption)))))))) | exact id (And.right (And.right (And.right (And.right (And.right (And.right (And.right (And.right (by with_reducible assumption))))))))) | exact id (And.right (And.right (And.right (And.right (And.right (And.right (And.right (And.right (And.right (by with_reducible assumption)))))))))) | exact id (And.right (And.right (And.right (And.right (And.right (And.right (And.right (And.right (And.right (And.right (by with_reducible assumption))))))))))) | exact id (And.right (And.right (And.right (And.right (And.right (And.right (And.right (And.right (And.right (And.right (And.right (by with_reducible assumption)))))))))))) | exact id (And.right (And.right (And.right (And.right (And.right (And.right (And.right (And.right (And.right (And.right (And.right (And.right (by with_reducible assumption))))))))))))) | exact id (And.right (And.right (And.right (And.right (And.right (And.right (And.right (And.right (And.right (And.right (And.right (And.right (And.right (by with_reducible assumption)))))))))))))) | exact id (And.right (And.right (And.right (And.right (And.right (And.right (And.right (And.right (And.right (And.right (And.right (And.right (And.right (And.right (by with_reducible assumption))))))))))))))) | exact id (And.right (And.right (And.right (And.right (And.right (And.right (And.right (And.right (And.right (And.right (And.right (And.right (And.right (And.right (And.right (by with_reducible assumption)))))))))))))))) | exact id (And.right (And.right (And.right (And.right (And.right (And.right (And.right (And.right (And.right (And.right (And.right (And.right (And.right (And.right (And.right (And.right (by with_reducible assumption))))))))))))))))) | exact id (And.right (And.right (And.right (And.right (And.right (And.right (And.right (And.right (And.right (And.right (And.right (And.right (And.right (And.right (And.right (And.right (And.right (by with_reducible assumption)))))))))))))))))))
  k_with "m_far" => (first | (with_reducible assumption) | exact List.forall_mem_nil _ | ((with_reducible refine List.forall_mem_cons.mpr ⟨?_, ?_⟩); (show @Ne Nat _ _; (try dsimp only); omega); walk_at "m_far") | walk_at "m_lt")
  k_with "getMethod ref" => (((with_reducible show wpAny _ _ (getMethod (Value.ref _) (Str.ofString "search") _) _ _ _); k_dflt (refine' re_method ?X ?F ?e ?c ?d ?_; (case X => k_asm); (case F => k_asm); (case e => k_is); (case c => rfl); (case d => rfl))))
  k_with "call builtin:re.Pattern.search" => ((k_dflt (first | (refine' search_nameF ?F ?X ?x ?z ?a ?b ?_; (case F => k_asm); (case X => k_asm); (case x => with_reducible assumption); (case z => omega); (case a => k_is); (case b => k_is)) | (refine' search_valF ?F ?X ?x ?z ?a ?b ?_; (case F => k_asm); (case X => k_asm); (case x => with_reducible assumption); (case z => omega); (case a => k_is); (case b => k_is)))))
  k_with "eval Name" => (((with_reducible show wpAny _ _ (eval (Expr.Name _ _) (compEnvC _ _ _ _)) _ _ _); k_dflt (refine lcf_free (by k_asm) (by rfl) (by k_mem) (by with_reducible assumption) ?_ (by rfl) (by rfl))))
  k_with "eval Name" => (((with_reducible show wpAny _ _ (eval (Expr.Name _ _) (envOfC _ _ _ _ _)) _ _ _); k_dflt (first | refine nameX_L (by k_asm) (by walk_at "m_get") ?_ | refine nameX_C (by k_asm) (by rfl) (by k_mem) (by with_reducible assumption) ?_)))
  k_with "CompSrcT" => ((refine stop_of ?_))
  k_with "call builtin:str.lower" => ((k_dflt (refine lower_S (by with_reducible assumption) (by omega) ?_); intro tq' tkq'))
  k_with "compareOp Eq str str" => ((k_dflt (first | refine eq_St (by with_reducible assumption) ?_ | refine eq_Sf (by with_reducible assumption) ?_)))
  k_with "subscriptTail Name Constant ref int" => (((with_reducible show wpAny _ _ (subscriptTail _ _ (Value.ref _) (Value.int 0 _)) _ _ _); k_dflt (refine item_T0 (by with_reducible assumption) ?_)))
  k_with "subscriptTail Name Constant ref int" => (((with_reducible show wpAny _ _ (subscriptTail _ _ (Value.ref _) (Value.int 1 _)) _ _ _); k_dflt (refine item_T1 (by with_reducible assumption) ?_)))
  k_with "TurnEnd" => ((refine stop_of ?_))
  k_with "own_all" => (walk_at "m_far")
  trivial
theorem allLt_mem {d : Nat} : ∀ {l : List (Addr × Obj)}, AllLt d l → ∀ p ∈ l, @LT.lt Nat _ p.1 d
  | [], _, p, hp => nomatch hp
  | q :: r, h, p, hp => by
    rcases List.mem_cons.mp hp with rfl | hp
    · exact h.1
    · exact allLt_mem h.2 p hp
theorem hdr_far {w : World} {hl hx dh L : Nat} {es : List HE} {c2 n2 : Nat} {t1 : Tok} (a : hl < L) (b : hx < L) (c : dh < L) (d : AllLt L (tupL es)) : ∀ p ∈ hdrL w hl hx dh es c2 n2 t1, @Ne Nat p.1 (L + 1) := fun p hp => by
  rcases List.mem_cons.mp hp with rfl | hp
  · exact Nat.ne_of_lt (Nat.lt_succ_of_lt a)
  rcases List.mem_cons.mp hp with rfl | hp
  · exact Nat.ne_of_lt (Nat.lt_succ_of_lt b)
  rcases List.mem_cons.mp hp with rfl | hp
  · exact Nat.ne_of_lt (Nat.lt_succ_of_lt c)
  · exact Nat.ne_of_lt (Nat.lt_succ_of_lt (allLt_mem d p hp))
set_option maxHeartbeats 1000000 in
theorem geta_walk {prog : Program} {w : World} {s : Shared} {g : Heap} {dp un : Nat} {gd : Option (List Code)} {frs : List Env} {R : Result → Shared → Prop} {hl hx dh : Nat} {es : List HE} {c2 n2 : Nat} {t1 : Tok} {nm : T} {tn : Tok}
    (Si : Site w dp un gd frs g) (K : g.StaysIn s.heap) (O : Owns g s.heap (hdrL w hl hx dh es c2 n2 t1)) (hel : es.length ≤ 1000) (hes : ∀ e ∈ es, (∀ c ∈ e.2.1.1, c < 128) ∧ e.2.1.1.length ≤ 1000) (hnm : ∀ c ∈ nm, c < 128) (hnl : nm.length ≤ 1000) (hpl : Plain (lowT nm)) (hdp : dp < 840) (hun : un < 8400)
    (ret : ∀ h' tk' D ys n, g.StaysIn h' → Owns g h' ((D, listOf (List.toArray ys) n) :: hdrL w hl hx dh es c2 n2 t1) → (∀ p ∈ hdrL w hl hx dh es c2 n2 t1, @Ne Nat p.1 D) → StrsAre ys (gotAt es nm es.length) → R (.ok (.ret (.ref D))) { s with heap := h', toks := tk' }) :
    codeAny (model prog w) (top dp un gd frs) (.call (.ref 172) ⟨[.ref hx, .str (S nm) tn], []⟩) R s := by
  have hll : (lowT nm).length ≤ 1000 := by rw [lowT, List.length_map]; exact hnl
  refine' enterC (binds := [("self", .ref hx), ("name", .str (S nm) tn)]) ?Si ?S ?O (K_at (Frag.In.keeps (Site.X ?Si) ?S) ?k6) ?hd (codeRec_of (Frag.In.keeps (Site.X ?Si) ?S) ?k7) ?k8 ?k9 ?kB ?kD ?_ ?c2 ?c3 ?c4
  (case Si => assumption)
  (case S => assumption)
  (case O => first | assumption | exact Owns.nil)
  (case k6 => k_is)
  (case hd => exact rfl)
  (case k7 => k_is)
  (case k8 => first | decide | (show _ < 1000; omega))
  (case k9 => first | exact BindsTo.of_eq rfl | exact binds_peek (Frag.In.keeps (Site.X (by assumption)) (by assumption)) (fun _ => by kernel_rfl))
  (case kB => exact rfl)
  (case kD => decide +kernel)
  (case c2 => exact rfl)
  (case c3 => exact rfl)
  (case c4 => exact rfl)
  k_whole
  intro g1 L1 h1 tk1 cells1 hg F1 N1 Y1 l1 Si1
  k_cells Y1
  (try simp only [List.cons_append, List.nil_append] at N1)
  (try k_lt l1)
  (have X1 := Site.X Si1)
  obtain ⟨p1, loose1, mean1, mg1, mb1, T1⟩ := Site.T Si1
  (try dsimp only)
  (try k_fold)
  obtain ⟨base1, B1⟩ := Site.B Si1
  have far : ∀ p ∈ hdrL w hl hx dh es c2 n2 t1, @Ne Nat p.1 (L1 + 1) := hdr_far l1.1 l1.2.1 l1.2.2.1 l1.2.2.2
  (repeat' (first | (k_unfold; (try dsimp only)) | ((try dsimp only); walk1) | walk1))
  show wpAny _ _ _ _ _ _
  k_dflt (refine LCt.ListComp_T (F₀ := by k_asm) (by rfl) (by decide) (by rfl) (by decide) (by rfl) ?_)
  (repeat' (first | (k_unfold; (try dsimp only)) | ((try dsimp only); walk1) | walk1))
  show LCt.CompSrcT _ _ _ _ _ _ _ _ _ _ _ _ _ _ _
  rename News _ _ _ _ => kN
  rename Fr _ _ _ _ => kF
  refine LCt.CompSrcT.ledger (its := (heRefs es).toArray) rfl kF kN (.tail _ (.head _)) (by rw [sizeLine_eq]; simp [heRefs]; omega) fun g9 => ?_
  refine comp_test (fun i ys => StrsAre ys (gotAt es nm i)) (.inr ⟨_, .tail _ (.head _), rfl, _, rfl⟩) .nil ?el ?fin
  case el =>
    intro i v ys I oI C oC D m₂ h tk E' hv hinv hNs hx9 F N off ne
    clear kN kF
    obtain ⟨e, he, rfl⟩ := he_get hv
    have hme := List.mem_of_getElem? he
    obtain ⟨he1, he2⟩ := hes e hme
    have hmt : h.get? e.1 = some (tupO e) := (N (e.1, tupO e) (.tail _ (.tail _ (.tail _ (.tail _ (.tail _ (.tail _ (.tail _ (List.mem_map.mpr ⟨e, hme, rfl⟩))))))))).1
    by_cases hq : lowT e.2.1.1 = lowT nm
    · (repeat' (first | (k_unfold; (try dsimp only)) | ((try dsimp only); walk1) | walk1))
      show TurnEnd _ _ _ _ _ _ _ _ _ _ _ _ _ _
      exact TurnEnd.intro F N (fun p hp => hp) (got_pos he hq hinv)
    · (repeat' (first | (k_unfold; (try dsimp only)) | ((try dsimp only); walk1) | walk1))
      show TurnEnd _ _ _ _ _ _ _ _ _ _ _ _ _ _
      exact TurnEnd.intro F N (fun p hp => hp) (got_neg he hq hinv)
  case fin =>
    intro ys hys D h tk F N off
    (repeat' (first | (k_unfold; (try dsimp only)) | ((try dsimp only); walk1) | walk1))
    rw [heRefs, List.length_map] at hys
    refine ret _ _ D ys ys.length (stays_of F hg) ((Owns.of N hg).sub ?_) (off1_mem off.2) hys
    intro p hp
    rcases List.mem_cons.mp hp with rfl | hp
    · exact .head _
    · exact .tail _ (.tail _ hp)
end Mine
end
section
open PySem PySem.W PyProof.Rows PySem.Calls PySem.Spec
set_option maxRecDepth 100000
namespace Mine
theorem lnLawC1 : True := by
  k_with_none
  k_with "own_room" => ((show _ < 1000; (try simp only [depth_under_make, depth_under_kw, depth_in1, depth_deeper]); omega))
  k_with "eval Name" => ((k_here; k_dflt (refine' nameX_F ?N ?c ?m ?d ?_ ?a ?b; (case a => rfl); (case b => rfl); (case N => k_asm); (case c => rfl); (case m => k_mem); (case d => k_asm); k_whole)))
  k_with "ite" => (first | (refine ite_pos (by decide +kernel) ?_) | (refine ite_neg (by decide +kernel) ?_))
  k_with "inplaceOp Add str str" => ((refine iadd_empty (by first | assumption | (simp only [S_length]; omega)) ?_; intro tq' tkq'))
  k_with "m_get" => (first | rfl | (with_reducible assumption) | exact if_pos rfl | (refine (if_neg (by decide +kernel)).trans ?_; walk_at "m_get"))
  k_with "m_subs" => (first | exact List.forall_mem_nil _ | (refine List.forall_mem_cons.mpr ⟨by k_dflt k_mem, ?_⟩; walk_at "m_subs"))
  k_with "m_dis" => (first | exact List.forall_mem_nil _ | (refine List.forall_mem_cons.mpr ⟨by k_all, ?_⟩; walk_at "m_dis"))
  k_with "m_list" => (first | (with_reducible assumption) | exact stays_list (Fr.keep (by with_reducible assumption)) (by with_reducible assumption) | exact News.isList (by with_reducible assumption) (by k_mem))
  k_with "m_size" => (first | omega | (simp only [List.size_toArray, List.length_map, List.length_cons, List.length_append, List.length_nil, strsAre_length (by assumption)]; omega))
  k_with "truthy ref" => (((with_reducible show wpAny _ _ (truthy (Value.ref _)) _ _ _); k_dflt (first | (refine truthy_nil (by walk_at "m_list") ?_; intro tkq') | (refine truthy_cons (by walk_at "m_list") (by walk_at "m_size") ?_; intro tkq'))))
  k_with "call type:list" => (((with_reducible show wpAny _ _ (call (Value.type _) [Value.str _ _]) _ _ _); refine list_str_K rfl (by k_asm) (by k_asm) (by assumption) ?_; intro Dq' ysq' nq' hq' tkq' Fq' Nq' hSq' l1q; k_lt l1q; (try k_sweep)))
  k_with "call builtin:list.pop" => (((with_reducible show wpAny _ _ (call (Value.builtin _) [Value.ref _, Value.int 0 _]) _ _ _); k_dflt (refine' pop0_K ?F ?N ?U ?z ?_; (case F => k_asm); (case N => k_asm); (case U => k_upd); (case z => walk_at "m_size"); intro hq' Fq' Nq'; (try dsimp only [List.nil_append, List.cons_append] at Nq'); (try k_sweep))))
  k_with "pyIter ref" => ((refine stop_of ?_))
  k_with "call ref" => (((with_reducible show wpAny _ _ (call (Value.ref _) _) _ _ _); refine stop_of ?_))
  k_with "eval ListComp" => ((refine stop_of ?_))
  k_with "CompSrc" => ((refine stop_of ?_))
  k_with "TurnEnd" => ((refine stop_of ?_))
  k_with "eval Name" => ((k_here; (with_reducible show wpAny _ _ (eval (Expr.Name _ _) (compEnvC _ _ _ _)) _ _ _); k_dflt (first | refine LCgL.ld_own (by k_asm) (by k_mem) (by with_reducible assumption) (by with_reducible assumption) ?_ | refine LCgL.ld_global (by k_asm) (by k_asm) (by k_asm) (by k_is) ?_ | refine LCgL.ld_built (by k_asm) (by k_asm) (by k_asm) (by k_is) (by boot_by_name) (by decide) ?_)))
  k_with "m_far" => (first | exact tail_ne (by with_reducible assumption) (by with_reducible assumption) (by omega) | exact List.forall_mem_nil _ | ((with_reducible refine List.forall_mem_cons.mpr ⟨?_, ?_⟩); (show @Ne Nat _ _; (try dsimp only); omega); walk_at "m_far"))
  k_with "own_upd" => (first | ((with_reducible refine Upd.head ?_); walk_at "m_far") | ((with_reducible refine Upd.tail ?_ ?_); (show @Ne Nat _ _; (try dsimp only); omega); k_upd))
  k_with "m_get" => (first | (with_reducible assumption) | (with_reducible exact if_pos rfl) | ((with_reducible refine (if_neg (by decide +kernel)).trans ?_); walk_at "m_get"))
  k_with "own_all" => (exact tail_ne (by with_reducible assumption) (by with_reducible assumption) (by omega))
  k_with "call builtin:len" => (((with_reducible show wpAny _ _ (call (Value.builtin "len") [Value.ref _]) _ _ _); k_dflt (refine len_L (by walk_at "m_list") (by walk_at "m_size") ?_); intro tq' tkq'))
  k_with "call builtin:list.append" => (((with_reducible show wpAny _ _ (call (Value.builtin _) [Value.ref _, _]) _ _ _); k_dflt (refine' append_L ?F ?N ?U ?z ?_; (case F => k_asm); (case N => k_asm); (case U => k_upd); (case z => walk_at "m_size"); intro hq' Fq' Nq'; (try k_sweep))))
  k_with "m_cond" => (first | decide +kernel | (simp only [beq_iff_eq, decide_eq_true_eq]; omega) | (simp only [beq_iff_eq, bne_iff_ne, ne_eq, decide_eq_true_eq]; omega))
  k_with "ite" => (first | (refine ite_pos (by walk_at "m_cond") ?_) | (refine ite_neg (by walk_at "m_cond") ?_))
  k_with "m_lt" => (first | exact allLt_far (by with_reducible assumption) | exact allLt_far (And.right (by with_reducible assumption)) | exact allLt_far (And.right (And.right (by with_reducible assumption))) | exact allLt_far (And.right (And.right (And.right (by with_reducible assumption)))) | exact allLt_far (And.right (And.right (And.right (And.right (by with_reducible assumption))))) | exact allLt_far (And.right (And.right (And.right (And.right (And.right (by with_reducible assumption)))))) | exact allLt_far (And.right (And.right (And.right (And.right (And.right (And.right (by with_reducible assumption))))))) | exact allLt_far (And.right (And.right (And.right (And.right (And.right (And.right (And.right (by with_reducible assumption)))))))) | exact allLt_far (And.right (And.right (And.right (And.right (And.right (And.right (And.right (And.right (by with_reducible assumption))))))))) | exact allLt_far (And.right (And.right (And.right (And.right (And.right (And.right (And.right (And.right (And.right (by with_reducible assumption)))))))))) | exact allLt_far (And.right (And.right (And.right (And.right (And.right (And.right (And.right (And.right (And.right (And.right (by with_reducible assumption))))))))))) | exact allLt_far (And.right (And.right (And.right (And.right (And.right (And.right (And.right (And.right (And.right (And.right (And.right (by with_reducible assumption)))))))))))) | exact allLt_far (And.right (And.right (And.right (And.right (And.right (And.right (And.right (And.right (And.right (And.right (And.right (And.right (by with_reducible assumption))))))))))))) | exact allLt_far (And.right (And.right (And.right (And.right (And.right (And.right (And.right (And.right (And.right (And.right (And.right (And.right (And.right (by with_reducible assumption)))))))))))))) | exact allLt_far (And.right (And.right (And.right (And.right (And.right (And.right (And.right (And.right (And.right (And.right (And.right (And.right (And.right (And.right (by with_reducible assumption))))))))))))))) | exact allLt_far (And.right (And.right (And.right (And.right (And.right (And.right (And.right (And.right (And.right (And.right (And.right (And.right (And.right (And.right (And.right (by with_reducible assumption)))))))))))))))) | exact allLt_far (And.right (And.right (And.right (And.right (And.right (And.right (And.right (And.right (And.right (And.right (And.right (And.right (And.right (And.right (And.right (And.right (by with_reducible assumption))))))))))))))))) | exact allLt_far (And.right (And.right (And.right (And.right (And.right (And.right (And.right (And.right (And.right (And.right (And.right (And.right (And.right (And.right (And.right (And.right (And.right (by with_reducible assumption)))))))))))))))))))
  k_with "m_ltx" => (first | exact id (by with_reducible assumption) | exact id (And.right (by with_reducible assumption)) | exact id (And.right (And.right (by with_reducible assumption))) | exact id (And.right (And.right (And.right (by with_reducible assumption)))) | exact id (And.right (And.right (And.right (And.right (by with_reducible assumption))))) | exact id (And.right (And.right (And.right (And.right (And.right (by with_reducible assumption)))))) | exact id (And.right (And.right (And.right (And.right (And.right (And.right (by with_reducible assumption))))))) | exact id (And.right (And.right (And.right (And.right (And.right (And.right (And.right (by with_reducible assumption)))))))) | exact id (And.right (And.right (And.right (And.right (And.right (And.right (And.right (And.right (by with_reducible assumption))))))))) | exact id (And.right (And.right (And.right (And.right (And.right (And.right (And.right (And.right (And.right (by with_reducible assumption)))))))))) | exact id (And.right (And.right (And.right (And.right (And.right (And.right (And.right (And.right (And.right (And.right (by with_reducible assumption))))))))))) | exact id (And.right (And.right (And.right (And.right (And.right (And.right (And.right (And.right (And.right (And.right (And.right (by with_reducible assumption)))))))))))) | exact id (And.right (And.right (And.right (And.right (And.right (And.right (And.right (And.right (And.right (And.right (And.right (And.right (by with_reducible assumption))))))))))))) | exact id (And.right (And.right (And.right (And.right (And.right (And.right (And.right (And.right (And.right (And.right (And.right (And.right (And.right (by with_reducible assumption)))))))))))))) | exact id (And.right (And.right (And.right (And.right (And.right (And.right (And.right (And.right (And.right (And.right (And.right (And.right (And.right (And.right (by with_reducible assumption))))))))))))))) | exact id (And.right (And.right (And.right (And.right (And.right (And.right (And.right (And.right (And.right (And.right (And.right (And.right (And.right (And.right (And.right (by with_reducible assumption)))))))))))))))) | exact id (And.right (And.right (And.right (And.right (And.right (And.right (And.right (And.right (And.right (And.right (And.right (And.right (And.right (And.right (And.right (And.right (by with_reducible assumption))))))))))))))))) | exact id (And.right (And.right (And.right (And.right (And.right (And.right (And.right (And.right (And.right (And.right (And.right (And.right (And.right (And.right (And.right (And.right (And.right (by with_reducible assumption)))))))))))))))))))
  k_with "m_far" => (first | (with_reducible assumption) | exact List.forall_mem_nil _ | ((with_reducible refine List.forall_mem_cons.mpr ⟨?_, ?_⟩); (show @Ne Nat _ _; (try dsimp only); omega); walk_at "m_far") | walk_at "m_lt")
  k_with "eval Name" => (((with_reducible show wpAny _ _ (eval (Expr.Name _ _) (envOfC _ _ _ _ _)) _ _ _); k_dflt (first | refine nameX_L (by k_asm) (by walk_at "m_get") ?_ | refine nameX_C (by k_asm) (by rfl) (by k_mem) (by with_reducible assumption) ?_)))
  k_with "exec For Name Name cons nil" => ((refine stop_of ?_))
  k_with "exec For Name Call cons nil" => ((refine stop_of ?_))
  k_with "TEndD" => ((refine stop_of ?_))
  k_with "call builtin:str.split" => ((refine stop_of ?_))
  k_with "call builtin:str.join" => ((refine stop_of ?_))
  k_with "call builtin:sorted" => ((refine stop_of ?_))
  k_with "compareOp NotEq ref ref" => ((refine stop_of ?_))
  k_with "compareOp NotIn str ref" => ((refine stop_of ?_))
  k_with "call builtin:len" => (((with_reducible show wpAny _ _ (call (Value.builtin "len") [Value.str _ _]) _ _ _); k_dflt (refine len_S (by omega) ?_); intro tq' tkq'))
  trivial
/-- the rows of a name -/
def rowsT (nm : T) : List T := (Txt.split (S nm) (S [47])).map fun x => x.cps.toList
/-- what the law asks of a name -/
def nameOk (words : List T) (hs : List (T × T)) (nm : T) : Bool :=
  decide (nm.length ≤ 1000) && nm.all (fun c => decide (c < 128)) && plainB (lowT nm) && decide ((rowsT nm).length ≤ 5) && (rowsT nm).all (fun r => decide (r.length ≤ 20) && r.all fun c => decide (c < 128)) &&
    decide (((rowsT nm).map List.length).sum ≤ 5) && risesOk (rowsT nm) && words.any (fun x => x == joinT [] (rowsT nm).reverse) && decide ((fillOf ((rowsT nm).map List.length).sum ((rowsT nm).map List.length)).length < 64) &&
    List.isPerm ((hs.filter fun e => lowT e.1 == lowT nm).map fun e => e.2) ((fillOf ((rowsT nm).map List.length).sum ((rowsT nm).map List.length)).map (joinT [47]))
structure NameOk (words : List T) (hs : List (T × T)) (nm : T) : Prop where
  len : nm.length ≤ 1000
  asc : ∀ c ∈ nm, c < 128
  low : Plain (lowT nm)
  rlen : (rowsT nm).length ≤ 5
  rows : ∀ r ∈ rowsT nm, r.length ≤ 20 ∧ ∀ c ∈ r, c < 128
  sum : ((rowsT nm).map List.length).sum ≤ 5
  rise : risesOk (rowsT nm) = true
  word : words.any (fun x => x == joinT [] (rowsT nm).reverse) = true
  few : (fillOf ((rowsT nm).map List.length).sum ((rowsT nm).map List.length)).length < 64
  perm : ((hs.filter fun e => lowT e.1 == lowT nm).map fun e => e.2).Perm ((fillOf ((rowsT nm).map List.length).sum ((rowsT nm).map List.length)).map (joinT [47]))
theorem nameOk_of {words : List T} {hs : List (T × T)} {nm : T} (h : nameOk words hs nm = true) : NameOk words hs nm := by
  simp only [nameOk, Bool.and_eq_true, decide_eq_true_eq, List.all_eq_true] at h
  obtain ⟨⟨⟨⟨⟨⟨⟨⟨⟨h1, h2⟩, h3⟩, h4⟩, h5⟩, h6⟩, h7⟩, h8⟩, h9⟩, h10⟩ := h
  exact ⟨h1, h2, plain_of h3, h4, h5, h6, h7, h8, h9, List.isPerm_iff.mp h10⟩
theorem split_rows (nm : T) : Txt.split (S nm) (S [47]) = (rowsT nm).map S := by
  unfold rowsT
  rw [List.map_map]
  conv => lhs; rw [← List.map_id (Txt.split (S nm) (S [47]))]
  exact List.map_congr_left fun x _ => (Str.ext' (by simp [S])).symm
/-- objects that differ lie apart -/
theorem ne_obj {g h : Heap} {L a b : Addr} {o o' : Obj} {news : List (Addr × Obj)} (N : News g L h news) (h1 : (a, o) ∈ news) (h2 : (b, o') ∈ news) (hne : o ≠ o') : @Ne Nat a b := fun e => by
  have e1 := (N _ h1).1
  have e2 := (N _ h2).1
  have e' : a = b := e
  subst e'
  exact hne (Option.some.inj (e1.symm.trans e2))
theorem got_heads {es : List HE} {hs : List (T × T)} (h : es.map (fun e => (e.2.1.1, e.2.2.1)) = hs) (nm : T) : gotAt es nm es.length = ((hs.filter fun e => lowT e.1 == lowT nm).map fun e => e.2).map S := by
  subst h
  unfold gotAt
  rw [List.take_length, List.filter_map, List.map_map, List.map_map]
  rfl
theorem key_get {es : List HE} {ks : List Value} (h : StrsAre ks (es.map fun e => S e.2.1.1)) {i : Nat} {v : Value} (hv : ks[i]? = some v) : ∃ e ∈ es, ∃ t, v = .str (S e.2.1.1) t := by
  have hl : ks.length = es.length := by rw [strsAre_length h, List.length_map]
  have hi : i < es.length := by
    rw [← hl]
    rcases Nat.lt_or_ge i ks.length with h | h
    · exact h
    · rw [List.getElem?_eq_none h] at hv; cases hv
  obtain ⟨t, e⟩ := StrsAre.get h i (by rw [List.length_map]; exact hi)
  rw [hv, List.getD_eq_getElem?_getD, List.getElem?_map, List.getElem?_eq_getElem hi] at e
  exact ⟨es[i], List.getElem_mem hi, t, Option.some.inj e⟩
theorem slash_is : Str.ofString "/" = S [47] := by decide +kernel
section
variable {prog : Program} {w : World} {A : Around} {E : Value → Shared → Prop} {s : Shared} {h₀ : Heap} {L : Addr} {m : Str → Option Value} {news : List (Addr × Obj)} {Q : Value → Shared → Prop}
theorem split_S {x : T} {t u : Tok} (F : Fr h₀ L s.heap m) (N : News h₀ L s.heap news) (hz : x.length ≤ 1000)
    (h : ∀ D zs h' k, StrsAre zs ((rowsT x).map S) → Fr h₀ L h' m → News h₀ L h' ((D, listOf (List.toArray zs) 0) :: news) → (∀ p ∈ news, p.1 < D) → Q (.ref D) { s with heap := h', toks := k }) :
    wpAny (model prog w) A (call (.builtin "str.split") [.str (S x) t, .str (Str.ofString "/") u]) Q E s := by
  rw [slash_is]
  refine KSpl.split1 F N (by decide) (fun D l h' k e a F' N' l1 => ?_) (by rw [S_length, sizeLine_eq]; omega)
  rw [e, split_rows] at a
  exact h D _ h' k a F' N' l1
theorem notin_S {l : Addr} {vs : List Value} {ws : List T} {x : T} {t : Tok} (hl : s.heap.IsList l vs.toArray) (hi : StrsAre vs (ws.map S)) (hx : ws.any (fun y => y == x) = true) (h : Q (.bool false) s) :
    wpAny (model prog w) A (compareOp .NotIn (.str (S x) t) (.ref l)) Q E s := by
  refine notin_list_strs hl hi ?_
  have e : (ws.map S).any (fun y => y == S x) = true := by
    obtain ⟨y, hy, e⟩ := List.any_eq_true.mp hx
    exact List.any_eq_true.mpr ⟨S y, List.mem_map.mpr ⟨y, hy, rfl⟩, by rw [beq_iff_eq] at e ⊢; rw [e]⟩
  rw [e]; exact h
end
theorem StrsAre.rev {a : List Value} {x : List Str} (h : StrsAre a x) : StrsAre a.reverse x.reverse := by
  induction h with
  | nil => exact .nil
  | cons s t h ih => rw [List.reverse_cons, List.reverse_cons]; exact StrsAre.append ih (StrsAre.one _ _)
section
variable {prog : Program} {w : World} {A : Around} {E : Value → Shared → Prop} {h₀ : Heap} {L l : Addr} {m : Str → Option Value} {news : List (Addr × Obj)} {value slice : PySem.Expr} {vs : List Value} {vk : Value} {Q : Value → Shared → Prop}
theorem rev_N {ops : List Value} {h : Heap} {ge dr tk os} (F : Fr h₀ L h m) (N : News h₀ L h news) (hl : h.IsList l vs.toArray) (pk : IsPart vk (some (-1))) (hz : vs.length ≤ 10000)
    (k : ∀ D h', Fr h₀ L h' m → News h₀ L h' ((D, listOf (List.toArray vs.reverse) 0) :: news) → (∀ p ∈ news, p.1 < D) → Q (.ref D) ⟨h', ge, dr, tk, os⟩)
    (hs : subscripted slice false (.ref l) (.ref h.objs.size) = operate ops (getItem (.ref l) (.ref h.objs.size))) (ht : ∀ r, letTemporaryGo value (.ref l) r = pure ()) :
    wpAny (model prog w) A (subscriptTail value slice (.ref l) (.ref h.objs.size)) Q E ⟨h.push { cls := .type "slice", data := .fields #[.none, .none, vk] }, ge, dr, tk, os⟩ :=
  krv_lit (s := ⟨h, ge, dr, tk, os⟩) (its := vs.toArray) (zs := vs.reverse) F N hl pk rfl k hs ht (by rw [List.size_toArray, sizeLine_eq]; omega)
end
theorem lnLawC2 : True := by
  k_with "subscriptTail Name Slice ref ref" => (((with_reducible show wpAny _ _ (subscriptTail _ (PySem.Expr.Slice none none (some _) _) (Value.ref _) (Value.ref _)) _ _ _); k_dflt (refine' rev_N ?kF ?kN ?kl ?kp ?kz ?_ ?ks ?kt; (case kF => k_asm); (case kN => k_asm); (case kl => walk_at "m_list"); (case kp => exact IsPart.int _ _); (case ks => with_unfolding_all rfl); (case kt => kmk_pure); (case kz => omega)); intro Dq' hq' Fq' Nq' l1q; (try k_lt l1q); (try k_sweep)))
  k_with "exec Assign cons ListComp" => ((refine stop_of ?_))
  k_with "CompSrc" => ((refine stop_of ?_))
  k_with "TurnEnd" => ((refine stop_of ?_))
  trivial
theorem row_len {zs : List Value} {nm : T} (h : StrsAre zs ((rowsT nm).map S)) {j : Nat} {v : Value} (hv : zs[j]? = some v) (hr : ∀ r ∈ rowsT nm, r.length ≤ 20 ∧ ∀ c ∈ r, c < 128) :
    j < (rowsT nm).length ∧ ∃ t, v = .str (S ((rowsT nm).getD j [])) t ∧ ((rowsT nm).getD j []).length ≤ 20 := by
  have hl : zs.length = (rowsT nm).length := by rw [strsAre_length h, List.length_map]
  have hi : j < (rowsT nm).length := by
    rw [← hl]
    rcases Nat.lt_or_ge j zs.length with h | h
    · exact h
    · rw [List.getElem?_eq_none h] at hv; cases hv
  obtain ⟨t, e⟩ := StrsAre.get h j (by rw [List.length_map]; exact hi)
  rw [hv, getD_mapS] at e
  exact ⟨hi, t, Option.some.inj e, (hr _ (getD_mem hi)).1⟩
theorem row_step {nm : T} {j : Nat} {qs : List Value} (hj : j < (rowsT nm).length) (h : IntsAre qs ((((rowsT nm).take j).map List.length).map fun n : Nat => (n : Int))) (t : Tok) :
    IntsAre (qs ++ [.int ((((rowsT nm).getD j []).length : Nat) : Int) t]) ((((rowsT nm).take (j + 1)).map List.length).map fun n : Nat => (n : Int)) := by
  rw [List.take_add_one, List.getElem?_eq_getElem hj, List.map_append, List.map_append, List.getD_eq_getElem?_getD, List.getElem?_eq_getElem hj]
  exact IntsAre.append h (IntsAre.cons _ _ IntsAre.nil)
theorem fill_inv {fl : Fl} {j : Nat} {ps : List Value} (hj : j < fl.length) (h : StrsAre ps (((fl.take j).map (joinT [47])).map S)) (t : Tok) : StrsAre (ps ++ [.str (S (joinT [47] (fl.getD j []))) t]) (((fl.take (j + 1)).map (joinT [47])).map S) := by
  rw [List.take_add_one, List.getElem?_eq_getElem hj, List.map_append, List.map_append, List.getD_eq_getElem?_getD, List.getElem?_eq_getElem hj]
  exact StrsAre.append h (StrsAre.one _ _)
section
variable {prog : Program} {w : World} {A : Around} {E : Value → Shared → Prop} {s : Shared} {h₀ : Heap} {L : Addr} {m : Str → Option Value} {news : List (Addr × Obj)} {Q : Value → Shared → Prop}
theorem sorted_L {l : Addr} {vs : List Value} {ss : List Str} (F : Fr h₀ L s.heap m) (N : News h₀ L s.heap news) (hl : s.heap.IsList l vs.toArray) (hS : StrsAre vs ss) (h64 : vs.length < 64)
    (h : ∀ (P : Addr) (h' : Heap) (vs' : List Value) (ss' : List Str) (e : Nat), Fr h₀ L h' m → News h₀ L h' ((P, listOf (List.toArray vs') e) :: news) → StrsAre vs' ss' → ss'.Perm ss → sortedS ss' = true → Q (.ref P) { s with heap := h' }) :
    wpAny (model prog w) A (call (.builtin "sorted") [.ref l]) Q E s :=
  sorted_N_str F N hl hS h64 fun h' vs' ss' e F' N' a b c => h _ h' vs' ss' e F' N' a b c
end
theorem tab_in {tb : List (Addr × Obj)} (h : TabOk tb) : ∃ ps, (239, tabObj ps) ∈ tb := by
  rcases h with rfl | ⟨cc, oc, vs, tk, rfl, _⟩
  · exact ⟨_, .head _⟩
  · exact ⟨_, .head _⟩
set_option maxHeartbeats 4000000 in
theorem law_third {prog : Program} {w : World} {s : Shared} {g : Heap} {dp un : Nat} {gd : Option (List Code)} {frs : List Env} {L fa : Addr} {cd oc0 : Value} {od0 : Option Addr} {nm q : Str} {ps : Arguments} {sc : Scope} {s1 s2 s3 s4 s5 s6 : Stmt} {rest : List Stmt} {dV kV doc pm cd0 ct : Value} {an : Option Addr} {sl : Array (Option Value)} {Q : Flow → Shared → Prop} {E : Value → Shared → Prop}
    {words : List T} {lw : Addr} {ys : List Value} {c : Nat} {cell : Obj} {m : Str → Option Value} {news : List (Addr × Obj)} {hl hx dh : Nat} {es : List HE} {c2 n2 : Nat} {t1 : Tok} {tb : List (Addr × Obj)}
    (e : (Mine.hdK w.params).lookup 271 = some ⟨oc0, od0, .func (fnOf nm q ps (s1 :: s2 :: s3 :: s4 :: s5 :: s6 :: rest) sc dV kV doc pm an cd0 ct), sl⟩)
    (Si : Site w dp un gd frs g) (H : HdrAt w words lw ys c L cell words.length m news hl hx dh es c2 n2 t1 tb) (F : Fr g L s.heap m) (N : News g L s.heap news)
    (hys : StrsAre ys (words.map S)) (hwl : words.length ≤ 1000) (hck : ∀ hd ∈ words.map headT, nameOk words (words.map headT) hd.1 = true) (hdp : dp < 400) (hun : un < 4000) (hE : PassesOwn (model prog w) (top (dp + 1) (un + 3) gd (envOfC nm sc L fa cd :: frs)) (envOfC nm sc L fa cd) E)
    (ret : ∀ h' tk' d m', Fr g L h' m' → (∃ ps, h'.get? 239 = some (tabObj ps)) → Q (.ret (.bool true)) { s with heap := h', toks := tk', drawn := d }) :
    wpAny (model prog w) (top (dp + 1) (un + 3) gd (envOfC nm sc L fa cd :: frs)) (execs rest (envOfC nm sc L fa cd)) Q E s := by
  cases lookup_is (a := 271) (by k_is) e
  clear e
  have X1 := Site.X Si
  obtain ⟨p1, loose1, mean1, mg1, mb1, T1⟩ := Site.T Si
  obtain ⟨base1, B1⟩ := Site.B Si
  have mTable := H.table
  have mWords := H.mwords
  have a1 := H.n1
  have a2 := H.n2
  have a3 := H.n3
  have a4 := H.n4
  have far := H.far
  have sep := H.sep
  have heads := H.heads
  obtain rfl := H.news
  obtain ⟨ps0, hps0⟩ := tab_in H.tbOk
  clear H
  have ap239 : ∀ p ∈ hdrL w hl hx dh es c2 n2 t1, @Ne Nat 239 p.1 := fun p hp => by
    obtain ⟨_, s2, s3, _, s5⟩ := sep _ hps0
    rcases List.mem_cons.mp hp with rfl | hp
    · exact far _ (List.mem_append_left _ hps0)
    rcases List.mem_cons.mp hp with rfl | hp
    · exact s2
    rcases List.mem_cons.mp hp with rfl | hp
    · exact s3
    · obtain ⟨e, he, rfl⟩ := List.mem_map.mp hp
      exact (s5 e he).symm
  have apl : ∀ p ∈ hdrL w hl hx dh es c2 n2 t1, @Ne Nat lw p.1 := fun p hp => by
    rcases List.mem_cons.mp hp with rfl | hp
    · exact a1
    rcases List.mem_cons.mp hp with rfl | hp
    · exact ne_obj N (.tail _ (.head _)) (.tail _ (.tail _ (.head _))) (fun q => by cases q)
    rcases List.mem_cons.mp hp with rfl | hp
    · exact ne_obj N (.tail _ (.head _)) (.tail _ (.tail _ (.tail _ (.head _)))) (fun q => absurd (Value.type.inj (congrArg Obj.cls q)) (by decide))
    · have hq : p ∈ tb ++ tupL es := List.mem_append_right _ hp
      obtain ⟨e, he, rfl⟩ := List.mem_map.mp hp
      exact ne_obj N (.tail _ (.head _)) (.tail _ (.tail _ (.tail _ (.tail _ (.tail _ hq))))) (fun q => absurd (Value.type.inj (congrArg Obj.cls q)) (by decide))
  rw [List.take_length] at heads
  have hel : es.length = words.length := by
    have := congrArg List.length heads
    simpa using this
  have N0 : News g L s.heap ((lw, listOf (List.toArray ys) c) :: (239, tabObj ps0) :: hdrL w hl hx dh es c2 n2 t1) := fun p hp => N p (by
    rcases List.mem_cons.mp hp with rfl | hp
    · exact .tail _ (.head _)
    rcases List.mem_cons.mp hp with rfl | hp
    · exact .tail _ (.tail _ (.tail _ (.tail _ (.tail _ (List.mem_append_left _ hps0)))))
    rcases List.mem_cons.mp hp with rfl | hp
    · exact .head _
    rcases List.mem_cons.mp hp with rfl | hp
    · exact .tail _ (.tail _ (.head _))
    rcases List.mem_cons.mp hp with rfl | hp
    · exact .tail _ (.tail _ (.tail _ (.head _)))
    · exact .tail _ (.tail _ (.tail _ (.tail _ (.tail _ (List.mem_append_right _ hp))))))
  clear N far sep a1 a2 a3 a4
  (repeat' (first | (k_unfold; (try dsimp only)) | ((try dsimp only); walk1) | walk1))
  show wpAny _ _ _ _ _ _
  refine for_D g rfl rfl ?_
  (repeat' (first | (k_unfold; (try dsimp only)) | ((try dsimp only); walk1) | walk1))
  show wpAny _ _ _ _ _ _
  rename News _ _ _ _ => kN
  rename Fr _ _ _ _ => kF
  refine call_at (own := hdrL w hl hx dh es c2 n2 t1) (rest := [(lw, listOf (List.toArray ys) c), (239, tabObj ps0)]) Si kF kN (fun p hp => .tail _ (.tail _ hp)) (by walk_at "m_subs") (fun p hp q hq => by
    rcases List.mem_cons.mp hp with rfl | hp
    · exact apl q hq
    · rw [List.mem_singleton.mp hp]; exact ap239 q hq) rfl rfl ?_
  intro g4 S4 K4 O4 G4 P4 back
  refine keys_walk S4 K4 O4 (by omega) (by omega) (by omega) ?_
  intro h5 tk5 Dk ks nk k5 o5 ap5 st5
  obtain ⟨F5, N5, E5⟩ := back _ _ k5 o5
  clear kN kF
  show ForAtD _ _ _ _ _ _ _ _ _ _ _
  have N6 : News g L h5 ((Dk, listOf (List.toArray ks) nk) :: (lw, listOf (List.toArray ys) c) :: (239, tabObj ps0) :: hdrL w hl hx dh es c2 n2 t1) := fun p hp => N5 p (by
    rcases List.mem_cons.mp hp with rfl | hp
    · exact .head _
    rcases List.mem_cons.mp hp with rfl | hp
    · exact List.mem_append_right _ (.head _)
    rcases List.mem_cons.mp hp with rfl | hp
    · exact List.mem_append_right _ (.tail _ (.head _))
    · exact List.mem_append_left _ (.tail _ hp))
  have apk : @Ne Nat Dk lw := E5 _ (.head _) _ (.head _)
  clear N5 E5 back P4 G4 O4 K4 S4 k5 o5
  refine ⟨Dk, ks, fun i m nw => nw = (Dk, listOf (List.toArray ks) nk) :: (lw, listOf (List.toArray ys) c) :: (239, tabObj ps0) :: hdrL w hl hx dh es c2 n2 t1 ∧ m "table" = some (.ref hx) ∧ m "words" = some (.ref lw), _, _, rfl, rfl, F5, N6, ⟨rfl, mTable, mWords⟩, ?hin, ?turn, ?done⟩
  case hin =>
    rintro i m nw h ⟨rfl, _, _⟩ F' N'
    exact News.isList N' (.head _)
  case done =>
    rintro m₁ news₁ h7 tk7 d7 ⟨rfl, _, _⟩ F7 N7
    replace F7 : Fr g L h7 m₁ := F7
    replace N7 : News g L h7 _ := N7
    clear F5 N6
    (repeat' (first | (k_unfold; (try dsimp only)) | ((try dsimp only); walk1) | walk1))
    exact ret _ _ _ _ F7 ⟨ps0, (N7 _ (.tail _ (.tail _ (.head _)))).1⟩
  case turn =>
    clear F5 N6 mTable mWords
    rintro i v m₁ news₁ I io h7 tk7 d7 hv hI ⟨rfl, mTable, mWords⟩ off F7 N7
    replace F7 : Fr g L h7 _ := F7
    replace N7 : News g L h7 _ := N7
    obtain ⟨e, he, tn, rfl⟩ := key_get st5 hv
    have hok := nameOk_of (hck (e.2.1.1, e.2.2.1) (heads ▸ List.mem_map.mpr ⟨e, he, rfl⟩))
    dsimp only at hok
    have hgot := got_heads heads e.2.1.1
    have hes : ∀ e ∈ es, (∀ c ∈ e.2.1.1, c < 128) ∧ e.2.1.1.length ≤ 1000 := fun e he => by
      have q := nameOk_of (hck (e.2.1.1, e.2.2.1) (heads ▸ List.mem_map.mpr ⟨e, he, rfl⟩))
      exact ⟨q.asc, q.len⟩
    generalize e.2.1.1 = nm at *
    have hnl := hok.len
    have hrows := hok.rows
    have hrlen := hok.rlen
    have hsum := hok.sum
    (repeat' (first | (k_unfold; (try dsimp only)) | ((try dsimp only); walk1) | walk1))
    show wpAny _ _ _ _ _ _
    k_dflt (refine split_S (by with_reducible assumption) N7 hnl ?_)
    intro D8 zs h8 tk8 hzs F8 N8 l8
    clear F7 N7
    have hzl : zs.length = (rowsT nm).length := by rw [strsAre_length hzs, List.length_map]
    (repeat' (first | (k_unfold; (try dsimp only)) | ((try dsimp only); walk1) | walk1))
    show wpAny _ _ _ _ _ _
    rename News _ _ _ _ => kN
    rename Fr _ _ _ _ => kF
    refine call_at (own := []) (rest := (D8, listOf (List.toArray zs) 0) :: (I, io) :: (Dk, listOf (List.toArray ks) nk) :: (lw, listOf (List.toArray ys) c) :: (239, tabObj ps0) :: hdrL w hl hx dh es c2 n2 t1) Si kF kN (fun p hp => nomatch hp) (fun p hp => hp) (fun p hp q hq => nomatch hq) rfl rfl ?_
    intro g4 S4 K4 O4 G4 P4 back
    refine rise_walk S4 K4 ⟨_, P4 _ _ (kN _ (.head _)).1 (fun q hq => nomatch hq), rfl, _, rfl⟩ hzs hrows (by omega) hok.rise (by omega) (by omega) ?_
    intro h9 tk9 d9 k9
    obtain ⟨F9, N9, _⟩ := back _ [] k9 Owns.nil
    replace N9 : News g L h9 ((D8, listOf (List.toArray zs) 0) :: (I, io) :: (Dk, listOf (List.toArray ks) nk) :: (lw, listOf (List.toArray ys) c) :: (239, tabObj ps0) :: hdrL w hl hx dh es c2 n2 t1) := N9
    clear back P4 G4 O4 K4 S4 k9 kN kF
    (repeat' (first | (k_unfold; (try dsimp only)) | ((try dsimp only); walk1) | walk1))
    show wpAny _ _ _ _ _ _
    rename News _ _ _ _ => kN
    rename Fr _ _ _ _ => kF
    k_dflt (refine join_L (sep := []) (xs := (rowsT nm).reverse) 20 (News.isList kN (.head _)) (by rw [List.map_reverse]; exact StrsAre.rev hzs) ?jb ?js ?_)
    case jb => exact fun x hx => (hrows x (List.mem_reverse.mp hx)).1
    case js => rw [List.length_reverse]; simp only [List.length_nil]; omega
    intro t10 tk10
    (repeat' (first | (k_unfold; (try dsimp only)) | ((try dsimp only); walk1) | walk1))
    show wpAny _ _ _ _ _ _
    k_dflt (refine notin_S (News.isList kN (.tail _ (.tail _ (.tail _ (.tail _ (.head _)))))) hys hok.word ?_)
    have N11 : News g L _ ((D8, listOf (List.toArray zs) 0) :: (I, io) :: (Dk, listOf (List.toArray ks) nk) :: (lw, listOf (List.toArray ys) c) :: (239, tabObj ps0) :: hdrL w hl hx dh es c2 n2 t1) := fun p hp => kN p (.tail _ hp)
    clear kN
    (repeat' (first | (k_unfold; (try dsimp only)) | ((try dsimp only); walk1) | walk1))
    show wpAny _ _ _ _ _ _
    k_dflt (refine LCg.Assign_ListComp_U (F₀ := kF) (by rfl) (by with_unfolding_all rfl) (by with_unfolding_all rfl) (by decide) (by rfl) (by decide) (by rfl) (by rfl) (by rfl) ?_)
    (repeat' (first | (k_unfold; (try dsimp only)) | ((try dsimp only); walk1) | walk1))
    show wpAny _ _ _ _ _ _
    show wpAny _ _ _ _ _ _
    k_dflt (refine LCg.ListComp_U (F₀ := by k_asm) (by rfl) (by decide) (by rfl) (by decide) (by rfl) ?_)
    (repeat' (first | (k_unfold; (try dsimp only)) | ((try dsimp only); walk1) | walk1))
    show LCg.CompSrc _ _ _ _ _ _ _ _ _ _ _ _ _ _
    refine LCg.CompSrc.ledger (its := zs.toArray) rfl kF N11 (.head _) (by rw [sizeLine_eq, List.size_toArray]; omega) fun g12 => ?_
    refine comp_inv (fun i qs => IntsAre qs ((((rowsT nm).take i).map List.length).map fun n : Nat => (n : Int))) (.inr ⟨_, .head _, rfl, _, rfl⟩) .nil ?el ?fin
    case el =>
      intro j v qs I' oI C oC D m₂ h12 tk12 E' hv' hinv hNs hx9 F12 N12 off12 ne12
      clear kF N11
      obtain ⟨hj, tv, rfl, hj2⟩ := row_len hzs hv' hrows
      have hadd := row_step (nm := nm) hj hinv
      generalize (rowsT nm).getD j [] = row at *
      (repeat' (first | (k_unfold; (try dsimp only)) | ((try dsimp only); walk1) | walk1))
      show TurnEnd _ _ _ _ _ _ _ _ _ _ _ _ _ _
      exact TurnEnd.intro F12 N12 (fun p hp => hp) (hadd _)
    case fin =>
      intro qs hqs D12 h12 tk12 F12 N12 off12
      clear kF N11
      rw [hzl, List.take_length] at hqs
      have hsl : ((rowsT nm).map List.length).length = (rowsT nm).length := List.length_map _
      (repeat' (first | (k_unfold; (try dsimp only)) | ((try dsimp only); walk1) | walk1))
      show wpAny _ _ _ _ _ _
      refine call_at (own := []) (rest := (D8, listOf (List.toArray zs) 0) :: (I, io) :: (Dk, listOf (List.toArray ks) nk) :: (lw, listOf (List.toArray ys) c) :: (239, tabObj ps0) :: hdrL w hl hx dh es c2 n2 t1) Si F12 N12 (fun p hp => nomatch hp) (fun p hp => .tail _ hp) (fun p hp q hq => nomatch hq) rfl rfl ?_
      intro g4 S4 K4 O4 G4 P4 back
      refine fill_walk _ _ rfl (by rw [hsl]; exact hrlen) hsum _ _ _ _ _ _ _ _ _ _ S4 K4 ⟨_, P4 _ _ (N12 _ (.head _)).1 (fun q hq => nomatch hq), rfl, _, rfl⟩ hqs (by omega) (by omega) ?_
      intro h13 tk13 D13 rs13 c13 k13 o13 hr13
      obtain ⟨F13, N13, E13⟩ := back _ _ k13 o13
      clear back P4 G4 O4 K4 S4 k13
      replace N13 : News g L h13 ((D13, listOf (List.toArray (refsOf rs13)) c13) :: (rowL rs13 ++ ((D8, listOf (List.toArray zs) 0) :: (I, io) :: (Dk, listOf (List.toArray ks) nk) :: (lw, listOf (List.toArray ys) c) :: (239, tabObj ps0) :: hdrL w hl hx dh es c2 n2 t1))) := N13
      show LCg.CompSrc _ _ _ _ _ _ _ _ _ _ _ _ _ _
      have hfl := hok.few
      have hpm := hok.perm
      have hea := fillOf_each _ ((rowsT nm).map List.length) rfl (by omega)
      generalize hfd : fillOf ((rowsT nm).map List.length).sum ((rowsT nm).map List.length) = fl at *
      have hrl : (refsOf rs13).length = fl.length := by unfold refsOf; rw [List.length_map, hr13.len]
      refine LCg.CompSrc.ledger (its := (refsOf rs13).toArray) rfl F13 N13 (.head _) (by rw [sizeLine_eq, List.size_toArray]; omega) fun g14 => ?_
      refine comp_inv (fun i ps => StrsAre ps (((fl.take i).map (joinT [47])).map S)) (.inr ⟨_, .head _, rfl, _, rfl⟩) .nil ?el2 ?fin2
      case el2 =>
        intro j v ps I' oI C oC D m₂ h15 tk15 E' hv' hinv hNs hx9 F15 N15 off15 ne15
        clear F13 N13
        obtain ⟨⟨ra1, row1, rn1⟩, hrj, rfl⟩ := refs_get hv'
        have hrow1 := hr13.row j _ hrj
        dsimp only at hrow1
        have hj : j < fl.length := by
          rw [← hrl]
          rcases Nat.lt_or_ge j (refsOf rs13).length with h | h
          · exact h
          · rw [List.getElem?_eq_none h] at hv'; cases hv'
        obtain ⟨hlen, heach⟩ := hea _ (getD_mem (d := []) hj)
        have hfi := fill_inv (ps := ps) hj hinv
        have hmr := News.isList N15 (.tail _ (.tail _ (.tail _ (.tail _ (List.mem_append_left _ (row_mem hrj))))))
        dsimp only at hmr
        generalize fl.getD j [] = fill at *
        (repeat' (first | (k_unfold; (try dsimp only)) | ((try dsimp only); walk1) | walk1))
        show wpAny _ _ _ _ _ _
        k_dflt (refine join_L (sep := [47]) 150 hmr hrow1 ?jb2 ?js2 ?_)
        case jb2 => exact fun x hx => by have := heach x hx; omega
        case js2 => simp only [List.length_cons, List.length_nil]; omega
        intro t16 tk16
        (repeat' (first | (k_unfold; (try dsimp only)) | ((try dsimp only); walk1) | walk1))
        show TurnEnd _ _ _ _ _ _ _ _ _ _ _ _ _ _
        exact TurnEnd.intro F15 N15 (fun p hp => hp) (hfi _)
      case fin2 =>
        intro ps hps D15 h15 tk15 F15 N15 off15
        rw [hrl, List.take_length] at hps
        have ap15 : ∀ p ∈ hdrL w hl hx dh es c2 n2 t1, @Ne Nat p.1 D15 := fun p hp => off1_mem off15 p (.tail _ (List.mem_append_right _ (.tail _ (.tail _ (.tail _ (.tail _ (.tail _ hp)))))))
        have N16 : News g L h15 ((D15, LCg.lst ps) :: (I, io) :: (Dk, listOf (List.toArray ks) nk) :: (lw, listOf (List.toArray ys) c) :: (239, tabObj ps0) :: hdrL w hl hx dh es c2 n2 t1) := fun p hp => N15 p (by
          rcases List.mem_cons.mp hp with rfl | hp
          · exact .head _
          · exact .tail _ (.tail _ (List.mem_append_right _ (.tail _ hp))))
        clear N15 off15 F13 N13 F12 N12 E13
        (repeat' (first | (k_unfold; (try dsimp only)) | ((try dsimp only); walk1) | walk1))
        show wpAny _ _ _ _ _ _
        rename Fr _ _ _ _ => kF
        refine call_at (own := hdrL w hl hx dh es c2 n2 t1) (rest := [(D15, LCg.lst ps), (I, io), (Dk, listOf (List.toArray ks) nk), (lw, listOf (List.toArray ys) c), (239, tabObj ps0)]) Si kF N16 (fun p hp => .tail _ (.tail _ (.tail _ (.tail _ (.tail _ hp))))) (by walk_at "m_subs") ?hd rfl rfl ?_
        case hd =>
          intro p hp q hq
          rcases List.mem_cons.mp hp with rfl | hp
          · exact (ap15 q hq).symm
          rcases List.mem_cons.mp hp with rfl | hp
          · exact (off q (.tail _ (.tail _ (.tail _ hq)))).symm
          rcases List.mem_cons.mp hp with rfl | hp
          · exact (ap5 q hq).symm
          rcases List.mem_cons.mp hp with rfl | hp
          · exact apl q hq
          · rw [List.mem_singleton.mp hp]; exact ap239 q hq
        intro g4 S4 K4 O4 G4 P4 back
        refine geta_walk S4 K4 O4 (by omega) hes hok.asc hnl hok.low (by omega) (by omega) ?_
        intro h17 tk17 D17 gs n17 k17 o17 ap17 hgs
        obtain ⟨F17, N17, E17⟩ := back _ _ k17 o17
        rw [hgot] at hgs
        have hgl : gs.length < 64 := by rw [strsAre_length hgs, List.length_map, hpm.length_eq, List.length_map]; exact hfl
        have hpl : ps.length < 64 := by rw [strsAre_length hps, List.length_map, List.length_map]; exact hfl
        clear back P4 G4 O4 K4 S4 k17 kF N16 E17
        have N18 : News g L h17 ((D17, listOf (List.toArray gs) n17) :: (D15, LCg.lst ps) :: (I, io) :: (Dk, listOf (List.toArray ks) nk) :: (lw, listOf (List.toArray ys) c) :: (239, tabObj ps0) :: hdrL w hl hx dh es c2 n2 t1) := fun p hp => N17 p (by
          rcases List.mem_cons.mp hp with rfl | hp
          · exact .head _
          rcases List.mem_cons.mp hp with rfl | hp
          · exact List.mem_append_right _ (.head _)
          rcases List.mem_cons.mp hp with rfl | hp
          · exact List.mem_append_right _ (.tail _ (.head _))
          rcases List.mem_cons.mp hp with rfl | hp
          · exact List.mem_append_right _ (.tail _ (.tail _ (.head _)))
          rcases List.mem_cons.mp hp with rfl | hp
          · exact List.mem_append_right _ (.tail _ (.tail _ (.tail _ (.head _))))
          rcases List.mem_cons.mp hp with rfl | hp
          · exact List.mem_append_right _ (.tail _ (.tail _ (.tail _ (.tail _ (.head _)))))
          · exact List.mem_append_left _ (.tail _ hp))
        clear N17
        (repeat' (first | (k_unfold; (try dsimp only)) | ((try dsimp only); walk1) | walk1))
        show wpAny _ _ _ _ _ _
        k_dflt (refine sorted_L F17 N18 (News.isList N18 (.head _)) hgs hgl ?_)
        intro P19 h19 vs19 ss19 e19 F19 N19 hs19 hp19 hq19
        clear F17 N18
        (repeat' (first | (k_unfold; (try dsimp only)) | ((try dsimp only); walk1) | walk1))
        show wpAny _ _ _ _ _ _
        k_dflt (refine sorted_L (by with_reducible assumption) N19 (News.isList N19 (.tail _ (.tail _ (.head _)))) hps hpl ?_)
        intro P20 h20 vs20 ss20 e20 F20 N20 hs20 hp20 hq20
        clear N19
        obtain rfl : ss19 = ss20 := sorted_unique ((hp19.trans (hpm.map S)).trans hp20.symm) hq19 (sorted_pw hq20)
        (repeat' (first | (k_unfold; (try dsimp only)) | ((try dsimp only); walk1) | walk1))
        show wpAny _ _ _ _ _ _
        k_dflt (refine ne_same (News.isList N20 (.tail _ (.head _))) (News.isList N20 (.head _)) hs19 hs20 (by show un + 3 < cLine; simp only [cLine]; omega) ?_)
        (repeat' (first | (k_unfold; (try dsimp only)) | ((try dsimp only); walk1) | walk1))
        show TEndD g L _ _ _ _ _ _ _
        refine TEndD.next (by with_reducible assumption) N20 _ (.tail _ (.tail _ (.tail _ (.tail _ (.head _))))) (fun p hp => .tail _ (.tail _ (.tail _ (.tail _ (.tail _ hp))))) off ⟨rfl, by walk_at "m_get", by walk_at "m_get"⟩ rfl
end Mine
end
section
open PySem PySem.W PyProof.Rows PySem.Calls PySem.Spec
set_option maxRecDepth 100000
namespace Mine
/-- an order, its words, what heads each of them, and the names among these -/
abbrev Cert := List Int × List T × List (T × T) × List T
def pairOk (w : T) (h : T × T) : Bool := decide (headOf w = some h) && decide (w.length ≤ 5) && plainB w && plainB h.1 && plainB h.2 && decide (h.1.length ≤ 1000) && decide (h.2.length ≤ 1000)
def pairsOk : List T → List (T × T) → Bool
  | [], [] => true
  | w :: ws, h :: hs => pairOk w h && pairsOk ws hs
  | _, _ => false
def certOk (c : Cert) : Bool := decide (wordsOf 5 c.1 = c.2.1) && pairsOk c.2.1 c.2.2.1 && decide (c.2.1.length ≤ 1000) && (c.2.2.1.all fun h => c.2.2.2.any fun n => decide (n = h.1)) && c.2.2.2.all fun n => nameOk c.2.1 c.2.2.1 n
theorem pairOk_of {w : T} {h : T × T} (e : pairOk w h = true) : wordOk w = true ∧ headT w = h := by
  simp only [pairOk, Bool.and_eq_true, decide_eq_true_eq] at e
  obtain ⟨⟨⟨⟨⟨⟨e1, e2⟩, e3⟩, e4⟩, e5⟩, e6⟩, e7⟩ := e
  refine ⟨?_, by rw [headT, e1]; rfl⟩
  unfold wordOk
  rw [e1]
  simp [e2, e3, e4, e5, e6, e7]
theorem pairsOk_of : ∀ {ws : List T} {hs : List (T × T)}, pairsOk ws hs = true → (∀ w ∈ ws, wordOk w = true) ∧ ws.map headT = hs
  | [], [], _ => ⟨(fun w hw => by cases hw), rfl⟩
  | [], h :: hs, e => by simp [pairsOk] at e
  | w :: ws, [], e => by simp [pairsOk] at e
  | w :: ws, h :: hs, e => by
    simp only [pairsOk, Bool.and_eq_true] at e
    obtain ⟨a, b⟩ := pairOk_of e.1
    obtain ⟨c, d⟩ := pairsOk_of e.2
    exact ⟨fun x hx => by
      rcases List.mem_cons.mp hx with rfl | hx
      · exact a
      · exact c x hx, by rw [List.map_cons, b, d]⟩
theorem certOk_of {c : Cert} (e : certOk c = true) : (∀ x ∈ wordsOf 5 c.1, wordOk x = true) ∧ (wordsOf 5 c.1).length ≤ 1000 ∧ ∀ hd ∈ (wordsOf 5 c.1).map headT, nameOk (wordsOf 5 c.1) ((wordsOf 5 c.1).map headT) hd.1 = true := by
  simp only [certOk, Bool.and_eq_true, decide_eq_true_eq, List.all_eq_true] at e
  obtain ⟨⟨⟨⟨e1, e2⟩, e3⟩, e4⟩, e5⟩ := e
  obtain ⟨a, b⟩ := pairsOk_of e2
  rw [e1, b]
  refine ⟨a, e3, fun hd h => ?_⟩
  obtain ⟨n, hn, q⟩ := List.any_eq_true.mp (e4 hd h)
  rw [← of_decide_eq_true q]
  exact e5 n hn

noncomputable def cert0 : List Cert := [
  ([2, 1, 3, 4, 0], [[32, 34, 35, 92, 32], [32, 34, 35, 32, 92], [32, 34, 32, 35, 92], [34, 32, 34, 35, 92]], [([32, 34, 35, 92, 47, 34], [49, 50, 51, 52, 47, 53]), ([32, 34, 35, 92, 47, 34], [49, 50, 51, 53, 47, 52]), ([32, 34, 35, 92, 47, 34], [49, 50, 52, 53, 47, 51]), ([32, 34, 35, 92, 47, 34], [49, 51, 52, 53, 47, 50])], [[32, 34, 35, 92, 47, 34]]),
  ([2, 3, 1, 0, 4], [[32, 34, 35, 32, 34], [32, 34, 32, 35, 34], [34, 32, 34, 35, 34], [34, 35, 32, 34, 35], [34, 32, 35, 34, 35]], [([32, 34, 35, 47, 34, 35], [49, 50, 51, 47, 52, 53]), ([32, 34, 35, 47, 34, 35], [49, 50, 52, 47, 51, 53]), ([32, 34, 35, 47, 34, 35], [49, 51, 52, 47, 50, 53]), ([32, 34, 35, 47, 34, 35], [49, 50, 53, 47, 51, 52]), ([32, 34, 35, 47, 34, 35], [49, 51, 53, 47, 50, 52])], [[32, 34, 35, 47, 34, 35]]),
  ([2, 3, 0, 4, 1], [[34, 35, 92, 32, 34], [34, 35, 32, 92, 34], [34, 32, 35, 92, 34], [34, 35, 32, 34, 92], [34, 32, 35, 34, 92]], [([32, 34, 92, 47, 34, 35], [49, 50, 51, 47, 52, 53]), ([32, 34, 92, 47, 34, 35], [49, 50, 52, 47, 51, 53]), ([32, 34, 92, 47, 34, 35], [49, 51, 52, 47, 50, 53]), ([32, 34, 92, 47, 34, 35], [49, 50, 53, 47, 51, 52]), ([32, 34, 92, 47, 34, 35], [49, 51, 53, 47, 50, 52])], [[32, 34, 92, 47, 34, 35]]),
  ([1, 3, 2, 4, 0], [[32, 34, 35, 92, 34], [32, 34, 35, 34, 92], [35, 32, 34, 35, 92], [32, 35, 34, 35, 92]], [([32, 34, 35, 92, 47, 35], [49, 50, 51, 52, 47, 53]), ([32, 34, 35, 92, 47, 35], [49, 50, 51, 53, 47, 52]), ([32, 34, 35, 92, 47, 35], [49, 51, 52, 53, 47, 50]), ([32, 34, 35, 92, 47, 35], [49, 50, 52, 53, 47, 51])], [[32, 34, 35, 92, 47, 35]]),
  ([3, 1, 2, 0, 4], [[32, 34, 35, 34, 32], [35, 32, 34, 35, 32], [32, 35, 34, 35, 32], [35, 32, 34, 32, 35], [32, 35, 34, 32, 35], [35, 34, 32, 34, 35]], [([32, 34, 35, 47, 34, 47, 35], [49, 50, 51, 47, 52, 47, 53]), ([32, 34, 35, 47, 34, 47, 35], [49, 51, 52, 47, 50, 47, 53]), ([32, 34, 35, 47, 34, 47, 35], [49, 50, 52, 47, 51, 47, 53]), ([32, 34, 35, 47, 34, 47, 35], [49, 51, 53, 47, 50, 47, 52]), ([32, 34, 35, 47, 34, 47, 35], [49, 50, 53, 47, 51, 47, 52]), ([32, 34, 35, 47, 34, 47, 35], [49, 52, 53, 47, 50, 47, 51])], [[32, 34, 35, 47, 34, 47, 35]]),
  ([3, 2, 0, 1, 4], [[34, 35, 32, 34, 32], [34, 32, 35, 34, 32], [34, 35, 34, 32, 34], [35, 34, 35, 32, 34], [35, 34, 32, 35, 34]], [([32, 34, 47, 34, 35, 47, 35], [49, 50, 47, 51, 52, 47, 53]), ([32, 34, 47, 34, 35, 47, 35], [49, 51, 47, 50, 52, 47, 53]), ([32, 34, 47, 34, 35, 47, 35], [49, 50, 47, 51, 53, 47, 52]), ([32, 34, 47, 34, 35, 47, 35], [49, 51, 47, 50, 53, 47, 52]), ([32, 34, 47, 34, 35, 47, 35], [49, 52, 47, 50, 53, 47, 51])], [[32, 34, 47, 34, 35, 47, 35]]),
  ([3, 0, 2, 4, 1], [[34, 35, 92, 34, 32], [34, 35, 34, 92, 32], [35, 34, 35, 92, 32], [34, 35, 34, 32, 92], [35, 34, 35, 32, 92], [35, 34, 32, 35, 92]], [([32, 35, 92, 47, 34, 47, 35], [49, 50, 51, 47, 52, 47, 53]), ([32, 35, 92, 47, 34, 47, 35], [49, 50, 52, 47, 51, 47, 53]), ([32, 35, 92, 47, 34, 47, 35], [49, 51, 52, 47, 50, 47, 53]), ([32, 35, 92, 47, 34, 47, 35], [49, 50, 53, 47, 51, 47, 52]), ([32, 35, 92, 47, 34, 47, 35], [49, 51, 53, 47, 50, 47, 52]), ([32, 35, 92, 47, 34, 47, 35], [49, 52, 53, 47, 50, 47, 51])], [[32, 35, 92, 47, 34, 47, 35]]),
  ([1, 3, 4, 0, 2], [[35, 92, 32, 34, 35], [35, 32, 92, 34, 35], [32, 35, 92, 34, 35], [35, 32, 34, 92, 35], [32, 35, 34, 92, 35]], [([32, 34, 35, 47, 35, 92], [49, 50, 53, 47, 51, 52]), ([32, 34, 35, 47, 35, 92], [49, 51, 53, 47, 50, 52]), ([32, 34, 35, 47, 35, 92], [49, 50, 51, 47, 52, 53]), ([32, 34, 35, 47, 35, 92], [49, 51, 52, 47, 50, 53]), ([32, 34, 35, 47, 35, 92], [49, 50, 52, 47, 51, 53])], [[32, 34, 35, 47, 35, 92]])]

theorem cert0_ok : cert0.all certOk = true := by decide +kernel

noncomputable def cert1 : List Cert := [
  ([3, 1, 0, 4, 2], [[35, 92, 32, 34, 32], [35, 32, 92, 34, 32], [32, 35, 92, 34, 32], [35, 32, 34, 92, 32], [32, 35, 34, 92, 32], [35, 92, 34, 32, 34], [35, 34, 92, 32, 34], [35, 34, 32, 92, 34], [35, 32, 34, 32, 92], [32, 35, 34, 32, 92], [35, 34, 32, 34, 92]], [([32, 34, 47, 34, 92, 47, 35], [49, 50, 47, 51, 52, 47, 53]), ([32, 34, 47, 34, 92, 47, 35], [49, 51, 47, 50, 52, 47, 53]), ([32, 34, 92, 47, 34, 47, 35], [49, 50, 51, 47, 52, 47, 53]), ([32, 34, 92, 47, 34, 47, 35], [49, 51, 52, 47, 50, 47, 53]), ([32, 34, 92, 47, 34, 47, 35], [49, 50, 52, 47, 51, 47, 53]), ([32, 34, 47, 34, 92, 47, 35], [49, 50, 47, 51, 53, 47, 52]), ([32, 34, 47, 34, 92, 47, 35], [49, 51, 47, 50, 53, 47, 52]), ([32, 34, 47, 34, 92, 47, 35], [49, 52, 47, 50, 53, 47, 51]), ([32, 34, 92, 47, 34, 47, 35], [49, 51, 53, 47, 50, 47, 52]), ([32, 34, 92, 47, 34, 47, 35], [49, 50, 53, 47, 51, 47, 52]), ([32, 34, 92, 47, 34, 47, 35], [49, 52, 53, 47, 50, 47, 51])], [[32, 34, 47, 34, 92, 47, 35], [32, 34, 92, 47, 34, 47, 35]]),
  ([3, 0, 4, 1, 2], [[35, 92, 34, 35, 32], [35, 34, 92, 35, 32], [35, 92, 34, 32, 35], [35, 34, 92, 32, 35], [35, 34, 32, 92, 35]], [([32, 35, 47, 34, 92, 47, 35], [49, 50, 47, 51, 52, 47, 53]), ([32, 35, 47, 34, 92, 47, 35], [49, 51, 47, 50, 52, 47, 53]), ([32, 35, 47, 34, 92, 47, 35], [49, 50, 47, 51, 53, 47, 52]), ([32, 35, 47, 34, 92, 47, 35], [49, 51, 47, 50, 53, 47, 52]), ([32, 35, 47, 34, 92, 47, 35], [49, 52, 47, 50, 53, 47, 51])], [[32, 35, 47, 34, 92, 47, 35]]),
  ([0, 3, 4, 2, 1], [[34, 35, 92, 34, 35], [34, 35, 34, 92, 35], [35, 34, 35, 92, 35], [35, 92, 34, 35, 92], [35, 34, 92, 35, 92]], [([34, 35, 92, 47, 35, 92], [49, 50, 51, 47, 52, 53]), ([34, 35, 92, 47, 35, 92], [49, 50, 52, 47, 51, 53]), ([34, 35, 92, 47, 35, 92], [49, 51, 52, 47, 50, 53]), ([34, 35, 92, 47, 35, 92], [49, 50, 53, 47, 51, 52]), ([34, 35, 92, 47, 35, 92], [49, 51, 53, 47, 50, 52])], [[34, 35, 92, 47, 35, 92]]),
  ([1, 2, 4, 3, 0], [[32, 34, 35, 92, 35], [92, 32, 34, 35, 92], [32, 92, 34, 35, 92], [32, 34, 92, 35, 92]], [([32, 34, 35, 92, 47, 92], [49, 50, 51, 52, 47, 53]), ([32, 34, 35, 92, 47, 92], [49, 51, 52, 53, 47, 50]), ([32, 34, 35, 92, 47, 92], [49, 50, 52, 53, 47, 51]), ([32, 34, 35, 92, 47, 92], [49, 50, 51, 53, 47, 52])], [[32, 34, 35, 92, 47, 92]]),
  ([2, 1, 4, 0, 3], [[92, 32, 34, 35, 32], [32, 92, 34, 35, 32], [32, 34, 92, 35, 32], [92, 32, 34, 32, 35], [32, 92, 34, 32, 35], [32, 34, 92, 32, 35], [92, 34, 32, 34, 35], [34, 92, 32, 34, 35], [34, 32, 92, 34, 35], [32, 34, 32, 92, 35], [34, 32, 34, 92, 35]], [([32, 34, 35, 47, 34, 47, 92], [49, 51, 52, 47, 50, 47, 53]), ([32, 34, 35, 47, 34, 47, 92], [49, 50, 52, 47, 51, 47, 53]), ([32, 34, 35, 47, 34, 47, 92], [49, 50, 51, 47, 52, 47, 53]), ([32, 34, 35, 47, 34, 47, 92], [49, 51, 53, 47, 50, 47, 52]), ([32, 34, 35, 47, 34, 47, 92], [49, 50, 53, 47, 51, 47, 52]), ([32, 34, 35, 47, 34, 92], [49, 50, 51, 47, 52, 53]), ([32, 34, 35, 47, 34, 47, 92], [49, 52, 53, 47, 50, 47, 51]), ([32, 34, 35, 47, 34, 92], [49, 50, 53, 47, 51, 52]), ([32, 34, 35, 47, 34, 92], [49, 51, 53, 47, 50, 52]), ([32, 34, 35, 47, 34, 92], [49, 50, 52, 47, 51, 53]), ([32, 34, 35, 47, 34, 92], [49, 51, 52, 47, 50, 53])], [[32, 34, 35, 47, 34, 47, 92], [32, 34, 35, 47, 34, 92]]),
  ([2, 4, 0, 1, 3], [[92, 34, 35, 32, 34], [34, 92, 35, 32, 34], [92, 34, 32, 35, 34], [34, 92, 32, 35, 34], [34, 32, 92, 35, 34]], [([32, 34, 47, 34, 35, 47, 92], [49, 51, 47, 50, 53, 47, 52]), ([32, 34, 47, 34, 35, 47, 92], [49, 50, 47, 51, 53, 47, 52]), ([32, 34, 47, 34, 35, 47, 92], [49, 52, 47, 50, 53, 47, 51]), ([32, 34, 47, 34, 35, 47, 92], [49, 50, 47, 51, 52, 47, 53]), ([32, 34, 47, 34, 35, 47, 92], [49, 51, 47, 50, 52, 47, 53])], [[32, 34, 47, 34, 35, 47, 92]]),
  ([2, 0, 4, 3, 1], [[34, 35, 92, 35, 32], [92, 34, 35, 92, 32], [34, 92, 35, 92, 32], [34, 35, 92, 32, 35], [34, 35, 32, 92, 35], [34, 32, 35, 92, 35], [92, 34, 35, 32, 92], [34, 92, 35, 32, 92], [92, 34, 32, 35, 92], [34, 92, 32, 35, 92], [34, 32, 92, 35, 92]], [([32, 35, 92, 47, 34, 47, 92], [49, 50, 51, 47, 52, 47, 53]), ([32, 35, 92, 47, 34, 47, 92], [49, 51, 52, 47, 50, 47, 53]), ([32, 35, 92, 47, 34, 47, 92], [49, 50, 52, 47, 51, 47, 53]), ([32, 35, 92, 47, 34, 92], [49, 50, 51, 47, 52, 53]), ([32, 35, 92, 47, 34, 92], [49, 50, 52, 47, 51, 53]), ([32, 35, 92, 47, 34, 92], [49, 51, 52, 47, 50, 53]), ([32, 35, 92, 47, 34, 47, 92], [49, 51, 53, 47, 50, 47, 52]), ([32, 35, 92, 47, 34, 47, 92], [49, 50, 53, 47, 51, 47, 52]), ([32, 35, 92, 47, 34, 47, 92], [49, 52, 53, 47, 50, 47, 51]), ([32, 35, 92, 47, 34, 92], [49, 50, 53, 47, 51, 52]), ([32, 35, 92, 47, 34, 92], [49, 51, 53, 47, 50, 52])], [[32, 35, 92, 47, 34, 47, 92], [32, 35, 92, 47, 34, 92]]),
  ([1, 4, 2, 0, 3], [[92, 32, 34, 35, 34], [32, 92, 34, 35, 34], [32, 34, 92, 35, 34], [92, 35, 32, 34, 35], [92, 32, 35, 34, 35], [32, 92, 35, 34, 35]], [([32, 34, 35, 47, 35, 47, 92], [49, 51, 52, 47, 50, 47, 53]), ([32, 34, 35, 47, 35, 47, 92], [49, 50, 52, 47, 51, 47, 53]), ([32, 34, 35, 47, 35, 47, 92], [49, 50, 51, 47, 52, 47, 53]), ([32, 34, 35, 47, 35, 47, 92], [49, 52, 53, 47, 50, 47, 51]), ([32, 34, 35, 47, 35, 47, 92], [49, 51, 53, 47, 50, 47, 52]), ([32, 34, 35, 47, 35, 47, 92], [49, 50, 53, 47, 51, 47, 52])], [[32, 34, 35, 47, 35, 47, 92]])]

theorem cert1_ok : cert1.all certOk = true := by decide +kernel

noncomputable def cert2 : List Cert := [
  ([4, 1, 0, 2, 3], [[92, 35, 32, 34, 32], [92, 32, 35, 34, 32], [32, 92, 35, 34, 32], [92, 35, 34, 32, 34]], [([32, 34, 47, 34, 47, 35, 47, 92], [49, 52, 47, 50, 47, 51, 47, 53]), ([32, 34, 47, 34, 47, 35, 47, 92], [49, 51, 47, 50, 47, 52, 47, 53]), ([32, 34, 47, 34, 47, 35, 47, 92], [49, 50, 47, 51, 47, 52, 47, 53]), ([32, 34, 47, 34, 47, 35, 47, 92], [49, 53, 47, 50, 47, 51, 47, 52])], [[32, 34, 47, 34, 47, 35, 47, 92]]),
  ([4, 0, 2, 1, 3], [[92, 34, 35, 34, 32], [34, 92, 35, 34, 32], [92, 35, 34, 35, 32], [92, 35, 34, 32, 35]], [([32, 35, 47, 34, 47, 35, 47, 92], [49, 51, 47, 50, 47, 52, 47, 53]), ([32, 35, 47, 34, 47, 35, 47, 92], [49, 50, 47, 51, 47, 52, 47, 53]), ([32, 35, 47, 34, 47, 35, 47, 92], [49, 52, 47, 50, 47, 51, 47, 53]), ([32, 35, 47, 34, 47, 35, 47, 92], [49, 53, 47, 50, 47, 51, 47, 52])], [[32, 35, 47, 34, 47, 35, 47, 92]]),
  ([0, 4, 2, 3, 1], [[34, 35, 92, 35, 34], [92, 34, 35, 92, 34], [34, 92, 35, 92, 34], [92, 34, 35, 34, 92], [34, 92, 35, 34, 92], [92, 35, 34, 35, 92]], [([34, 35, 92, 47, 35, 47, 92], [49, 50, 51, 47, 52, 47, 53]), ([34, 35, 92, 47, 35, 47, 92], [49, 51, 52, 47, 50, 47, 53]), ([34, 35, 92, 47, 35, 47, 92], [49, 50, 52, 47, 51, 47, 53]), ([34, 35, 92, 47, 35, 47, 92], [49, 51, 53, 47, 50, 47, 52]), ([34, 35, 92, 47, 35, 47, 92], [49, 50, 53, 47, 51, 47, 52]), ([34, 35, 92, 47, 35, 47, 92], [49, 52, 53, 47, 50, 47, 51])], [[34, 35, 92, 47, 35, 47, 92]]),
  ([1, 4, 0, 3, 2], [[35, 92, 35, 32, 34], [92, 35, 92, 32, 34], [35, 92, 32, 35, 34], [35, 32, 92, 35, 34], [32, 35, 92, 35, 34], [92, 35, 32, 92, 34], [92, 32, 35, 92, 34], [32, 92, 35, 92, 34], [92, 35, 32, 34, 92], [92, 32, 35, 34, 92], [32, 92, 35, 34, 92]], [([32, 34, 47, 35, 92, 47, 92], [49, 50, 47, 51, 53, 47, 52]), ([32, 34, 47, 35, 92, 47, 92], [49, 51, 47, 50, 53, 47, 52]), ([32, 34, 47, 35, 92, 47, 92], [49, 50, 47, 51, 52, 47, 53]), ([32, 34, 47, 35, 92, 47, 92], [49, 51, 47, 50, 52, 47, 53]), ([32, 34, 92, 47, 35, 47, 92], [49, 50, 51, 47, 52, 47, 53]), ([32, 34, 47, 35, 92, 47, 92], [49, 52, 47, 50, 53, 47, 51]), ([32, 34, 92, 47, 35, 47, 92], [49, 51, 52, 47, 50, 47, 53]), ([32, 34, 92, 47, 35, 47, 92], [49, 50, 52, 47, 51, 47, 53]), ([32, 34, 92, 47, 35, 47, 92], [49, 52, 53, 47, 50, 47, 51]), ([32, 34, 92, 47, 35, 47, 92], [49, 51, 53, 47, 50, 47, 52]), ([32, 34, 92, 47, 35, 47, 92], [49, 50, 53, 47, 51, 47, 52])], [[32, 34, 47, 35, 92, 47, 92], [32, 34, 92, 47, 35, 47, 92]]),
  ([4, 0, 1, 3, 2], [[35, 92, 35, 34, 32], [92, 35, 92, 34, 32], [92, 35, 34, 92, 32], [92, 35, 34, 32, 92]], [([32, 92, 47, 34, 47, 35, 47, 92], [49, 50, 47, 51, 47, 52, 47, 53]), ([32, 92, 47, 34, 47, 35, 47, 92], [49, 51, 47, 50, 47, 52, 47, 53]), ([32, 92, 47, 34, 47, 35, 47, 92], [49, 52, 47, 50, 47, 51, 47, 53]), ([32, 92, 47, 34, 47, 35, 47, 92], [49, 53, 47, 50, 47, 51, 47, 52])], [[32, 92, 47, 34, 47, 35, 47, 92]]),
  ([0, 4, 3, 1, 2], [[35, 92, 34, 35, 34], [35, 34, 92, 35, 34], [35, 92, 35, 34, 35], [92, 35, 92, 34, 35], [92, 35, 34, 92, 35]], [([34, 35, 47, 35, 92, 47, 92], [49, 50, 47, 51, 52, 47, 53]), ([34, 35, 47, 35, 92, 47, 92], [49, 51, 47, 50, 52, 47, 53]), ([34, 35, 47, 35, 92, 47, 92], [49, 50, 47, 51, 53, 47, 52]), ([34, 35, 47, 35, 92, 47, 92], [49, 51, 47, 50, 53, 47, 52]), ([34, 35, 47, 35, 92, 47, 92], [49, 52, 47, 50, 53, 47, 51])], [[34, 35, 47, 35, 92, 47, 92]]),
  ([1, 2, 3, 4, 0], [[32, 34, 35, 92]], [([32, 34, 35, 92], [49, 50, 51, 52])], [[32, 34, 35, 92]]),
  ([2, 1, 3, 0, 4], [[32, 34, 35, 32], [32, 34, 32, 35], [34, 32, 34, 35]], [([32, 34, 35, 47, 34], [49, 50, 51, 47, 52]), ([32, 34, 35, 47, 34], [49, 50, 52, 47, 51]), ([32, 34, 35, 47, 34], [49, 51, 52, 47, 50])], [[32, 34, 35, 47, 34]])]

theorem cert2_ok : cert2.all certOk = true := by decide +kernel

noncomputable def cert3 : List Cert := [
  ([2, 3, 0, 1, 4], [[34, 35, 32, 34], [34, 32, 35, 34]], [([32, 34, 47, 34, 35], [49, 50, 47, 51, 52]), ([32, 34, 47, 34, 35], [49, 51, 47, 50, 52])], [[32, 34, 47, 34, 35]]),
  ([2, 0, 3, 4, 1], [[34, 35, 92, 32], [34, 35, 32, 92], [34, 32, 35, 92]], [([32, 35, 92, 47, 34], [49, 50, 51, 47, 52]), ([32, 35, 92, 47, 34], [49, 50, 52, 47, 51]), ([32, 35, 92, 47, 34], [49, 51, 52, 47, 50])], [[32, 35, 92, 47, 34]]),
  ([1, 3, 2, 0, 4], [[32, 34, 35, 34], [35, 32, 34, 35], [32, 35, 34, 35]], [([32, 34, 35, 47, 35], [49, 50, 51, 47, 52]), ([32, 34, 35, 47, 35], [49, 51, 52, 47, 50]), ([32, 34, 35, 47, 35], [49, 50, 52, 47, 51])], [[32, 34, 35, 47, 35]]),
  ([3, 1, 0, 2, 4], [[35, 32, 34, 32], [32, 35, 34, 32], [35, 34, 32, 34]], [([32, 34, 47, 34, 47, 35], [49, 51, 47, 50, 47, 52]), ([32, 34, 47, 34, 47, 35], [49, 50, 47, 51, 47, 52]), ([32, 34, 47, 34, 47, 35], [49, 52, 47, 50, 47, 51])], [[32, 34, 47, 34, 47, 35]]),
  ([3, 0, 2, 1, 4], [[34, 35, 34, 32], [35, 34, 35, 32], [35, 34, 32, 35]], [([32, 35, 47, 34, 47, 35], [49, 50, 47, 51, 47, 52]), ([32, 35, 47, 34, 47, 35], [49, 51, 47, 50, 47, 52]), ([32, 35, 47, 34, 47, 35], [49, 52, 47, 50, 47, 51])], [[32, 35, 47, 34, 47, 35]]),
  ([0, 3, 2, 4, 1], [[34, 35, 92, 34], [34, 35, 34, 92], [35, 34, 35, 92]], [([34, 35, 92, 47, 35], [49, 50, 51, 47, 52]), ([34, 35, 92, 47, 35], [49, 50, 52, 47, 51]), ([34, 35, 92, 47, 35], [49, 51, 52, 47, 50])], [[34, 35, 92, 47, 35]]),
  ([1, 3, 0, 4, 2], [[35, 92, 32, 34], [35, 32, 92, 34], [32, 35, 92, 34], [35, 32, 34, 92], [32, 35, 34, 92]], [([32, 34, 47, 35, 92], [49, 50, 47, 51, 52]), ([32, 34, 47, 35, 92], [49, 51, 47, 50, 52]), ([32, 34, 92, 47, 35], [49, 50, 51, 47, 52]), ([32, 34, 92, 47, 35], [49, 51, 52, 47, 50]), ([32, 34, 92, 47, 35], [49, 50, 52, 47, 51])], [[32, 34, 47, 35, 92], [32, 34, 92, 47, 35]]),
  ([3, 0, 1, 4, 2], [[35, 92, 34, 32], [35, 34, 92, 32], [35, 34, 32, 92]], [([32, 92, 47, 34, 47, 35], [49, 50, 47, 51, 47, 52]), ([32, 92, 47, 34, 47, 35], [49, 51, 47, 50, 47, 52]), ([32, 92, 47, 34, 47, 35], [49, 52, 47, 50, 47, 51])], [[32, 92, 47, 34, 47, 35]])]

theorem cert3_ok : cert3.all certOk = true := by decide +kernel

noncomputable def cert4 : List Cert := [
  ([0, 3, 4, 1, 2], [[35, 92, 34, 35], [35, 34, 92, 35]], [([34, 35, 47, 35, 92], [49, 50, 47, 51, 52]), ([34, 35, 47, 35, 92], [49, 51, 47, 50, 52])], [[34, 35, 47, 35, 92]]),
  ([1, 2, 4, 0, 3], [[92, 32, 34, 35], [32, 92, 34, 35], [32, 34, 92, 35]], [([32, 34, 35, 47, 92], [49, 51, 52, 47, 50]), ([32, 34, 35, 47, 92], [49, 50, 52, 47, 51]), ([32, 34, 35, 47, 92], [49, 50, 51, 47, 52])], [[32, 34, 35, 47, 92]]),
  ([2, 1, 0, 4, 3], [[92, 32, 34, 32], [32, 92, 34, 32], [32, 34, 92, 32], [92, 34, 32, 34], [34, 92, 32, 34], [34, 32, 92, 34], [32, 34, 32, 92], [34, 32, 34, 92]], [([32, 34, 47, 34, 47, 92], [49, 51, 47, 50, 47, 52]), ([32, 34, 47, 34, 47, 92], [49, 50, 47, 51, 47, 52]), ([32, 34, 92, 47, 34], [49, 50, 51, 47, 52]), ([32, 34, 47, 34, 47, 92], [49, 52, 47, 50, 47, 51]), ([32, 34, 47, 34, 92], [49, 50, 47, 51, 52]), ([32, 34, 47, 34, 92], [49, 51, 47, 50, 52]), ([32, 34, 92, 47, 34], [49, 50, 52, 47, 51]), ([32, 34, 92, 47, 34], [49, 51, 52, 47, 50])], [[32, 34, 47, 34, 47, 92], [32, 34, 92, 47, 34], [32, 34, 47, 34, 92]]),
  ([2, 0, 4, 1, 3], [[92, 34, 35, 32], [34, 92, 35, 32], [92, 34, 32, 35], [34, 92, 32, 35], [34, 32, 92, 35]], [([32, 35, 47, 34, 47, 92], [49, 51, 47, 50, 47, 52]), ([32, 35, 47, 34, 47, 92], [49, 50, 47, 51, 47, 52]), ([32, 35, 47, 34, 47, 92], [49, 52, 47, 50, 47, 51]), ([32, 35, 47, 34, 92], [49, 50, 47, 51, 52]), ([32, 35, 47, 34, 92], [49, 51, 47, 50, 52])], [[32, 35, 47, 34, 47, 92], [32, 35, 47, 34, 92]]),
  ([0, 2, 4, 3, 1], [[34, 35, 92, 35], [92, 34, 35, 92], [34, 92, 35, 92]], [([34, 35, 92, 47, 92], [49, 50, 51, 47, 52]), ([34, 35, 92, 47, 92], [49, 51, 52, 47, 50]), ([34, 35, 92, 47, 92], [49, 50, 52, 47, 51])], [[34, 35, 92, 47, 92]]),
  ([1, 4, 0, 2, 3], [[92, 35, 32, 34], [92, 32, 35, 34], [32, 92, 35, 34]], [([32, 34, 47, 35, 47, 92], [49, 52, 47, 50, 47, 51]), ([32, 34, 47, 35, 47, 92], [49, 51, 47, 50, 47, 52]), ([32, 34, 47, 35, 47, 92], [49, 50, 47, 51, 47, 52])], [[32, 34, 47, 35, 47, 92]]),
  ([4, 0, 1, 2, 3], [[92, 35, 34, 32]], [([32, 47, 34, 47, 35, 47, 92], [49, 47, 50, 47, 51, 47, 52])], [[32, 47, 34, 47, 35, 47, 92]]),
  ([0, 4, 2, 1, 3], [[92, 34, 35, 34], [34, 92, 35, 34], [92, 35, 34, 35]], [([34, 35, 47, 35, 47, 92], [49, 51, 47, 50, 47, 52]), ([34, 35, 47, 35, 47, 92], [49, 50, 47, 51, 47, 52]), ([34, 35, 47, 35, 47, 92], [49, 52, 47, 50, 47, 51])], [[34, 35, 47, 35, 47, 92]])]

theorem cert4_ok : cert4.all certOk = true := by decide +kernel

noncomputable def cert5 : List Cert := [
  ([1, 0, 4, 3, 2], [[35, 92, 35, 32], [92, 35, 92, 32], [35, 92, 32, 35], [35, 32, 92, 35], [32, 35, 92, 35], [92, 35, 32, 92], [92, 32, 35, 92], [32, 92, 35, 92]], [([32, 92, 47, 35, 47, 92], [49, 50, 47, 51, 47, 52]), ([32, 92, 47, 35, 47, 92], [49, 51, 47, 50, 47, 52]), ([32, 35, 47, 35, 92], [49, 50, 47, 51, 52]), ([32, 35, 47, 35, 92], [49, 51, 47, 50, 52]), ([32, 35, 92, 47, 92], [49, 50, 51, 47, 52]), ([32, 92, 47, 35, 47, 92], [49, 52, 47, 50, 47, 51]), ([32, 35, 92, 47, 92], [49, 51, 52, 47, 50]), ([32, 35, 92, 47, 92], [49, 50, 52, 47, 51])], [[32, 92, 47, 35, 47, 92], [32, 35, 47, 35, 92], [32, 35, 92, 47, 92]]),
  ([0, 4, 1, 3, 2], [[35, 92, 35, 34], [92, 35, 92, 34], [92, 35, 34, 92]], [([34, 92, 47, 35, 47, 92], [49, 50, 47, 51, 47, 52]), ([34, 92, 47, 35, 47, 92], [49, 51, 47, 50, 47, 52]), ([34, 92, 47, 35, 47, 92], [49, 52, 47, 50, 47, 51])], [[34, 92, 47, 35, 47, 92]]),
  ([1, 2, 3, 0, 4], [[32, 34, 35]], [([32, 34, 35], [49, 50, 51])], [[32, 34, 35]]),
  ([2, 1, 0, 3, 4], [[32, 34, 32], [34, 32, 34]], [([32, 34, 47, 34], [49, 50, 47, 51]), ([32, 34, 47, 34], [49, 51, 47, 50])], [[32, 34, 47, 34]]),
  ([2, 0, 3, 1, 4], [[34, 35, 32], [34, 32, 35]], [([32, 35, 47, 34], [49, 50, 47, 51]), ([32, 35, 47, 34], [49, 51, 47, 50])], [[32, 35, 47, 34]]),
  ([0, 2, 3, 4, 1], [[34, 35, 92]], [([34, 35, 92], [49, 50, 51])], [[34, 35, 92]]),
  ([1, 3, 0, 2, 4], [[35, 32, 34], [32, 35, 34]], [([32, 34, 47, 35], [49, 51, 47, 50]), ([32, 34, 47, 35], [49, 50, 47, 51])], [[32, 34, 47, 35]]),
  ([3, 0, 1, 2, 4], [[35, 34, 32]], [([32, 47, 34, 47, 35], [49, 47, 50, 47, 51])], [[32, 47, 34, 47, 35]])]

theorem cert5_ok : cert5.all certOk = true := by decide +kernel

noncomputable def cert6 : List Cert := [
  ([0, 3, 2, 1, 4], [[34, 35, 34], [35, 34, 35]], [([34, 35, 47, 35], [49, 50, 47, 51]), ([34, 35, 47, 35], [49, 51, 47, 50])], [[34, 35, 47, 35]]),
  ([1, 0, 3, 4, 2], [[35, 92, 32], [35, 32, 92], [32, 35, 92]], [([32, 92, 47, 35], [49, 50, 47, 51]), ([32, 92, 47, 35], [49, 51, 47, 50]), ([32, 35, 92], [49, 50, 51])], [[32, 92, 47, 35], [32, 35, 92]]),
  ([0, 3, 1, 4, 2], [[35, 92, 34], [35, 34, 92]], [([34, 92, 47, 35], [49, 50, 47, 51]), ([34, 92, 47, 35], [49, 51, 47, 50])], [[34, 92, 47, 35]]),
  ([1, 2, 0, 4, 3], [[92, 32, 34], [32, 92, 34], [32, 34, 92]], [([32, 34, 47, 92], [49, 51, 47, 50]), ([32, 34, 47, 92], [49, 50, 47, 51]), ([32, 34, 92], [49, 50, 51])], [[32, 34, 47, 92], [32, 34, 92]]),
  ([2, 0, 1, 4, 3], [[92, 34, 32], [34, 92, 32], [34, 32, 92]], [([32, 47, 34, 47, 92], [49, 47, 50, 47, 51]), ([32, 92, 47, 34], [49, 50, 47, 51]), ([32, 92, 47, 34], [49, 51, 47, 50])], [[32, 47, 34, 47, 92], [32, 92, 47, 34]]),
  ([0, 2, 4, 1, 3], [[92, 34, 35], [34, 92, 35]], [([34, 35, 47, 92], [49, 51, 47, 50]), ([34, 35, 47, 92], [49, 50, 47, 51])], [[34, 35, 47, 92]]),
  ([1, 0, 4, 2, 3], [[92, 35, 32], [92, 32, 35], [32, 92, 35]], [([32, 47, 35, 47, 92], [49, 47, 50, 47, 51]), ([32, 35, 47, 92], [49, 51, 47, 50]), ([32, 35, 47, 92], [49, 50, 47, 51])], [[32, 47, 35, 47, 92], [32, 35, 47, 92]]),
  ([0, 4, 1, 2, 3], [[92, 35, 34]], [([34, 47, 35, 47, 92], [49, 47, 50, 47, 51])], [[34, 47, 35, 47, 92]])]

theorem cert6_ok : cert6.all certOk = true := by decide +kernel

noncomputable def cert7 : List Cert := [
  ([0, 1, 4, 3, 2], [[35, 92, 35], [92, 35, 92]], [([35, 92, 47, 92], [49, 50, 47, 51]), ([35, 92, 47, 92], [49, 51, 47, 50])], [[35, 92, 47, 92]]),
  ([1, 2, 0, 3, 4], [[32, 34]], [([32, 34], [49, 50])], [[32, 34]]),
  ([2, 0, 1, 3, 4], [[34, 32]], [([32, 47, 34], [49, 47, 50])], [[32, 47, 34]]),
  ([0, 2, 3, 1, 4], [[34, 35]], [([34, 35], [49, 50])], [[34, 35]]),
  ([1, 0, 3, 2, 4], [[35, 32], [32, 35]], [([32, 47, 35], [49, 47, 50]), ([32, 35], [49, 50])], [[32, 47, 35], [32, 35]]),
  ([0, 3, 1, 2, 4], [[35, 34]], [([34, 47, 35], [49, 47, 50])], [[34, 47, 35]]),
  ([0, 1, 3, 4, 2], [[35, 92]], [([35, 92], [49, 50])], [[35, 92]]),
  ([1, 0, 2, 4, 3], [[92, 32], [32, 92]], [([32, 47, 92], [49, 47, 50]), ([32, 92], [49, 50])], [[32, 47, 92], [32, 92]])]

theorem cert7_ok : cert7.all certOk = true := by decide +kernel

noncomputable def cert8 : List Cert := [
  ([0, 2, 1, 4, 3], [[92, 34], [34, 92]], [([34, 47, 92], [49, 47, 50]), ([34, 92], [49, 50])], [[34, 47, 92], [34, 92]]),
  ([0, 1, 4, 2, 3], [[92, 35]], [([35, 47, 92], [49, 47, 50])], [[35, 47, 92]]),
  ([1, 0, 2, 3, 4], [[32]], [([32], [49])], [[32]]),
  ([0, 2, 1, 3, 4], [[34]], [([34], [49])], [[34]]),
  ([0, 1, 3, 2, 4], [[35]], [([35], [49])], [[35]]),
  ([0, 1, 2, 4, 3], [[92]], [([92], [49])], [[92]]),
  ([0, 1, 2, 3, 4], [[]], [([], [])], [[]])]

theorem cert8_ok : cert8.all certOk = true := by decide +kernel

noncomputable def certs : List Cert := cert0 ++ (cert1 ++ (cert2 ++ (cert3 ++ (cert4 ++ (cert5 ++ (cert6 ++ (cert7 ++ (cert8))))))))

theorem certs_ok : certs.all certOk = true := by
  unfold certs
  simp only [List.all_append, Bool.and_eq_true]
  exact 
⟨cert0_ok, ⟨cert1_ok, ⟨cert2_ok, ⟨cert3_ok, ⟨cert4_ok, ⟨cert5_ok, ⟨cert6_ok, ⟨cert7_ok, cert8_ok⟩⟩⟩⟩⟩⟩⟩⟩

theorem certs_all : ordL 5 = certs.map fun c => c.1 := by decide +kernel
/-- the plain law -/
theorem plain_law (num : Int) : (∀ x ∈ wordsOf 5 (orderAt num 5), wordOk x = true) ∧ (wordsOf 5 (orderAt num 5)).length ≤ 1000 ∧ ∀ hd ∈ (wordsOf 5 (orderAt num 5)).map headT, nameOk (wordsOf 5 (orderAt num 5)) ((wordsOf 5 (orderAt num 5)).map headT) hd.1 = true := by
  have h := orderAt_mem num 5
  rw [certs_all] at h
  obtain ⟨c, hc, e⟩ := List.mem_map.mp h
  have := certOk_of (List.all_eq_true.mp certs_ok c hc)
  rw [e] at this
  exact this
end Mine
end
section
open PySem PySem.W PyProof.Rows PySem.Calls PySem.Spec
set_option maxRecDepth 100000
namespace Mine
theorem lnLawA1 : True := by
  k_with_none
  k_with "own_room" => ((show _ < 1000; (try simp only [depth_under_make, depth_under_kw, depth_in1, depth_deeper]); omega))
  k_with "eval Name" => ((k_here; k_dflt (refine' nameX_F ?N ?c ?m ?d ?_ ?a ?b; (case a => rfl); (case b => rfl); (case N => k_asm); (case c => rfl); (case m => k_mem); (case d => k_asm); k_whole)))
  k_with "ite" => (first | (refine ite_pos (by decide +kernel) ?_) | (refine ite_neg (by decide +kernel) ?_))
  k_with "inplaceOp Add str str" => ((refine iadd_empty (by first | assumption | (simp only [S_length]; omega)) ?_; intro tq' tkq'))
  k_with "m_get" => (first | rfl | (with_reducible assumption) | exact if_pos rfl | (refine (if_neg (by decide +kernel)).trans ?_; walk_at "m_get"))
  k_with "m_subs" => (first | exact List.forall_mem_nil _ | (refine List.forall_mem_cons.mpr ⟨by k_dflt k_mem, ?_⟩; walk_at "m_subs"))
  k_with "m_dis" => (first | exact List.forall_mem_nil _ | (refine List.forall_mem_cons.mpr ⟨by k_all, ?_⟩; walk_at "m_dis"))
  k_with "m_list" => (first | (with_reducible assumption) | exact stays_list (Fr.keep (by with_reducible assumption)) (by with_reducible assumption) | exact News.isList (by with_reducible assumption) (by k_mem))
  k_with "m_size" => (first | omega | (simp only [List.size_toArray, List.length_map, List.length_cons, List.length_append, List.length_nil, strsAre_length (by assumption)]; omega))
  k_with "truthy ref" => (((with_reducible show wpAny _ _ (truthy (Value.ref _)) _ _ _); k_dflt (first | (refine truthy_nil (by walk_at "m_list") ?_; intro tkq') | (refine truthy_cons (by walk_at "m_list") (by walk_at "m_size") ?_; intro tkq'))))
  k_with "call type:list" => (((with_reducible show wpAny _ _ (call (Value.type _) [Value.str _ _]) _ _ _); refine list_str_K rfl (by k_asm) (by k_asm) (by assumption) ?_; intro Dq' ysq' nq' hq' tkq' Fq' Nq' hSq' l1q; k_lt l1q; (try k_sweep)))
  k_with "call builtin:list.pop" => (((with_reducible show wpAny _ _ (call (Value.builtin _) [Value.ref _, Value.int 0 _]) _ _ _); k_dflt (refine' pop0_K ?F ?N ?U ?z ?_; (case F => k_asm); (case N => k_asm); (case U => k_upd); (case z => walk_at "m_size"); intro hq' Fq' Nq'; (try dsimp only [List.nil_append, List.cons_append] at Nq'); (try k_sweep))))
  k_with "pyIter ref" => ((refine stop_of ?_))
  k_with "call ref" => (((with_reducible show wpAny _ _ (call (Value.ref _) _) _ _ _); refine stop_of ?_))
  k_with "eval ListComp" => ((refine stop_of ?_))
  k_with "CompSrc" => ((refine stop_of ?_))
  k_with "TurnEnd" => ((refine stop_of ?_))
  k_with "eval Name" => ((k_here; (with_reducible show wpAny _ _ (eval (Expr.Name _ _) (compEnvC _ _ _ _)) _ _ _); k_dflt (first | refine LCgL.ld_own (by k_asm) (by k_mem) (by with_reducible assumption) (by with_reducible assumption) ?_ | refine LCgL.ld_global (by k_asm) (by k_asm) (by k_asm) (by k_is) ?_ | refine LCgL.ld_built (by k_asm) (by k_asm) (by k_asm) (by k_is) (by boot_by_name) (by decide) ?_)))
  k_with "m_far" => (first | exact tail_ne (by with_reducible assumption) (by with_reducible assumption) (by omega) | exact List.forall_mem_nil _ | ((with_reducible refine List.forall_mem_cons.mpr ⟨?_, ?_⟩); (show @Ne Nat _ _; (try dsimp only); omega); walk_at "m_far"))
  k_with "own_upd" => (first | ((with_reducible refine Upd.head ?_); walk_at "m_far") | ((with_reducible refine Upd.tail ?_ ?_); (show @Ne Nat _ _; (try dsimp only); omega); k_upd))
  k_with "m_get" => (first | (with_reducible assumption) | (with_reducible exact if_pos rfl) | ((with_reducible refine (if_neg (by decide +kernel)).trans ?_); walk_at "m_get"))
  k_with "own_all" => (exact tail_ne (by with_reducible assumption) (by with_reducible assumption) (by omega))
  k_with "call builtin:len" => (((with_reducible show wpAny _ _ (call (Value.builtin "len") [Value.ref _]) _ _ _); k_dflt (refine len_L (by walk_at "m_list") (by walk_at "m_size") ?_); intro tq' tkq'))
  k_with "call builtin:list.append" => (((with_reducible show wpAny _ _ (call (Value.builtin _) [Value.ref _, _]) _ _ _); k_dflt (refine' append_L ?F ?N ?U ?z ?_; (case F => k_asm); (case N => k_asm); (case U => k_upd); (case z => walk_at "m_size"); intro hq' Fq' Nq'; (try k_sweep))))
  k_with "m_cond" => (first | decide +kernel | (simp only [beq_iff_eq, decide_eq_true_eq]; omega) | (simp only [beq_iff_eq, bne_iff_ne, ne_eq, decide_eq_true_eq]; omega))
  k_with "ite" => (first | (refine ite_pos (by walk_at "m_cond") ?_) | (refine ite_neg (by walk_at "m_cond") ?_))
  k_with "m_pick" => (first | (with_reducible exact pick_to _ _ (by omega)) | (with_reducible exact pick_from _ _ (by omega)) | exact pick_toI _ (by omega) (by omega) | exact pick_fromI _ (by omega) (by omega))
  k_with "m_len" => (first | omega | ((simp only [List.size_toArray, sizeLine_eq, List.length_append, List.length_take, List.length_drop, List.length_cons, List.length_nil, List.length_map, List.length_set]); omega))
  k_with "subscriptTail Name Slice ref ref" => (((with_reducible show wpAny _ _ (subscriptTail _ (PySem.Expr.Slice _ _ none _) (Value.ref _) (Value.ref _)) _ _ _); k_dflt (refine' slice_N ?kF ?kN ?kl ?kp ?kq ?ke ?kz ?_ ?ks ?kt; (case kF => k_asm); (case kN => k_asm); (case kl => walk_at "m_list"); (case kp => kmk_part); (case kq => kmk_part); (case ke => walk_at "m_pick"); (case ks => with_unfolding_all rfl); (case kt => kmk_pure); (case kz => walk_at "m_len")); intro Dq' hq' Fq' Nq' l1q; (try k_lt l1q); (try k_sweep)))
  k_with "binaryOp Add ref ref" => (((with_reducible show wpAny _ _ (binaryOp _ (Value.ref _) (Value.ref _)) _ _ _); k_dflt (refine' add_L ?kF ?kN ?ka ?kb ?kz ?_; (case kF => k_asm); (case kN => k_asm); (case ka => walk_at "m_list"); (case kb => walk_at "m_list"); (case kz => walk_at "m_len")); intro Dq' hq' Fq' Nq' l1q; (try k_lt l1q); (try k_sweep)))
  k_with "execs cons" => (((with_reducible show wpAny _ _ (execs (Stmt.Assign [Expr.Name (Str.ofString "table") _] _ _ :: _) _) _ _ _); refine stop_of ?_))
  k_with "eval Name" => (((with_reducible show wpAny _ _ (eval (Expr.Name _ _) (compEnvC _ _ _ _)) _ _ _); k_dflt (refine lcf_free (by k_asm) (by rfl) (by k_mem) (by with_reducible assumption) ?_ (by rfl) (by rfl))))
  k_with "eval Name" => (((with_reducible show wpAny _ _ (eval (Expr.Name _ _) (envOfC _ _ _ _ _)) _ _ _); k_dflt (first | refine nameX_L (by k_asm) (by walk_at "m_get") ?_ | refine nameX_C (by k_asm) (by rfl) (by k_mem) (by with_reducible assumption) ?_)))
  k_with "setItem ref int" => (((with_reducible show wpAny _ _ (setItem (Value.ref _) (Value.int _ _) _) _ _ _); k_dflt (refine' setItem_L ?F ?N ?U ?k ?z ?_; (case F => k_asm); (case N => k_asm); (case U => k_upd); (case k => walk_at "m_len"); (case z => walk_at "m_len"); intro hq' Fq' Nq'; (try k_sweep))))
  k_with "subscriptTail Name Name ref int" => (((with_reducible show wpAny _ _ (subscriptTail _ _ (Value.ref _) (Value.int _ _)) _ _ _); k_dflt (refine item_L (by walk_at "m_list") (by with_reducible assumption) (by omega) ?_)))
  k_with "subscriptTail Name BinOp ref int" => (((with_reducible show wpAny _ _ (subscriptTail _ _ (Value.ref _) (Value.int _ _)) _ _ _); k_dflt (refine item_L (by walk_at "m_list") (by with_reducible assumption) (by omega) ?_)))
  k_with "TEnd" => ((refine stop_of ?_))
  k_with "m_far" => (first | (with_reducible assumption) | exact List.forall_mem_nil _ | ((with_reducible refine List.forall_mem_cons.mpr ⟨?_, ?_⟩); (show @Ne Nat _ _; (try dsimp only); omega); walk_at "m_far"))
  trivial
structure OrdAt (num : Int) (D L : Nat) (dobj cell2 : Obj) (i : Nat) (m : Str → Option Value) (news : List (Addr × Obj)) (lo : Nat) (os : List Value) (c : Nat) : Prop where
  news : news = [(D, dobj), (lo, listOf (List.toArray os) c), (L + 1, cell2), (239, tabObj #[])]
  order : m "order" = some (.ref lo)
  nums : IntsAre os (orderAt num i)
  ne : @Ne Nat lo D
  lt : @LT.lt Nat _ (L + 1) lo
  far : @LT.lt Nat _ 239 lo
theorem lnLawA2 : True := by
  k_with "binaryOp Pow int int" => ((k_dflt (refine pow5 (by omega) ?_); intro tq' tkq'))
  k_with "binaryOp FloorDiv int int" => ((k_dflt (refine div5 (by omega) ?_); intro tq' tkq'))
  k_with "binaryOp Mod int int" => ((k_dflt (refine mod5 ?_); intro tq' tkq'))
  trivial
set_option maxHeartbeats 4000000 in
theorem law_first {prog : Program} {w : World} {s : Shared} {g : Heap} {dp un : Nat} {gd : Option (List Code)} {frs : List Env} {L fa : Addr} {cd oc0 : Value} {od0 : Option Addr} {nm q : Str} {ps : Arguments} {sc : Scope} {s1 s2 s3 s4 : Stmt} {rest : List Stmt} {dV kV doc pm cd0 ct : Value} {an : Option Addr} {sl : Array (Option Value)} {Q : Flow → Shared → Prop} {E : Value → Shared → Prop}
    {l : Addr} {vs : List Value} {ns : List Int} {cell : Obj}
    (e : (Mine.hdK w.params).lookup 271 = some ⟨oc0, od0, .func (fnOf nm q ps (s1 :: s2 :: s3 :: s4 :: rest) sc dV kV doc pm an cd0 ct), sl⟩)
    (Si : Site w dp un gd frs g) {m : Str → Option Value} (F : Fr g L s.heap m) (hm : m "script" = some (.ref l)) (N : News g L s.heap [(L + 1, cell), (239, tabObj #[])]) (hc : ∃ v0, cell.data = .cell v0) (l0 : 239 < L)
    (hl : g.IsList l vs.toArray) (hi : IntsAre vs ns) (hlen : ns.length ≤ 63) (hdp : dp < 400) (hun : un < 4000) (hE : PassesOwn (model prog w) (top (dp + 1) (un + 3) gd (envOfC nm sc L fa cd :: frs)) (envOfC nm sc L fa cd) E)
    (next : ∀ h' tk' m' lw ys c cell', Fr g L h' m' → News g L h' [(lw, listOf (List.toArray ys) c), (L + 1, cell'), (239, tabObj #[])] → m' "words" = some (.ref lw) → StrsAre ys ((wordsOf 5 (orderAt (ns.headD 2535) 5)).map S) → (∃ v0, cell'.data = .cell v0) → @Ne Nat lw (L + 1) → @Ne Nat lw 239 →
      wpAny (model prog w) (top (dp + 1) (un + 3) gd (envOfC nm sc L fa cd :: frs)) (execs rest (envOfC nm sc L fa cd)) Q E { s with heap := h', toks := tk' }) :
    wpAny (model prog w) (top (dp + 1) (un + 3) gd (envOfC nm sc L fa cd :: frs)) (execs (s1 :: s2 :: s3 :: s4 :: rest) (envOfC nm sc L fa cd)) Q E s := by
  cases lookup_is (a := 271) (by k_is) e
  clear e
  have X1 := Site.X Si
  obtain ⟨p1, loose1, mean1, mg1, mb1, T1⟩ := Site.T Si
  obtain ⟨base1, B1⟩ := Site.B Si
  obtain ⟨v0, hcell⟩ := hc
  refine wpAny_execs_cons ?_
  refine wpAny_mono (Q := fun fl s' => Held (fl = .next ∧ ∃ h tk cell' t, s' = { s with heap := h, toks := tk } ∧ Fr g L h m ∧ News g L h [(L + 1, cell'), (239, tabObj #[])] ∧ cell'.data = .cell (some (.int (ns.headD 2535) t)))) ?first ?second (fun _ _ h => h)
  case first =>
    cases ns with
    | nil =>
      have e0 := IntsAre.nil_inv hi
      subst e0
      (repeat' (first | (k_unfold; (try dsimp only)) | ((try dsimp only); walk1) | walk1))
      show Held _
      rename News _ _ _ _ => kN
      exact ⟨by first | trivial | rfl, _, _, _, _, rfl, by with_reducible assumption, fun p hp => kN p ((by walk_at "m_subs" : ∀ p ∈ [(L + 1, _), (239, tabObj #[])], p ∈ _) p hp), by assumption⟩
    | cons num ns =>
      obtain ⟨t0, vs, rfl, hi2⟩ := IntsAre.cons_inv hi
      (repeat' (first | (k_unfold; (try dsimp only)) | ((try dsimp only); walk1) | walk1))
      show Held _
      rename News _ _ _ _ => kN
      exact ⟨by first | trivial | rfl, _, _, _, _, rfl, by with_reducible assumption, fun p hp => kN p ((by walk_at "m_subs" : ∀ p ∈ [(L + 1, _), (239, tabObj #[])], p ∈ _) p hp), by assumption⟩
  case second =>
    rintro fl s2 ⟨rfl, h2, tk2, cell2, t2, rfl, F2, N2, hc2⟩
    clear N F hcell
    dsimp only
    generalize ns.headD 2535 = num at *
    (repeat' (first | (k_unfold; (try dsimp only)) | ((try dsimp only); walk1) | walk1))
    show wpAny _ _ _ _ _ _
    k_dflt (refine LCg.ListComp_U (F₀ := by k_asm) (by rfl) (by decide) (by rfl) (by decide) (by rfl) ?_)
    (repeat' (first | (k_unfold; (try dsimp only)) | ((try dsimp only); walk1) | walk1))
    show LCg.CompSrc _ _ _ _ _ _ _ _ _ _ _ _ _ _
    rename IsRange _ _ _ _ _ _ _ _ => kR
    refine LCg.CompSrc.range rfl (by with_reducible assumption) (by with_reducible assumption) kR (range0_small (n := 5) (by decide)) (range0_size 5) (by rw [sizeLine_eq]; decide) (fun g9 => ?_)
    refine comp_range (fun i ys => IntsAre ys ((List.range i).map fun i => ((digitAt num i : Nat) : Int))) .nil ?el ?fin
    case el =>
      intro i t ys I oI C oC D m₂ h9 tk9 E' hi5 hinv hNs hx9 F9 N9 off9 ne9
      (repeat' (first | (k_unfold; (try dsimp only)) | ((try dsimp only); walk1) | walk1))
      show TurnEnd _ _ _ _ _ _ _ _ _ _ _ _ _ _
      refine TurnEnd.intro (by with_reducible assumption) (by with_reducible assumption) (fun p hp => hp) ?_
      rw [List.range_succ, List.map_append]; exact IntsAre.append hinv (IntsAre.cons _ _ IntsAre.nil)
    case fin =>
      intro ds hds D h9 tk9 F9 N9 off9
      obtain ⟨q1, q2, q3, _⟩ := off9
      dsimp only at q1 q2 q3
      (repeat' (first | (k_unfold; (try dsimp only)) | ((try dsimp only); walk1) | walk1))
      show wpAny _ _ _ _ _ _
      have hdl : ds.length = 5 := by rw [hds.length, List.length_map, List.length_range]
      refine list_J (lo := LCg.lst ds) (vs := ds) (c := ds.length) (fun i m news => ∃ lo os c, OrdAt num D L (LCg.lst ds) cell2 i m news lo os c) rfl F9 N9 (.head _) rfl rfl ?start (fun i m n ⟨lo, os, c, A⟩ => A.news ▸ .head _) ?turn ?done
      case start => exact ⟨_, _, 0, rfl, by walk_at "m_get", IntsAre.cons _ _ (IntsAre.cons _ _ (IntsAre.cons _ _ (IntsAre.cons _ _ (IntsAre.cons _ _ IntsAre.nil)))), q1, by omega, by omega⟩
      case turn =>
        clear F9 N9
        rintro i v m₁ news₁ I io h3 tk3 hv hI ⟨lo, os, c, A⟩ off F3 N3
        have mOrder := A.order
        have hnums := A.nums
        have o1 := A.ne
        have o2 := A.lt
        have o3 := A.far
        obtain rfl := A.news
        clear A
        replace F3 : Fr g L h3 _ := F3
        replace N3 : News g L h3 _ := N3
        have p1 : @Ne Nat D I := off _ (.head _)
        have p2 : @Ne Nat lo I := off _ (.tail _ (.head _))
        have p3 : @Ne Nat (L + 1) I := off _ (.tail _ (.tail _ (.head _)))
        have p4 : @Ne Nat 239 I := off _ (.tail _ (.tail _ (.tail _ (.head _))))
        have hi5 : i < 5 := by
          rw [← hdl]
          rcases Nat.lt_or_ge i ds.length with h | h
          · exact h
          · rw [List.getElem?_eq_none h] at hv; cases hv
        obtain ⟨td, hxd⟩ := ints_get hds (i := i) (by rw [List.length_map, List.length_range]; exact hi5)
        rw [hv] at hxd
        obtain rfl := Option.some.inj hxd
        rw [show ((List.range 5).map fun i => ((digitAt num i : Nat) : Int)).getD i 0 = ((digitAt num i : Nat) : Int) by simp [List.getD_eq_getElem?_getD, hi5]] at *
        have hd5 := digitAt_lt num i
        have hstep : orderAt num (i + 1) = stepO (orderAt num i) (digitAt num i) := rfl
        have hol := orderAt_len num i
        generalize digitAt num i = d at *
        generalize orderAt num i = o at *
        have hosl : os.length = 5 := by rw [hnums.length, hol]
        obtain ⟨ta, hxa⟩ := ints_get hnums (i := d) (by omega)
        by_cases h4 : d < 4
        · obtain ⟨tb, hxb⟩ := ints_get hnums (i := d + 1) (by omega)
          by_cases hlt : o.getD d 0 < o.getD (d + 1) 0
          · (repeat' (first | (k_unfold; (try dsimp only)) | ((try dsimp only); walk1) | walk1))
            show TEnd g L _ _ _ _ _ _ _
            rename News _ _ _ _ => kN
            refine TEnd.next (by with_reducible assumption) kN [(D, LCg.lst ds), (lo, listOf (List.toArray ((os.set d _).set (d + 1) _)) c), (L + 1, cell2), (239, tabObj #[])] (by k_mem) (by walk_at "m_subs") (List.forall_mem_cons.mpr ⟨p1, List.forall_mem_cons.mpr ⟨p2, List.forall_mem_cons.mpr ⟨p3, List.forall_mem_cons.mpr ⟨p4, List.forall_mem_nil _⟩⟩⟩⟩) ⟨lo, _, _, rfl, by walk_at "m_get", ?_, o1, o2, o3⟩
            rw [hstep, stepO, if_pos ⟨h4, hlt⟩, swapS]
            exact IntsAre.set (IntsAre.set hnums _ _ _) _ _ _
          · (repeat' (first | (k_unfold; (try dsimp only)) | ((try dsimp only); walk1) | walk1))
            show TEnd g L _ _ _ _ _ _ _
            rename News _ _ _ _ => kN
            refine TEnd.next (by with_reducible assumption) kN [(D, LCg.lst ds), (lo, listOf (List.toArray os) c), (L + 1, cell2), (239, tabObj #[])] (by k_mem) (by walk_at "m_subs") (List.forall_mem_cons.mpr ⟨p1, List.forall_mem_cons.mpr ⟨p2, List.forall_mem_cons.mpr ⟨p3, List.forall_mem_cons.mpr ⟨p4, List.forall_mem_nil _⟩⟩⟩⟩) ⟨lo, _, _, rfl, by walk_at "m_get", ?_, o1, o2, o3⟩
            rw [hstep, stepO, if_neg (fun h => hlt h.2)]
            exact hnums
        · (repeat' (first | (k_unfold; (try dsimp only)) | ((try dsimp only); walk1) | walk1))
          show TEnd g L _ _ _ _ _ _ _
          rename News _ _ _ _ => kN
          refine TEnd.next (by with_reducible assumption) kN [(D, LCg.lst ds), (lo, listOf (List.toArray os) c), (L + 1, cell2), (239, tabObj #[])] (by k_mem) (by walk_at "m_subs") (List.forall_mem_cons.mpr ⟨p1, List.forall_mem_cons.mpr ⟨p2, List.forall_mem_cons.mpr ⟨p3, List.forall_mem_cons.mpr ⟨p4, List.forall_mem_nil _⟩⟩⟩⟩) ⟨lo, _, _, rfl, by walk_at "m_get", ?_, o1, o2, o3⟩
          rw [hstep, stepO, if_neg (fun h => h4 h.1)]
          exact hnums
      case done =>
        clear F9 N9
        rintro m₁ news₁ h3 tk3 ⟨lo, os, c, A⟩ F3 N3
        have mOrder := A.order
        have hnums := A.nums
        have o2 := A.lt
        have o3 := A.far
        obtain rfl := A.news
        replace F3 : Fr g L h3 m₁ := F3
        replace N3 : News g L h3 _ := N3
        (repeat' (first | (k_unfold; (try dsimp only)) | ((try dsimp only); walk1) | walk1))
        show wpAny _ _ _ _ _ _
        rename News _ _ _ _ => kN
        rename Fr _ _ _ _ => kF
        rw [hdl] at hnums
        have hfuel := fuel_all num
        refine call_at (own := []) (rest := _) Si kF kN (fun p hp => nomatch hp) (fun p hp => hp) (fun p hp q hq => nomatch hq) rfl rfl ?_
        intro g4 S4 K4 O4 G4 P4 back
        refine words_walk 5 _ (orderAt_len num 5) (by decide) hfuel _ _ _ _ _ _ _ _ _ _ S4 K4 ⟨_, P4 _ _ (kN _ (.tail _ (.head _))).1 (fun q hq => nomatch hq), rfl, _, rfl⟩ hnums (by omega) (by omega) ?_
        intro h5 tk5 D5 ys5 c5 k5 o5 hs5
        obtain ⟨F5, N5, E5⟩ := back _ _ k5 o5
        have w1 : @Ne Nat D5 (L + 1) := E5 _ (.head _) (L + 1, cell2) (.tail _ (.tail _ (.head _)))
        have w2 : @Ne Nat D5 239 := E5 _ (.head _) (239, tabObj #[]) (.tail _ (.tail _ (.tail _ (.head _))))
        have N6 : News g L h5 [(D5, listOf (List.toArray ys5) c5), (L + 1, cell2), (239, tabObj #[])] := fun p hp => N5 p ((by dsimp only [List.cons_append, List.nil_append]; walk_at "m_subs" : ∀ p ∈ [(D5, listOf (List.toArray ys5) c5), (L + 1, cell2), (239, tabObj #[])], p ∈ _) p hp)
        clear kN kF N5 P4
        (repeat' (first | (k_unfold; (try dsimp only)) | ((try dsimp only); walk1) | walk1))
        show wpAny _ _ _ _ _ _
        rename News _ _ _ _ => kN
        exact next _ _ _ D5 ys5 c5 cell2 (by with_reducible assumption) kN (by walk_at "m_get") hs5 ⟨_, hc2⟩ w1 w2
end Mine
end
section
open PySem PySem.W PyProof.Rows PySem.Calls PySem.Spec
set_option maxRecDepth 100000
namespace Mine
set_option maxHeartbeats 8000000 in
theorem law_said : OpenLaw.wellSaid PySem.Challenge.rw_pg0265_01 = true := by
  unfold OpenLaw.wellSaid
  repeat' (with_reducible refine look_both ?_ ?_)
  all_goals (try (with_reducible unfold OpenRow.wellSaid))
  all_goals (try (repeat' (with_reducible refine look_both ?_ ?_)))
  all_goals (try (with_reducible unfold OpenRow.partSaid))
  all_goals (try (repeat' (with_reducible refine look_both ?_ ?_)))
  all_goals (try unfold looksOpen)
  all_goals (try (repeat' (with_reducible refine look_both ?_ ?_)))
  all_goals decide +kernel
set_option maxHeartbeats 8000000 in
theorem law_go : PySem.Challenge.rw_pg0265_01.Holds := by
  w_on
  refine holds_law law_said fun said => ?_
  refine holds_open (q := hdV) (loose := hdL) (Xt := hdX) (XP := XL hdV []) (Yf := Hook.obs (kmHook hdK hdA hdA_of [239])) (Ya := Hook.val (kmHook hdK hdA hdA_of [239])) (YP := Hook.says (kmHook hdK hdA hdA_of [239])) (N := 3284) hl (Hook.of (kmHook hdK hdA hdA_of [239])) (Hook.keeps (kmHook hdK hdA hdA_of [239]))
    (fun s e => xl_of s (Bool.and_eq_true_iff.mp e).1) XL.keeps (by rfl) (by rfl) (by rfl) (fun s e => recFacts_of (Bool.and_eq_true_iff.mp e).2) (by rfl) (by first | assumption | decide +kernel) (by decide +kernel) ⟨rfl, rfl, rfl, rfl, rfl, by decide +kernel⟩ ?hw ?hc
  case hw => w_witness2
  case hc =>
  k_go0
  all_goals try k_fold
  rename Below _ _ _ _ => kB
  rename Top _ _ _ _ _ _ => kT
  rename (Mine.hdK _).In _ => kX
  rename IntsAre _ _ => hI
  rename News _ _ _ _ => kN
  rename Fr _ _ _ _ => kF
  rename CodeHd _ _ _ => kC
  rename Heap.IsList _ _ _ => kL
  rename 239 < _ => k239
  rename ¬ _ < _ => kLen
  have Si : Site _ (1 + claimMargin) 4 (some []) [] _ := ⟨⟨_, kB⟩, kX, ⟨_, _, _, _, _, kT⟩⟩
  refine' law_first (dp := 1 + claimMargin) (un := 4) (gd := some []) (frs := []) ?qe Si kF ?qm kN ?qc k239 kL hI ?qlen ?qdp ?qun ?qE ?qnext
  case qe => k_is
  case qm => first | rfl | walk_at "m_get"
  case qc => exact ⟨_, by assumption⟩
  case qlen => omega
  case qdp => decide
  case qun => decide
  case qE => passes_own
  case qnext =>
    intro h2 tk2 m2 lw ys c cell2 F2 N2 hw hys hc2 n1 n2
    obtain ⟨p1, p2, p3⟩ := plain_law (List.headD _ 2535)
    refine' law_second (dp := 1 + claimMargin) (un := 4) (gd := some []) (frs := []) ?qe Si kC F2 N2 k239 n1 n2 hw hys p1 p2 ?qdp ?qun ?qE ?qnext
    case qe => k_is
    case qdp => decide
    case qun => decide
    case qE => passes_own
    case qnext =>
      intro h3 tk3 m3 news3 hl hx dh es c3 n3 t3 tb H3 F3 N3
      refine' law_third (dp := 1 + claimMargin) (un := 4) (gd := some []) (frs := []) ?qe Si H3 F3 N3 hys p2 p3 ?qdp ?qun ?qE ?qret
      case qe => k_is
      case qdp => decide
      case qun => decide
      case qE => passes_own
      case qret =>
        rintro h4 tk4 d4 m4 F4 ⟨ps, hps⟩
        dsimp only
        refine ⟨goodW_bool F4 (by assumption) (raisesW_false ?_) ?_, ⟨ps, hps⟩, trivial⟩
        · wrow_none_raised
        · first | kc_post | wrow_post
end Mine
end
theorem PySem.Challenge.cw_pg0265_01_holds : PySem.Challenge.rw_pg0265_01.Holds :=
  Mine.law_go
